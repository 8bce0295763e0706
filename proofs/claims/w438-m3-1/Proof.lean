import JvmDerived
import JvmDerived.Pilot.@@N@@Statement
import JvmDerived.Pilot.@@N@@Code
set_option linter.unusedVariables false
set_option linter.unusedSimpArgs false
namespace Jvm.Pilot.@@N@@
open Jvm Jvm.ClassFile Sem Op Lib Jvm.Free Jvm.Stand Jvm.LawKit Jvm.RoadKit Bundle Jvm.Pilot.@@N@@.Jvm.D
/-! own helpers: the goal of a walk as one predicate, its steps, its calls -/
section OwnKit
variable {p : Program} {l : Launch} {e : Env} {R : Room} {s : State} {m : MethodId} {args : Array Value} {below : List Frame} {meth : Method} {c : Code} {T : State} {locs : List Loc} {cells slots : Nat} {Z : State} {a0 : Array Value} {h : Heap} {Q : Option Value → Heap → List Loc → Prop} {kc ks : Nat}
/-- from S the run ends, returns, and Q holds of what it returns, of the heap and of the places written -/
def OGoal (p : Program) (e : Env) (below : List Frame) (s : State) (Q : Option Value → Heap → List Loc → Prop) (kc ks : Nat) (S : State) : Prop :=
  ∃ s₂ o, Steps p.tables e below S s₂ ∧ s₂.status = .running ∧ Ended s₂ below o ∧ ∃ v L, o = .returned v ∧ Q v s₂.heap L ∧ FrameEnd s o s₂ L kc ks
theorem OGoal.mp {S S' : State} (k : ∀ t, Steps p.tables e below S' t → Steps p.tables e below S t) (g : OGoal p e below s Q kc ks S') : OGoal p e below s Q kc ks S := by
  obtain ⟨s₂, o, h1, h2⟩ := g
  exact ⟨s₂, o, k _ h1, h2⟩
theorem oRet (X : Stand p l e R s m args below meth c T locs cells slots) (hx : p.tables.exec = Jvm.exec) (hlk : meth.locks = false) {pc : Nat} {Ls : Array Slot} {w : Value} {t : FieldType} {i : Instr} {rest : List Value} (hret : meth.sig.returnType = some t) (hn : narrow t w = w)
    (hi : (i = .ireturn ∧ (t = .int ∨ t = .boolean ∨ t = .byte ∨ t = .char ∨ t = .short) ∧ ∃ z, w = .int z) ∨ (i = .lreturn ∧ t = .long ∧ ∃ z, w = .long z) ∨ (i = .dreturn ∧ t = .double ∧ ∃ z, w = .double z) ∨ (i = .freturn ∧ t = .float ∧ ∃ z, w = .float z) ∨ (i = .areturn ∧ t.isReference = true ∧ w.isRef = true))
    (hd : decode c.code pc = .ok (i, 1)) (hQ : Q (some w) T.heap locs) (hc : cells ≤ kc) (hs : slots ≤ ks) : OGoal p e below s Q kc ks (T.setTop (mkF m pc Ls (w :: rest))) := by
  obtain ⟨fs, hr, hrun, hended, hW, hsame⟩ := X.leave (v := some w) (fun q => by rw [hret] at q; cases q) hlk
  exact ⟨_, _, retOut X hx hret hn hi hd hr, hrun, hended, _, _, rfl, hQ, ⟨_, rfl⟩, hW, hsame.mono hc hs⟩
theorem oRetI (X : Stand p l e R s m args below meth c T locs cells slots) (hx : p.tables.exec = Jvm.exec) (hlk : meth.locks = false) {pc : Nat} {Ls : Array Slot} {z : Int32} {rest : List Value} (hret : meth.sig.returnType = some .int)
    (hd : decode c.code pc = .ok (.ireturn, 1)) (hQ : Q (some (.int z)) T.heap locs) (hc : cells ≤ kc) (hs : slots ≤ ks) : OGoal p e below s Q kc ks (T.setTop (mkF m pc Ls (.int z :: rest))) :=
  oRet X hx hlk hret rfl (Or.inl ⟨rfl, Or.inl rfl, _, rfl⟩) hd hQ hc hs
theorem oRetZ (X : Stand p l e R s m args below meth c T locs cells slots) (hx : p.tables.exec = Jvm.exec) (hlk : meth.locks = false) {pc : Nat} {Ls : Array Slot} {z : Int32} {rest : List Value} (hret : meth.sig.returnType = some .boolean) (hz : z = 0 ∨ z = 1)
    (hd : decode c.code pc = .ok (.ireturn, 1)) (hQ : Q (some (.int z)) T.heap locs) (hc : cells ≤ kc) (hs : slots ≤ ks) : OGoal p e below s Q kc ks (T.setTop (mkF m pc Ls (.int z :: rest))) :=
  oRet X hx hlk hret (by rcases hz with rfl | rfl <;> rfl) (Or.inl ⟨rfl, Or.inr (Or.inl rfl), _, rfl⟩) hd hQ hc hs
theorem oRetJ (X : Stand p l e R s m args below meth c T locs cells slots) (hx : p.tables.exec = Jvm.exec) (hlk : meth.locks = false) {pc : Nat} {Ls : Array Slot} {z : Int64} {rest : List Value} (hret : meth.sig.returnType = some .long)
    (hd : decode c.code pc = .ok (.lreturn, 1)) (hQ : Q (some (.long z)) T.heap locs) (hc : cells ≤ kc) (hs : slots ≤ ks) : OGoal p e below s Q kc ks (T.setTop (mkF m pc Ls (.long z :: rest))) :=
  oRet X hx hlk hret rfl (Or.inr (Or.inl ⟨rfl, rfl, _, rfl⟩)) hd hQ hc hs
theorem oRetD (X : Stand p l e R s m args below meth c T locs cells slots) (hx : p.tables.exec = Jvm.exec) (hlk : meth.locks = false) {pc : Nat} {Ls : Array Slot} {z : UInt64} {rest : List Value} (hret : meth.sig.returnType = some .double)
    (hd : decode c.code pc = .ok (.dreturn, 1)) (hQ : Q (some (.double z)) T.heap locs) (hc : cells ≤ kc) (hs : slots ≤ ks) : OGoal p e below s Q kc ks (T.setTop (mkF m pc Ls (.double z :: rest))) :=
  oRet X hx hlk hret rfl (Or.inr (Or.inr (Or.inl ⟨rfl, rfl, _, rfl⟩))) hd hQ hc hs
theorem oNarC {x : Int32} (h : 0 ≤ x.toInt ∧ x.toInt < 65536) : x.toUInt32.toUInt16.toUInt32.toInt32 = x := Int32.toInt_inj.mp (by have q := c_i2c x; omega)
theorem oNarB {x : Int32} (h : -128 ≤ x.toInt ∧ x.toInt < 128) : x.toInt8.toInt32 = x := Int32.toInt_inj.mp (by have q := c_i2b x; omega)
theorem oNarBB (x : Int32) : nar .byte x.toInt8.toInt32 = x.toInt8.toInt32 := oNarB ⟨(c_i2b x).2.1, (c_i2b x).2.2⟩
theorem oRetC (X : Stand p l e R s m args below meth c T locs cells slots) (hx : p.tables.exec = Jvm.exec) (hlk : meth.locks = false) {pc : Nat} {Ls : Array Slot} {z : Int32} {rest : List Value} (hret : meth.sig.returnType = some .char) (hz : 0 ≤ z.toInt ∧ z.toInt < 65536)
    (hd : decode c.code pc = .ok (.ireturn, 1)) (hQ : Q (some (.int z)) T.heap locs) (hc : cells ≤ kc) (hs : slots ≤ ks) : OGoal p e below s Q kc ks (T.setTop (mkF m pc Ls (.int z :: rest))) :=
  oRet X hx hlk hret (congrArg Value.int (oNarC hz)) (Or.inl ⟨rfl, Or.inr (Or.inr (Or.inr (Or.inl rfl))), _, rfl⟩) hd hQ hc hs
theorem oRetB (X : Stand p l e R s m args below meth c T locs cells slots) (hx : p.tables.exec = Jvm.exec) (hlk : meth.locks = false) {pc : Nat} {Ls : Array Slot} {z : Int32} {rest : List Value} (hret : meth.sig.returnType = some .byte) (hz : -128 ≤ z.toInt ∧ z.toInt < 128)
    (hd : decode c.code pc = .ok (.ireturn, 1)) (hQ : Q (some (.int z)) T.heap locs) (hc : cells ≤ kc) (hs : slots ≤ ks) : OGoal p e below s Q kc ks (T.setTop (mkF m pc Ls (.int z :: rest))) :=
  oRet X hx hlk hret (congrArg Value.int (oNarB hz)) (Or.inl ⟨rfl, Or.inr (Or.inr (Or.inl rfl)), _, rfl⟩) hd hQ hc hs
theorem oRetA (X : Stand p l e R s m args below meth c T locs cells slots) (hx : p.tables.exec = Jvm.exec) (hlk : meth.locks = false) {pc : Nat} {Ls : Array Slot} {w : Value} {t : FieldType} {rest : List Value} (hret : meth.sig.returnType = some t) (ht : t.isReference = true) (hw : w.isRef = true)
    (hd : decode c.code pc = .ok (.areturn, 1)) (hQ : Q (some w) T.heap locs) (hc : cells ≤ kc) (hs : slots ≤ ks) : OGoal p e below s Q kc ks (T.setTop (mkF m pc Ls (w :: rest))) :=
  oRet X hx hlk hret (by cases t <;> cases w <;> first | rfl | (cases ht; done) | (cases hw; done)) (Or.inr (Or.inr (Or.inr (Or.inr ⟨rfl, ht, hw⟩)))) hd hQ hc hs
theorem oRetV (X : Stand p l e R s m args below meth c T locs cells slots) (hx : p.tables.exec = Jvm.exec) (hlk : meth.locks = false) {pc : Nat} {Ls : Array Slot} (hret : meth.sig.returnType = none)
    (hd : decode c.code pc = .ok (.return_, 1)) (hQ : Q none T.heap locs) (hc : cells ≤ kc) (hs : slots ≤ ks) : OGoal p e below s Q kc ks (T.setTop (mkF m pc Ls [])) := by
  obtain ⟨fs, hr, hrun, hended, hW, hsame⟩ := X.leave (v := none) (fun _ => rfl) hlk
  exact ⟨_, _, X.returnOut hx hret hd hr, hrun, hended, _, _, rfl, hQ, ⟨_, rfl⟩, hW, hsame.mono hc hs⟩
/-- the contract of a method: called with as' over the heap h it returns, and Q holds; kc cells and ks slots are made at the most -/
def OConK (l : Launch) (Z : State) (y : MethodName) (bytes : ByteArray) (maxL : Nat) (ret : Option FieldType) (rm : Room) (kc ks : Nat) (as' : Array Value) (h : Heap) (Q : Option Value → Heap → List Loc → Prop) : Prop :=
  ∀ ws : List Jvm.Cond, MetFree l y (head1 (Jvm.Cond.code y bytes maxL ret :: ws) rm) (fun a U => a = as' ∧ Z.Warmed39 U.vm ∧ U.heap = h) (fun _ _ _ _ _ => True) (fun _ U o U' => ∃ v L, o = .returned v ∧ Q v U'.heap L ∧ FrameEnd U o U' L kc ks)
abbrev OCon (l : Launch) (Z : State) (y : MethodName) (bytes : ByteArray) (maxL : Nat) (ret : Option FieldType) (rm : Room) (as' : Array Value) (h : Heap) (Q : Option Value → Heap → List Loc → Prop) : Prop := OConK l Z y bytes maxL ret rm rm.cells rm.slots as' h Q
theorem OConK.intro {y : MethodName} {bytes : ByteArray} {maxL : Nat} {ret : Option FieldType} {rm : Room} {as' : Array Value} {Ls : Array Slot} (hpf : plainFor y = true) (ef : ∀ m, entryFrame m as' maxL = mkF m 0 Ls [])
    (H : ∀ p e s m below meth c s₁, p.tables.exec = Jvm.exec → c.code = bytes → c.maxLocals = maxL → s.vm.findClass y.cls = some m.cls → meth.name = y.name → meth.sig.returnType = ret → meth.locks = false → Z.Warmed39 s.vm →
      Stand p l e rm s m as' below meth c s₁ [] 0 0 → s₁.heap = h → OGoal p e below s Q kc ks (s₁.setTop (mkF m 0 Ls []))) : OConK l Z y bytes maxL ret rm kc ks as' h Q := by
  intro ws
  refine MetFree.of_bodySF hpf hisR ?_
  intro p e s m args below meth c s₁ Bd hml hP hK
  obtain ⟨rfl, hZ, hh⟩ := hP
  obtain ⟨s₂, o, h1, h2, h3, h4⟩ := H p e s m below meth c s₁ Bd.exec Bd.bytes hml (findClass_of_methodNamed Bd.named) (name_of_methodNamed Bd.named Bd.method).1 Bd.returns (BodyLoose.notSynchronized Bd) hZ (Stand.of_body Bd) (by rw [← hh, Bd.state]; rfl)
  exact ⟨s₂, o, castTop (ef m) h1, h2, h3, h4⟩
/-- weaker promise -/
theorem OConK.imp {y : MethodName} {bytes : ByteArray} {maxL : Nat} {ret : Option FieldType} {rm : Room} {as' : Array Value} {Q' : Option Value → Heap → List Loc → Prop} (H : OConK l Z y bytes maxL ret rm kc ks as' h Q) (k : ∀ v h' L, Q v h' L → Q' v h' L) : OConK l Z y bytes maxL ret rm kc ks as' h Q' := by
  intro ws p e ha hc hk s m args below hf happ hP hK
  obtain ⟨n, o, h1, h2, h3, v, L, h4, h5, h6⟩ := H ws p e ha hc hk s m args below hf happ hP hK
  exact ⟨n, o, h1, h2, h3, v, L, h4, k _ _ _ h5, h6⟩
theorem oCallS (X : Stand p l e R s m args below meth c T locs cells slots) (hx : p.tables.exec = Jvm.exec) (hZ : Z.Warmed39 s.vm) {own : String} {index : Nat} {y : MethodName} {bytes : ByteArray} {maxL : Nat} {ret : Option FieldType} {rm : Room} {as' : Array Value} {Qc : Option Value → Heap → List Loc → Prop}
    (hown : s.vm.findClass own = some m.cls) (w1 : (Jvm.Cond.methodLink own index y).before a0 Z = true) (w2 : (Jvm.Cond.static y).before a0 Z = true) (w3 : (Jvm.Cond.initialized y.cls).before a0 Z = true) (w4 : (Jvm.Cond.code y bytes maxL ret).before a0 Z = true)
    (hy : y.cls ≠ "java/lang/invoke/MethodHandle" ∧ y.cls ≠ "java/lang/invoke/VarHandle") (hM : OCon l Z y bytes maxL ret rm as' h Qc) (eT : T.heap = h) {pc : Nat} {Ls : Array Slot} {st : List Value} (argsL rest : List Value) (hst : st = argsL.reverse ++ rest) (has : argsL.toArray = as') (hsize : Ls.size = c.maxLocals)
    (hlen : ∀ sig, parseMethodDescriptor y.desc = some sig → argsL.length = sig.parameters.length) (W : Nat) (hW : (rest.map fun v => v.category).sum ≤ W) (hfr : rm.frames + 1 ≤ R.frames) (hlo : W + (maxL + 11) + rm.locals ≤ R.locals) (hce : cells + rm.cells ≤ R.cells) (hsl : slots + rm.slots ≤ R.slots)
    (hd : decode c.code pc = .ok (.invokestatic index, 3))
    (k : ∀ v T' Lc, Stand p l e R s m args below meth c T' (locs ++ Lc) (cells + rm.cells) (slots + rm.slots) → Qc v T'.heap Lc → OGoal p e below s Q kc ks (T'.setTop (mkF m (pc + 3) Ls (v.toList ++ rest)))) :
    OGoal p e below s Q kc ks (T.setTop (mkF m pc Ls st)) := by
  subst hst has
  obtain ⟨v, _, ⟨T', L', k', n'⟩, -, X', ⟨Lc, hQ, l', y', z'⟩, st⟩ := Jvm.LawKit.callS X hx (y := y) hown (mvT hZ w1) (mvT hZ w2) (mvT hZ w3) (mvT hZ w4) hy (backOf (W := W) (hM []) hZ w4 w3 hfr hlo) (g := mkF m pc Ls (argsL.reverse ++ rest)) rfl hsize (argsL := argsL) (rest := rest) hlen rfl (by show 2 * 0 + _ ≤ _; omega) hd (fun _ _ => ⟨rfl, eT, hce, hsl⟩)
  dsimp only [Pt.U, Pt.locs, Pt.cells, Pt.slots] at X' l' y' z' st hQ
  subst l' y' z'
  exact OGoal.mp st (k v T' Lc X' hQ)
theorem oCallV (X : Stand p l e R s m args below meth c T locs cells slots) (hx : p.tables.exec = Jvm.exec) (hZ : Z.Warmed39 s.vm) {own C : String} {index : Nat} {y z : MethodName} {bytes : ByteArray} {maxL : Nat} {ret : Option FieldType} {rm : Room} {as' : Array Value} {Qc : Option Value → Heap → List Loc → Prop}
    (hown : s.vm.findClass own = some m.cls) (w1 : (Jvm.Cond.methodLink own index y).before a0 Z = true) (w2 : (Jvm.Cond.declares y).before a0 Z = true) (w5 : (Jvm.Cond.selects C y z).before a0 Z = true) (w6 : (Jvm.Cond.instanceMethod z).before a0 Z = true) (w3 : (Jvm.Cond.initialized z.cls).before a0 Z = true) (w4 : (Jvm.Cond.code z bytes maxL ret).before a0 Z = true)
    (hy : y.cls ≠ "java/lang/invoke/MethodHandle" ∧ y.cls ≠ "java/lang/invoke/VarHandle") (hM : OCon l Z z bytes maxL ret rm as' h Qc) (eT : T.heap = h) {a : Addr} (E : Exa Z h a C) {pc : Nat} {Ls : Array Slot} {st : List Value} (argsL rest : List Value) (hst : st = argsL.reverse ++ .ref a :: rest) (has : (.ref a :: argsL).toArray = as') (hsize : Ls.size = c.maxLocals)
    (hnf : NotFace s y) (hlen : ∀ sig, parseMethodDescriptor y.desc = some sig → argsL.length = sig.parameters.length) (W : Nat) (hW : (rest.map fun v => v.category).sum ≤ W) (hfr : rm.frames + 1 ≤ R.frames) (hlo : W + (maxL + 11) + rm.locals ≤ R.locals) (hce : cells + rm.cells ≤ R.cells) (hsl : slots + rm.slots ≤ R.slots)
    (hd : decode c.code pc = .ok (.invokevirtual index, 3))
    (k : ∀ v T' Lc, Stand p l e R s m args below meth c T' (locs ++ Lc) (cells + rm.cells) (slots + rm.slots) → Qc v T'.heap Lc → OGoal p e below s Q kc ks (T'.setTop (mkF m (pc + 3) Ls (v.toList ++ rest)))) :
    OGoal p e below s Q kc ks (T.setTop (mkF m pc Ls st)) := by
  subst hst has
  obtain ⟨cq, kq, qa, qb, qc⟩ := isOf hZ eT E
  obtain ⟨v, _, ⟨T', L', k', n'⟩, -, X', ⟨Lc, hQ, l', y', z'⟩, st⟩ := X.virtualBack hx (y := y) (z := z) hown (mvT hZ w1) (mvT hZ w2) hnf (mvT hZ w5) (mvT hZ w6) hy (backOf (W := W) (hM []) hZ w4 w3 hfr hlo) qa qc (g := mkF m pc Ls (argsL.reverse ++ .ref a :: rest)) rfl hsize (Steps.refl _) (argsL := argsL) (rest := rest) hlen rfl (by show 2 * 0 + _ ≤ _; omega) hd (fun _ _ => ⟨rfl, eT, hce, hsl⟩)
  dsimp only [Pt.U, Pt.locs, Pt.cells, Pt.slots] at X' l' y' z' st hQ
  subst l' y' z'
  exact OGoal.mp (fun t q => st.trans q) (k v T' Lc X' hQ)
theorem oCallN (X : Stand p l e R s m args below meth c T locs cells slots) (hx : p.tables.exec = Jvm.exec) (hZ : Z.Warmed39 s.vm) {own : String} {index : Nat} {y : MethodName} {bytes : ByteArray} {maxL : Nat} {rm : Room} {as' : Array Value} {Qc : Option Value → Heap → List Loc → Prop}
    (hy1 : y.name = "<init>") (hown : s.vm.findClass own = some m.cls) (w1 : (Jvm.Cond.methodLink own index y).before a0 Z = true) (w6 : (Jvm.Cond.instanceMethod y).before a0 Z = true) (w3 : (Jvm.Cond.initialized y.cls).before a0 Z = true) (w4 : (Jvm.Cond.code y bytes maxL none).before a0 Z = true)
    (hy : y.cls ≠ "java/lang/invoke/MethodHandle" ∧ y.cls ≠ "java/lang/invoke/VarHandle") (hM : OCon l Z y bytes maxL none rm as' h Qc) (eT : T.heap = h) {a : Addr} {pc : Nat} {Ls : Array Slot} {st : List Value} (argsL rest : List Value) (hst : st = argsL.reverse ++ .ref a :: rest) (has : (.ref a :: argsL).toArray = as') (hsize : Ls.size = c.maxLocals)
    (hlen : ∀ sig, parseMethodDescriptor y.desc = some sig → argsL.length = sig.parameters.length) (W : Nat) (hW : (rest.map fun v => v.category).sum ≤ W) (hfr : rm.frames + 1 ≤ R.frames) (hlo : W + (maxL + 11) + rm.locals ≤ R.locals) (hce : cells + rm.cells ≤ R.cells) (hsl : slots + rm.slots ≤ R.slots)
    (hd : decode c.code pc = .ok (.invokespecial index, 3))
    (k : ∀ v T' Lc, Stand p l e R s m args below meth c T' (locs ++ Lc) (cells + rm.cells) (slots + rm.slots) → Qc v T'.heap Lc → OGoal p e below s Q kc ks (T'.setTop (mkF m (pc + 3) Ls (v.toList ++ rest)))) :
    OGoal p e below s Q kc ks (T.setTop (mkF m pc Ls st)) := by
  subst hst has
  obtain ⟨v, _, ⟨T', L', k', n'⟩, -, X', ⟨Lc, hQ, l', y', z'⟩, st⟩ := X.specialBack hx (y := y) hy1 hown (mvT hZ w1) (mvT hZ w6) (mvT hZ w4) hy (backOf (W := W) (hM []) hZ w4 w3 hfr hlo) (g := mkF m pc Ls (argsL.reverse ++ .ref a :: rest)) rfl hsize (Steps.refl _) (a := a) (argsL := argsL) (rest := rest) hlen rfl (by show 2 * 0 + _ ≤ _; omega) hd (fun _ _ => ⟨rfl, eT, hce, hsl⟩)
  dsimp only [Pt.U, Pt.locs, Pt.cells, Pt.slots] at X' l' y' z' st hQ
  subst l' y' z'
  exact OGoal.mp (fun t q => st.trans q) (k v T' Lc X' hQ)
theorem oNotFace {s : State} {C : String} {k : Nat} (h : (Jvm.Cond.instantiable C k).before args s = true) : ∃ c kc, s.vm.findClass C = some c ∧ s.vm.classes[c]? = some kc ∧ kc.isInterface = false := by
  obtain ⟨c, kc, h1, h2, -, h3, -, -⟩ := Cond.instantiable_spec h
  exact ⟨c, kc, h1, h2, (Bool.or_eq_false_iff.mp h3).1⟩
theorem oCallP (X : Stand p l e R s m args below meth c T locs cells slots) (hx : p.tables.exec = Jvm.exec) (hZ : Z.Warmed39 s.vm) {own C : String} {index : Nat} {y : MethodName} {bytes : ByteArray} {maxL : Nat} {ret : Option FieldType} {rm : Room} {as' : Array Value} {Qc : Option Value → Heap → List Loc → Prop}
    (hown : s.vm.findClass own = some m.cls) (w1 : (Jvm.Cond.methodLink own index y).before a0 Z = true) {kk : Nat} (w5 : (Jvm.Cond.instantiable y.cls kk).before a0 Z = true) (w6 : (Jvm.Cond.instanceMethod y).before a0 Z = true) (w7 : (Jvm.Cond.privateMethod y).before a0 Z = true) (w3 : (Jvm.Cond.initialized y.cls).before a0 Z = true) (w4 : (Jvm.Cond.code y bytes maxL ret).before a0 Z = true)
    (hy : y.cls ≠ "java/lang/invoke/MethodHandle" ∧ y.cls ≠ "java/lang/invoke/VarHandle") (hM : OCon l Z y bytes maxL ret rm as' h Qc) (eT : T.heap = h) {a : Addr} (E : Exa Z h a C) {pc : Nat} {Ls : Array Slot} {st : List Value} (argsL rest : List Value) (hst : st = argsL.reverse ++ .ref a :: rest) (has : (.ref a :: argsL).toArray = as') (hsize : Ls.size = c.maxLocals)
    (hlen : ∀ sig, parseMethodDescriptor y.desc = some sig → argsL.length = sig.parameters.length) (W : Nat) (hW : (rest.map fun v => v.category).sum ≤ W) (hfr : rm.frames + 1 ≤ R.frames) (hlo : W + (maxL + 11) + rm.locals ≤ R.locals) (hce : cells + rm.cells ≤ R.cells) (hsl : slots + rm.slots ≤ R.slots)
    (hd : decode c.code pc = .ok (.invokevirtual index, 3))
    (k : ∀ v T' Lc, Stand p l e R s m args below meth c T' (locs ++ Lc) (cells + rm.cells) (slots + rm.slots) → Qc v T'.heap Lc → OGoal p e below s Q kc ks (T'.setTop (mkF m (pc + 3) Ls (v.toList ++ rest)))) :
    OGoal p e below s Q kc ks (T.setTop (mkF m pc Ls st)) := by
  subst hst has
  obtain ⟨cq, q1, q2⟩ := E.cell
  obtain ⟨c1, k1, hc1, hk1, hi1⟩ := oNotFace (args := #[]) (mvT hZ w5)
  have hpr : s.PrivateAt y := Cond.privateMethod_at (mvP hZ w7 (args := #[]))
  have hse := selects_self_of_private (args := args) hc1 hk1 hi1 hpr (mvT hZ w6) hy
  obtain ⟨v, _, ⟨T', L', k', n'⟩, -, X', ⟨Lc, hQ, l', y', z'⟩, st⟩ := X.privateBack hx (y := y) hown (mvT hZ w1) (mvT hZ w6) hse hpr (mvT hZ w4) hy (backOf (W := W) (hM []) hZ w4 w3 hfr hlo) (g := mkF m pc Ls (argsL.reverse ++ .ref a :: rest)) rfl hsize (Steps.refl _) (a := a) (by rw [eT]; exact q1) q2 (argsL := argsL) (rest := rest) hlen rfl (by show 2 * 0 + _ ≤ _; omega) hd (fun _ _ => ⟨rfl, eT, hce, hsl⟩)
  dsimp only [Pt.U, Pt.locs, Pt.cells, Pt.slots] at X' l' y' z' st hQ
  subst l' y' z'
  exact OGoal.mp (fun t q => st.trans q) (k v T' Lc X' hQ)
theorem oLrem {g : JFrame} {target : State} (X : Stand p l e R s m args below meth c T locs cells slots) (hx : p.tables.exec = Jvm.exec) (hg : g.method = m) {x y : Int64} {rest : List Value} (hd : decode c.code g.pc = .ok (.lrem, 1)) (hs : g.stack = .long y :: .long x :: rest) (hy : y ≠ 0)
    (hr : Steps p.tables e below (T.setTop { g with pc := g.pc + 1, stack := .long (x % y) :: rest }) target) : Steps p.tables e below (T.setTop g) target := XT.lrem X.here hx hg hd hs hy (by rw [lrem_mod]; exact hr)
theorem oLt {x y : Int32} (h : x < y) : x.toInt < y.toInt := Int32.lt_iff_toInt_lt.mp h
theorem oNlt {x y : Int32} (h : ¬ x < y) : y.toInt ≤ x.toInt := Int.not_lt.mp fun q => h (Int32.lt_iff_toInt_lt.mpr q)
theorem oEq {x y : Int32} (h : x = y) : x.toInt = y.toInt := congrArg _ h
theorem oNe {x y : Int32} (h : ¬ x = y) : x.toInt ≠ y.toInt := fun q => h (Int32.toInt_inj.mp q)
theorem oLtL {x y : Int64} (h : x < y) : x.toInt < y.toInt := Int64.lt_iff_toInt_lt.mp h
theorem oNltL {x y : Int64} (h : ¬ x < y) : y.toInt ≤ x.toInt := Int.not_lt.mp fun q => h (Int64.lt_iff_toInt_lt.mpr q)
theorem oEqL {x y : Int64} (h : x = y) : x.toInt = y.toInt := congrArg _ h
theorem oNeL {x y : Int64} (h : ¬ x = y) : x.toInt ≠ y.toInt := fun q => h (Int64.toInt_inj.mp q)
theorem mLt {x y : Int32} (h : x.toInt < y.toInt) : x < y := Int32.lt_iff_toInt_lt.mpr h
theorem mNlt {x y : Int32} (h : y.toInt ≤ x.toInt) : ¬ x < y := fun q => absurd (oLt q) (Int.not_lt.mpr h)
theorem mEq {x y : Int32} (h : x.toInt = y.toInt) : x = y := Int32.toInt_inj.mp h
theorem mNe {x y : Int32} (h : x.toInt ≠ y.toInt) : ¬ x = y := fun q => h (congrArg _ q)
theorem mLtL {x y : Int64} (h : x.toInt < y.toInt) : x < y := Int64.lt_iff_toInt_lt.mpr h
theorem mNltL {x y : Int64} (h : y.toInt ≤ x.toInt) : ¬ x < y := fun q => absurd (oLtL q) (Int.not_lt.mpr h)
theorem mEqL {x y : Int64} (h : x.toInt = y.toInt) : x = y := Int64.toInt_inj.mp h
theorem mNeL {x y : Int64} (h : x.toInt ≠ y.toInt) : ¬ x = y := fun q => h (congrArg _ q)
theorem oRemL (x y : Int64) : 0 ≤ x.toInt → 0 < y.toInt → 0 ≤ (x % y).toInt ∧ (x % y).toInt < y.toInt := by
  intro h1 h2
  rw [Int64.toInt_mod, Int.tmod_eq_emod_of_nonneg h1]
  exact ⟨Int.emod_nonneg _ (by omega), Int.emod_lt_of_pos _ h2⟩
theorem oRemI (x y : Int32) : 0 ≤ x.toInt → 0 < y.toInt → 0 ≤ (x % y).toInt ∧ (x % y).toInt < y.toInt := by
  intro h1 h2
  rw [Int32.toInt_mod, Int.tmod_eq_emod_of_nonneg h1]
  exact ⟨Int.emod_nonneg _ (by omega), Int.emod_lt_of_pos _ h2⟩
/-- an array of kind ty, of length z, whose i-th component is f i -/
def OArr (Z : State) (h : Heap) (a : Addr) (ty : FieldType) (z : Int32) (f : Nat → Value) : Prop := ∃ c : Cell, Arr Z h a c ty ∧ c.slots.size = z.toNatClampNeg ∧ ¬ z < 0 ∧ ∀ i, i < c.slots.size → c.slots[i]? = some (f i)
section OArrs
variable {h' : Heap} {a b : Addr} {ty : FieldType} {z : Int32} {f : Nat → Value} {sl : Nat} {v : Value}
theorem OArr.lt (F : OArr Z h a ty z f) : a < h.size := by obtain ⟨c, A, -⟩ := F; exact A.lt
theorem OArr.ext (F : OArr Z h a ty z f) (E : Ext h h') : OArr Z h' a ty z f := by obtain ⟨c, A, r⟩ := F; exact ⟨c, A.ext E, r⟩
theorem OArr.other (F : OArr Z h b ty z f) (W : Wr h h' a sl v) (q : b ≠ a) : OArr Z h' b ty z f := by obtain ⟨c, A, r⟩ := F; exact ⟨c, A.other W q, r⟩
theorem OArr.keep {ws : List Addr} (F : OArr Z h a ty z f) (K : Keep h h' ws) (q : a ∉ ws) : OArr Z h' a ty z f := by obtain ⟨c, A, r⟩ := F; exact ⟨c, ⟨K.2.1 a c A.1 q, A.2⟩, r⟩
theorem OArr.imp {g : Nat → Value} (F : OArr Z h a ty z f) (k : ∀ i, i < z.toNatClampNeg → f i = g i) : OArr Z h a ty z g := by
  obtain ⟨c, A, S, r, G⟩ := F
  exact ⟨c, A, S, r, fun i hi => by rw [G i hi, k i (by rw [← S]; exact hi)]⟩
theorem OArr.new {k : ClassId} (A : Arr Z h a (newA k ty z) ty) (q : ¬ z < 0) : OArr Z h a ty z (fun _ => defaultValue ty) :=
  ⟨_, A, sz_new _ _ _, q, fun i hi => by simp only [newA, Array.size_replicate] at hi; simp [newA, hi]⟩
theorem OArr.set (F : OArr Z h a ty z f) (W : Wr h h' a sl v) : OArr Z h' a ty z (fun i => if i = sl then v else f i) := by
  obtain ⟨c, A, S, r, G⟩ := F
  refine ⟨_, A.same W, by rw [sz_set]; exact S, r, fun i hi => ?_⟩
  rw [sz_set] at hi
  show (c.setSlot sl v).slots[i]? = some (if i = sl then v else f i)
  by_cases q : i = sl
  · subst q; simp [Cell.setSlot, hi]
  · rw [if_neg q, ← G i hi]
    simp [Cell.setSlot, Array.getElem?_setIfInBounds, Ne.symm q]
theorem oNeA {C : String} {k : Nat} (E : Exa Z h a C) (wi : (Jvm.Cond.instantiable C k).before a0 Z = true) (F : OArr Z h b ty z f) : a ≠ b := by
  obtain ⟨c, A, -⟩ := F; exact ne_arr E wi A
theorem oIn {j : Int32} {n : Nat} (S : n = z.toNatClampNeg) (h1 : 0 ≤ j.toInt) (h2 : j.toInt < z.toInt) : ¬ (j < 0 ∨ n ≤ j.toNatClampNeg) := by
  intro q
  have e0 : (0 : Int32).toInt = 0 := by decide
  have e1 : j.toNatClampNeg = j.toInt.toNat := rfl
  have e2 : z.toNatClampNeg = z.toInt.toNat := rfl
  rcases q with q | q
  · have := oLt q; omega
  · rw [S, e1, e2] at q; omega
theorem oLen (X : Stand p l e R s m args below meth c T locs cells slots) (hx : p.tables.exec = Jvm.exec) (hZ : Z.Warmed39 s.vm) (eT : T.heap = h) (F : OArr Z h a ty z f) {g : JFrame} (hg : g.method = m) {rest : List Value} (hs : g.stack = .ref a :: rest) (hd : decode c.code g.pc = .ok (.arraylength, 1)) {target : State}
    (k : Steps p.tables e below (T.setTop { g with pc := g.pc + 1, stack := .int z :: rest }) target) : Steps p.tables e below (T.setTop g) target := by
  obtain ⟨cl, A, S, r, -⟩ := F
  refine X.arraylength hx (by rw [eT]; exact A.1) (State.isArrayOf_alike hZ.alike A.2.1) (g := g) hg hs hd _ ?_
  rw [len_of S r]; exact k
theorem oInd (F : OArr Z h a ty z f) {j : Int32} (h1 : 0 ≤ j.toInt) (h2 : j.toInt < z.toInt) : ∃ cl, Arr Z h a cl ty ∧ ¬ (j < 0 ∨ cl.slots.size ≤ j.toNatClampNeg) ∧ cl.slots[j.toNatClampNeg]? = some (f j.toNatClampNeg) := by
  obtain ⟨cl, A, S, r, G⟩ := F
  have q := oIn S h1 h2
  exact ⟨cl, A, q, G _ (Nat.lt_of_not_le fun w => q (Or.inr w))⟩
theorem oLdI (X : Stand p l e R s m args below meth c T locs cells slots) (hx : p.tables.exec = Jvm.exec) (hZ : Z.Warmed39 s.vm) (eT : T.heap = h) (F : OArr Z h a .int z f) {j x : Int32} (h1 : 0 ≤ j.toInt) (h2 : j.toInt < z.toInt) (hv : f j.toNatClampNeg = .int x) {g : JFrame} (hg : g.method = m) {rest : List Value} (hs : g.stack = .int j :: .ref a :: rest) (hd : decode c.code g.pc = .ok (.iaload, 1)) {target : State}
    (k : Steps p.tables e below (T.setTop { g with pc := g.pc + 1, stack := .int x :: rest }) target) : Steps p.tables e below (T.setTop g) target := by
  obtain ⟨cl, A, q, G⟩ := oInd F h1 h2
  rw [hv] at G
  exact X.iaload hx (j := j) (v := .int x) (by rw [eT]; exact A.1) (State.isArrayOf_alike hZ.alike A.2.1) A.2.2 q G (g := g) hg hs hd _ k
theorem oLdD (X : Stand p l e R s m args below meth c T locs cells slots) (hx : p.tables.exec = Jvm.exec) (hZ : Z.Warmed39 s.vm) (eT : T.heap = h) (F : OArr Z h a .double z f) {j : Int32} {x : UInt64} (h1 : 0 ≤ j.toInt) (h2 : j.toInt < z.toInt) (hv : f j.toNatClampNeg = .double x) {g : JFrame} (hg : g.method = m) {rest : List Value} (hs : g.stack = .int j :: .ref a :: rest) (hd : decode c.code g.pc = .ok (.daload, 1)) {target : State}
    (k : Steps p.tables e below (T.setTop { g with pc := g.pc + 1, stack := .double x :: rest }) target) : Steps p.tables e below (T.setTop g) target := by
  obtain ⟨cl, A, q, G⟩ := oInd F h1 h2
  rw [hv] at G
  exact X.daload hx (j := j) (v := .double x) (by rw [eT]; exact A.1) (State.isArrayOf_alike hZ.alike A.2.1) A.2.2 q G (g := g) hg hs hd _ k
theorem oLdR (X : Stand p l e R s m args below meth c T locs cells slots) (hx : p.tables.exec = Jvm.exec) (hZ : Z.Warmed39 s.vm) (eT : T.heap = h) (F : OArr Z h a ty z f) (hty : ty.isReference = true) {j : Int32} {x : Value} (h1 : 0 ≤ j.toInt) (h2 : j.toInt < z.toInt) (hv : f j.toNatClampNeg = x) {g : JFrame} (hg : g.method = m) {rest : List Value} (hs : g.stack = .int j :: .ref a :: rest) (hd : decode c.code g.pc = .ok (.aaload, 1)) {target : State}
    (k : Steps p.tables e below (T.setTop { g with pc := g.pc + 1, stack := x :: rest }) target) : Steps p.tables e below (T.setTop g) target := by
  obtain ⟨cl, A, q, G⟩ := oInd F h1 h2
  rw [hv] at G
  exact X.aaload hx (j := j) (v := x) (by rw [eT]; exact A.1) (State.isArrayOf_alike hZ.alike A.2.1) hty A.2.2 q G (g := g) hg hs hd _ k
theorem OArr.of_arv {kc : ClassId} {vs : List Value} {d : Value} (F : Arv Z h a kc ty z vs d) : OArr Z h a ty z (fun i => vs.getD i d) := by
  obtain ⟨c, A, -, S, r, H, -⟩ := F
  exact ⟨c, A, S, r, H⟩
theorem oKext (K : Keep h h' []) : Ext h h' := ⟨K.1, fun a c q => K.2.1 a c q (fun z => nomatch z)⟩
theorem oLdC (X : Stand p l e R s m args below meth c T locs cells slots) (hx : p.tables.exec = Jvm.exec) (hZ : Z.Warmed39 s.vm) (eT : T.heap = h) (F : OArr Z h a .char z f) {j x : Int32} (h1 : 0 ≤ j.toInt) (h2 : j.toInt < z.toInt) (hv : f j.toNatClampNeg = .int x) {g : JFrame} (hg : g.method = m) {rest : List Value} (hs : g.stack = .int j :: .ref a :: rest) (hd : decode c.code g.pc = .ok (.caload, 1)) {target : State}
    (k : Steps p.tables e below (T.setTop { g with pc := g.pc + 1, stack := .int x :: rest }) target) : Steps p.tables e below (T.setTop g) target := by
  obtain ⟨cl, A, q, G⟩ := oInd F h1 h2
  rw [hv] at G
  exact X.caload hx (j := j) (v := .int x) (by rw [eT]; exact A.1) (State.isArrayOf_alike hZ.alike A.2.1) A.2.2 q G (g := g) hg hs hd _ k
theorem oLdB (X : Stand p l e R s m args below meth c T locs cells slots) (hx : p.tables.exec = Jvm.exec) (hZ : Z.Warmed39 s.vm) (eT : T.heap = h) (F : OArr Z h a .byte z f) {j x : Int32} (h1 : 0 ≤ j.toInt) (h2 : j.toInt < z.toInt) (hv : f j.toNatClampNeg = .int x) {g : JFrame} (hg : g.method = m) {rest : List Value} (hs : g.stack = .int j :: .ref a :: rest) (hd : decode c.code g.pc = .ok (.baload, 1)) {target : State}
    (k : Steps p.tables e below (T.setTop { g with pc := g.pc + 1, stack := .int x :: rest }) target) : Steps p.tables e below (T.setTop g) target := by
  obtain ⟨cl, A, q, G⟩ := oInd F h1 h2
  rw [hv] at G
  exact X.baloadBytes hx (j := j) (v := .int x) (by rw [eT]; exact A.1) (State.isArrayOf_alike hZ.alike A.2.1) A.2.2 q G (g := g) hg hs hd _ k
theorem oLdZ (X : Stand p l e R s m args below meth c T locs cells slots) (hx : p.tables.exec = Jvm.exec) (hZ : Z.Warmed39 s.vm) (eT : T.heap = h) (F : OArr Z h a .boolean z f) {j x : Int32} (h1 : 0 ≤ j.toInt) (h2 : j.toInt < z.toInt) (hv : f j.toNatClampNeg = .int x) {g : JFrame} (hg : g.method = m) {rest : List Value} (hs : g.stack = .int j :: .ref a :: rest) (hd : decode c.code g.pc = .ok (.baload, 1)) {target : State}
    (k : Steps p.tables e below (T.setTop { g with pc := g.pc + 1, stack := .int x :: rest }) target) : Steps p.tables e below (T.setTop g) target := by
  obtain ⟨cl, A, q, G⟩ := oInd F h1 h2
  rw [hv] at G
  exact X.baloadBooleans hx (j := j) (v := .int x) (by rw [eT]; exact A.1) (State.isArrayOf_alike hZ.alike A.2.1) A.2.2 q G (g := g) hg hs hd _ k
theorem oStC (X : Stand p l e R s m args below meth c T locs cells slots) (hx : p.tables.exec = Jvm.exec) (hZ : Z.Warmed39 s.vm) (eT : T.heap = h) (F : OArr Z h a .char z f) {j x : Int32} (h1 : 0 ≤ j.toInt) (h2 : j.toInt < z.toInt) (hn : nar .char x = x) {g : JFrame} (hg : g.method = m) {rest : List Value} (hs : g.stack = .int x :: .int j :: .ref a :: rest) (hd : decode c.code g.pc = .ok (.castore, 1)) :
    ∃ T' h', Stand p l e R s m args below meth c T' (locs ++ [⟨a, j.toNatClampNeg⟩]) cells slots ∧ T'.heap = h' ∧ Wr h h' a j.toNatClampNeg (.int x) ∧ ∀ target, Steps p.tables e below (T'.setTop { g with pc := g.pc + 1, stack := rest }) target → Steps p.tables e below (T.setTop g) target := by
  obtain ⟨cl, A, q, G⟩ := oInd F h1 h2
  have r := stC X hx hZ eT A q hg hs hd
  rw [hn] at r; exact r
theorem oStB (X : Stand p l e R s m args below meth c T locs cells slots) (hx : p.tables.exec = Jvm.exec) (hZ : Z.Warmed39 s.vm) (eT : T.heap = h) (F : OArr Z h a .byte z f) {j x : Int32} (h1 : 0 ≤ j.toInt) (h2 : j.toInt < z.toInt) (hn : nar .byte x = x) {g : JFrame} (hg : g.method = m) {rest : List Value} (hs : g.stack = .int x :: .int j :: .ref a :: rest) (hd : decode c.code g.pc = .ok (.bastore, 1)) :
    ∃ T' h', Stand p l e R s m args below meth c T' (locs ++ [⟨a, j.toNatClampNeg⟩]) cells slots ∧ T'.heap = h' ∧ Wr h h' a j.toNatClampNeg (.int x) ∧ ∀ target, Steps p.tables e below (T'.setTop { g with pc := g.pc + 1, stack := rest }) target → Steps p.tables e below (T.setTop g) target := by
  obtain ⟨cl, A, q, G⟩ := oInd F h1 h2
  have r := stB X hx hZ eT A q hg hs hd
  rw [hn] at r; exact r
theorem oStZ (X : Stand p l e R s m args below meth c T locs cells slots) (hx : p.tables.exec = Jvm.exec) (hZ : Z.Warmed39 s.vm) (eT : T.heap = h) (F : OArr Z h a .boolean z f) {j x : Int32} (h1 : 0 ≤ j.toInt) (h2 : j.toInt < z.toInt) (hn : nar .boolean x = x) {g : JFrame} (hg : g.method = m) {rest : List Value} (hs : g.stack = .int x :: .int j :: .ref a :: rest) (hd : decode c.code g.pc = .ok (.bastore, 1)) :
    ∃ T' h', Stand p l e R s m args below meth c T' (locs ++ [⟨a, j.toNatClampNeg⟩]) cells slots ∧ T'.heap = h' ∧ Wr h h' a j.toNatClampNeg (.int x) ∧ ∀ target, Steps p.tables e below (T'.setTop { g with pc := g.pc + 1, stack := rest }) target → Steps p.tables e below (T.setTop g) target := by
  obtain ⟨cl, A, q, G⟩ := oInd F h1 h2
  have r := stZ X hx hZ eT A q hg hs hd
  rw [hn] at r; exact r
theorem oStI (X : Stand p l e R s m args below meth c T locs cells slots) (hx : p.tables.exec = Jvm.exec) (hZ : Z.Warmed39 s.vm) (eT : T.heap = h) (F : OArr Z h a .int z f) {j x : Int32} (h1 : 0 ≤ j.toInt) (h2 : j.toInt < z.toInt) {g : JFrame} (hg : g.method = m) {rest : List Value} (hs : g.stack = .int x :: .int j :: .ref a :: rest) (hd : decode c.code g.pc = .ok (.iastore, 1)) :
    ∃ T' h', Stand p l e R s m args below meth c T' (locs ++ [⟨a, j.toNatClampNeg⟩]) cells slots ∧ T'.heap = h' ∧ Wr h h' a j.toNatClampNeg (.int x) ∧ ∀ target, Steps p.tables e below (T'.setTop { g with pc := g.pc + 1, stack := rest }) target → Steps p.tables e below (T.setTop g) target := by
  obtain ⟨cl, A, q, G⟩ := oInd F h1 h2
  exact stI X hx hZ eT A q hg hs hd
theorem oStD (X : Stand p l e R s m args below meth c T locs cells slots) (hx : p.tables.exec = Jvm.exec) (hZ : Z.Warmed39 s.vm) (eT : T.heap = h) (F : OArr Z h a .double z f) {j : Int32} {x : UInt64} (h1 : 0 ≤ j.toInt) (h2 : j.toInt < z.toInt) {g : JFrame} (hg : g.method = m) {rest : List Value} (hs : g.stack = .double x :: .int j :: .ref a :: rest) (hd : decode c.code g.pc = .ok (.dastore, 1)) :
    ∃ T' h', Stand p l e R s m args below meth c T' (locs ++ [⟨a, j.toNatClampNeg⟩]) cells slots ∧ T'.heap = h' ∧ Wr h h' a j.toNatClampNeg (.double x) ∧ ∀ target, Steps p.tables e below (T'.setTop { g with pc := g.pc + 1, stack := rest }) target → Steps p.tables e below (T.setTop g) target := by
  obtain ⟨cl, A, q, G⟩ := oInd F h1 h2
  exact stD X hx hZ eT A q hg hs hd
theorem oClone (X : Stand p l e R s m args below meth c T locs cells slots) (hx : p.tables.exec = Jvm.exec) (hZ : Z.Warmed39 s.vm) {own ad : String} {index : Nat} (hown : s.vm.findClass own = some m.cls)
    (w1 : (Jvm.Cond.methodLink own index ⟨ad, "clone", "()Ljava/lang/Object;"⟩).before a0 Z = true) (w2 : (Jvm.Cond.sameMethod ad "java/lang/Object" "clone" "()Ljava/lang/Object;").before a0 Z = true) (w3 : (Jvm.Cond.native ⟨"java/lang/Object", "clone", "()Ljava/lang/Object;"⟩).before a0 Z = true)
    (w4 : (Jvm.Cond.instanceMethod ⟨"java/lang/Object", "clone", "()Ljava/lang/Object;"⟩).before a0 Z = true) (w5 : (Jvm.Cond.selects ad ⟨ad, "clone", "()Ljava/lang/Object;"⟩ ⟨"java/lang/Object", "clone", "()Ljava/lang/Object;"⟩).before a0 Z = true) (w6 : (Jvm.Cond.castable ad "java/lang/Cloneable").before a0 Z = true)
    (eT : T.heap = h) (F : OArr Z h a ty z f) (E : Exa Z h a ad) (hfit : ∀ i, i < z.toNatClampNeg → fits ty (f i) = true) {g : JFrame} (hg : g.method = m) (hsize : g.locals.size = c.maxLocals) {rest : List Value} (hst : g.stack = .ref a :: rest) (hd : decode c.code g.pc = .ok (.invokevirtual index, 3))
    (hf : 1 ≤ R.frames) {W cap : Nat} (hW : 2 * g.monitorRoom + (rest.map fun v => v.category).sum ≤ W) (hl : W + 14 ≤ R.locals) (hcap : z.toNatClampNeg ≤ cap) (hc : cells + 1 ≤ R.cells) (hsl : slots + cap ≤ R.slots) :
    ∃ T' h', Stand p l e R s m args below meth c T' locs (cells + 1) (slots + cap) ∧ T'.heap = h' ∧ Ext h h' ∧ OArr Z h' h.size ty z f ∧ Exa Z h' h.size ad ∧
      ∀ target, Steps p.tables e below (T'.setTop { g with pc := g.pc + 3, stack := .ref h.size :: rest }) target → Steps p.tables e below (T.setTop g) target := by
  obtain ⟨cl, A, S, r, G⟩ := F
  have FC : FitC Z cl := fitC_of A fun i hi v hv => by
    rw [G i hi] at hv; cases hv; exact hfit i (by rw [← S]; exact hi)
  obtain ⟨T', h', X', e', ex, A', E', st⟩ := cloneA X hx hZ hown w1 w2 w3 w4 w5 w6 eT A E FC hg hsize hst hd hf hW hl (by rw [S]; exact hcap) hc hsl
  exact ⟨T', h', X', e', ex, ⟨cloneOf cl, A', S, r, G⟩, E', st⟩
theorem oCopy (X : Stand p l e R s m args below meth c T locs cells slots) (hx : p.tables.exec = Jvm.exec) (hZ : Z.Warmed39 s.vm) {own : String} {index : Nat} (hown : s.vm.findClass own = some m.cls)
    (w1 : (Jvm.Cond.methodLink own index arraycopyName).before a0 Z = true) (w2 : (Jvm.Cond.native arraycopyName).before a0 Z = true) (w3 : (Jvm.Cond.static arraycopyName).before a0 Z = true) (w4 : (Jvm.Cond.initialized "java/lang/System").before a0 Z = true)
    (eT : T.heap = h) {za zb : Int32} {fb : Nat → Value} (Fa : OArr Z h a ty za f) (Fb : OArr Z h b ty zb fb) (hty : refKind ty = false) (hfit : ∀ i, i < za.toNatClampNeg → fits ty (f i) = true)
    {sp dp n : Int32} (h1 : 0 ≤ sp.toInt) (h2 : 0 ≤ dp.toInt) (h3 : 0 ≤ n.toInt) (h4 : sp.toInt + n.toInt ≤ za.toInt) (h5 : dp.toInt + n.toInt ≤ zb.toInt)
    {g : JFrame} (hg : g.method = m) (hsize : g.locals.size = c.maxLocals) {rest : List Value} (hst : g.stack = .int n :: .int dp :: .ref b :: .int sp :: .ref a :: rest) (hd : decode c.code g.pc = .ok (.invokestatic index, 3))
    (hf : 1 ≤ R.frames) (hl : 2 * g.monitorRoom + (rest.map fun v => v.category).sum + (nativeFrameWords "java/lang/System" "arraycopy" 5 + 11) ≤ R.locals) :
    ∃ T' h' L, Stand p l e R s m args below meth c T' (locs ++ L) cells slots ∧ T'.heap = h' ∧ Keep h h' [b] ∧ OArr Z h' b ty zb (fun i => if dp.toNatClampNeg ≤ i ∧ i < dp.toNatClampNeg + n.toNatClampNeg then f (sp.toNatClampNeg + (i - dp.toNatClampNeg)) else fb i) ∧ (∀ y ∈ L, y.base = b) ∧
      ∀ target, Steps p.tables e below (T'.setTop { g with pc := g.pc + 3, stack := rest }) target → Steps p.tables e below (T.setTop g) target := by
  obtain ⟨ca, Aa, Sa, ra, Ga⟩ := Fa
  obtain ⟨cb, Ab, Sb, rb, Gb⟩ := Fb
  subst eT
  obtain ⟨hsa, ka, hka, compa, hkinda⟩ := State.isArrayOf_alike hZ.alike Aa.2.1
  obtain ⟨hsb, kb, hkb, compb, hkindb⟩ := State.isArrayOf_alike hZ.alike Ab.2.1
  have e0 : (0 : Int32).toInt = 0 := by decide
  have ea : (ca.slots.size : Int) = za.toInt := by
    have := oNlt ra
    rw [Sa]; show (za.toInt.toNat : Int) = _; omega
  have eb : (cb.slots.size : Int) = zb.toInt := by
    have := oNlt rb
    rw [Sb]; show (zb.toInt.toNat : Int) = _; omega
  have es : (sp.toNatClampNeg : Int) = sp.toInt := by show (sp.toInt.toNat : Int) = _; omega
  have ed : (dp.toNatClampNeg : Int) = dp.toInt := by show (dp.toInt.toNat : Int) = _; omega
  have en : (n.toNatClampNeg : Int) = n.toInt := by show (n.toInt.toNat : Int) = _; omega
  have hv : ∀ i, i < n.toNatClampNeg → ca.slots.getD (sp.toNatClampNeg + i) .null = f (sp.toNatClampNeg + i) := fun i hi => by
    rw [Array.getD_eq_getD_getElem?, Ga _ (by omega)]; rfl
  obtain ⟨vm', X', st⟩ := X.arraycopy hx hown (mvT hZ w1) (mvT hZ w2) (mvT hZ w3) (mvT hZ w4) (src := a) (dst := b) (srcPos := sp) (destPos := dp) (n := n) Aa.1 Ab.1 hsa hsb Aa.2.2 Ab.2.2 hka hkb hkinda hkindb (by simp [hty]) (mNlt (by omega)) (mNlt (by omega)) (mNlt (by omega)) (by omega) (by omega)
    (fun vm₁ _ i hi => by
      have q := hfit (sp.toNatClampNeg + i) (by rw [← Sa]; omega)
      rw [hv i hi]
      refine ⟨q, ?_⟩
      cases hq : f (sp.toNatClampNeg + i) with
      | ref y => rw [hq] at q; cases ty <;> first | (cases hty; done) | (cases q; done)
      | _ => trivial) hg hsize hst hd hf hl
  obtain ⟨f1, f2, f3, -, -⟩ := Cell.storeRun_facts cb dp.toNatClampNeg (ca.stretch sp.toNatClampNeg n.toNatClampNeg)
  have hlen : (ca.stretch sp.toNatClampNeg n.toNatClampNeg).length = n.toNatClampNeg := Cell.stretch_length ..
  have hself : ((T.setVm vm').setCell b (copied ca cb sp dp n)).heap[b]? = some (copied ca cb sp dp n) := State.heap_setCell_self (show (T.setVm vm').heap[b]? = some cb from Ab.1)
  refine ⟨_, _, _, X', rfl, ⟨?_, ?_, ?_⟩, ⟨copied ca cb sp dp n, ⟨hself, ?_, ?_⟩, ?_, rb, ?_⟩, ?_, st⟩
  · exact Nat.le_of_eq (by simp [State.setCell, State.setVm])
  · intro x cx hx' hn
    rw [State.heap_setCell_other (fun q => hn (by rw [q]; exact List.mem_singleton.mpr rfl))]; exact hx'
  · intro x cx hx'
    by_cases q : b = x
    · subst q; rw [Ab.1] at hx'; cases hx'; exact ⟨_, hself, f1, f2, f3⟩
    · exact ⟨cx, by rw [State.heap_setCell_other q]; exact hx', rfl, rfl, rfl⟩
  · obtain ⟨u1, k1, u2, comp, u3⟩ := Ab.2.1
    exact ⟨fun k => by show (cb.storeRun _ _).vm ≠ _; rw [f2]; exact u1 k, k1, by show Z.vm.classes[(cb.storeRun _ _).cls]? = _; rw [f1]; exact u2, comp, u3⟩
  · show (cb.storeRun _ _).vm ≠ _
    rw [f2]; exact Ab.2.2
  · show (cb.storeRun _ _).slots.size = _
    rw [f3]; exact Sb
  · intro i hi
    have hi' : i < cb.slots.size := by
      have hi : i < (cb.storeRun dp.toNatClampNeg (ca.stretch sp.toNatClampNeg n.toNatClampNeg)).slots.size := hi
      rw [f3] at hi; exact hi
    show (cb.storeRun dp.toNatClampNeg (ca.stretch sp.toNatClampNeg n.toNatClampNeg)).slots[i]? = _
    rw [Cell.storeRun_get _ _ _ _ (by rw [hlen]; omega), hlen]
    dsimp only
    by_cases q : dp.toNatClampNeg ≤ i ∧ i < dp.toNatClampNeg + n.toNatClampNeg
    · rw [if_pos q, if_pos q, ← hv _ (by omega)]
      simp [Cell.stretch, show i - dp.toNatClampNeg < n.toNatClampNeg by omega]
    · rw [if_neg q, if_neg q]; exact Gb i hi'
  · intro y hy
    obtain ⟨q, _, rfl⟩ := List.mem_map.mp hy; rfl
end OArrs
/-- from a case's equation to the value -/
theorem oEqv {f s : State} {o : Option Outcome} {idx : List Nat} {a b : Term} (h : (Jvm.Cond.eq a b).value args f o s idx = some true) : ∃ x, a.eval args f o idx s = some x ∧ b.eval args f o idx s = some x := by
  obtain ⟨x, y, h1, h2, -, -⟩ := cmp_v (Or.inl h)
  cases x <;> cases y <;> simp [Cond.value, h1, h2] at h <;> first | (subst h; exact ⟨_, h1, h2⟩) | exact ⟨_, h1, h2⟩
theorem oFeq {s : State} {t u : Term} {x : Addr} {C n d : String} {w : Value} (ht : t.eval args s none [] s = some (.ref x)) (h : (Jvm.Cond.eq (.field t C n d) u).value args s none s [] = some true) (hu : u.eval args s none [] s = some w) : s.fieldOf? x C n d = some w := by
  obtain ⟨v, h1, h2⟩ := oEqv h
  rw [fld_at ht] at h1
  rw [h1, ← h2, hu]
theorem oNot {d : Jvm.Cond} {f s : State} {o : Option Outcome} {idx : List Nat} (h : (Jvm.Cond.not d).value args f o s idx = some true) (h2 : d.value args f o s idx = some true) : False := by
  rw [Cond.value, h2] at h
  cases h
end OwnKit
def Stt (Z : State) (h : Heap) (cs : Int32) (fm : Value) : Prop := Sta Z h "java/lang/String" "COMPACT_STRINGS" "Z" (.int cs) ∧ Sta Z h "java/lang/StringUTF16" "$assertionsDisabled" "Z" (.int 1) ∧ Sta Z h "java/lang/StringUTF16" "HI_BYTE_SHIFT" "I" (.int 0) ∧ Sta Z h "java/lang/StringUTF16" "LO_BYTE_SHIFT" "I" (.int 8) ∧ Sta Z h "jdk/internal/util/Preconditions" "SIOOBE_FORMATTER" "Ljava/util/function/BiFunction;" fm
theorem Stt.s1 {Z : State} {h : Heap} {cs : Int32} {fm : Value} (F : Stt Z h cs fm) : Sta Z h "java/lang/String" "COMPACT_STRINGS" "Z" (.int cs) := F.1
theorem Stt.s2 {Z : State} {h : Heap} {cs : Int32} {fm : Value} (F : Stt Z h cs fm) : Sta Z h "java/lang/StringUTF16" "$assertionsDisabled" "Z" (.int 1) := F.2.1
theorem Stt.s3 {Z : State} {h : Heap} {cs : Int32} {fm : Value} (F : Stt Z h cs fm) : Sta Z h "java/lang/StringUTF16" "HI_BYTE_SHIFT" "I" (.int 0) := F.2.2.1
theorem Stt.s4 {Z : State} {h : Heap} {cs : Int32} {fm : Value} (F : Stt Z h cs fm) : Sta Z h "java/lang/StringUTF16" "LO_BYTE_SHIFT" "I" (.int 8) := F.2.2.2.1
theorem Stt.s5 {Z : State} {h : Heap} {cs : Int32} {fm : Value} (F : Stt Z h cs fm) : Sta Z h "jdk/internal/util/Preconditions" "SIOOBE_FORMATTER" "Ljava/util/function/BiFunction;" fm := F.2.2.2.2
theorem Stt.ext {Z : State} {h h' : Heap} {cs : Int32} {fm : Value} (F : Stt Z h cs fm) (E : Ext h h') : Stt Z h' cs fm := ⟨F.s1.ext E, F.s2.ext E, F.s3.ext E, F.s4.ext E, F.s5.ext E⟩
theorem Stt.wr {Z : State} {h h' : Heap} {cs : Int32} {fm : Value} {a : Addr} {sl : Nat} {v : Value} (F : Stt Z h cs fm) (W : Wr h h' a sl v) : Stt Z h' cs fm := ⟨F.s1.wr W, F.s2.wr W, F.s3.wr W, F.s4.wr W, F.s5.wr W⟩
def own_lo (c : Int32) : Int32 := (c >>> ((0 : Int32) &&& 31)).toInt8.toInt32
def own_hi (c : Int32) : Int32 := (c >>> ((8 : Int32) &&& 31)).toInt8.toInt32
def own_l (f : Nat → Int32) (k : Nat) : Int32 := (f k).toInt8.toInt32
def own_b (f : Nat → Int32) (k : Nat) : Int32 := if k % 2 = 0 then own_lo (f (k / 2)) else own_hi (f (k / 2))
theorem own_b0 (f : Nat → Int32) (n : Nat) : own_b f (2 * n) = own_lo (f n) := by
  unfold own_b; rw [if_pos (by omega), show 2 * n / 2 = n by omega]
theorem own_b1 (f : Nat → Int32) (n : Nat) : own_b f (2 * n + 1) = own_hi (f n) := by
  unfold own_b; rw [if_neg (by omega), show (2 * n + 1) / 2 = n by omega]
theorem own_m255 (x : Int32) : (x &&& (255 : Int32)).toInt = x.toInt % 256 := c_mask x 255 8 (by decide) (by decide)
theorem own_comb (c : Int32) (h : 0 ≤ c.toInt ∧ c.toInt < 65536) : ((((own_lo c) &&& (255 : Int32)) <<< ((0 : Int32) &&& 31)) ||| (((own_hi c) &&& (255 : Int32)) <<< ((8 : Int32) &&& 31))).toUInt32.toUInt16.toUInt32.toInt32 = c := by
  apply Int32.toInt_inj.mp
  have a1 : (c >>> ((0 : Int32) &&& 31)).toInt = c.toInt / 1 := c_ishr c 0 0 (by decide)
  have a2 : (c >>> ((8 : Int32) &&& 31)).toInt = c.toInt / 256 := c_ishr c 8 8 (by decide)
  have b1 := c_i2b (c >>> ((0 : Int32) &&& 31)); have b2 := c_i2b (c >>> ((8 : Int32) &&& 31))
  unfold own_lo own_hi
  generalize (c >>> ((0 : Int32) &&& 31)).toInt8.toInt32 = A at *
  generalize (c >>> ((8 : Int32) &&& 31)).toInt8.toInt32 = B at *
  have c1 := own_m255 A; have c2 := own_m255 B
  generalize (A &&& (255 : Int32)) = A1 at *
  generalize (B &&& (255 : Int32)) = B1 at *
  have d1 : ((A1 <<< ((0 : Int32) &&& 31)).toInt - A1.toInt * 1) % 4294967296 = 0 := c_ishl A1 0 0 (by decide)
  have d2 : ((B1 <<< ((8 : Int32) &&& 31)).toInt - B1.toInt * 256) % 4294967296 = 0 := c_ishl B1 8 8 (by decide)
  have r1 := rng32 (A1 <<< ((0 : Int32) &&& 31)); have r2 := rng32 (B1 <<< ((8 : Int32) &&& 31))
  generalize (A1 <<< ((0 : Int32) &&& 31)) = A2 at *
  generalize (B1 <<< ((8 : Int32) &&& 31)) = B2 at *
  have e1 := c_or' A2 B2 8 (by decide) 256 (by decide) (by omega) (by omega) (by omega)
  have e2 := c_i2c (A2 ||| B2); have r3 := rng32 (A2 ||| B2)
  omega
theorem own_lat (c : Int32) (h : 0 ≤ c.toInt ∧ c.toInt < 256) : (c.toInt8.toInt32 &&& (255 : Int32)).toUInt32.toUInt16.toUInt32.toInt32 = c := by
  apply Int32.toInt_inj.mp
  have b1 := c_i2b c; have c1 := own_m255 c.toInt8.toInt32; have e2 := c_i2c (c.toInt8.toInt32 &&& (255 : Int32))
  omega
def own_dg (c : Int32) : Int32 := if c < (48 : Int32) then 0 else if (57 : Int32) < c then 0 else 1
def own_run (f : Nat → Int32) : Nat → Nat → Nat
  | 0, _ => 0
  | k + 1, j => if own_dg (f j) = 0 then 0 else own_run f k (j + 1) + 1
def own_res (r few most : Int32) : Int32 := if r < few then 0 else if most < r then 0 else 1
def own_at (p r few most : Int32) : Int32 := if own_res r few most = 0 then p else p + r
theorem own_dg01 (c : Int32) : own_dg c = 0 ∨ own_dg c = 1 := by unfold own_dg; split; exact Or.inl rfl; split; exact Or.inl rfl; exact Or.inr rfl
theorem own_res01 (r few most : Int32) : own_res r few most = 0 ∨ own_res r few most = 1 := by unfold own_res; split; exact Or.inl rfl; split; exact Or.inl rfl; exact Or.inr rfl
theorem own_zdg (c : Int32) : nar .boolean (own_dg c) = own_dg c := by rcases own_dg01 c with h | h <;> rw [h] <;> rfl
def own_f (c0 c1 c2 c3 : Int32) (k : Nat) : Int32 := if k = 0 then c0 else if k = 1 then c1 else if k = 2 then c2 else c3
def Ch (f : Nat → Int32) : Prop := ∀ k, 0 ≤ (f k).toInt ∧ (f k).toInt < 65536
def Lat (f : Nat → Int32) : Prop := ¬ (255 : Int32) < f 0 ∧ ¬ (255 : Int32) < f 1 ∧ ¬ (255 : Int32) < f 2 ∧ ¬ (255 : Int32) < f 3
theorem Lat.le {f : Nat → Int32} (h : Lat f) (hc : Ch f) (k : Nat) (hk : k < 4) : 0 ≤ (f k).toInt ∧ (f k).toInt < 256 := by
  have l : (255 : Int32).toInt = 255 := by decide
  have := (hc k).1
  match k, hk with
  | 0, _ => have := oNlt h.1; omega
  | 1, _ => have := oNlt h.2.1; omega
  | 2, _ => have := oNlt h.2.2.1; omega
  | 3, _ => have := oNlt h.2.2.2; omega
/-- a String of four chars: Latin-1, or UTF-16 -/
def Str0 (Z : State) (h : Heap) (a : Addr) (f : Nat → Int32) : Prop := ∃ v : Addr, Exa Z h a "java/lang/String" ∧ Fld Z h a "java/lang/String" "value" "[B" (.ref v) ∧ Fld Z h a "java/lang/String" "coder" "B" (.int 0) ∧ OArr Z h v .byte 4 (fun k => .int (own_l f k)) ∧ Lat f
def Str1 (Z : State) (h : Heap) (a : Addr) (f : Nat → Int32) : Prop := ∃ v : Addr, Exa Z h a "java/lang/String" ∧ Fld Z h a "java/lang/String" "value" "[B" (.ref v) ∧ Fld Z h a "java/lang/String" "coder" "B" (.int 1) ∧ OArr Z h v .byte 8 (fun k => .int (own_b f k))
def Str4 (Z : State) (h : Heap) (a : Addr) (f : Nat → Int32) : Prop := Str0 Z h a f ∨ Str1 Z h a f
theorem Str4.exa {Z : State} {h : Heap} {a : Addr} {f : Nat → Int32} (S : Str4 Z h a f) : Exa Z h a "java/lang/String" := by
  rcases S with ⟨v, E, -⟩ | ⟨v, E, -⟩ <;> exact E
theorem Str4.ext {Z : State} {h h' : Heap} {a : Addr} {f : Nat → Int32} (S : Str4 Z h a f) (X : Ext h h') : Str4 Z h' a f := by
  rcases S with ⟨v, E, F, G, A, l⟩ | ⟨v, E, F, G, A⟩
  · exact Or.inl ⟨v, E.ext X, F.ext X, G.ext X, A.ext X, l⟩
  · exact Or.inr ⟨v, E.ext X, F.ext X, G.ext X, A.ext X⟩
theorem Str4.keep {Z : State} {h h' : Heap} {a b : Addr} {f : Nat → Int32} {C : String} {k : Nat} {a0 : Array Value} (S : Str4 Z h a f) (K : Keep h h' [b]) (E' : Exa Z h b C) (w : (Jvm.Cond.instantiable C k).before a0 Z = true) (q : a ≠ b) : Str4 Z h' a f := by
  rcases S with ⟨v, E, F, G, A, l⟩ | ⟨v, E, F, G, A⟩
  · exact Or.inl ⟨v, E.keep K, F.keep K (ninS q nin0), G.keep K (ninS q nin0), A.keep K (ninS (oNeA E' w A).symm nin0), l⟩
  · exact Or.inr ⟨v, E.keep K, F.keep K (ninS q nin0), G.keep K (ninS q nin0), A.keep K (ninS (oNeA E' w A).symm nin0)⟩
theorem own_d_jdk_52_method_6_code_0 : decode jdk_52_method_6_code 0 = .ok (.aload_n 0, 1) := by decide +kernel
theorem own_d_jdk_52_method_6_code_1 : decode jdk_52_method_6_code 1 = .ok (.arraylength, 1) := by decide +kernel
theorem own_d_jdk_52_method_6_code_2 : decode jdk_52_method_6_code 2 = .ok (.iconst 1, 1) := by decide +kernel
theorem own_d_jdk_52_method_6_code_3 : decode jdk_52_method_6_code 3 = .ok (.ishr, 1) := by decide +kernel
theorem own_d_jdk_52_method_6_code_4 : decode jdk_52_method_6_code 4 = .ok (.ireturn, 1) := by decide +kernel
theorem own_pn_java_lang_StringUTF16 : plainName "java/lang/StringUTF16" = true := by first | (simp [plainName, overriddenIn]; done) | decide +kernel
theorem own_ef_rmUL (x0 : Addr) (m : MethodId) : entryFrame m #[(.ref x0)] 1 = mkF m 0 #[.val (.ref x0)] [] := by first | (simp [entryFrame, mkF, argsToLocals, Value.category]; done) | rfl
set_option maxRecDepth 65536 in
set_option maxHeartbeats 40000000 in
theorem rmUL (l : Launch) (Z : State) (a0 : Array Value) (hw : ∀ d ∈ tables_1, d.before a0 Z = true) (v' : Addr) (h0 : Heap) (n0 : Nat) (Z0 : n0 ≤ h0.size) (gf : Nat → Value) (A : OArr Z h0 v' .byte 8 gf) :
    OCon l Z (⟨"java/lang/StringUTF16", "length", "([B)I"⟩ : MethodName) jdk_52_method_6_code 1 (some .int) ({ frames := 0, cells := 0, slots := 0, locals := 0 } : Room) #[(.ref v')] h0 (fun v h L => v = some (.int (4 : Int32)) ∧ Fr n0 L ∧ h = h0) := by
  refine OConK.intro (y := (⟨"java/lang/StringUTF16", "length", "([B)I"⟩ : MethodName)) (plainFor_of_name own_pn_java_lang_StringUTF16) (own_ef_rmUL v') ?_
  intro p e s m below meth c s₁ hx hby hml hown hnm hret hlk hZ X0 e0
  show OGoal p e below s _ _ _ (s₁.setTop (mkF m 0 #[.val (.ref v')] []))
  refine OGoal.mp (S' := (s₁.setTop (mkF m 1 #[.val (.ref v')] [(.ref v')]))) (fun _ k => XS.aloadN X0.here hx rfl (hb hby own_d_jdk_52_method_6_code_0) rfl rfl k) ?_
  refine OGoal.mp (S' := (s₁.setTop (mkF m 2 #[.val (.ref v')] [(.int (8 : Int32))]))) (fun _ k => oLen X0 hx hZ e0 A (g := mkF m 1 #[.val (.ref v')] [(.ref v')]) rfl rfl (hb hby own_d_jdk_52_method_6_code_1) k) ?_
  refine OGoal.mp (S' := (s₁.setTop (mkF m 3 #[.val (.ref v')] [(.int (1 : Int32)), (.int (8 : Int32))]))) (fun _ k => XS.iconst X0.here hx rfl (hb hby own_d_jdk_52_method_6_code_2) k) ?_
  refine OGoal.mp (S' := (s₁.setTop (mkF m 4 #[.val (.ref v')] [(.int ((8 : Int32) >>> ((1 : Int32) &&& 31)))]))) (fun _ k => XT.ishr X0.here hx rfl (hb hby own_d_jdk_52_method_6_code_3) rfl k) ?_
  rw [show ((8 : Int32) >>> ((1 : Int32) &&& 31)) = (4 : Int32) by decide]
  show OGoal p e below s _ _ _ (s₁.setTop (mkF m 4 #[.val (.ref v')] [(.int (4 : Int32))]))
  refine oRetI X0 hx hlk hret (hb hby own_d_jdk_52_method_6_code_4) ?_ (by decide) (by decide)
  exact ⟨rfl, (Fr.nil n0), e0⟩
theorem own_d_jdk_41_method_11_code_0 : decode jdk_41_method_11_code 0 = .ok (.iload_n 0, 1) := by decide +kernel
theorem own_d_jdk_41_method_11_code_1 : decode jdk_41_method_11_code 1 = .ok (.ifCond .lt 8, 3) := by decide +kernel
theorem own_d_jdk_41_method_11_code_4 : decode jdk_41_method_11_code 4 = .ok (.iload_n 0, 1) := by decide +kernel
theorem own_d_jdk_41_method_11_code_5 : decode jdk_41_method_11_code 5 = .ok (.iload_n 1, 1) := by decide +kernel
theorem own_d_jdk_41_method_11_code_6 : decode jdk_41_method_11_code 6 = .ok (.if_icmp .lt 10, 3) := by decide +kernel
theorem own_d_jdk_41_method_11_code_16 : decode jdk_41_method_11_code 16 = .ok (.iload_n 0, 1) := by decide +kernel
theorem own_d_jdk_41_method_11_code_17 : decode jdk_41_method_11_code 17 = .ok (.ireturn, 1) := by decide +kernel
theorem own_pn_jdk_internal_util_Preconditions : plainName "jdk/internal/util/Preconditions" = true := by first | (simp [plainName, overriddenIn]; done) | decide +kernel
theorem own_ef_rmPC0 (x0 : Int32) (x1 : Int32) (m : MethodId) : entryFrame m #[(.int x0), (.int x1), .null] 3 = mkF m 0 #[.val (.int x0), .val (.int x1), .val .null] [] := by first | (simp [entryFrame, mkF, argsToLocals, Value.category]; done) | rfl
set_option maxRecDepth 65536 in
set_option maxHeartbeats 40000000 in
theorem rmPC0 (l : Launch) (Z : State) (a0 : Array Value) (hw : ∀ d ∈ tables_1, d.before a0 Z = true) (i n : Int32) (h0 : Heap) (n0 : Nat) (Z0 : n0 ≤ h0.size) (hi0 : 0 ≤ i.toInt) (hi1 : i.toInt < n.toInt) :
    OCon l Z (⟨"jdk/internal/util/Preconditions", "checkIndex", "(IILjava/util/function/BiFunction;)I"⟩ : MethodName) jdk_41_method_11_code 3 (some .int) ({ frames := 0, cells := 0, slots := 0, locals := 0 } : Room) #[(.int i), (.int n), .null] h0 (fun v h L => v = some (.int i) ∧ Fr n0 L ∧ h = h0) := by
  refine OConK.intro (y := (⟨"jdk/internal/util/Preconditions", "checkIndex", "(IILjava/util/function/BiFunction;)I"⟩ : MethodName)) (plainFor_of_name own_pn_jdk_internal_util_Preconditions) (own_ef_rmPC0 i n) ?_
  intro p e s m below meth c s₁ hx hby hml hown hnm hret hlk hZ X0 e0
  show OGoal p e below s _ _ _ (s₁.setTop (mkF m 0 #[.val (.int i), .val (.int n), .val .null] []))
  refine OGoal.mp (S' := (s₁.setTop (mkF m 1 #[.val (.int i), .val (.int n), .val .null] [(.int i)]))) (fun _ k => XS.iloadN X0.here hx rfl (hb hby own_d_jdk_41_method_11_code_0) rfl k) ?_
  refine OGoal.mp (S' := (s₁.setTop (mkF m 4 #[.val (.int i), .val (.int n), .val .null] []))) (fun _ k => XS.ifNo X0.here hx rfl (hb hby own_d_jdk_41_method_11_code_1) rfl (XT.i0_lt_f (mNlt (by rw [show (0 : Int32).toInt = 0 by decide]; exact hi0))) k) ?_
  refine OGoal.mp (S' := (s₁.setTop (mkF m 5 #[.val (.int i), .val (.int n), .val .null] [(.int i)]))) (fun _ k => XS.iloadN X0.here hx rfl (hb hby own_d_jdk_41_method_11_code_4) rfl k) ?_
  refine OGoal.mp (S' := (s₁.setTop (mkF m 6 #[.val (.int i), .val (.int n), .val .null] [(.int n), (.int i)]))) (fun _ k => XS.iloadN X0.here hx rfl (hb hby own_d_jdk_41_method_11_code_5) rfl k) ?_
  refine OGoal.mp (S' := (s₁.setTop (mkF m 16 #[.val (.int i), .val (.int n), .val .null] []))) (fun _ k => XS.icmpYes X0.here hx rfl (pc0 := 6) (pc' := 16) rfl (hb hby own_d_jdk_41_method_11_code_6) rfl (XT.ii_lt_t (mLt hi1)) (by decide) (by decide) k) ?_
  refine OGoal.mp (S' := (s₁.setTop (mkF m 17 #[.val (.int i), .val (.int n), .val .null] [(.int i)]))) (fun _ k => XS.iloadN X0.here hx rfl (hb hby own_d_jdk_41_method_11_code_16) rfl k) ?_
  refine oRetI X0 hx hlk hret (hb hby own_d_jdk_41_method_11_code_17) ?_ (by decide) (by decide)
  exact ⟨rfl, (Fr.nil n0), e0⟩
theorem own_ef_rmPC1 (x0 : Int32) (x1 : Int32) (x2 : Addr) (m : MethodId) : entryFrame m #[(.int x0), (.int x1), (.ref x2)] 3 = mkF m 0 #[.val (.int x0), .val (.int x1), .val (.ref x2)] [] := by first | (simp [entryFrame, mkF, argsToLocals, Value.category]; done) | rfl
set_option maxRecDepth 65536 in
set_option maxHeartbeats 40000000 in
theorem rmPC1 (l : Launch) (Z : State) (a0 : Array Value) (hw : ∀ d ∈ tables_1, d.before a0 Z = true) (i n : Int32) (fa : Addr) (h0 : Heap) (n0 : Nat) (Z0 : n0 ≤ h0.size) (hi0 : 0 ≤ i.toInt) (hi1 : i.toInt < n.toInt) :
    OCon l Z (⟨"jdk/internal/util/Preconditions", "checkIndex", "(IILjava/util/function/BiFunction;)I"⟩ : MethodName) jdk_41_method_11_code 3 (some .int) ({ frames := 0, cells := 0, slots := 0, locals := 0 } : Room) #[(.int i), (.int n), (.ref fa)] h0 (fun v h L => v = some (.int i) ∧ Fr n0 L ∧ h = h0) := by
  refine OConK.intro (y := (⟨"jdk/internal/util/Preconditions", "checkIndex", "(IILjava/util/function/BiFunction;)I"⟩ : MethodName)) (plainFor_of_name own_pn_jdk_internal_util_Preconditions) (own_ef_rmPC1 i n fa) ?_
  intro p e s m below meth c s₁ hx hby hml hown hnm hret hlk hZ X0 e0
  show OGoal p e below s _ _ _ (s₁.setTop (mkF m 0 #[.val (.int i), .val (.int n), .val (.ref fa)] []))
  refine OGoal.mp (S' := (s₁.setTop (mkF m 1 #[.val (.int i), .val (.int n), .val (.ref fa)] [(.int i)]))) (fun _ k => XS.iloadN X0.here hx rfl (hb hby own_d_jdk_41_method_11_code_0) rfl k) ?_
  refine OGoal.mp (S' := (s₁.setTop (mkF m 4 #[.val (.int i), .val (.int n), .val (.ref fa)] []))) (fun _ k => XS.ifNo X0.here hx rfl (hb hby own_d_jdk_41_method_11_code_1) rfl (XT.i0_lt_f (mNlt (by rw [show (0 : Int32).toInt = 0 by decide]; exact hi0))) k) ?_
  refine OGoal.mp (S' := (s₁.setTop (mkF m 5 #[.val (.int i), .val (.int n), .val (.ref fa)] [(.int i)]))) (fun _ k => XS.iloadN X0.here hx rfl (hb hby own_d_jdk_41_method_11_code_4) rfl k) ?_
  refine OGoal.mp (S' := (s₁.setTop (mkF m 6 #[.val (.int i), .val (.int n), .val (.ref fa)] [(.int n), (.int i)]))) (fun _ k => XS.iloadN X0.here hx rfl (hb hby own_d_jdk_41_method_11_code_5) rfl k) ?_
  refine OGoal.mp (S' := (s₁.setTop (mkF m 16 #[.val (.int i), .val (.int n), .val (.ref fa)] []))) (fun _ k => XS.icmpYes X0.here hx rfl (pc0 := 6) (pc' := 16) rfl (hb hby own_d_jdk_41_method_11_code_6) rfl (XT.ii_lt_t (mLt hi1)) (by decide) (by decide) k) ?_
  refine OGoal.mp (S' := (s₁.setTop (mkF m 17 #[.val (.int i), .val (.int n), .val (.ref fa)] [(.int i)]))) (fun _ k => XS.iloadN X0.here hx rfl (hb hby own_d_jdk_41_method_11_code_16) rfl k) ?_
  refine oRetI X0 hx hlk hret (hb hby own_d_jdk_41_method_11_code_17) ?_ (by decide) (by decide)
  exact ⟨rfl, (Fr.nil n0), e0⟩
set_option maxRecDepth 65536 in
set_option maxHeartbeats 40000000 in
theorem rmPC (l : Launch) (Z : State) (a0 : Array Value) (hw : ∀ d ∈ tables_1, d.before a0 Z = true) (i n : Int32) (fm : Value) (h0 : Heap) (n0 : Nat) (Z0 : n0 ≤ h0.size) (hfm : fm.isRef = true) (hi0 : 0 ≤ i.toInt) (hi1 : i.toInt < n.toInt) :
    OCon l Z (⟨"jdk/internal/util/Preconditions", "checkIndex", "(IILjava/util/function/BiFunction;)I"⟩ : MethodName) jdk_41_method_11_code 3 (some .int) ({ frames := 0, cells := 0, slots := 0, locals := 0 } : Room) #[(.int i), (.int n), fm] h0 (fun v h L => v = some (.int i) ∧ Fr n0 L ∧ h = h0) := by
  cases fm with
  | null => exact rmPC0 l Z a0 hw i n h0 n0 Z0 hi0 hi1
  | ref fa => exact rmPC1 l Z a0 hw i n fa h0 n0 Z0 hi0 hi1
  | _ => cases hfm
theorem own_d_jdk_42_method_155_code_0 : decode jdk_42_method_155_code 0 = .ok (.iload_n 0, 1) := by decide +kernel
theorem own_d_jdk_42_method_155_code_1 : decode jdk_42_method_155_code 1 = .ok (.iload_n 1, 1) := by decide +kernel
theorem own_d_jdk_42_method_155_code_2 : decode jdk_42_method_155_code 2 = .ok (.getstatic 1053, 3) := by decide +kernel
theorem own_d_jdk_42_method_155_code_5 : decode jdk_42_method_155_code 5 = .ok (.invokestatic 1059, 3) := by decide +kernel
theorem own_pd__IILjava_util_function_BiFunction__I : parseMethodDescriptor "(IILjava/util/function/BiFunction;)I" = some ⟨[.int, .int, (.object "java/util/function/BiFunction")], some .int⟩ := by decide +kernel
theorem own_d_jdk_42_method_155_code_8 : decode jdk_42_method_155_code 8 = .ok (.pop, 1) := by decide +kernel
theorem own_d_jdk_42_method_155_code_9 : decode jdk_42_method_155_code 9 = .ok (.return_, 1) := by decide +kernel
theorem own_pn_java_lang_String : plainName "java/lang/String" = true := by first | (simp [plainName, overriddenIn]; done) | decide +kernel
theorem own_ef_rmSC (x0 : Int32) (x1 : Int32) (m : MethodId) : entryFrame m #[(.int x0), (.int x1)] 2 = mkF m 0 #[.val (.int x0), .val (.int x1)] [] := by first | (simp [entryFrame, mkF, argsToLocals, Value.category]; done) | rfl
set_option maxRecDepth 65536 in
set_option maxHeartbeats 40000000 in
theorem rmSC (l : Launch) (Z : State) (a0 : Array Value) (hw : ∀ d ∈ tables_1, d.before a0 Z = true) (i n : Int32) (h0 : Heap) (n0 : Nat) (Z0 : n0 ≤ h0.size) (cs : Int32) (fm : Value) (hcs : ¬ cs = 0) (hfm : fm.isRef = true) (St : Stt Z h0 cs fm) (hi0 : 0 ≤ i.toInt) (hi1 : i.toInt < n.toInt) :
    OCon l Z (⟨"java/lang/String", "checkIndex", "(II)V"⟩ : MethodName) jdk_42_method_155_code 2 none ({ frames := 1, cells := 0, slots := 0, locals := 14 } : Room) #[(.int i), (.int n)] h0 (fun v h L => v = none ∧ Fr n0 L ∧ h = h0) := by
  refine OConK.intro (y := (⟨"java/lang/String", "checkIndex", "(II)V"⟩ : MethodName)) (plainFor_of_name own_pn_java_lang_String) (own_ef_rmSC i n) ?_
  intro p e s m below meth c s₁ hx hby hml hown hnm hret hlk hZ X0 e0
  show OGoal p e below s _ _ _ (s₁.setTop (mkF m 0 #[.val (.int i), .val (.int n)] []))
  refine OGoal.mp (S' := (s₁.setTop (mkF m 1 #[.val (.int i), .val (.int n)] [(.int i)]))) (fun _ k => XS.iloadN X0.here hx rfl (hb hby own_d_jdk_42_method_155_code_0) rfl k) ?_
  refine OGoal.mp (S' := (s₁.setTop (mkF m 2 #[.val (.int i), .val (.int n)] [(.int n), (.int i)]))) (fun _ k => XS.iloadN X0.here hx rfl (hb hby own_d_jdk_42_method_155_code_1) rfl k) ?_
  obtain ⟨T1, X2, e3, st4⟩ := getS X0 hx hZ hown (host := "") (hw _ (List.mem_of_getElem? (i := 80) rfl)) Via.refl e0 St.s5 (g := mkF m 2 #[.val (.int i), .val (.int n)] [(.int n), (.int i)]) rfl (hb hby own_d_jdk_42_method_155_code_2)
  refine OGoal.mp (S' := (T1.setTop (mkF m 5 #[.val (.int i), .val (.int n)] [fm, (.int n), (.int i)]))) (fun _ k => st4 _ k) ?_
  refine oCallS (y := (⟨"jdk/internal/util/Preconditions", "checkIndex", "(IILjava/util/function/BiFunction;)I"⟩ : MethodName)) X2 hx hZ hown (hw _ (List.mem_of_getElem? (i := 82) rfl)) (hw _ (List.mem_of_getElem? (i := 83) rfl)) (hw _ (List.mem_of_getElem? (i := 81) rfl)) (hw _ (List.mem_of_getElem? (i := 84) rfl)) (by decide) (rmPC l Z a0 hw i n fm h0 n0 Z0 hfm hi0 hi1) e3 [(.int i), (.int n), fm] [] rfl rfl (by rw [hml]; rfl) (lenOf own_pd__IILjava_util_function_BiFunction__I rfl) 0 (Nat.le_of_eq rfl) (by decide) (by decide) (by decide) (by decide) (hb hby own_d_jdk_42_method_155_code_5) ?_
  intro v5 T6 L7 X8 q9
  obtain ⟨rfl, N10, e11⟩ := q9
  have N12 := Fr.app (Fr.nil n0) N10
  show OGoal p e below s _ _ _ (T6.setTop (mkF m 8 #[.val (.int i), .val (.int n)] [(.int i)]))
  refine OGoal.mp (S' := (T6.setTop (mkF m 9 #[.val (.int i), .val (.int n)] []))) (fun _ k => XT.pop X8.here hx rfl (hb hby own_d_jdk_42_method_155_code_8) rfl rfl k) ?_
  refine oRetV X8 hx hlk hret (hb hby own_d_jdk_42_method_155_code_9) ?_ (by decide) (by decide)
  exact ⟨rfl, N12, e11⟩
theorem own_d_jdk_52_method_91_code_0 : decode jdk_52_method_91_code 0 = .ok (.iload_n 0, 1) := by decide +kernel
theorem own_d_jdk_52_method_91_code_1 : decode jdk_52_method_91_code 1 = .ok (.aload_n 1, 1) := by decide +kernel
theorem own_d_jdk_52_method_91_code_2 : decode jdk_52_method_91_code 2 = .ok (.invokestatic 48, 3) := by decide +kernel
theorem own_pd___B_I : parseMethodDescriptor "([B)I" = some ⟨[(.array .byte)], some .int⟩ := by decide +kernel
theorem own_d_jdk_52_method_91_code_5 : decode jdk_52_method_91_code 5 = .ok (.invokestatic 414, 3) := by decide +kernel
theorem own_pd__II_V : parseMethodDescriptor "(II)V" = some ⟨[.int, .int], none⟩ := by decide +kernel
theorem own_d_jdk_52_method_91_code_8 : decode jdk_52_method_91_code 8 = .ok (.return_, 1) := by decide +kernel
theorem own_ef_rmUC (x0 : Int32) (x1 : Addr) (m : MethodId) : entryFrame m #[(.int x0), (.ref x1)] 2 = mkF m 0 #[.val (.int x0), .val (.ref x1)] [] := by first | (simp [entryFrame, mkF, argsToLocals, Value.category]; done) | rfl
set_option maxRecDepth 65536 in
set_option maxHeartbeats 40000000 in
theorem rmUC (l : Launch) (Z : State) (a0 : Array Value) (hw : ∀ d ∈ tables_1, d.before a0 Z = true) (i : Int32) (v' : Addr) (h0 : Heap) (n0 : Nat) (Z0 : n0 ≤ h0.size) (cs : Int32) (fm : Value) (hcs : ¬ cs = 0) (hfm : fm.isRef = true) (St : Stt Z h0 cs fm) (gf : Nat → Value) (A : OArr Z h0 v' .byte 8 gf) (hi0 : 0 ≤ i.toInt) (hi1 : i.toInt < 4) :
    OCon l Z (⟨"java/lang/StringUTF16", "checkIndex", "(I[B)V"⟩ : MethodName) jdk_52_method_91_code 2 none ({ frames := 2, cells := 0, slots := 0, locals := 27 } : Room) #[(.int i), (.ref v')] h0 (fun v h L => v = none ∧ Fr n0 L ∧ h = h0) := by
  refine OConK.intro (y := (⟨"java/lang/StringUTF16", "checkIndex", "(I[B)V"⟩ : MethodName)) (plainFor_of_name own_pn_java_lang_StringUTF16) (own_ef_rmUC i v') ?_
  intro p e s m below meth c s₁ hx hby hml hown hnm hret hlk hZ X0 e0
  show OGoal p e below s _ _ _ (s₁.setTop (mkF m 0 #[.val (.int i), .val (.ref v')] []))
  refine OGoal.mp (S' := (s₁.setTop (mkF m 1 #[.val (.int i), .val (.ref v')] [(.int i)]))) (fun _ k => XS.iloadN X0.here hx rfl (hb hby own_d_jdk_52_method_91_code_0) rfl k) ?_
  refine OGoal.mp (S' := (s₁.setTop (mkF m 2 #[.val (.int i), .val (.ref v')] [(.ref v'), (.int i)]))) (fun _ k => XS.aloadN X0.here hx rfl (hb hby own_d_jdk_52_method_91_code_1) rfl rfl k) ?_
  refine oCallS (y := (⟨"java/lang/StringUTF16", "length", "([B)I"⟩ : MethodName)) X0 hx hZ hown (hw _ (List.mem_of_getElem? (i := 126) rfl)) (hw _ (List.mem_of_getElem? (i := 127) rfl)) (hw _ (List.mem_of_getElem? (i := 22) rfl)) (hw _ (List.mem_of_getElem? (i := 128) rfl)) (by decide) (rmUL l Z a0 hw v' h0 n0 Z0 gf A) e0 [(.ref v')] [(.int i)] rfl rfl (by rw [hml]; rfl) (lenOf own_pd___B_I rfl) 1 (Nat.le_of_eq rfl) (by decide) (by decide) (by decide) (by decide) (hb hby own_d_jdk_52_method_91_code_2) ?_
  intro v1 T2 L3 X4 q5
  obtain ⟨rfl, N6, e7⟩ := q5
  have N8 := Fr.app (Fr.nil n0) N6
  show OGoal p e below s _ _ _ (T2.setTop (mkF m 5 #[.val (.int i), .val (.ref v')] [(.int (4 : Int32)), (.int i)]))
  refine oCallS (y := (⟨"java/lang/String", "checkIndex", "(II)V"⟩ : MethodName)) X4 hx hZ hown (hw _ (List.mem_of_getElem? (i := 129) rfl)) (hw _ (List.mem_of_getElem? (i := 78) rfl)) (hw _ (List.mem_of_getElem? (i := 8) rfl)) (hw _ (List.mem_of_getElem? (i := 79) rfl)) (by decide) (rmSC l Z a0 hw i (4 : Int32) h0 n0 Z0 cs fm hcs hfm St hi0 (Int.lt_of_lt_of_le hi1 (by decide))) e7 [(.int i), (.int (4 : Int32))] [] rfl rfl (by rw [hml]; rfl) (lenOf own_pd__II_V rfl) 0 (Nat.le_of_eq rfl) (by decide) (by decide) (by decide) (by decide) (hb hby own_d_jdk_52_method_91_code_5) ?_
  intro v9 T10 L11 X12 q13
  obtain ⟨rfl, N14, e15⟩ := q13
  have N16 := Fr.app N8 N14
  show OGoal p e below s _ _ _ (T10.setTop (mkF m 8 #[.val (.int i), .val (.ref v')] []))
  refine oRetV X12 hx hlk hret (hb hby own_d_jdk_52_method_91_code_8) ?_ (by decide) (by decide)
  exact ⟨rfl, N16, e15⟩
theorem own_d_jdk_52_method_5_code_0 : decode jdk_52_method_5_code 0 = .ok (.getstatic 44, 3) := by decide +kernel
theorem own_d_jdk_52_method_5_code_3 : decode jdk_52_method_5_code 3 = .ok (.ifCond .ne 25, 3) := by decide +kernel
theorem own_d_jdk_52_method_5_code_28 : decode jdk_52_method_5_code 28 = .ok (.iload_n 1, 1) := by decide +kernel
theorem own_d_jdk_52_method_5_code_29 : decode jdk_52_method_5_code 29 = .ok (.iconst 1, 1) := by decide +kernel
theorem own_d_jdk_52_method_5_code_30 : decode jdk_52_method_5_code 30 = .ok (.ishl, 1) := by decide +kernel
theorem own_d_jdk_52_method_5_code_31 : decode jdk_52_method_5_code 31 = .ok (.istore_n 1, 1) := by decide +kernel
theorem own_d_jdk_52_method_5_code_32 : decode jdk_52_method_5_code 32 = .ok (.aload_n 0, 1) := by decide +kernel
theorem own_d_jdk_52_method_5_code_33 : decode jdk_52_method_5_code 33 = .ok (.iload_n 1, 1) := by decide +kernel
theorem own_d_jdk_52_method_5_code_34 : decode jdk_52_method_5_code 34 = .ok (.iinc 1 1, 3) := by decide +kernel
theorem own_d_jdk_52_method_5_code_37 : decode jdk_52_method_5_code 37 = .ok (.baload, 1) := by decide +kernel
theorem own_d_jdk_52_method_5_code_38 : decode jdk_52_method_5_code 38 = .ok (.sipush 255, 3) := by decide +kernel
theorem own_d_jdk_52_method_5_code_41 : decode jdk_52_method_5_code 41 = .ok (.iand, 1) := by decide +kernel
theorem own_d_jdk_52_method_5_code_42 : decode jdk_52_method_5_code 42 = .ok (.getstatic 59, 3) := by decide +kernel
theorem own_d_jdk_52_method_5_code_45 : decode jdk_52_method_5_code 45 = .ok (.ishl, 1) := by decide +kernel
theorem own_d_jdk_52_method_5_code_46 : decode jdk_52_method_5_code 46 = .ok (.aload_n 0, 1) := by decide +kernel
theorem own_d_jdk_52_method_5_code_47 : decode jdk_52_method_5_code 47 = .ok (.iload_n 1, 1) := by decide +kernel
theorem own_d_jdk_52_method_5_code_48 : decode jdk_52_method_5_code 48 = .ok (.baload, 1) := by decide +kernel
theorem own_d_jdk_52_method_5_code_49 : decode jdk_52_method_5_code 49 = .ok (.sipush 255, 3) := by decide +kernel
theorem own_d_jdk_52_method_5_code_52 : decode jdk_52_method_5_code 52 = .ok (.iand, 1) := by decide +kernel
theorem own_d_jdk_52_method_5_code_53 : decode jdk_52_method_5_code 53 = .ok (.getstatic 63, 3) := by decide +kernel
theorem own_d_jdk_52_method_5_code_56 : decode jdk_52_method_5_code 56 = .ok (.ishl, 1) := by decide +kernel
theorem own_d_jdk_52_method_5_code_57 : decode jdk_52_method_5_code 57 = .ok (.ior, 1) := by decide +kernel
theorem own_d_jdk_52_method_5_code_58 : decode jdk_52_method_5_code 58 = .ok (.i2c, 1) := by decide +kernel
theorem own_d_jdk_52_method_5_code_59 : decode jdk_52_method_5_code 59 = .ok (.ireturn, 1) := by decide +kernel
theorem own_ef_rmGC (x0 : Addr) (x1 : Int32) (m : MethodId) : entryFrame m #[(.ref x0), (.int x1)] 2 = mkF m 0 #[.val (.ref x0), .val (.int x1)] [] := by first | (simp [entryFrame, mkF, argsToLocals, Value.category]; done) | rfl
set_option maxRecDepth 65536 in
set_option maxHeartbeats 40000000 in
theorem rmGC (l : Launch) (Z : State) (a0 : Array Value) (hw : ∀ d ∈ tables_1, d.before a0 Z = true) (v' : Addr) (i : Int32) (h0 : Heap) (n0 : Nat) (Z0 : n0 ≤ h0.size) (cs : Int32) (fm : Value) (hcs : ¬ cs = 0) (hfm : fm.isRef = true) (St : Stt Z h0 cs fm) (f : Nat → Int32) (hC : Ch f) (A : OArr Z h0 v' .byte 8 (fun k => .int (own_b f k))) (hi0 : 0 ≤ i.toInt) (hi1 : i.toInt < 4) :
    OCon l Z (⟨"java/lang/StringUTF16", "getChar", "([BI)C"⟩ : MethodName) jdk_52_method_5_code 2 (some .char) ({ frames := 0, cells := 0, slots := 0, locals := 0 } : Room) #[(.ref v'), (.int i)] h0 (fun v h L => v = some (.int (f i.toInt.toNat)) ∧ Fr n0 L ∧ h = h0) := by
  refine OConK.intro (y := (⟨"java/lang/StringUTF16", "getChar", "([BI)C"⟩ : MethodName)) (plainFor_of_name own_pn_java_lang_StringUTF16) (own_ef_rmGC v' i) ?_
  intro p e s m below meth c s₁ hx hby hml hown hnm hret hlk hZ X0 e0
  show OGoal p e below s _ _ _ (s₁.setTop (mkF m 0 #[.val (.ref v'), .val (.int i)] []))
  obtain ⟨T1, X2, e3, st4⟩ := getS X0 hx hZ hown (host := "") (hw _ (List.mem_of_getElem? (i := 114) rfl)) Via.refl e0 St.s2 (g := mkF m 0 #[.val (.ref v'), .val (.int i)] []) rfl (hb hby own_d_jdk_52_method_5_code_0)
  refine OGoal.mp (S' := (T1.setTop (mkF m 3 #[.val (.ref v'), .val (.int i)] [(.int (1 : Int32))]))) (fun _ k => st4 _ k) ?_
  refine OGoal.mp (S' := (T1.setTop (mkF m 28 #[.val (.ref v'), .val (.int i)] []))) (fun _ k => XS.ifYes X2.here hx rfl (pc0 := 3) (pc' := 28) rfl (hb hby own_d_jdk_52_method_5_code_3) rfl (XT.i0_ne_t (by decide)) (by decide) (by decide) k) ?_
  refine OGoal.mp (S' := (T1.setTop (mkF m 29 #[.val (.ref v'), .val (.int i)] [(.int i)]))) (fun _ k => XS.iloadN X2.here hx rfl (hb hby own_d_jdk_52_method_5_code_28) rfl k) ?_
  refine OGoal.mp (S' := (T1.setTop (mkF m 30 #[.val (.ref v'), .val (.int i)] [(.int (1 : Int32)), (.int i)]))) (fun _ k => XS.iconst X2.here hx rfl (hb hby own_d_jdk_52_method_5_code_29) k) ?_
  refine OGoal.mp (S' := (T1.setTop (mkF m 31 #[.val (.ref v'), .val (.int i)] [(.int (i <<< ((1 : Int32) &&& 31)))]))) (fun _ k => XT.ishl X2.here hx rfl (hb hby own_d_jdk_52_method_5_code_30) rfl k) ?_
  obtain ⟨u5, hu5⟩ : ∃ z : Int32, z = (i <<< ((1 : Int32) &&& 31)) := ⟨_, rfl⟩
  rw [← hu5]
  have hu : u5.toInt = 2 * i.toInt := by have q1 := c_ishl i 1 1 (by decide); have q2 := rng32 (i <<< ((1 : Int32) &&& 31)); rw [hu5]; omega
  refine OGoal.mp (S' := (T1.setTop (mkF m 32 #[.val (.ref v'), .val (.int u5)] []))) (fun _ k => XS.istoreN X2.here hx rfl (hb hby own_d_jdk_52_method_5_code_31) rfl (l' := #[.val (.ref v'), .val (.int u5)]) rfl k) ?_
  refine OGoal.mp (S' := (T1.setTop (mkF m 33 #[.val (.ref v'), .val (.int u5)] [(.ref v')]))) (fun _ k => XS.aloadN X2.here hx rfl (hb hby own_d_jdk_52_method_5_code_32) rfl rfl k) ?_
  refine OGoal.mp (S' := (T1.setTop (mkF m 34 #[.val (.ref v'), .val (.int u5)] [(.int u5), (.ref v')]))) (fun _ k => XS.iloadN X2.here hx rfl (hb hby own_d_jdk_52_method_5_code_33) rfl k) ?_
  refine OGoal.mp (S' := (T1.setTop (mkF m 37 #[.val (.ref v'), .val (.int (u5 + (1 : Int32)))] [(.int u5), (.ref v')]))) (fun _ k => XT.iincV X2.here hx rfl (1 : Int32) (hb hby own_d_jdk_52_method_5_code_34) rfl rfl (l' := #[.val (.ref v'), .val (.int (u5 + (1 : Int32)))]) rfl k) ?_
  have hu2 : (u5 + (1 : Int32)).toInt = 2 * i.toInt + 1 := by have q1 := c_iadd u5 1; have q2 := rng32 (u5 + (1 : Int32)); rw [show (1 : Int32).toInt = 1 by decide] at q1; omega
  refine OGoal.mp (S' := (T1.setTop (mkF m 38 #[.val (.ref v'), .val (.int (u5 + (1 : Int32)))] [(.int (own_lo (f i.toInt.toNat)))]))) (fun _ k => oLdB X2 hx hZ e3 A (by omega) (by rw [show (8 : Int32).toInt = 8 by decide]; omega) (by show Value.int (own_b f (u5).toInt.toNat) = _; rw [show (u5).toInt.toNat = 2 * i.toInt.toNat by omega, own_b0]) (g := mkF m 37 #[.val (.ref v'), .val (.int (u5 + (1 : Int32)))] [(.int u5), (.ref v')]) rfl rfl (hb hby own_d_jdk_52_method_5_code_37) k) ?_
  refine OGoal.mp (S' := (T1.setTop (mkF m 41 #[.val (.ref v'), .val (.int (u5 + (1 : Int32)))] [(.int (255 : Int32)), (.int (own_lo (f i.toInt.toNat)))]))) (fun _ k => XS.sipush X2.here hx rfl (hb hby own_d_jdk_52_method_5_code_38) k) ?_
  refine OGoal.mp (S' := (T1.setTop (mkF m 42 #[.val (.ref v'), .val (.int (u5 + (1 : Int32)))] [(.int ((own_lo (f i.toInt.toNat)) &&& (255 : Int32)))]))) (fun _ k => XS.iand X2.here hx rfl (hb hby own_d_jdk_52_method_5_code_41) rfl k) ?_
  obtain ⟨T6, X7, e8, st9⟩ := getS X2 hx hZ hown (host := "") (hw _ (List.mem_of_getElem? (i := 115) rfl)) Via.refl e3 St.s3 (g := mkF m 42 #[.val (.ref v'), .val (.int (u5 + (1 : Int32)))] [(.int ((own_lo (f i.toInt.toNat)) &&& (255 : Int32)))]) rfl (hb hby own_d_jdk_52_method_5_code_42)
  refine OGoal.mp (S' := (T6.setTop (mkF m 45 #[.val (.ref v'), .val (.int (u5 + (1 : Int32)))] [(.int (0 : Int32)), (.int ((own_lo (f i.toInt.toNat)) &&& (255 : Int32)))]))) (fun _ k => st9 _ k) ?_
  refine OGoal.mp (S' := (T6.setTop (mkF m 46 #[.val (.ref v'), .val (.int (u5 + (1 : Int32)))] [(.int (((own_lo (f i.toInt.toNat)) &&& (255 : Int32)) <<< ((0 : Int32) &&& 31)))]))) (fun _ k => XT.ishl X7.here hx rfl (hb hby own_d_jdk_52_method_5_code_45) rfl k) ?_
  refine OGoal.mp (S' := (T6.setTop (mkF m 47 #[.val (.ref v'), .val (.int (u5 + (1 : Int32)))] [(.ref v'), (.int (((own_lo (f i.toInt.toNat)) &&& (255 : Int32)) <<< ((0 : Int32) &&& 31)))]))) (fun _ k => XS.aloadN X7.here hx rfl (hb hby own_d_jdk_52_method_5_code_46) rfl rfl k) ?_
  refine OGoal.mp (S' := (T6.setTop (mkF m 48 #[.val (.ref v'), .val (.int (u5 + (1 : Int32)))] [(.int (u5 + (1 : Int32))), (.ref v'), (.int (((own_lo (f i.toInt.toNat)) &&& (255 : Int32)) <<< ((0 : Int32) &&& 31)))]))) (fun _ k => XS.iloadN X7.here hx rfl (hb hby own_d_jdk_52_method_5_code_47) rfl k) ?_
  refine OGoal.mp (S' := (T6.setTop (mkF m 49 #[.val (.ref v'), .val (.int (u5 + (1 : Int32)))] [(.int (own_hi (f i.toInt.toNat))), (.int (((own_lo (f i.toInt.toNat)) &&& (255 : Int32)) <<< ((0 : Int32) &&& 31)))]))) (fun _ k => oLdB X7 hx hZ e8 A (by omega) (by rw [show (8 : Int32).toInt = 8 by decide]; omega) (by show Value.int (own_b f ((u5 + (1 : Int32))).toInt.toNat) = _; rw [show ((u5 + (1 : Int32))).toInt.toNat = 2 * i.toInt.toNat + 1 by omega, own_b1]) (g := mkF m 48 #[.val (.ref v'), .val (.int (u5 + (1 : Int32)))] [(.int (u5 + (1 : Int32))), (.ref v'), (.int (((own_lo (f i.toInt.toNat)) &&& (255 : Int32)) <<< ((0 : Int32) &&& 31)))]) rfl rfl (hb hby own_d_jdk_52_method_5_code_48) k) ?_
  refine OGoal.mp (S' := (T6.setTop (mkF m 52 #[.val (.ref v'), .val (.int (u5 + (1 : Int32)))] [(.int (255 : Int32)), (.int (own_hi (f i.toInt.toNat))), (.int (((own_lo (f i.toInt.toNat)) &&& (255 : Int32)) <<< ((0 : Int32) &&& 31)))]))) (fun _ k => XS.sipush X7.here hx rfl (hb hby own_d_jdk_52_method_5_code_49) k) ?_
  refine OGoal.mp (S' := (T6.setTop (mkF m 53 #[.val (.ref v'), .val (.int (u5 + (1 : Int32)))] [(.int ((own_hi (f i.toInt.toNat)) &&& (255 : Int32))), (.int (((own_lo (f i.toInt.toNat)) &&& (255 : Int32)) <<< ((0 : Int32) &&& 31)))]))) (fun _ k => XS.iand X7.here hx rfl (hb hby own_d_jdk_52_method_5_code_52) rfl k) ?_
  obtain ⟨T10, X11, e12, st13⟩ := getS X7 hx hZ hown (host := "") (hw _ (List.mem_of_getElem? (i := 116) rfl)) Via.refl e8 St.s4 (g := mkF m 53 #[.val (.ref v'), .val (.int (u5 + (1 : Int32)))] [(.int ((own_hi (f i.toInt.toNat)) &&& (255 : Int32))), (.int (((own_lo (f i.toInt.toNat)) &&& (255 : Int32)) <<< ((0 : Int32) &&& 31)))]) rfl (hb hby own_d_jdk_52_method_5_code_53)
  refine OGoal.mp (S' := (T10.setTop (mkF m 56 #[.val (.ref v'), .val (.int (u5 + (1 : Int32)))] [(.int (8 : Int32)), (.int ((own_hi (f i.toInt.toNat)) &&& (255 : Int32))), (.int (((own_lo (f i.toInt.toNat)) &&& (255 : Int32)) <<< ((0 : Int32) &&& 31)))]))) (fun _ k => st13 _ k) ?_
  refine OGoal.mp (S' := (T10.setTop (mkF m 57 #[.val (.ref v'), .val (.int (u5 + (1 : Int32)))] [(.int (((own_hi (f i.toInt.toNat)) &&& (255 : Int32)) <<< ((8 : Int32) &&& 31))), (.int (((own_lo (f i.toInt.toNat)) &&& (255 : Int32)) <<< ((0 : Int32) &&& 31)))]))) (fun _ k => XT.ishl X11.here hx rfl (hb hby own_d_jdk_52_method_5_code_56) rfl k) ?_
  refine OGoal.mp (S' := (T10.setTop (mkF m 58 #[.val (.ref v'), .val (.int (u5 + (1 : Int32)))] [(.int ((((own_lo (f i.toInt.toNat)) &&& (255 : Int32)) <<< ((0 : Int32) &&& 31)) ||| (((own_hi (f i.toInt.toNat)) &&& (255 : Int32)) <<< ((8 : Int32) &&& 31))))]))) (fun _ k => XT.ior X11.here hx rfl (hb hby own_d_jdk_52_method_5_code_57) rfl k) ?_
  refine OGoal.mp (S' := (T10.setTop (mkF m 59 #[.val (.ref v'), .val (.int (u5 + (1 : Int32)))] [(.int ((((((own_lo (f i.toInt.toNat)) &&& (255 : Int32)) <<< ((0 : Int32) &&& 31)) ||| (((own_hi (f i.toInt.toNat)) &&& (255 : Int32)) <<< ((8 : Int32) &&& 31)))).toUInt32.toUInt16.toUInt32.toInt32))]))) (fun _ k => XT.i2c X11.here hx rfl (hb hby own_d_jdk_52_method_5_code_58) rfl k) ?_
  rw [own_comb _ (hC _)]
  show OGoal p e below s _ _ _ (T10.setTop (mkF m 59 #[.val (.ref v'), .val (.int (u5 + (1 : Int32)))] [(.int (f i.toInt.toNat))]))
  refine oRetC X11 hx hlk hret (hC _) (hb hby own_d_jdk_52_method_5_code_59) ?_ (by decide) (by decide)
  exact ⟨rfl, (Fr.nil n0), e12⟩
theorem own_d_jdk_52_method_83_code_0 : decode jdk_52_method_83_code 0 = .ok (.iload_n 1, 1) := by decide +kernel
theorem own_d_jdk_52_method_83_code_1 : decode jdk_52_method_83_code 1 = .ok (.aload_n 0, 1) := by decide +kernel
theorem own_d_jdk_52_method_83_code_2 : decode jdk_52_method_83_code 2 = .ok (.invokestatic 67, 3) := by decide +kernel
theorem own_pd__I_B_V : parseMethodDescriptor "(I[B)V" = some ⟨[.int, (.array .byte)], none⟩ := by decide +kernel
theorem own_d_jdk_52_method_83_code_5 : decode jdk_52_method_83_code 5 = .ok (.aload_n 0, 1) := by decide +kernel
theorem own_d_jdk_52_method_83_code_6 : decode jdk_52_method_83_code 6 = .ok (.iload_n 1, 1) := by decide +kernel
theorem own_d_jdk_52_method_83_code_7 : decode jdk_52_method_83_code 7 = .ok (.invokestatic 71, 3) := by decide +kernel
theorem own_pd___BI_C : parseMethodDescriptor "([BI)C" = some ⟨[(.array .byte), .int], some .char⟩ := by decide +kernel
theorem own_d_jdk_52_method_83_code_10 : decode jdk_52_method_83_code 10 = .ok (.ireturn, 1) := by decide +kernel
theorem own_ef_rmUA (x0 : Addr) (x1 : Int32) (m : MethodId) : entryFrame m #[(.ref x0), (.int x1)] 2 = mkF m 0 #[.val (.ref x0), .val (.int x1)] [] := by first | (simp [entryFrame, mkF, argsToLocals, Value.category]; done) | rfl
set_option maxRecDepth 65536 in
set_option maxHeartbeats 40000000 in
theorem rmUA (l : Launch) (Z : State) (a0 : Array Value) (hw : ∀ d ∈ tables_1, d.before a0 Z = true) (v' : Addr) (i : Int32) (h0 : Heap) (n0 : Nat) (Z0 : n0 ≤ h0.size) (cs : Int32) (fm : Value) (hcs : ¬ cs = 0) (hfm : fm.isRef = true) (St : Stt Z h0 cs fm) (f : Nat → Int32) (hC : Ch f) (A : OArr Z h0 v' .byte 8 (fun k => .int (own_b f k))) (hi0 : 0 ≤ i.toInt) (hi1 : i.toInt < 4) :
    OCon l Z (⟨"java/lang/StringUTF16", "charAt", "([BI)C"⟩ : MethodName) jdk_52_method_83_code 2 (some .char) ({ frames := 3, cells := 0, slots := 0, locals := 40 } : Room) #[(.ref v'), (.int i)] h0 (fun v h L => v = some (.int (f i.toInt.toNat)) ∧ Fr n0 L ∧ h = h0) := by
  refine OConK.intro (y := (⟨"java/lang/StringUTF16", "charAt", "([BI)C"⟩ : MethodName)) (plainFor_of_name own_pn_java_lang_StringUTF16) (own_ef_rmUA v' i) ?_
  intro p e s m below meth c s₁ hx hby hml hown hnm hret hlk hZ X0 e0
  show OGoal p e below s _ _ _ (s₁.setTop (mkF m 0 #[.val (.ref v'), .val (.int i)] []))
  refine OGoal.mp (S' := (s₁.setTop (mkF m 1 #[.val (.ref v'), .val (.int i)] [(.int i)]))) (fun _ k => XS.iloadN X0.here hx rfl (hb hby own_d_jdk_52_method_83_code_0) rfl k) ?_
  refine OGoal.mp (S' := (s₁.setTop (mkF m 2 #[.val (.ref v'), .val (.int i)] [(.ref v'), (.int i)]))) (fun _ k => XS.aloadN X0.here hx rfl (hb hby own_d_jdk_52_method_83_code_1) rfl rfl k) ?_
  refine oCallS (y := (⟨"java/lang/StringUTF16", "checkIndex", "(I[B)V"⟩ : MethodName)) X0 hx hZ hown (hw _ (List.mem_of_getElem? (i := 123) rfl)) (hw _ (List.mem_of_getElem? (i := 124) rfl)) (hw _ (List.mem_of_getElem? (i := 22) rfl)) (hw _ (List.mem_of_getElem? (i := 125) rfl)) (by decide) (rmUC l Z a0 hw i v' h0 n0 Z0 cs fm hcs hfm St _ A hi0 hi1) e0 [(.int i), (.ref v')] [] rfl rfl (by rw [hml]; rfl) (lenOf own_pd__I_B_V rfl) 0 (Nat.le_of_eq rfl) (by decide) (by decide) (by decide) (by decide) (hb hby own_d_jdk_52_method_83_code_2) ?_
  intro v1 T2 L3 X4 q5
  obtain ⟨rfl, N6, e7⟩ := q5
  have N8 := Fr.app (Fr.nil n0) N6
  show OGoal p e below s _ _ _ (T2.setTop (mkF m 5 #[.val (.ref v'), .val (.int i)] []))
  refine OGoal.mp (S' := (T2.setTop (mkF m 6 #[.val (.ref v'), .val (.int i)] [(.ref v')]))) (fun _ k => XS.aloadN X4.here hx rfl (hb hby own_d_jdk_52_method_83_code_5) rfl rfl k) ?_
  refine OGoal.mp (S' := (T2.setTop (mkF m 7 #[.val (.ref v'), .val (.int i)] [(.int i), (.ref v')]))) (fun _ k => XS.iloadN X4.here hx rfl (hb hby own_d_jdk_52_method_83_code_6) rfl k) ?_
  refine oCallS (y := (⟨"java/lang/StringUTF16", "getChar", "([BI)C"⟩ : MethodName)) X4 hx hZ hown (hw _ (List.mem_of_getElem? (i := 117) rfl)) (hw _ (List.mem_of_getElem? (i := 118) rfl)) (hw _ (List.mem_of_getElem? (i := 22) rfl)) (hw _ (List.mem_of_getElem? (i := 119) rfl)) (by decide) (rmGC l Z a0 hw v' i h0 n0 Z0 cs fm hcs hfm St f hC A hi0 hi1) e7 [(.ref v'), (.int i)] [] rfl rfl (by rw [hml]; rfl) (lenOf own_pd___BI_C rfl) 0 (Nat.le_of_eq rfl) (by decide) (by decide) (by decide) (by decide) (hb hby own_d_jdk_52_method_83_code_7) ?_
  intro v9 T10 L11 X12 q13
  obtain ⟨rfl, N14, e15⟩ := q13
  have N16 := Fr.app N8 N14
  show OGoal p e below s _ _ _ (T10.setTop (mkF m 10 #[.val (.ref v'), .val (.int i)] [(.int (f i.toInt.toNat))]))
  refine oRetC X12 hx hlk hret (hC _) (hb hby own_d_jdk_52_method_83_code_10) ?_ (by decide) (by decide)
  exact ⟨rfl, N16, e15⟩
theorem own_d_jdk_43_method_2_code_0 : decode jdk_43_method_2_code 0 = .ok (.iload_n 1, 1) := by decide +kernel
theorem own_d_jdk_43_method_2_code_1 : decode jdk_43_method_2_code 1 = .ok (.aload_n 0, 1) := by decide +kernel
theorem own_d_jdk_43_method_2_code_2 : decode jdk_43_method_2_code 2 = .ok (.arraylength, 1) := by decide +kernel
theorem own_d_jdk_43_method_2_code_3 : decode jdk_43_method_2_code 3 = .ok (.invokestatic 9, 3) := by decide +kernel
theorem own_d_jdk_43_method_2_code_6 : decode jdk_43_method_2_code 6 = .ok (.aload_n 0, 1) := by decide +kernel
theorem own_d_jdk_43_method_2_code_7 : decode jdk_43_method_2_code 7 = .ok (.iload_n 1, 1) := by decide +kernel
theorem own_d_jdk_43_method_2_code_8 : decode jdk_43_method_2_code 8 = .ok (.baload, 1) := by decide +kernel
theorem own_d_jdk_43_method_2_code_9 : decode jdk_43_method_2_code 9 = .ok (.sipush 255, 3) := by decide +kernel
theorem own_d_jdk_43_method_2_code_12 : decode jdk_43_method_2_code 12 = .ok (.iand, 1) := by decide +kernel
theorem own_d_jdk_43_method_2_code_13 : decode jdk_43_method_2_code 13 = .ok (.i2c, 1) := by decide +kernel
theorem own_d_jdk_43_method_2_code_14 : decode jdk_43_method_2_code 14 = .ok (.ireturn, 1) := by decide +kernel
theorem own_pn_java_lang_StringLatin1 : plainName "java/lang/StringLatin1" = true := by first | (simp [plainName, overriddenIn]; done) | decide +kernel
theorem own_ef_rmLA (x0 : Addr) (x1 : Int32) (m : MethodId) : entryFrame m #[(.ref x0), (.int x1)] 2 = mkF m 0 #[.val (.ref x0), .val (.int x1)] [] := by first | (simp [entryFrame, mkF, argsToLocals, Value.category]; done) | rfl
set_option maxRecDepth 65536 in
set_option maxHeartbeats 40000000 in
theorem rmLA (l : Launch) (Z : State) (a0 : Array Value) (hw : ∀ d ∈ tables_1, d.before a0 Z = true) (v' : Addr) (i : Int32) (h0 : Heap) (n0 : Nat) (Z0 : n0 ≤ h0.size) (cs : Int32) (fm : Value) (hcs : ¬ cs = 0) (hfm : fm.isRef = true) (St : Stt Z h0 cs fm) (f : Nat → Int32) (hC : Ch f) (A : OArr Z h0 v' .byte 4 (fun k => .int (own_l f k))) (hi0 : 0 ≤ i.toInt) (hi1 : i.toInt < 4) (hL : Lat f) :
    OCon l Z (⟨"java/lang/StringLatin1", "charAt", "([BI)C"⟩ : MethodName) jdk_43_method_2_code 2 (some .char) ({ frames := 2, cells := 0, slots := 0, locals := 27 } : Room) #[(.ref v'), (.int i)] h0 (fun v h L => v = some (.int (f i.toInt.toNat)) ∧ Fr n0 L ∧ h = h0) := by
  refine OConK.intro (y := (⟨"java/lang/StringLatin1", "charAt", "([BI)C"⟩ : MethodName)) (plainFor_of_name own_pn_java_lang_StringLatin1) (own_ef_rmLA v' i) ?_
  intro p e s m below meth c s₁ hx hby hml hown hnm hret hlk hZ X0 e0
  show OGoal p e below s _ _ _ (s₁.setTop (mkF m 0 #[.val (.ref v'), .val (.int i)] []))
  refine OGoal.mp (S' := (s₁.setTop (mkF m 1 #[.val (.ref v'), .val (.int i)] [(.int i)]))) (fun _ k => XS.iloadN X0.here hx rfl (hb hby own_d_jdk_43_method_2_code_0) rfl k) ?_
  refine OGoal.mp (S' := (s₁.setTop (mkF m 2 #[.val (.ref v'), .val (.int i)] [(.ref v'), (.int i)]))) (fun _ k => XS.aloadN X0.here hx rfl (hb hby own_d_jdk_43_method_2_code_1) rfl rfl k) ?_
  refine OGoal.mp (S' := (s₁.setTop (mkF m 3 #[.val (.ref v'), .val (.int i)] [(.int (4 : Int32)), (.int i)]))) (fun _ k => oLen X0 hx hZ e0 A (g := mkF m 2 #[.val (.ref v'), .val (.int i)] [(.ref v'), (.int i)]) rfl rfl (hb hby own_d_jdk_43_method_2_code_2) k) ?_
  refine oCallS (y := (⟨"java/lang/String", "checkIndex", "(II)V"⟩ : MethodName)) X0 hx hZ hown (hw _ (List.mem_of_getElem? (i := 77) rfl)) (hw _ (List.mem_of_getElem? (i := 78) rfl)) (hw _ (List.mem_of_getElem? (i := 8) rfl)) (hw _ (List.mem_of_getElem? (i := 79) rfl)) (by decide) (rmSC l Z a0 hw i (4 : Int32) h0 n0 Z0 cs fm hcs hfm St hi0 (Int.lt_of_lt_of_le hi1 (by decide))) e0 [(.int i), (.int (4 : Int32))] [] rfl rfl (by rw [hml]; rfl) (lenOf own_pd__II_V rfl) 0 (Nat.le_of_eq rfl) (by decide) (by decide) (by decide) (by decide) (hb hby own_d_jdk_43_method_2_code_3) ?_
  intro v1 T2 L3 X4 q5
  obtain ⟨rfl, N6, e7⟩ := q5
  have N8 := Fr.app (Fr.nil n0) N6
  show OGoal p e below s _ _ _ (T2.setTop (mkF m 6 #[.val (.ref v'), .val (.int i)] []))
  refine OGoal.mp (S' := (T2.setTop (mkF m 7 #[.val (.ref v'), .val (.int i)] [(.ref v')]))) (fun _ k => XS.aloadN X4.here hx rfl (hb hby own_d_jdk_43_method_2_code_6) rfl rfl k) ?_
  refine OGoal.mp (S' := (T2.setTop (mkF m 8 #[.val (.ref v'), .val (.int i)] [(.int i), (.ref v')]))) (fun _ k => XS.iloadN X4.here hx rfl (hb hby own_d_jdk_43_method_2_code_7) rfl k) ?_
  refine OGoal.mp (S' := (T2.setTop (mkF m 9 #[.val (.ref v'), .val (.int i)] [(.int (f i.toInt.toNat).toInt8.toInt32)]))) (fun _ k => oLdB X4 hx hZ e7 A hi0 (Int.lt_of_lt_of_le hi1 (by decide)) rfl (g := mkF m 8 #[.val (.ref v'), .val (.int i)] [(.int i), (.ref v')]) rfl rfl (hb hby own_d_jdk_43_method_2_code_8) k) ?_
  refine OGoal.mp (S' := (T2.setTop (mkF m 12 #[.val (.ref v'), .val (.int i)] [(.int (255 : Int32)), (.int (f i.toInt.toNat).toInt8.toInt32)]))) (fun _ k => XS.sipush X4.here hx rfl (hb hby own_d_jdk_43_method_2_code_9) k) ?_
  refine OGoal.mp (S' := (T2.setTop (mkF m 13 #[.val (.ref v'), .val (.int i)] [(.int ((f i.toInt.toNat).toInt8.toInt32 &&& (255 : Int32)))]))) (fun _ k => XS.iand X4.here hx rfl (hb hby own_d_jdk_43_method_2_code_12) rfl k) ?_
  refine OGoal.mp (S' := (T2.setTop (mkF m 14 #[.val (.ref v'), .val (.int i)] [(.int ((((f i.toInt.toNat).toInt8.toInt32 &&& (255 : Int32))).toUInt32.toUInt16.toUInt32.toInt32))]))) (fun _ k => XT.i2c X4.here hx rfl (hb hby own_d_jdk_43_method_2_code_13) rfl k) ?_
  rw [own_lat _ (hL.le hC _ (by omega))]
  show OGoal p e below s _ _ _ (T2.setTop (mkF m 14 #[.val (.ref v'), .val (.int i)] [(.int (f i.toInt.toNat))]))
  refine oRetC X4 hx hlk hret (hC _) (hb hby own_d_jdk_43_method_2_code_14) ?_ (by decide) (by decide)
  exact ⟨rfl, N8, e7⟩
theorem own_d_jdk_42_method_154_code_0 : decode jdk_42_method_154_code 0 = .ok (.getstatic 38, 3) := by decide +kernel
theorem own_d_jdk_42_method_154_code_3 : decode jdk_42_method_154_code 3 = .ok (.ifCond .eq 14, 3) := by decide +kernel
theorem own_d_jdk_42_method_154_code_6 : decode jdk_42_method_154_code 6 = .ok (.aload_n 0, 1) := by decide +kernel
theorem own_d_jdk_42_method_154_code_7 : decode jdk_42_method_154_code 7 = .ok (.getfield 15, 3) := by decide +kernel
theorem own_d_jdk_42_method_154_code_10 : decode jdk_42_method_154_code 10 = .ok (.ifCond .ne 7, 3) := by decide +kernel
theorem own_d_jdk_42_method_154_code_13 : decode jdk_42_method_154_code 13 = .ok (.iconst 1, 1) := by decide +kernel
theorem own_d_jdk_42_method_154_code_14 : decode jdk_42_method_154_code 14 = .ok (.goto 4, 3) := by decide +kernel
theorem own_d_jdk_42_method_154_code_18 : decode jdk_42_method_154_code 18 = .ok (.ireturn, 1) := by decide +kernel
theorem own_ef_rmIL0 (x0 : Addr) (m : MethodId) : entryFrame m #[(.ref x0)] 1 = mkF m 0 #[.val (.ref x0)] [] := by first | (simp [entryFrame, mkF, argsToLocals, Value.category]; done) | rfl
set_option maxRecDepth 65536 in
set_option maxHeartbeats 40000000 in
theorem rmIL0 (l : Launch) (Z : State) (a0 : Array Value) (hw : ∀ d ∈ tables_1, d.before a0 Z = true) (a : Addr) (h0 : Heap) (n0 : Nat) (Z0 : n0 ≤ h0.size) (cs : Int32) (fm : Value) (hcs : ¬ cs = 0) (hfm : fm.isRef = true) (St : Stt Z h0 cs fm) (v' : Addr) (E : Exa Z h0 a "java/lang/String") (Fv : Fld Z h0 a "java/lang/String" "value" "[B" (.ref v')) (Fc : Fld Z h0 a "java/lang/String" "coder" "B" (.int (0 : Int32)))  :
    OCon l Z (⟨"java/lang/String", "isLatin1", "()Z"⟩ : MethodName) jdk_42_method_154_code 1 (some .boolean) ({ frames := 0, cells := 0, slots := 0, locals := 0 } : Room) #[(.ref a)] h0 (fun v h L => v = some (.int (1 : Int32)) ∧ Fr n0 L ∧ h = h0) := by
  refine OConK.intro (y := (⟨"java/lang/String", "isLatin1", "()Z"⟩ : MethodName)) (plainFor_of_name own_pn_java_lang_String) (own_ef_rmIL0 a) ?_
  intro p e s m below meth c s₁ hx hby hml hown hnm hret hlk hZ X0 e0
  show OGoal p e below s _ _ _ (s₁.setTop (mkF m 0 #[.val (.ref a)] []))
  obtain ⟨T1, X2, e3, st4⟩ := getS X0 hx hZ hown (host := "") (hw _ (List.mem_of_getElem? (i := 19) rfl)) Via.refl e0 St.s1 (g := mkF m 0 #[.val (.ref a)] []) rfl (hb hby own_d_jdk_42_method_154_code_0)
  refine OGoal.mp (S' := (T1.setTop (mkF m 3 #[.val (.ref a)] [(.int cs)]))) (fun _ k => st4 _ k) ?_
  refine OGoal.mp (S' := (T1.setTop (mkF m 6 #[.val (.ref a)] []))) (fun _ k => XS.ifNo X2.here hx rfl (hb hby own_d_jdk_42_method_154_code_3) rfl (XT.i0_eq_f hcs) k) ?_
  refine OGoal.mp (S' := (T1.setTop (mkF m 7 #[.val (.ref a)] [(.ref a)]))) (fun _ k => XS.aloadN X2.here hx rfl (hb hby own_d_jdk_42_method_154_code_6) rfl rfl k) ?_
  obtain ⟨T5, X6, e7, st8⟩ := getF X2 hx hZ hown (host := "") (Or.inl (hw _ (List.mem_of_getElem? (i := 31) rfl))) Via.refl e3 Fc (g := mkF m 7 #[.val (.ref a)] [(.ref a)]) rfl rfl (hb hby own_d_jdk_42_method_154_code_7)
  refine OGoal.mp (S' := (T5.setTop (mkF m 10 #[.val (.ref a)] [(.int (0 : Int32))]))) (fun _ k => st8 _ k) ?_
  refine OGoal.mp (S' := (T5.setTop (mkF m 13 #[.val (.ref a)] []))) (fun _ k => XS.ifNo X6.here hx rfl (hb hby own_d_jdk_42_method_154_code_10) rfl (XT.i0_ne_f (by decide)) k) ?_
  refine OGoal.mp (S' := (T5.setTop (mkF m 14 #[.val (.ref a)] [(.int (1 : Int32))]))) (fun _ k => XS.iconst X6.here hx rfl (hb hby own_d_jdk_42_method_154_code_13) k) ?_
  refine OGoal.mp (S' := (T5.setTop (mkF m 18 #[.val (.ref a)] [(.int (1 : Int32))]))) (fun _ k => XS.goto X6.here hx rfl (pc0 := 14) (pc' := 18) rfl (hb hby own_d_jdk_42_method_154_code_14) (by decide) (by decide) k) ?_
  refine oRetZ X6 hx hlk hret (Or.inr rfl) (hb hby own_d_jdk_42_method_154_code_18) ?_ (by decide) (by decide)
  exact ⟨rfl, (Fr.nil n0), e7⟩
theorem own_d_jdk_42_method_152_code_0 : decode jdk_42_method_152_code 0 = .ok (.getstatic 38, 3) := by decide +kernel
theorem own_d_jdk_42_method_152_code_3 : decode jdk_42_method_152_code 3 = .ok (.ifCond .eq 10, 3) := by decide +kernel
theorem own_d_jdk_42_method_152_code_6 : decode jdk_42_method_152_code 6 = .ok (.aload_n 0, 1) := by decide +kernel
theorem own_d_jdk_42_method_152_code_7 : decode jdk_42_method_152_code 7 = .ok (.getfield 15, 3) := by decide +kernel
theorem own_d_jdk_42_method_152_code_10 : decode jdk_42_method_152_code 10 = .ok (.goto 4, 3) := by decide +kernel
theorem own_d_jdk_42_method_152_code_14 : decode jdk_42_method_152_code 14 = .ok (.ireturn, 1) := by decide +kernel
theorem own_ef_rmCo0 (x0 : Addr) (m : MethodId) : entryFrame m #[(.ref x0)] 1 = mkF m 0 #[.val (.ref x0)] [] := by first | (simp [entryFrame, mkF, argsToLocals, Value.category]; done) | rfl
set_option maxRecDepth 65536 in
set_option maxHeartbeats 40000000 in
theorem rmCo0 (l : Launch) (Z : State) (a0 : Array Value) (hw : ∀ d ∈ tables_1, d.before a0 Z = true) (a : Addr) (h0 : Heap) (n0 : Nat) (Z0 : n0 ≤ h0.size) (cs : Int32) (fm : Value) (hcs : ¬ cs = 0) (hfm : fm.isRef = true) (St : Stt Z h0 cs fm) (v' : Addr) (E : Exa Z h0 a "java/lang/String") (Fv : Fld Z h0 a "java/lang/String" "value" "[B" (.ref v')) (Fc : Fld Z h0 a "java/lang/String" "coder" "B" (.int (0 : Int32)))  :
    OCon l Z (⟨"java/lang/String", "coder", "()B"⟩ : MethodName) jdk_42_method_152_code 1 (some .byte) ({ frames := 0, cells := 0, slots := 0, locals := 0 } : Room) #[(.ref a)] h0 (fun v h L => v = some (.int (0 : Int32)) ∧ Fr n0 L ∧ h = h0) := by
  refine OConK.intro (y := (⟨"java/lang/String", "coder", "()B"⟩ : MethodName)) (plainFor_of_name own_pn_java_lang_String) (own_ef_rmCo0 a) ?_
  intro p e s m below meth c s₁ hx hby hml hown hnm hret hlk hZ X0 e0
  show OGoal p e below s _ _ _ (s₁.setTop (mkF m 0 #[.val (.ref a)] []))
  obtain ⟨T1, X2, e3, st4⟩ := getS X0 hx hZ hown (host := "") (hw _ (List.mem_of_getElem? (i := 19) rfl)) Via.refl e0 St.s1 (g := mkF m 0 #[.val (.ref a)] []) rfl (hb hby own_d_jdk_42_method_152_code_0)
  refine OGoal.mp (S' := (T1.setTop (mkF m 3 #[.val (.ref a)] [(.int cs)]))) (fun _ k => st4 _ k) ?_
  refine OGoal.mp (S' := (T1.setTop (mkF m 6 #[.val (.ref a)] []))) (fun _ k => XS.ifNo X2.here hx rfl (hb hby own_d_jdk_42_method_152_code_3) rfl (XT.i0_eq_f hcs) k) ?_
  refine OGoal.mp (S' := (T1.setTop (mkF m 7 #[.val (.ref a)] [(.ref a)]))) (fun _ k => XS.aloadN X2.here hx rfl (hb hby own_d_jdk_42_method_152_code_6) rfl rfl k) ?_
  obtain ⟨T5, X6, e7, st8⟩ := getF X2 hx hZ hown (host := "") (Or.inl (hw _ (List.mem_of_getElem? (i := 31) rfl))) Via.refl e3 Fc (g := mkF m 7 #[.val (.ref a)] [(.ref a)]) rfl rfl (hb hby own_d_jdk_42_method_152_code_7)
  refine OGoal.mp (S' := (T5.setTop (mkF m 10 #[.val (.ref a)] [(.int (0 : Int32))]))) (fun _ k => st8 _ k) ?_
  refine OGoal.mp (S' := (T5.setTop (mkF m 14 #[.val (.ref a)] [(.int (0 : Int32))]))) (fun _ k => XS.goto X6.here hx rfl (pc0 := 10) (pc' := 14) rfl (hb hby own_d_jdk_42_method_152_code_10) (by decide) (by decide) k) ?_
  refine oRetB X6 hx hlk hret (by decide) (hb hby own_d_jdk_42_method_152_code_14) ?_ (by decide) (by decide)
  exact ⟨rfl, (Fr.nil n0), e7⟩
theorem own_d_jdk_42_method_54_code_0 : decode jdk_42_method_54_code 0 = .ok (.aload_n 0, 1) := by decide +kernel
theorem own_d_jdk_42_method_54_code_1 : decode jdk_42_method_54_code 1 = .ok (.getfield 9, 3) := by decide +kernel
theorem own_d_jdk_42_method_54_code_4 : decode jdk_42_method_54_code 4 = .ok (.arraylength, 1) := by decide +kernel
theorem own_d_jdk_42_method_54_code_5 : decode jdk_42_method_54_code 5 = .ok (.aload_n 0, 1) := by decide +kernel
theorem own_d_jdk_42_method_54_code_6 : decode jdk_42_method_54_code 6 = .ok (.invokevirtual 335, 3) := by decide +kernel
theorem own_pd___B : parseMethodDescriptor "()B" = some ⟨[], some .byte⟩ := by decide +kernel
theorem own_d_jdk_42_method_54_code_9 : decode jdk_42_method_54_code 9 = .ok (.ishr, 1) := by decide +kernel
theorem own_d_jdk_42_method_54_code_10 : decode jdk_42_method_54_code 10 = .ok (.ireturn, 1) := by decide +kernel
theorem own_ef_rmLn0 (x0 : Addr) (m : MethodId) : entryFrame m #[(.ref x0)] 1 = mkF m 0 #[.val (.ref x0)] [] := by first | (simp [entryFrame, mkF, argsToLocals, Value.category]; done) | rfl
set_option maxRecDepth 65536 in
set_option maxHeartbeats 40000000 in
theorem rmLn0 (l : Launch) (Z : State) (a0 : Array Value) (hw : ∀ d ∈ tables_1, d.before a0 Z = true) (a : Addr) (h0 : Heap) (n0 : Nat) (Z0 : n0 ≤ h0.size) (cs : Int32) (fm : Value) (hcs : ¬ cs = 0) (hfm : fm.isRef = true) (St : Stt Z h0 cs fm) (v' : Addr) (E : Exa Z h0 a "java/lang/String") (Fv : Fld Z h0 a "java/lang/String" "value" "[B" (.ref v')) (Fc : Fld Z h0 a "java/lang/String" "coder" "B" (.int (0 : Int32))) (gf : Nat → Value) (A : OArr Z h0 v' .byte 4 gf) :
    OCon l Z (⟨"java/lang/String", "length", "()I"⟩ : MethodName) jdk_42_method_54_code 1 (some .int) ({ frames := 3, cells := 0, slots := 0, locals := 40 } : Room) #[(.ref a)] h0 (fun v h L => v = some (.int (4 : Int32)) ∧ Fr n0 L ∧ h = h0) := by
  refine OConK.intro (y := (⟨"java/lang/String", "length", "()I"⟩ : MethodName)) (plainFor_of_name own_pn_java_lang_String) (own_ef_rmLn0 a) ?_
  intro p e s m below meth c s₁ hx hby hml hown hnm hret hlk hZ X0 e0
  show OGoal p e below s _ _ _ (s₁.setTop (mkF m 0 #[.val (.ref a)] []))
  refine OGoal.mp (S' := (s₁.setTop (mkF m 1 #[.val (.ref a)] [(.ref a)]))) (fun _ k => XS.aloadN X0.here hx rfl (hb hby own_d_jdk_42_method_54_code_0) rfl rfl k) ?_
  obtain ⟨T1, X2, e3, st4⟩ := getF X0 hx hZ hown (host := "") (Or.inl (hw _ (List.mem_of_getElem? (i := 33) rfl))) Via.refl e0 Fv (g := mkF m 1 #[.val (.ref a)] [(.ref a)]) rfl rfl (hb hby own_d_jdk_42_method_54_code_1)
  refine OGoal.mp (S' := (T1.setTop (mkF m 4 #[.val (.ref a)] [(.ref v')]))) (fun _ k => st4 _ k) ?_
  refine OGoal.mp (S' := (T1.setTop (mkF m 5 #[.val (.ref a)] [(.int (4 : Int32))]))) (fun _ k => oLen X2 hx hZ e3 A (g := mkF m 4 #[.val (.ref a)] [(.ref v')]) rfl rfl (hb hby own_d_jdk_42_method_54_code_4) k) ?_
  refine OGoal.mp (S' := (T1.setTop (mkF m 6 #[.val (.ref a)] [(.ref a), (.int (4 : Int32))]))) (fun _ k => XS.aloadN X2.here hx rfl (hb hby own_d_jdk_42_method_54_code_5) rfl rfl k) ?_
  refine oCallV (y := (⟨"java/lang/String", "coder", "()B"⟩ : MethodName)) (z := (⟨"java/lang/String", "coder", "()B"⟩ : MethodName)) X2 hx hZ hown (hw _ (List.mem_of_getElem? (i := 58) rfl)) (hw _ (List.mem_of_getElem? (i := 59) rfl)) (hw _ (List.mem_of_getElem? (i := 61) rfl)) (hw _ (List.mem_of_getElem? (i := 60) rfl)) (hw _ (List.mem_of_getElem? (i := 8) rfl)) (hw _ (List.mem_of_getElem? (i := 62) rfl)) (by decide) (rmCo0 l Z a0 hw a h0 n0 Z0 cs fm hcs hfm St v' E Fv Fc) e3 E [] [(.int (4 : Int32))] rfl rfl (by rw [hml]; rfl) (notFace_of_selects (args := #[]) (mvT hZ (hw _ (List.mem_of_getElem? (i := 61) rfl)))) (lenOf own_pd___B rfl) 1 (Nat.le_of_eq rfl) (by decide) (by decide) (by decide) (by decide) (hb hby own_d_jdk_42_method_54_code_6) ?_
  intro v5 T6 L7 X8 q9
  obtain ⟨rfl, N10, e11⟩ := q9
  have N12 := Fr.app (Fr.nil n0) N10
  show OGoal p e below s _ _ _ (T6.setTop (mkF m 9 #[.val (.ref a)] [(.int (0 : Int32)), (.int (4 : Int32))]))
  refine OGoal.mp (S' := (T6.setTop (mkF m 10 #[.val (.ref a)] [(.int ((4 : Int32) >>> ((0 : Int32) &&& 31)))]))) (fun _ k => XT.ishr X8.here hx rfl (hb hby own_d_jdk_42_method_54_code_9) rfl k) ?_
  rw [show ((4 : Int32) >>> ((0 : Int32) &&& 31)) = (4 : Int32) by decide]
  show OGoal p e below s _ _ _ (T6.setTop (mkF m 10 #[.val (.ref a)] [(.int (4 : Int32))]))
  refine oRetI X8 hx hlk hret (hb hby own_d_jdk_42_method_54_code_10) ?_ (by decide) (by decide)
  exact ⟨rfl, N12, e11⟩
theorem own_d_jdk_42_method_56_code_0 : decode jdk_42_method_56_code 0 = .ok (.aload_n 0, 1) := by decide +kernel
theorem own_d_jdk_42_method_56_code_1 : decode jdk_42_method_56_code 1 = .ok (.invokevirtual 492, 3) := by decide +kernel
theorem own_pd___Z : parseMethodDescriptor "()Z" = some ⟨[], some .boolean⟩ := by decide +kernel
theorem own_d_jdk_42_method_56_code_4 : decode jdk_42_method_56_code 4 = .ok (.ifCond .eq 12, 3) := by decide +kernel
theorem own_d_jdk_42_method_56_code_7 : decode jdk_42_method_56_code 7 = .ok (.aload_n 0, 1) := by decide +kernel
theorem own_d_jdk_42_method_56_code_8 : decode jdk_42_method_56_code 8 = .ok (.getfield 9, 3) := by decide +kernel
theorem own_d_jdk_42_method_56_code_11 : decode jdk_42_method_56_code 11 = .ok (.iload_n 1, 1) := by decide +kernel
theorem own_d_jdk_42_method_56_code_12 : decode jdk_42_method_56_code 12 = .ok (.invokestatic 495, 3) := by decide +kernel
theorem own_d_jdk_42_method_56_code_15 : decode jdk_42_method_56_code 15 = .ok (.ireturn, 1) := by decide +kernel
theorem own_ef_rmCA0 (x0 : Addr) (x1 : Int32) (m : MethodId) : entryFrame m #[(.ref x0), (.int x1)] 2 = mkF m 0 #[.val (.ref x0), .val (.int x1)] [] := by first | (simp [entryFrame, mkF, argsToLocals, Value.category]; done) | rfl
set_option maxRecDepth 65536 in
set_option maxHeartbeats 40000000 in
theorem rmCA0 (l : Launch) (Z : State) (a0 : Array Value) (hw : ∀ d ∈ tables_1, d.before a0 Z = true) (a : Addr) (i : Int32) (h0 : Heap) (n0 : Nat) (Z0 : n0 ≤ h0.size) (v' : Addr) (E : Exa Z h0 a "java/lang/String") (Fv : Fld Z h0 a "java/lang/String" "value" "[B" (.ref v')) (Fc : Fld Z h0 a "java/lang/String" "coder" "B" (.int (0 : Int32))) (cs : Int32) (fm : Value) (hcs : ¬ cs = 0) (hfm : fm.isRef = true) (St : Stt Z h0 cs fm) (f : Nat → Int32) (hC : Ch f) (A : OArr Z h0 v' .byte 4 (fun k => .int (own_l f k))) (hi0 : 0 ≤ i.toInt) (hi1 : i.toInt < 4) (hL : Lat f) :
    OCon l Z (⟨"java/lang/String", "charAt", "(I)C"⟩ : MethodName) jdk_42_method_56_code 2 (some .char) ({ frames := 6, cells := 0, slots := 0, locals := 110 } : Room) #[(.ref a), (.int i)] h0 (fun v h L => v = some (.int (f i.toInt.toNat)) ∧ Fr n0 L ∧ h = h0) := by
  refine OConK.intro (y := (⟨"java/lang/String", "charAt", "(I)C"⟩ : MethodName)) (plainFor_of_name own_pn_java_lang_String) (own_ef_rmCA0 a i) ?_
  intro p e s m below meth c s₁ hx hby hml hown hnm hret hlk hZ X0 e0
  show OGoal p e below s _ _ _ (s₁.setTop (mkF m 0 #[.val (.ref a), .val (.int i)] []))
  refine OGoal.mp (S' := (s₁.setTop (mkF m 1 #[.val (.ref a), .val (.int i)] [(.ref a)]))) (fun _ k => XS.aloadN X0.here hx rfl (hb hby own_d_jdk_42_method_56_code_0) rfl rfl k) ?_
  refine oCallV (y := (⟨"java/lang/String", "isLatin1", "()Z"⟩ : MethodName)) (z := (⟨"java/lang/String", "isLatin1", "()Z"⟩ : MethodName)) X0 hx hZ hown (hw _ (List.mem_of_getElem? (i := 68) rfl)) (hw _ (List.mem_of_getElem? (i := 69) rfl)) (hw _ (List.mem_of_getElem? (i := 71) rfl)) (hw _ (List.mem_of_getElem? (i := 70) rfl)) (hw _ (List.mem_of_getElem? (i := 8) rfl)) (hw _ (List.mem_of_getElem? (i := 72) rfl)) (by decide) (rmIL0 l Z a0 hw a h0 n0 Z0 cs fm hcs hfm St v' E Fv Fc) e0 E [] [] rfl rfl (by rw [hml]; rfl) (notFace_of_selects (args := #[]) (mvT hZ (hw _ (List.mem_of_getElem? (i := 71) rfl)))) (lenOf own_pd___Z rfl) 0 (Nat.le_of_eq rfl) (by decide) (by decide) (by decide) (by decide) (hb hby own_d_jdk_42_method_56_code_1) ?_
  intro v1 T2 L3 X4 q5
  obtain ⟨rfl, N6, e7⟩ := q5
  have N8 := Fr.app (Fr.nil n0) N6
  show OGoal p e below s _ _ _ (T2.setTop (mkF m 4 #[.val (.ref a), .val (.int i)] [(.int (1 : Int32))]))
  refine OGoal.mp (S' := (T2.setTop (mkF m 7 #[.val (.ref a), .val (.int i)] []))) (fun _ k => XS.ifNo X4.here hx rfl (hb hby own_d_jdk_42_method_56_code_4) rfl (XT.i0_eq_f (by decide)) k) ?_
  refine OGoal.mp (S' := (T2.setTop (mkF m 8 #[.val (.ref a), .val (.int i)] [(.ref a)]))) (fun _ k => XS.aloadN X4.here hx rfl (hb hby own_d_jdk_42_method_56_code_7) rfl rfl k) ?_
  obtain ⟨T9, X10, e11, st12⟩ := getF X4 hx hZ hown (host := "") (Or.inl (hw _ (List.mem_of_getElem? (i := 33) rfl))) Via.refl e7 Fv (g := mkF m 8 #[.val (.ref a), .val (.int i)] [(.ref a)]) rfl rfl (hb hby own_d_jdk_42_method_56_code_8)
  refine OGoal.mp (S' := (T9.setTop (mkF m 11 #[.val (.ref a), .val (.int i)] [(.ref v')]))) (fun _ k => st12 _ k) ?_
  refine OGoal.mp (S' := (T9.setTop (mkF m 12 #[.val (.ref a), .val (.int i)] [(.int i), (.ref v')]))) (fun _ k => XS.iloadN X10.here hx rfl (hb hby own_d_jdk_42_method_56_code_11) rfl k) ?_
  refine oCallS (y := (⟨"java/lang/StringLatin1", "charAt", "([BI)C"⟩ : MethodName)) X10 hx hZ hown (hw _ (List.mem_of_getElem? (i := 73) rfl)) (hw _ (List.mem_of_getElem? (i := 74) rfl)) (hw _ (List.mem_of_getElem? (i := 75) rfl)) (hw _ (List.mem_of_getElem? (i := 76) rfl)) (by decide) (rmLA l Z a0 hw v' i h0 n0 Z0 cs fm hcs hfm St f hC A hi0 hi1 hL) e11 [(.ref v'), (.int i)] [] rfl rfl (by rw [hml]; rfl) (lenOf own_pd___BI_C rfl) 0 (Nat.le_of_eq rfl) (by decide) (by decide) (by decide) (by decide) (hb hby own_d_jdk_42_method_56_code_12) ?_
  intro v13 T14 L15 X16 q17
  obtain ⟨rfl, N18, e19⟩ := q17
  have N20 := Fr.app N8 N18
  show OGoal p e below s _ _ _ (T14.setTop (mkF m 15 #[.val (.ref a), .val (.int i)] [(.int (f i.toInt.toNat))]))
  refine oRetC X16 hx hlk hret (hC _) (hb hby own_d_jdk_42_method_56_code_15) ?_ (by decide) (by decide)
  exact ⟨rfl, N20, e19⟩
theorem own_d_jdk_42_method_154_code_17 : decode jdk_42_method_154_code 17 = .ok (.iconst 0, 1) := by decide +kernel
theorem own_ef_rmIL1 (x0 : Addr) (m : MethodId) : entryFrame m #[(.ref x0)] 1 = mkF m 0 #[.val (.ref x0)] [] := by first | (simp [entryFrame, mkF, argsToLocals, Value.category]; done) | rfl
set_option maxRecDepth 65536 in
set_option maxHeartbeats 40000000 in
theorem rmIL1 (l : Launch) (Z : State) (a0 : Array Value) (hw : ∀ d ∈ tables_1, d.before a0 Z = true) (a : Addr) (h0 : Heap) (n0 : Nat) (Z0 : n0 ≤ h0.size) (cs : Int32) (fm : Value) (hcs : ¬ cs = 0) (hfm : fm.isRef = true) (St : Stt Z h0 cs fm) (v' : Addr) (E : Exa Z h0 a "java/lang/String") (Fv : Fld Z h0 a "java/lang/String" "value" "[B" (.ref v')) (Fc : Fld Z h0 a "java/lang/String" "coder" "B" (.int (1 : Int32)))  :
    OCon l Z (⟨"java/lang/String", "isLatin1", "()Z"⟩ : MethodName) jdk_42_method_154_code 1 (some .boolean) ({ frames := 0, cells := 0, slots := 0, locals := 0 } : Room) #[(.ref a)] h0 (fun v h L => v = some (.int (0 : Int32)) ∧ Fr n0 L ∧ h = h0) := by
  refine OConK.intro (y := (⟨"java/lang/String", "isLatin1", "()Z"⟩ : MethodName)) (plainFor_of_name own_pn_java_lang_String) (own_ef_rmIL1 a) ?_
  intro p e s m below meth c s₁ hx hby hml hown hnm hret hlk hZ X0 e0
  show OGoal p e below s _ _ _ (s₁.setTop (mkF m 0 #[.val (.ref a)] []))
  obtain ⟨T1, X2, e3, st4⟩ := getS X0 hx hZ hown (host := "") (hw _ (List.mem_of_getElem? (i := 19) rfl)) Via.refl e0 St.s1 (g := mkF m 0 #[.val (.ref a)] []) rfl (hb hby own_d_jdk_42_method_154_code_0)
  refine OGoal.mp (S' := (T1.setTop (mkF m 3 #[.val (.ref a)] [(.int cs)]))) (fun _ k => st4 _ k) ?_
  refine OGoal.mp (S' := (T1.setTop (mkF m 6 #[.val (.ref a)] []))) (fun _ k => XS.ifNo X2.here hx rfl (hb hby own_d_jdk_42_method_154_code_3) rfl (XT.i0_eq_f hcs) k) ?_
  refine OGoal.mp (S' := (T1.setTop (mkF m 7 #[.val (.ref a)] [(.ref a)]))) (fun _ k => XS.aloadN X2.here hx rfl (hb hby own_d_jdk_42_method_154_code_6) rfl rfl k) ?_
  obtain ⟨T5, X6, e7, st8⟩ := getF X2 hx hZ hown (host := "") (Or.inl (hw _ (List.mem_of_getElem? (i := 31) rfl))) Via.refl e3 Fc (g := mkF m 7 #[.val (.ref a)] [(.ref a)]) rfl rfl (hb hby own_d_jdk_42_method_154_code_7)
  refine OGoal.mp (S' := (T5.setTop (mkF m 10 #[.val (.ref a)] [(.int (1 : Int32))]))) (fun _ k => st8 _ k) ?_
  refine OGoal.mp (S' := (T5.setTop (mkF m 17 #[.val (.ref a)] []))) (fun _ k => XS.ifYes X6.here hx rfl (pc0 := 10) (pc' := 17) rfl (hb hby own_d_jdk_42_method_154_code_10) rfl (XT.i0_ne_t (by decide)) (by decide) (by decide) k) ?_
  refine OGoal.mp (S' := (T5.setTop (mkF m 18 #[.val (.ref a)] [(.int (0 : Int32))]))) (fun _ k => XS.iconst X6.here hx rfl (hb hby own_d_jdk_42_method_154_code_17) k) ?_
  refine oRetZ X6 hx hlk hret (Or.inl rfl) (hb hby own_d_jdk_42_method_154_code_18) ?_ (by decide) (by decide)
  exact ⟨rfl, (Fr.nil n0), e7⟩
theorem own_ef_rmCo1 (x0 : Addr) (m : MethodId) : entryFrame m #[(.ref x0)] 1 = mkF m 0 #[.val (.ref x0)] [] := by first | (simp [entryFrame, mkF, argsToLocals, Value.category]; done) | rfl
set_option maxRecDepth 65536 in
set_option maxHeartbeats 40000000 in
theorem rmCo1 (l : Launch) (Z : State) (a0 : Array Value) (hw : ∀ d ∈ tables_1, d.before a0 Z = true) (a : Addr) (h0 : Heap) (n0 : Nat) (Z0 : n0 ≤ h0.size) (cs : Int32) (fm : Value) (hcs : ¬ cs = 0) (hfm : fm.isRef = true) (St : Stt Z h0 cs fm) (v' : Addr) (E : Exa Z h0 a "java/lang/String") (Fv : Fld Z h0 a "java/lang/String" "value" "[B" (.ref v')) (Fc : Fld Z h0 a "java/lang/String" "coder" "B" (.int (1 : Int32)))  :
    OCon l Z (⟨"java/lang/String", "coder", "()B"⟩ : MethodName) jdk_42_method_152_code 1 (some .byte) ({ frames := 0, cells := 0, slots := 0, locals := 0 } : Room) #[(.ref a)] h0 (fun v h L => v = some (.int (1 : Int32)) ∧ Fr n0 L ∧ h = h0) := by
  refine OConK.intro (y := (⟨"java/lang/String", "coder", "()B"⟩ : MethodName)) (plainFor_of_name own_pn_java_lang_String) (own_ef_rmCo1 a) ?_
  intro p e s m below meth c s₁ hx hby hml hown hnm hret hlk hZ X0 e0
  show OGoal p e below s _ _ _ (s₁.setTop (mkF m 0 #[.val (.ref a)] []))
  obtain ⟨T1, X2, e3, st4⟩ := getS X0 hx hZ hown (host := "") (hw _ (List.mem_of_getElem? (i := 19) rfl)) Via.refl e0 St.s1 (g := mkF m 0 #[.val (.ref a)] []) rfl (hb hby own_d_jdk_42_method_152_code_0)
  refine OGoal.mp (S' := (T1.setTop (mkF m 3 #[.val (.ref a)] [(.int cs)]))) (fun _ k => st4 _ k) ?_
  refine OGoal.mp (S' := (T1.setTop (mkF m 6 #[.val (.ref a)] []))) (fun _ k => XS.ifNo X2.here hx rfl (hb hby own_d_jdk_42_method_152_code_3) rfl (XT.i0_eq_f hcs) k) ?_
  refine OGoal.mp (S' := (T1.setTop (mkF m 7 #[.val (.ref a)] [(.ref a)]))) (fun _ k => XS.aloadN X2.here hx rfl (hb hby own_d_jdk_42_method_152_code_6) rfl rfl k) ?_
  obtain ⟨T5, X6, e7, st8⟩ := getF X2 hx hZ hown (host := "") (Or.inl (hw _ (List.mem_of_getElem? (i := 31) rfl))) Via.refl e3 Fc (g := mkF m 7 #[.val (.ref a)] [(.ref a)]) rfl rfl (hb hby own_d_jdk_42_method_152_code_7)
  refine OGoal.mp (S' := (T5.setTop (mkF m 10 #[.val (.ref a)] [(.int (1 : Int32))]))) (fun _ k => st8 _ k) ?_
  refine OGoal.mp (S' := (T5.setTop (mkF m 14 #[.val (.ref a)] [(.int (1 : Int32))]))) (fun _ k => XS.goto X6.here hx rfl (pc0 := 10) (pc' := 14) rfl (hb hby own_d_jdk_42_method_152_code_10) (by decide) (by decide) k) ?_
  refine oRetB X6 hx hlk hret (by decide) (hb hby own_d_jdk_42_method_152_code_14) ?_ (by decide) (by decide)
  exact ⟨rfl, (Fr.nil n0), e7⟩
theorem own_ef_rmLn1 (x0 : Addr) (m : MethodId) : entryFrame m #[(.ref x0)] 1 = mkF m 0 #[.val (.ref x0)] [] := by first | (simp [entryFrame, mkF, argsToLocals, Value.category]; done) | rfl
set_option maxRecDepth 65536 in
set_option maxHeartbeats 40000000 in
theorem rmLn1 (l : Launch) (Z : State) (a0 : Array Value) (hw : ∀ d ∈ tables_1, d.before a0 Z = true) (a : Addr) (h0 : Heap) (n0 : Nat) (Z0 : n0 ≤ h0.size) (cs : Int32) (fm : Value) (hcs : ¬ cs = 0) (hfm : fm.isRef = true) (St : Stt Z h0 cs fm) (v' : Addr) (E : Exa Z h0 a "java/lang/String") (Fv : Fld Z h0 a "java/lang/String" "value" "[B" (.ref v')) (Fc : Fld Z h0 a "java/lang/String" "coder" "B" (.int (1 : Int32))) (gf : Nat → Value) (A : OArr Z h0 v' .byte 8 gf) :
    OCon l Z (⟨"java/lang/String", "length", "()I"⟩ : MethodName) jdk_42_method_54_code 1 (some .int) ({ frames := 3, cells := 0, slots := 0, locals := 40 } : Room) #[(.ref a)] h0 (fun v h L => v = some (.int (4 : Int32)) ∧ Fr n0 L ∧ h = h0) := by
  refine OConK.intro (y := (⟨"java/lang/String", "length", "()I"⟩ : MethodName)) (plainFor_of_name own_pn_java_lang_String) (own_ef_rmLn1 a) ?_
  intro p e s m below meth c s₁ hx hby hml hown hnm hret hlk hZ X0 e0
  show OGoal p e below s _ _ _ (s₁.setTop (mkF m 0 #[.val (.ref a)] []))
  refine OGoal.mp (S' := (s₁.setTop (mkF m 1 #[.val (.ref a)] [(.ref a)]))) (fun _ k => XS.aloadN X0.here hx rfl (hb hby own_d_jdk_42_method_54_code_0) rfl rfl k) ?_
  obtain ⟨T1, X2, e3, st4⟩ := getF X0 hx hZ hown (host := "") (Or.inl (hw _ (List.mem_of_getElem? (i := 33) rfl))) Via.refl e0 Fv (g := mkF m 1 #[.val (.ref a)] [(.ref a)]) rfl rfl (hb hby own_d_jdk_42_method_54_code_1)
  refine OGoal.mp (S' := (T1.setTop (mkF m 4 #[.val (.ref a)] [(.ref v')]))) (fun _ k => st4 _ k) ?_
  refine OGoal.mp (S' := (T1.setTop (mkF m 5 #[.val (.ref a)] [(.int (8 : Int32))]))) (fun _ k => oLen X2 hx hZ e3 A (g := mkF m 4 #[.val (.ref a)] [(.ref v')]) rfl rfl (hb hby own_d_jdk_42_method_54_code_4) k) ?_
  refine OGoal.mp (S' := (T1.setTop (mkF m 6 #[.val (.ref a)] [(.ref a), (.int (8 : Int32))]))) (fun _ k => XS.aloadN X2.here hx rfl (hb hby own_d_jdk_42_method_54_code_5) rfl rfl k) ?_
  refine oCallV (y := (⟨"java/lang/String", "coder", "()B"⟩ : MethodName)) (z := (⟨"java/lang/String", "coder", "()B"⟩ : MethodName)) X2 hx hZ hown (hw _ (List.mem_of_getElem? (i := 58) rfl)) (hw _ (List.mem_of_getElem? (i := 59) rfl)) (hw _ (List.mem_of_getElem? (i := 61) rfl)) (hw _ (List.mem_of_getElem? (i := 60) rfl)) (hw _ (List.mem_of_getElem? (i := 8) rfl)) (hw _ (List.mem_of_getElem? (i := 62) rfl)) (by decide) (rmCo1 l Z a0 hw a h0 n0 Z0 cs fm hcs hfm St v' E Fv Fc) e3 E [] [(.int (8 : Int32))] rfl rfl (by rw [hml]; rfl) (notFace_of_selects (args := #[]) (mvT hZ (hw _ (List.mem_of_getElem? (i := 61) rfl)))) (lenOf own_pd___B rfl) 1 (Nat.le_of_eq rfl) (by decide) (by decide) (by decide) (by decide) (hb hby own_d_jdk_42_method_54_code_6) ?_
  intro v5 T6 L7 X8 q9
  obtain ⟨rfl, N10, e11⟩ := q9
  have N12 := Fr.app (Fr.nil n0) N10
  show OGoal p e below s _ _ _ (T6.setTop (mkF m 9 #[.val (.ref a)] [(.int (1 : Int32)), (.int (8 : Int32))]))
  refine OGoal.mp (S' := (T6.setTop (mkF m 10 #[.val (.ref a)] [(.int ((8 : Int32) >>> ((1 : Int32) &&& 31)))]))) (fun _ k => XT.ishr X8.here hx rfl (hb hby own_d_jdk_42_method_54_code_9) rfl k) ?_
  rw [show ((8 : Int32) >>> ((1 : Int32) &&& 31)) = (4 : Int32) by decide]
  show OGoal p e below s _ _ _ (T6.setTop (mkF m 10 #[.val (.ref a)] [(.int (4 : Int32))]))
  refine oRetI X8 hx hlk hret (hb hby own_d_jdk_42_method_54_code_10) ?_ (by decide) (by decide)
  exact ⟨rfl, N12, e11⟩
theorem own_d_jdk_42_method_56_code_16 : decode jdk_42_method_56_code 16 = .ok (.aload_n 0, 1) := by decide +kernel
theorem own_d_jdk_42_method_56_code_17 : decode jdk_42_method_56_code 17 = .ok (.getfield 9, 3) := by decide +kernel
theorem own_d_jdk_42_method_56_code_20 : decode jdk_42_method_56_code 20 = .ok (.iload_n 1, 1) := by decide +kernel
theorem own_d_jdk_42_method_56_code_21 : decode jdk_42_method_56_code 21 = .ok (.invokestatic 498, 3) := by decide +kernel
theorem own_d_jdk_42_method_56_code_24 : decode jdk_42_method_56_code 24 = .ok (.ireturn, 1) := by decide +kernel
theorem own_ef_rmCA1 (x0 : Addr) (x1 : Int32) (m : MethodId) : entryFrame m #[(.ref x0), (.int x1)] 2 = mkF m 0 #[.val (.ref x0), .val (.int x1)] [] := by first | (simp [entryFrame, mkF, argsToLocals, Value.category]; done) | rfl
set_option maxRecDepth 65536 in
set_option maxHeartbeats 40000000 in
theorem rmCA1 (l : Launch) (Z : State) (a0 : Array Value) (hw : ∀ d ∈ tables_1, d.before a0 Z = true) (a : Addr) (i : Int32) (h0 : Heap) (n0 : Nat) (Z0 : n0 ≤ h0.size) (v' : Addr) (E : Exa Z h0 a "java/lang/String") (Fv : Fld Z h0 a "java/lang/String" "value" "[B" (.ref v')) (Fc : Fld Z h0 a "java/lang/String" "coder" "B" (.int (1 : Int32))) (cs : Int32) (fm : Value) (hcs : ¬ cs = 0) (hfm : fm.isRef = true) (St : Stt Z h0 cs fm) (f : Nat → Int32) (hC : Ch f) (A : OArr Z h0 v' .byte 8 (fun k => .int (own_b f k))) (hi0 : 0 ≤ i.toInt) (hi1 : i.toInt < 4) :
    OCon l Z (⟨"java/lang/String", "charAt", "(I)C"⟩ : MethodName) jdk_42_method_56_code 2 (some .char) ({ frames := 6, cells := 0, slots := 0, locals := 110 } : Room) #[(.ref a), (.int i)] h0 (fun v h L => v = some (.int (f i.toInt.toNat)) ∧ Fr n0 L ∧ h = h0) := by
  refine OConK.intro (y := (⟨"java/lang/String", "charAt", "(I)C"⟩ : MethodName)) (plainFor_of_name own_pn_java_lang_String) (own_ef_rmCA1 a i) ?_
  intro p e s m below meth c s₁ hx hby hml hown hnm hret hlk hZ X0 e0
  show OGoal p e below s _ _ _ (s₁.setTop (mkF m 0 #[.val (.ref a), .val (.int i)] []))
  refine OGoal.mp (S' := (s₁.setTop (mkF m 1 #[.val (.ref a), .val (.int i)] [(.ref a)]))) (fun _ k => XS.aloadN X0.here hx rfl (hb hby own_d_jdk_42_method_56_code_0) rfl rfl k) ?_
  refine oCallV (y := (⟨"java/lang/String", "isLatin1", "()Z"⟩ : MethodName)) (z := (⟨"java/lang/String", "isLatin1", "()Z"⟩ : MethodName)) X0 hx hZ hown (hw _ (List.mem_of_getElem? (i := 68) rfl)) (hw _ (List.mem_of_getElem? (i := 69) rfl)) (hw _ (List.mem_of_getElem? (i := 71) rfl)) (hw _ (List.mem_of_getElem? (i := 70) rfl)) (hw _ (List.mem_of_getElem? (i := 8) rfl)) (hw _ (List.mem_of_getElem? (i := 72) rfl)) (by decide) (rmIL1 l Z a0 hw a h0 n0 Z0 cs fm hcs hfm St v' E Fv Fc) e0 E [] [] rfl rfl (by rw [hml]; rfl) (notFace_of_selects (args := #[]) (mvT hZ (hw _ (List.mem_of_getElem? (i := 71) rfl)))) (lenOf own_pd___Z rfl) 0 (Nat.le_of_eq rfl) (by decide) (by decide) (by decide) (by decide) (hb hby own_d_jdk_42_method_56_code_1) ?_
  intro v1 T2 L3 X4 q5
  obtain ⟨rfl, N6, e7⟩ := q5
  have N8 := Fr.app (Fr.nil n0) N6
  show OGoal p e below s _ _ _ (T2.setTop (mkF m 4 #[.val (.ref a), .val (.int i)] [(.int (0 : Int32))]))
  refine OGoal.mp (S' := (T2.setTop (mkF m 16 #[.val (.ref a), .val (.int i)] []))) (fun _ k => XS.ifYes X4.here hx rfl (pc0 := 4) (pc' := 16) rfl (hb hby own_d_jdk_42_method_56_code_4) rfl (XT.i0_eq_t (by decide)) (by decide) (by decide) k) ?_
  refine OGoal.mp (S' := (T2.setTop (mkF m 17 #[.val (.ref a), .val (.int i)] [(.ref a)]))) (fun _ k => XS.aloadN X4.here hx rfl (hb hby own_d_jdk_42_method_56_code_16) rfl rfl k) ?_
  obtain ⟨T9, X10, e11, st12⟩ := getF X4 hx hZ hown (host := "") (Or.inl (hw _ (List.mem_of_getElem? (i := 33) rfl))) Via.refl e7 Fv (g := mkF m 17 #[.val (.ref a), .val (.int i)] [(.ref a)]) rfl rfl (hb hby own_d_jdk_42_method_56_code_17)
  refine OGoal.mp (S' := (T9.setTop (mkF m 20 #[.val (.ref a), .val (.int i)] [(.ref v')]))) (fun _ k => st12 _ k) ?_
  refine OGoal.mp (S' := (T9.setTop (mkF m 21 #[.val (.ref a), .val (.int i)] [(.int i), (.ref v')]))) (fun _ k => XS.iloadN X10.here hx rfl (hb hby own_d_jdk_42_method_56_code_20) rfl k) ?_
  refine oCallS (y := (⟨"java/lang/StringUTF16", "charAt", "([BI)C"⟩ : MethodName)) X10 hx hZ hown (hw _ (List.mem_of_getElem? (i := 120) rfl)) (hw _ (List.mem_of_getElem? (i := 121) rfl)) (hw _ (List.mem_of_getElem? (i := 22) rfl)) (hw _ (List.mem_of_getElem? (i := 122) rfl)) (by decide) (rmUA l Z a0 hw v' i h0 n0 Z0 cs fm hcs hfm St f hC A hi0 hi1) e11 [(.ref v'), (.int i)] [] rfl rfl (by rw [hml]; rfl) (lenOf own_pd___BI_C rfl) 0 (Nat.le_of_eq rfl) (by decide) (by decide) (by decide) (by decide) (hb hby own_d_jdk_42_method_56_code_21) ?_
  intro v13 T14 L15 X16 q17
  obtain ⟨rfl, N18, e19⟩ := q17
  have N20 := Fr.app N8 N18
  show OGoal p e below s _ _ _ (T14.setTop (mkF m 24 #[.val (.ref a), .val (.int i)] [(.int (f i.toInt.toNat))]))
  refine oRetC X16 hx hlk hret (hC _) (hb hby own_d_jdk_42_method_56_code_24) ?_ (by decide) (by decide)
  exact ⟨rfl, N20, e19⟩
set_option maxRecDepth 65536 in
set_option maxHeartbeats 40000000 in
theorem rmLn (l : Launch) (Z : State) (a0 : Array Value) (hw : ∀ d ∈ tables_1, d.before a0 Z = true) (a : Addr) (h0 : Heap) (n0 : Nat) (Z0 : n0 ≤ h0.size) (cs : Int32) (fm : Value) (hcs : ¬ cs = 0) (hfm : fm.isRef = true) (St : Stt Z h0 cs fm) (f : Nat → Int32) (hS : Str4 Z h0 a f) :
    OCon l Z (⟨"java/lang/String", "length", "()I"⟩ : MethodName) jdk_42_method_54_code 1 (some .int) ({ frames := 3, cells := 0, slots := 0, locals := 40 } : Room) #[(.ref a)] h0 (fun v h L => v = some (.int (4 : Int32)) ∧ Fr n0 L ∧ h = h0) := by
  rcases hS with ⟨v', E, Fv, Fc, A, hL⟩ | ⟨v', E, Fv, Fc, A⟩
  · exact rmLn0 l Z a0 hw a h0 n0 Z0 cs fm hcs hfm St v' E Fv Fc _ A
  · exact rmLn1 l Z a0 hw a h0 n0 Z0 cs fm hcs hfm St v' E Fv Fc _ A
set_option maxRecDepth 65536 in
set_option maxHeartbeats 40000000 in
theorem rmCA (l : Launch) (Z : State) (a0 : Array Value) (hw : ∀ d ∈ tables_1, d.before a0 Z = true) (a : Addr) (i : Int32) (h0 : Heap) (n0 : Nat) (Z0 : n0 ≤ h0.size) (cs : Int32) (fm : Value) (hcs : ¬ cs = 0) (hfm : fm.isRef = true) (St : Stt Z h0 cs fm) (f : Nat → Int32) (hC : Ch f) (hS : Str4 Z h0 a f) (hi0 : 0 ≤ i.toInt) (hi1 : i.toInt < 4) :
    OCon l Z (⟨"java/lang/String", "charAt", "(I)C"⟩ : MethodName) jdk_42_method_56_code 2 (some .char) ({ frames := 6, cells := 0, slots := 0, locals := 110 } : Room) #[(.ref a), (.int i)] h0 (fun v h L => v = some (.int (f i.toInt.toNat)) ∧ Fr n0 L ∧ h = h0) := by
  rcases hS with ⟨v', E, Fv, Fc, A, hL⟩ | ⟨v', E, Fv, Fc, A⟩
  · exact rmCA0 l Z a0 hw a i h0 n0 Z0 v' E Fv Fc cs fm hcs hfm St f hC A hi0 hi1 hL
  · exact rmCA1 l Z a0 hw a i h0 n0 Z0 v' E Fv Fc cs fm hcs hfm St f hC A hi0 hi1
theorem own_d_jdk_52_method_4_code_0 : decode jdk_52_method_4_code 0 = .ok (.getstatic 44, 3) := by decide +kernel
theorem own_d_jdk_52_method_4_code_3 : decode jdk_52_method_4_code 3 = .ok (.ifCond .ne 25, 3) := by decide +kernel
theorem own_d_jdk_52_method_4_code_28 : decode jdk_52_method_4_code 28 = .ok (.iload_n 1, 1) := by decide +kernel
theorem own_d_jdk_52_method_4_code_29 : decode jdk_52_method_4_code 29 = .ok (.iconst 1, 1) := by decide +kernel
theorem own_d_jdk_52_method_4_code_30 : decode jdk_52_method_4_code 30 = .ok (.ishl, 1) := by decide +kernel
theorem own_d_jdk_52_method_4_code_31 : decode jdk_52_method_4_code 31 = .ok (.istore_n 1, 1) := by decide +kernel
theorem own_d_jdk_52_method_4_code_32 : decode jdk_52_method_4_code 32 = .ok (.aload_n 0, 1) := by decide +kernel
theorem own_d_jdk_52_method_4_code_33 : decode jdk_52_method_4_code 33 = .ok (.iload_n 1, 1) := by decide +kernel
theorem own_d_jdk_52_method_4_code_34 : decode jdk_52_method_4_code 34 = .ok (.iinc 1 1, 3) := by decide +kernel
theorem own_d_jdk_52_method_4_code_37 : decode jdk_52_method_4_code 37 = .ok (.iload_n 2, 1) := by decide +kernel
theorem own_d_jdk_52_method_4_code_38 : decode jdk_52_method_4_code 38 = .ok (.getstatic 59, 3) := by decide +kernel
theorem own_d_jdk_52_method_4_code_41 : decode jdk_52_method_4_code 41 = .ok (.ishr, 1) := by decide +kernel
theorem own_d_jdk_52_method_4_code_42 : decode jdk_52_method_4_code 42 = .ok (.i2b, 1) := by decide +kernel
theorem own_d_jdk_52_method_4_code_43 : decode jdk_52_method_4_code 43 = .ok (.bastore, 1) := by decide +kernel
theorem own_d_jdk_52_method_4_code_44 : decode jdk_52_method_4_code 44 = .ok (.aload_n 0, 1) := by decide +kernel
theorem own_d_jdk_52_method_4_code_45 : decode jdk_52_method_4_code 45 = .ok (.iload_n 1, 1) := by decide +kernel
theorem own_d_jdk_52_method_4_code_46 : decode jdk_52_method_4_code 46 = .ok (.iload_n 2, 1) := by decide +kernel
theorem own_d_jdk_52_method_4_code_47 : decode jdk_52_method_4_code 47 = .ok (.getstatic 63, 3) := by decide +kernel
theorem own_d_jdk_52_method_4_code_50 : decode jdk_52_method_4_code 50 = .ok (.ishr, 1) := by decide +kernel
theorem own_d_jdk_52_method_4_code_51 : decode jdk_52_method_4_code 51 = .ok (.i2b, 1) := by decide +kernel
theorem own_d_jdk_52_method_4_code_52 : decode jdk_52_method_4_code 52 = .ok (.bastore, 1) := by decide +kernel
theorem own_d_jdk_52_method_4_code_53 : decode jdk_52_method_4_code 53 = .ok (.return_, 1) := by decide +kernel
theorem own_ef_rmPut0 (x0 : Addr) (x1 : Int32) (x2 : Int32) (m : MethodId) : entryFrame m #[(.ref x0), (.int x1), (.int x2)] 3 = mkF m 0 #[.val (.ref x0), .val (.int x1), .val (.int x2)] [] := by first | (simp [entryFrame, mkF, argsToLocals, Value.category]; done) | rfl
set_option maxRecDepth 65536 in
set_option maxHeartbeats 40000000 in
theorem rmPut0 (l : Launch) (Z : State) (a0 : Array Value) (hw : ∀ d ∈ tables_1, d.before a0 Z = true) (v' : Addr) (c' : Int32) (h0 : Heap) (n0 : Nat) (Z0 : n0 ≤ h0.size) (cs : Int32) (fm : Value) (hcs : ¬ cs = 0) (hfm : fm.isRef = true) (St : Stt Z h0 cs fm) (gf : Nat → Value) (A : OArr Z h0 v' .byte 8 gf) (ab : n0 ≤ v') :
    OCon l Z (⟨"java/lang/StringUTF16", "putChar", "([BII)V"⟩ : MethodName) jdk_52_method_4_code 3 none ({ frames := 0, cells := 0, slots := 0, locals := 0 } : Room) #[(.ref v'), (.int (0 : Int32)), (.int c')] h0 (fun v h L => v = none ∧ Fr n0 L ∧ Keep h0 h [v'] ∧ Stt Z h cs fm ∧ OArr Z h v' .byte 8 (fun i => if i = (1 : Int32).toNatClampNeg then (.int (c' >>> ((8 : Int32) &&& 31)).toInt8.toInt32) else (fun i => if i = (0 : Int32).toNatClampNeg then (.int (c' >>> ((0 : Int32) &&& 31)).toInt8.toInt32) else gf i) i)) := by
  refine OConK.intro (y := (⟨"java/lang/StringUTF16", "putChar", "([BII)V"⟩ : MethodName)) (plainFor_of_name own_pn_java_lang_StringUTF16) (own_ef_rmPut0 v' (0 : Int32) c') ?_
  intro p e s m below meth c s₁ hx hby hml hown hnm hret hlk hZ X0 e0
  show OGoal p e below s _ _ _ (s₁.setTop (mkF m 0 #[.val (.ref v'), .val (.int (0 : Int32)), .val (.int c')] []))
  obtain ⟨T1, X2, e3, st4⟩ := getS X0 hx hZ hown (host := "") (hw _ (List.mem_of_getElem? (i := 114) rfl)) Via.refl e0 St.s2 (g := mkF m 0 #[.val (.ref v'), .val (.int (0 : Int32)), .val (.int c')] []) rfl (hb hby own_d_jdk_52_method_4_code_0)
  refine OGoal.mp (S' := (T1.setTop (mkF m 3 #[.val (.ref v'), .val (.int (0 : Int32)), .val (.int c')] [(.int (1 : Int32))]))) (fun _ k => st4 _ k) ?_
  refine OGoal.mp (S' := (T1.setTop (mkF m 28 #[.val (.ref v'), .val (.int (0 : Int32)), .val (.int c')] []))) (fun _ k => XS.ifYes X2.here hx rfl (pc0 := 3) (pc' := 28) rfl (hb hby own_d_jdk_52_method_4_code_3) rfl (XT.i0_ne_t (by decide)) (by decide) (by decide) k) ?_
  refine OGoal.mp (S' := (T1.setTop (mkF m 29 #[.val (.ref v'), .val (.int (0 : Int32)), .val (.int c')] [(.int (0 : Int32))]))) (fun _ k => XS.iloadN X2.here hx rfl (hb hby own_d_jdk_52_method_4_code_28) rfl k) ?_
  refine OGoal.mp (S' := (T1.setTop (mkF m 30 #[.val (.ref v'), .val (.int (0 : Int32)), .val (.int c')] [(.int (1 : Int32)), (.int (0 : Int32))]))) (fun _ k => XS.iconst X2.here hx rfl (hb hby own_d_jdk_52_method_4_code_29) k) ?_
  refine OGoal.mp (S' := (T1.setTop (mkF m 31 #[.val (.ref v'), .val (.int (0 : Int32)), .val (.int c')] [(.int ((0 : Int32) <<< ((1 : Int32) &&& 31)))]))) (fun _ k => XT.ishl X2.here hx rfl (hb hby own_d_jdk_52_method_4_code_30) rfl k) ?_
  rw [show ((0 : Int32) <<< ((1 : Int32) &&& 31)) = (0 : Int32) by decide]
  show OGoal p e below s _ _ _ (T1.setTop (mkF m 31 #[.val (.ref v'), .val (.int (0 : Int32)), .val (.int c')] [(.int (0 : Int32))]))
  refine OGoal.mp (S' := (T1.setTop (mkF m 32 #[.val (.ref v'), .val (.int (0 : Int32)), .val (.int c')] []))) (fun _ k => XS.istoreN X2.here hx rfl (hb hby own_d_jdk_52_method_4_code_31) rfl (l' := #[.val (.ref v'), .val (.int (0 : Int32)), .val (.int c')]) rfl k) ?_
  refine OGoal.mp (S' := (T1.setTop (mkF m 33 #[.val (.ref v'), .val (.int (0 : Int32)), .val (.int c')] [(.ref v')]))) (fun _ k => XS.aloadN X2.here hx rfl (hb hby own_d_jdk_52_method_4_code_32) rfl rfl k) ?_
  refine OGoal.mp (S' := (T1.setTop (mkF m 34 #[.val (.ref v'), .val (.int (0 : Int32)), .val (.int c')] [(.int (0 : Int32)), (.ref v')]))) (fun _ k => XS.iloadN X2.here hx rfl (hb hby own_d_jdk_52_method_4_code_33) rfl k) ?_
  refine OGoal.mp (S' := (T1.setTop (mkF m 37 #[.val (.ref v'), .val (.int ((0 : Int32) + (1 : Int32))), .val (.int c')] [(.int (0 : Int32)), (.ref v')]))) (fun _ k => XT.iincV X2.here hx rfl (1 : Int32) (hb hby own_d_jdk_52_method_4_code_34) rfl rfl (l' := #[.val (.ref v'), .val (.int ((0 : Int32) + (1 : Int32))), .val (.int c')]) rfl k) ?_
  rw [show ((0 : Int32) + (1 : Int32)) = (1 : Int32) by decide]
  show OGoal p e below s _ _ _ (T1.setTop (mkF m 37 #[.val (.ref v'), .val (.int (1 : Int32)), .val (.int c')] [(.int (0 : Int32)), (.ref v')]))
  refine OGoal.mp (S' := (T1.setTop (mkF m 38 #[.val (.ref v'), .val (.int (1 : Int32)), .val (.int c')] [(.int c'), (.int (0 : Int32)), (.ref v')]))) (fun _ k => XS.iloadN X2.here hx rfl (hb hby own_d_jdk_52_method_4_code_37) rfl k) ?_
  obtain ⟨T5, X6, e7, st8⟩ := getS X2 hx hZ hown (host := "") (hw _ (List.mem_of_getElem? (i := 115) rfl)) Via.refl e3 St.s3 (g := mkF m 38 #[.val (.ref v'), .val (.int (1 : Int32)), .val (.int c')] [(.int c'), (.int (0 : Int32)), (.ref v')]) rfl (hb hby own_d_jdk_52_method_4_code_38)
  refine OGoal.mp (S' := (T5.setTop (mkF m 41 #[.val (.ref v'), .val (.int (1 : Int32)), .val (.int c')] [(.int (0 : Int32)), (.int c'), (.int (0 : Int32)), (.ref v')]))) (fun _ k => st8 _ k) ?_
  refine OGoal.mp (S' := (T5.setTop (mkF m 42 #[.val (.ref v'), .val (.int (1 : Int32)), .val (.int c')] [(.int (c' >>> ((0 : Int32) &&& 31))), (.int (0 : Int32)), (.ref v')]))) (fun _ k => XT.ishr X6.here hx rfl (hb hby own_d_jdk_52_method_4_code_41) rfl k) ?_
  refine OGoal.mp (S' := (T5.setTop (mkF m 43 #[.val (.ref v'), .val (.int (1 : Int32)), .val (.int c')] [(.int (((c' >>> ((0 : Int32) &&& 31))).toInt8.toInt32)), (.int (0 : Int32)), (.ref v')]))) (fun _ k => XT.i2b X6.here hx rfl (hb hby own_d_jdk_52_method_4_code_42) rfl k) ?_
  obtain ⟨T9, h13, X10, e11, W14, st12⟩ := oStB X6 hx hZ e7 A (by decide) (by decide) (oNarBB _) (g := mkF m 43 #[.val (.ref v'), .val (.int (1 : Int32)), .val (.int c')] [(.int (((c' >>> ((0 : Int32) &&& 31))).toInt8.toInt32)), (.int (0 : Int32)), (.ref v')]) rfl rfl (hb hby own_d_jdk_52_method_4_code_43)
  have N15 := Fr.snoc X10 (Fr.nil n0) ab
  have K16 : Keep h0 h13 [v'] := (Keep.refl h0 [v']).wr W14 (Or.inl (by simp))
  have F17 := St.wr W14
  have F18 : OArr Z h13 v' .byte (8 : Int32) (fun jj => if jj = ((0 : Int32)).toNatClampNeg then (.int (((c' >>> ((0 : Int32) &&& 31))).toInt8.toInt32)) else gf jj : Nat → Value) := A.set W14
  have Z19 : n0 ≤ h13.size := Nat.le_trans Z0 (Keep.of_wr W14).1
  refine OGoal.mp (S' := (T9.setTop (mkF m 44 #[.val (.ref v'), .val (.int (1 : Int32)), .val (.int c')] []))) (fun _ k => st12 _ k) ?_
  refine OGoal.mp (S' := (T9.setTop (mkF m 45 #[.val (.ref v'), .val (.int (1 : Int32)), .val (.int c')] [(.ref v')]))) (fun _ k => XS.aloadN X10.here hx rfl (hb hby own_d_jdk_52_method_4_code_44) rfl rfl k) ?_
  refine OGoal.mp (S' := (T9.setTop (mkF m 46 #[.val (.ref v'), .val (.int (1 : Int32)), .val (.int c')] [(.int (1 : Int32)), (.ref v')]))) (fun _ k => XS.iloadN X10.here hx rfl (hb hby own_d_jdk_52_method_4_code_45) rfl k) ?_
  refine OGoal.mp (S' := (T9.setTop (mkF m 47 #[.val (.ref v'), .val (.int (1 : Int32)), .val (.int c')] [(.int c'), (.int (1 : Int32)), (.ref v')]))) (fun _ k => XS.iloadN X10.here hx rfl (hb hby own_d_jdk_52_method_4_code_46) rfl k) ?_
  obtain ⟨T20, X21, e22, st23⟩ := getS X10 hx hZ hown (host := "") (hw _ (List.mem_of_getElem? (i := 116) rfl)) Via.refl e11 F17.s4 (g := mkF m 47 #[.val (.ref v'), .val (.int (1 : Int32)), .val (.int c')] [(.int c'), (.int (1 : Int32)), (.ref v')]) rfl (hb hby own_d_jdk_52_method_4_code_47)
  refine OGoal.mp (S' := (T20.setTop (mkF m 50 #[.val (.ref v'), .val (.int (1 : Int32)), .val (.int c')] [(.int (8 : Int32)), (.int c'), (.int (1 : Int32)), (.ref v')]))) (fun _ k => st23 _ k) ?_
  refine OGoal.mp (S' := (T20.setTop (mkF m 51 #[.val (.ref v'), .val (.int (1 : Int32)), .val (.int c')] [(.int (c' >>> ((8 : Int32) &&& 31))), (.int (1 : Int32)), (.ref v')]))) (fun _ k => XT.ishr X21.here hx rfl (hb hby own_d_jdk_52_method_4_code_50) rfl k) ?_
  refine OGoal.mp (S' := (T20.setTop (mkF m 52 #[.val (.ref v'), .val (.int (1 : Int32)), .val (.int c')] [(.int (((c' >>> ((8 : Int32) &&& 31))).toInt8.toInt32)), (.int (1 : Int32)), (.ref v')]))) (fun _ k => XT.i2b X21.here hx rfl (hb hby own_d_jdk_52_method_4_code_51) rfl k) ?_
  obtain ⟨T24, h28, X25, e26, W29, st27⟩ := oStB X21 hx hZ e22 F18 (by decide) (by decide) (oNarBB _) (g := mkF m 52 #[.val (.ref v'), .val (.int (1 : Int32)), .val (.int c')] [(.int (((c' >>> ((8 : Int32) &&& 31))).toInt8.toInt32)), (.int (1 : Int32)), (.ref v')]) rfl rfl (hb hby own_d_jdk_52_method_4_code_52)
  have N30 := Fr.snoc X25 N15 ab
  have K31 : Keep h0 h28 [v'] := K16.wr W29 (Or.inl (by simp))
  have F32 := F17.wr W29
  have F33 : OArr Z h28 v' .byte (8 : Int32) (fun jj => if jj = ((1 : Int32)).toNatClampNeg then (.int (((c' >>> ((8 : Int32) &&& 31))).toInt8.toInt32)) else (fun jj => if jj = ((0 : Int32)).toNatClampNeg then (.int (((c' >>> ((0 : Int32) &&& 31))).toInt8.toInt32)) else gf jj : Nat → Value) jj : Nat → Value) := F18.set W29
  have Z34 : n0 ≤ h28.size := Nat.le_trans Z19 (Keep.of_wr W29).1
  refine OGoal.mp (S' := (T24.setTop (mkF m 53 #[.val (.ref v'), .val (.int (1 : Int32)), .val (.int c')] []))) (fun _ k => st27 _ k) ?_
  refine oRetV X25 hx hlk hret (hb hby own_d_jdk_52_method_4_code_53) ?_ (by decide) (by decide)
  rw [e26]; exact ⟨rfl, N30, K31, F32, F33⟩
theorem own_ef_rmPut1 (x0 : Addr) (x1 : Int32) (x2 : Int32) (m : MethodId) : entryFrame m #[(.ref x0), (.int x1), (.int x2)] 3 = mkF m 0 #[.val (.ref x0), .val (.int x1), .val (.int x2)] [] := by first | (simp [entryFrame, mkF, argsToLocals, Value.category]; done) | rfl
set_option maxRecDepth 65536 in
set_option maxHeartbeats 40000000 in
theorem rmPut1 (l : Launch) (Z : State) (a0 : Array Value) (hw : ∀ d ∈ tables_1, d.before a0 Z = true) (v' : Addr) (c' : Int32) (h0 : Heap) (n0 : Nat) (Z0 : n0 ≤ h0.size) (cs : Int32) (fm : Value) (hcs : ¬ cs = 0) (hfm : fm.isRef = true) (St : Stt Z h0 cs fm) (gf : Nat → Value) (A : OArr Z h0 v' .byte 8 gf) (ab : n0 ≤ v') :
    OCon l Z (⟨"java/lang/StringUTF16", "putChar", "([BII)V"⟩ : MethodName) jdk_52_method_4_code 3 none ({ frames := 0, cells := 0, slots := 0, locals := 0 } : Room) #[(.ref v'), (.int (1 : Int32)), (.int c')] h0 (fun v h L => v = none ∧ Fr n0 L ∧ Keep h0 h [v'] ∧ Stt Z h cs fm ∧ OArr Z h v' .byte 8 (fun i => if i = (3 : Int32).toNatClampNeg then (.int (c' >>> ((8 : Int32) &&& 31)).toInt8.toInt32) else (fun i => if i = (2 : Int32).toNatClampNeg then (.int (c' >>> ((0 : Int32) &&& 31)).toInt8.toInt32) else gf i) i)) := by
  refine OConK.intro (y := (⟨"java/lang/StringUTF16", "putChar", "([BII)V"⟩ : MethodName)) (plainFor_of_name own_pn_java_lang_StringUTF16) (own_ef_rmPut1 v' (1 : Int32) c') ?_
  intro p e s m below meth c s₁ hx hby hml hown hnm hret hlk hZ X0 e0
  show OGoal p e below s _ _ _ (s₁.setTop (mkF m 0 #[.val (.ref v'), .val (.int (1 : Int32)), .val (.int c')] []))
  obtain ⟨T1, X2, e3, st4⟩ := getS X0 hx hZ hown (host := "") (hw _ (List.mem_of_getElem? (i := 114) rfl)) Via.refl e0 St.s2 (g := mkF m 0 #[.val (.ref v'), .val (.int (1 : Int32)), .val (.int c')] []) rfl (hb hby own_d_jdk_52_method_4_code_0)
  refine OGoal.mp (S' := (T1.setTop (mkF m 3 #[.val (.ref v'), .val (.int (1 : Int32)), .val (.int c')] [(.int (1 : Int32))]))) (fun _ k => st4 _ k) ?_
  refine OGoal.mp (S' := (T1.setTop (mkF m 28 #[.val (.ref v'), .val (.int (1 : Int32)), .val (.int c')] []))) (fun _ k => XS.ifYes X2.here hx rfl (pc0 := 3) (pc' := 28) rfl (hb hby own_d_jdk_52_method_4_code_3) rfl (XT.i0_ne_t (by decide)) (by decide) (by decide) k) ?_
  refine OGoal.mp (S' := (T1.setTop (mkF m 29 #[.val (.ref v'), .val (.int (1 : Int32)), .val (.int c')] [(.int (1 : Int32))]))) (fun _ k => XS.iloadN X2.here hx rfl (hb hby own_d_jdk_52_method_4_code_28) rfl k) ?_
  refine OGoal.mp (S' := (T1.setTop (mkF m 30 #[.val (.ref v'), .val (.int (1 : Int32)), .val (.int c')] [(.int (1 : Int32)), (.int (1 : Int32))]))) (fun _ k => XS.iconst X2.here hx rfl (hb hby own_d_jdk_52_method_4_code_29) k) ?_
  refine OGoal.mp (S' := (T1.setTop (mkF m 31 #[.val (.ref v'), .val (.int (1 : Int32)), .val (.int c')] [(.int ((1 : Int32) <<< ((1 : Int32) &&& 31)))]))) (fun _ k => XT.ishl X2.here hx rfl (hb hby own_d_jdk_52_method_4_code_30) rfl k) ?_
  rw [show ((1 : Int32) <<< ((1 : Int32) &&& 31)) = (2 : Int32) by decide]
  show OGoal p e below s _ _ _ (T1.setTop (mkF m 31 #[.val (.ref v'), .val (.int (1 : Int32)), .val (.int c')] [(.int (2 : Int32))]))
  refine OGoal.mp (S' := (T1.setTop (mkF m 32 #[.val (.ref v'), .val (.int (2 : Int32)), .val (.int c')] []))) (fun _ k => XS.istoreN X2.here hx rfl (hb hby own_d_jdk_52_method_4_code_31) rfl (l' := #[.val (.ref v'), .val (.int (2 : Int32)), .val (.int c')]) rfl k) ?_
  refine OGoal.mp (S' := (T1.setTop (mkF m 33 #[.val (.ref v'), .val (.int (2 : Int32)), .val (.int c')] [(.ref v')]))) (fun _ k => XS.aloadN X2.here hx rfl (hb hby own_d_jdk_52_method_4_code_32) rfl rfl k) ?_
  refine OGoal.mp (S' := (T1.setTop (mkF m 34 #[.val (.ref v'), .val (.int (2 : Int32)), .val (.int c')] [(.int (2 : Int32)), (.ref v')]))) (fun _ k => XS.iloadN X2.here hx rfl (hb hby own_d_jdk_52_method_4_code_33) rfl k) ?_
  refine OGoal.mp (S' := (T1.setTop (mkF m 37 #[.val (.ref v'), .val (.int ((2 : Int32) + (1 : Int32))), .val (.int c')] [(.int (2 : Int32)), (.ref v')]))) (fun _ k => XT.iincV X2.here hx rfl (1 : Int32) (hb hby own_d_jdk_52_method_4_code_34) rfl rfl (l' := #[.val (.ref v'), .val (.int ((2 : Int32) + (1 : Int32))), .val (.int c')]) rfl k) ?_
  rw [show ((2 : Int32) + (1 : Int32)) = (3 : Int32) by decide]
  show OGoal p e below s _ _ _ (T1.setTop (mkF m 37 #[.val (.ref v'), .val (.int (3 : Int32)), .val (.int c')] [(.int (2 : Int32)), (.ref v')]))
  refine OGoal.mp (S' := (T1.setTop (mkF m 38 #[.val (.ref v'), .val (.int (3 : Int32)), .val (.int c')] [(.int c'), (.int (2 : Int32)), (.ref v')]))) (fun _ k => XS.iloadN X2.here hx rfl (hb hby own_d_jdk_52_method_4_code_37) rfl k) ?_
  obtain ⟨T5, X6, e7, st8⟩ := getS X2 hx hZ hown (host := "") (hw _ (List.mem_of_getElem? (i := 115) rfl)) Via.refl e3 St.s3 (g := mkF m 38 #[.val (.ref v'), .val (.int (3 : Int32)), .val (.int c')] [(.int c'), (.int (2 : Int32)), (.ref v')]) rfl (hb hby own_d_jdk_52_method_4_code_38)
  refine OGoal.mp (S' := (T5.setTop (mkF m 41 #[.val (.ref v'), .val (.int (3 : Int32)), .val (.int c')] [(.int (0 : Int32)), (.int c'), (.int (2 : Int32)), (.ref v')]))) (fun _ k => st8 _ k) ?_
  refine OGoal.mp (S' := (T5.setTop (mkF m 42 #[.val (.ref v'), .val (.int (3 : Int32)), .val (.int c')] [(.int (c' >>> ((0 : Int32) &&& 31))), (.int (2 : Int32)), (.ref v')]))) (fun _ k => XT.ishr X6.here hx rfl (hb hby own_d_jdk_52_method_4_code_41) rfl k) ?_
  refine OGoal.mp (S' := (T5.setTop (mkF m 43 #[.val (.ref v'), .val (.int (3 : Int32)), .val (.int c')] [(.int (((c' >>> ((0 : Int32) &&& 31))).toInt8.toInt32)), (.int (2 : Int32)), (.ref v')]))) (fun _ k => XT.i2b X6.here hx rfl (hb hby own_d_jdk_52_method_4_code_42) rfl k) ?_
  obtain ⟨T9, h13, X10, e11, W14, st12⟩ := oStB X6 hx hZ e7 A (by decide) (by decide) (oNarBB _) (g := mkF m 43 #[.val (.ref v'), .val (.int (3 : Int32)), .val (.int c')] [(.int (((c' >>> ((0 : Int32) &&& 31))).toInt8.toInt32)), (.int (2 : Int32)), (.ref v')]) rfl rfl (hb hby own_d_jdk_52_method_4_code_43)
  have N15 := Fr.snoc X10 (Fr.nil n0) ab
  have K16 : Keep h0 h13 [v'] := (Keep.refl h0 [v']).wr W14 (Or.inl (by simp))
  have F17 := St.wr W14
  have F18 : OArr Z h13 v' .byte (8 : Int32) (fun jj => if jj = ((2 : Int32)).toNatClampNeg then (.int (((c' >>> ((0 : Int32) &&& 31))).toInt8.toInt32)) else gf jj : Nat → Value) := A.set W14
  have Z19 : n0 ≤ h13.size := Nat.le_trans Z0 (Keep.of_wr W14).1
  refine OGoal.mp (S' := (T9.setTop (mkF m 44 #[.val (.ref v'), .val (.int (3 : Int32)), .val (.int c')] []))) (fun _ k => st12 _ k) ?_
  refine OGoal.mp (S' := (T9.setTop (mkF m 45 #[.val (.ref v'), .val (.int (3 : Int32)), .val (.int c')] [(.ref v')]))) (fun _ k => XS.aloadN X10.here hx rfl (hb hby own_d_jdk_52_method_4_code_44) rfl rfl k) ?_
  refine OGoal.mp (S' := (T9.setTop (mkF m 46 #[.val (.ref v'), .val (.int (3 : Int32)), .val (.int c')] [(.int (3 : Int32)), (.ref v')]))) (fun _ k => XS.iloadN X10.here hx rfl (hb hby own_d_jdk_52_method_4_code_45) rfl k) ?_
  refine OGoal.mp (S' := (T9.setTop (mkF m 47 #[.val (.ref v'), .val (.int (3 : Int32)), .val (.int c')] [(.int c'), (.int (3 : Int32)), (.ref v')]))) (fun _ k => XS.iloadN X10.here hx rfl (hb hby own_d_jdk_52_method_4_code_46) rfl k) ?_
  obtain ⟨T20, X21, e22, st23⟩ := getS X10 hx hZ hown (host := "") (hw _ (List.mem_of_getElem? (i := 116) rfl)) Via.refl e11 F17.s4 (g := mkF m 47 #[.val (.ref v'), .val (.int (3 : Int32)), .val (.int c')] [(.int c'), (.int (3 : Int32)), (.ref v')]) rfl (hb hby own_d_jdk_52_method_4_code_47)
  refine OGoal.mp (S' := (T20.setTop (mkF m 50 #[.val (.ref v'), .val (.int (3 : Int32)), .val (.int c')] [(.int (8 : Int32)), (.int c'), (.int (3 : Int32)), (.ref v')]))) (fun _ k => st23 _ k) ?_
  refine OGoal.mp (S' := (T20.setTop (mkF m 51 #[.val (.ref v'), .val (.int (3 : Int32)), .val (.int c')] [(.int (c' >>> ((8 : Int32) &&& 31))), (.int (3 : Int32)), (.ref v')]))) (fun _ k => XT.ishr X21.here hx rfl (hb hby own_d_jdk_52_method_4_code_50) rfl k) ?_
  refine OGoal.mp (S' := (T20.setTop (mkF m 52 #[.val (.ref v'), .val (.int (3 : Int32)), .val (.int c')] [(.int (((c' >>> ((8 : Int32) &&& 31))).toInt8.toInt32)), (.int (3 : Int32)), (.ref v')]))) (fun _ k => XT.i2b X21.here hx rfl (hb hby own_d_jdk_52_method_4_code_51) rfl k) ?_
  obtain ⟨T24, h28, X25, e26, W29, st27⟩ := oStB X21 hx hZ e22 F18 (by decide) (by decide) (oNarBB _) (g := mkF m 52 #[.val (.ref v'), .val (.int (3 : Int32)), .val (.int c')] [(.int (((c' >>> ((8 : Int32) &&& 31))).toInt8.toInt32)), (.int (3 : Int32)), (.ref v')]) rfl rfl (hb hby own_d_jdk_52_method_4_code_52)
  have N30 := Fr.snoc X25 N15 ab
  have K31 : Keep h0 h28 [v'] := K16.wr W29 (Or.inl (by simp))
  have F32 := F17.wr W29
  have F33 : OArr Z h28 v' .byte (8 : Int32) (fun jj => if jj = ((3 : Int32)).toNatClampNeg then (.int (((c' >>> ((8 : Int32) &&& 31))).toInt8.toInt32)) else (fun jj => if jj = ((2 : Int32)).toNatClampNeg then (.int (((c' >>> ((0 : Int32) &&& 31))).toInt8.toInt32)) else gf jj : Nat → Value) jj : Nat → Value) := F18.set W29
  have Z34 : n0 ≤ h28.size := Nat.le_trans Z19 (Keep.of_wr W29).1
  refine OGoal.mp (S' := (T24.setTop (mkF m 53 #[.val (.ref v'), .val (.int (3 : Int32)), .val (.int c')] []))) (fun _ k => st27 _ k) ?_
  refine oRetV X25 hx hlk hret (hb hby own_d_jdk_52_method_4_code_53) ?_ (by decide) (by decide)
  rw [e26]; exact ⟨rfl, N30, K31, F32, F33⟩
theorem own_ef_rmPut2 (x0 : Addr) (x1 : Int32) (x2 : Int32) (m : MethodId) : entryFrame m #[(.ref x0), (.int x1), (.int x2)] 3 = mkF m 0 #[.val (.ref x0), .val (.int x1), .val (.int x2)] [] := by first | (simp [entryFrame, mkF, argsToLocals, Value.category]; done) | rfl
set_option maxRecDepth 65536 in
set_option maxHeartbeats 40000000 in
theorem rmPut2 (l : Launch) (Z : State) (a0 : Array Value) (hw : ∀ d ∈ tables_1, d.before a0 Z = true) (v' : Addr) (c' : Int32) (h0 : Heap) (n0 : Nat) (Z0 : n0 ≤ h0.size) (cs : Int32) (fm : Value) (hcs : ¬ cs = 0) (hfm : fm.isRef = true) (St : Stt Z h0 cs fm) (gf : Nat → Value) (A : OArr Z h0 v' .byte 8 gf) (ab : n0 ≤ v') :
    OCon l Z (⟨"java/lang/StringUTF16", "putChar", "([BII)V"⟩ : MethodName) jdk_52_method_4_code 3 none ({ frames := 0, cells := 0, slots := 0, locals := 0 } : Room) #[(.ref v'), (.int (2 : Int32)), (.int c')] h0 (fun v h L => v = none ∧ Fr n0 L ∧ Keep h0 h [v'] ∧ Stt Z h cs fm ∧ OArr Z h v' .byte 8 (fun i => if i = (5 : Int32).toNatClampNeg then (.int (c' >>> ((8 : Int32) &&& 31)).toInt8.toInt32) else (fun i => if i = (4 : Int32).toNatClampNeg then (.int (c' >>> ((0 : Int32) &&& 31)).toInt8.toInt32) else gf i) i)) := by
  refine OConK.intro (y := (⟨"java/lang/StringUTF16", "putChar", "([BII)V"⟩ : MethodName)) (plainFor_of_name own_pn_java_lang_StringUTF16) (own_ef_rmPut2 v' (2 : Int32) c') ?_
  intro p e s m below meth c s₁ hx hby hml hown hnm hret hlk hZ X0 e0
  show OGoal p e below s _ _ _ (s₁.setTop (mkF m 0 #[.val (.ref v'), .val (.int (2 : Int32)), .val (.int c')] []))
  obtain ⟨T1, X2, e3, st4⟩ := getS X0 hx hZ hown (host := "") (hw _ (List.mem_of_getElem? (i := 114) rfl)) Via.refl e0 St.s2 (g := mkF m 0 #[.val (.ref v'), .val (.int (2 : Int32)), .val (.int c')] []) rfl (hb hby own_d_jdk_52_method_4_code_0)
  refine OGoal.mp (S' := (T1.setTop (mkF m 3 #[.val (.ref v'), .val (.int (2 : Int32)), .val (.int c')] [(.int (1 : Int32))]))) (fun _ k => st4 _ k) ?_
  refine OGoal.mp (S' := (T1.setTop (mkF m 28 #[.val (.ref v'), .val (.int (2 : Int32)), .val (.int c')] []))) (fun _ k => XS.ifYes X2.here hx rfl (pc0 := 3) (pc' := 28) rfl (hb hby own_d_jdk_52_method_4_code_3) rfl (XT.i0_ne_t (by decide)) (by decide) (by decide) k) ?_
  refine OGoal.mp (S' := (T1.setTop (mkF m 29 #[.val (.ref v'), .val (.int (2 : Int32)), .val (.int c')] [(.int (2 : Int32))]))) (fun _ k => XS.iloadN X2.here hx rfl (hb hby own_d_jdk_52_method_4_code_28) rfl k) ?_
  refine OGoal.mp (S' := (T1.setTop (mkF m 30 #[.val (.ref v'), .val (.int (2 : Int32)), .val (.int c')] [(.int (1 : Int32)), (.int (2 : Int32))]))) (fun _ k => XS.iconst X2.here hx rfl (hb hby own_d_jdk_52_method_4_code_29) k) ?_
  refine OGoal.mp (S' := (T1.setTop (mkF m 31 #[.val (.ref v'), .val (.int (2 : Int32)), .val (.int c')] [(.int ((2 : Int32) <<< ((1 : Int32) &&& 31)))]))) (fun _ k => XT.ishl X2.here hx rfl (hb hby own_d_jdk_52_method_4_code_30) rfl k) ?_
  rw [show ((2 : Int32) <<< ((1 : Int32) &&& 31)) = (4 : Int32) by decide]
  show OGoal p e below s _ _ _ (T1.setTop (mkF m 31 #[.val (.ref v'), .val (.int (2 : Int32)), .val (.int c')] [(.int (4 : Int32))]))
  refine OGoal.mp (S' := (T1.setTop (mkF m 32 #[.val (.ref v'), .val (.int (4 : Int32)), .val (.int c')] []))) (fun _ k => XS.istoreN X2.here hx rfl (hb hby own_d_jdk_52_method_4_code_31) rfl (l' := #[.val (.ref v'), .val (.int (4 : Int32)), .val (.int c')]) rfl k) ?_
  refine OGoal.mp (S' := (T1.setTop (mkF m 33 #[.val (.ref v'), .val (.int (4 : Int32)), .val (.int c')] [(.ref v')]))) (fun _ k => XS.aloadN X2.here hx rfl (hb hby own_d_jdk_52_method_4_code_32) rfl rfl k) ?_
  refine OGoal.mp (S' := (T1.setTop (mkF m 34 #[.val (.ref v'), .val (.int (4 : Int32)), .val (.int c')] [(.int (4 : Int32)), (.ref v')]))) (fun _ k => XS.iloadN X2.here hx rfl (hb hby own_d_jdk_52_method_4_code_33) rfl k) ?_
  refine OGoal.mp (S' := (T1.setTop (mkF m 37 #[.val (.ref v'), .val (.int ((4 : Int32) + (1 : Int32))), .val (.int c')] [(.int (4 : Int32)), (.ref v')]))) (fun _ k => XT.iincV X2.here hx rfl (1 : Int32) (hb hby own_d_jdk_52_method_4_code_34) rfl rfl (l' := #[.val (.ref v'), .val (.int ((4 : Int32) + (1 : Int32))), .val (.int c')]) rfl k) ?_
  rw [show ((4 : Int32) + (1 : Int32)) = (5 : Int32) by decide]
  show OGoal p e below s _ _ _ (T1.setTop (mkF m 37 #[.val (.ref v'), .val (.int (5 : Int32)), .val (.int c')] [(.int (4 : Int32)), (.ref v')]))
  refine OGoal.mp (S' := (T1.setTop (mkF m 38 #[.val (.ref v'), .val (.int (5 : Int32)), .val (.int c')] [(.int c'), (.int (4 : Int32)), (.ref v')]))) (fun _ k => XS.iloadN X2.here hx rfl (hb hby own_d_jdk_52_method_4_code_37) rfl k) ?_
  obtain ⟨T5, X6, e7, st8⟩ := getS X2 hx hZ hown (host := "") (hw _ (List.mem_of_getElem? (i := 115) rfl)) Via.refl e3 St.s3 (g := mkF m 38 #[.val (.ref v'), .val (.int (5 : Int32)), .val (.int c')] [(.int c'), (.int (4 : Int32)), (.ref v')]) rfl (hb hby own_d_jdk_52_method_4_code_38)
  refine OGoal.mp (S' := (T5.setTop (mkF m 41 #[.val (.ref v'), .val (.int (5 : Int32)), .val (.int c')] [(.int (0 : Int32)), (.int c'), (.int (4 : Int32)), (.ref v')]))) (fun _ k => st8 _ k) ?_
  refine OGoal.mp (S' := (T5.setTop (mkF m 42 #[.val (.ref v'), .val (.int (5 : Int32)), .val (.int c')] [(.int (c' >>> ((0 : Int32) &&& 31))), (.int (4 : Int32)), (.ref v')]))) (fun _ k => XT.ishr X6.here hx rfl (hb hby own_d_jdk_52_method_4_code_41) rfl k) ?_
  refine OGoal.mp (S' := (T5.setTop (mkF m 43 #[.val (.ref v'), .val (.int (5 : Int32)), .val (.int c')] [(.int (((c' >>> ((0 : Int32) &&& 31))).toInt8.toInt32)), (.int (4 : Int32)), (.ref v')]))) (fun _ k => XT.i2b X6.here hx rfl (hb hby own_d_jdk_52_method_4_code_42) rfl k) ?_
  obtain ⟨T9, h13, X10, e11, W14, st12⟩ := oStB X6 hx hZ e7 A (by decide) (by decide) (oNarBB _) (g := mkF m 43 #[.val (.ref v'), .val (.int (5 : Int32)), .val (.int c')] [(.int (((c' >>> ((0 : Int32) &&& 31))).toInt8.toInt32)), (.int (4 : Int32)), (.ref v')]) rfl rfl (hb hby own_d_jdk_52_method_4_code_43)
  have N15 := Fr.snoc X10 (Fr.nil n0) ab
  have K16 : Keep h0 h13 [v'] := (Keep.refl h0 [v']).wr W14 (Or.inl (by simp))
  have F17 := St.wr W14
  have F18 : OArr Z h13 v' .byte (8 : Int32) (fun jj => if jj = ((4 : Int32)).toNatClampNeg then (.int (((c' >>> ((0 : Int32) &&& 31))).toInt8.toInt32)) else gf jj : Nat → Value) := A.set W14
  have Z19 : n0 ≤ h13.size := Nat.le_trans Z0 (Keep.of_wr W14).1
  refine OGoal.mp (S' := (T9.setTop (mkF m 44 #[.val (.ref v'), .val (.int (5 : Int32)), .val (.int c')] []))) (fun _ k => st12 _ k) ?_
  refine OGoal.mp (S' := (T9.setTop (mkF m 45 #[.val (.ref v'), .val (.int (5 : Int32)), .val (.int c')] [(.ref v')]))) (fun _ k => XS.aloadN X10.here hx rfl (hb hby own_d_jdk_52_method_4_code_44) rfl rfl k) ?_
  refine OGoal.mp (S' := (T9.setTop (mkF m 46 #[.val (.ref v'), .val (.int (5 : Int32)), .val (.int c')] [(.int (5 : Int32)), (.ref v')]))) (fun _ k => XS.iloadN X10.here hx rfl (hb hby own_d_jdk_52_method_4_code_45) rfl k) ?_
  refine OGoal.mp (S' := (T9.setTop (mkF m 47 #[.val (.ref v'), .val (.int (5 : Int32)), .val (.int c')] [(.int c'), (.int (5 : Int32)), (.ref v')]))) (fun _ k => XS.iloadN X10.here hx rfl (hb hby own_d_jdk_52_method_4_code_46) rfl k) ?_
  obtain ⟨T20, X21, e22, st23⟩ := getS X10 hx hZ hown (host := "") (hw _ (List.mem_of_getElem? (i := 116) rfl)) Via.refl e11 F17.s4 (g := mkF m 47 #[.val (.ref v'), .val (.int (5 : Int32)), .val (.int c')] [(.int c'), (.int (5 : Int32)), (.ref v')]) rfl (hb hby own_d_jdk_52_method_4_code_47)
  refine OGoal.mp (S' := (T20.setTop (mkF m 50 #[.val (.ref v'), .val (.int (5 : Int32)), .val (.int c')] [(.int (8 : Int32)), (.int c'), (.int (5 : Int32)), (.ref v')]))) (fun _ k => st23 _ k) ?_
  refine OGoal.mp (S' := (T20.setTop (mkF m 51 #[.val (.ref v'), .val (.int (5 : Int32)), .val (.int c')] [(.int (c' >>> ((8 : Int32) &&& 31))), (.int (5 : Int32)), (.ref v')]))) (fun _ k => XT.ishr X21.here hx rfl (hb hby own_d_jdk_52_method_4_code_50) rfl k) ?_
  refine OGoal.mp (S' := (T20.setTop (mkF m 52 #[.val (.ref v'), .val (.int (5 : Int32)), .val (.int c')] [(.int (((c' >>> ((8 : Int32) &&& 31))).toInt8.toInt32)), (.int (5 : Int32)), (.ref v')]))) (fun _ k => XT.i2b X21.here hx rfl (hb hby own_d_jdk_52_method_4_code_51) rfl k) ?_
  obtain ⟨T24, h28, X25, e26, W29, st27⟩ := oStB X21 hx hZ e22 F18 (by decide) (by decide) (oNarBB _) (g := mkF m 52 #[.val (.ref v'), .val (.int (5 : Int32)), .val (.int c')] [(.int (((c' >>> ((8 : Int32) &&& 31))).toInt8.toInt32)), (.int (5 : Int32)), (.ref v')]) rfl rfl (hb hby own_d_jdk_52_method_4_code_52)
  have N30 := Fr.snoc X25 N15 ab
  have K31 : Keep h0 h28 [v'] := K16.wr W29 (Or.inl (by simp))
  have F32 := F17.wr W29
  have F33 : OArr Z h28 v' .byte (8 : Int32) (fun jj => if jj = ((5 : Int32)).toNatClampNeg then (.int (((c' >>> ((8 : Int32) &&& 31))).toInt8.toInt32)) else (fun jj => if jj = ((4 : Int32)).toNatClampNeg then (.int (((c' >>> ((0 : Int32) &&& 31))).toInt8.toInt32)) else gf jj : Nat → Value) jj : Nat → Value) := F18.set W29
  have Z34 : n0 ≤ h28.size := Nat.le_trans Z19 (Keep.of_wr W29).1
  refine OGoal.mp (S' := (T24.setTop (mkF m 53 #[.val (.ref v'), .val (.int (5 : Int32)), .val (.int c')] []))) (fun _ k => st27 _ k) ?_
  refine oRetV X25 hx hlk hret (hb hby own_d_jdk_52_method_4_code_53) ?_ (by decide) (by decide)
  rw [e26]; exact ⟨rfl, N30, K31, F32, F33⟩
theorem own_ef_rmPut3 (x0 : Addr) (x1 : Int32) (x2 : Int32) (m : MethodId) : entryFrame m #[(.ref x0), (.int x1), (.int x2)] 3 = mkF m 0 #[.val (.ref x0), .val (.int x1), .val (.int x2)] [] := by first | (simp [entryFrame, mkF, argsToLocals, Value.category]; done) | rfl
set_option maxRecDepth 65536 in
set_option maxHeartbeats 40000000 in
theorem rmPut3 (l : Launch) (Z : State) (a0 : Array Value) (hw : ∀ d ∈ tables_1, d.before a0 Z = true) (v' : Addr) (c' : Int32) (h0 : Heap) (n0 : Nat) (Z0 : n0 ≤ h0.size) (cs : Int32) (fm : Value) (hcs : ¬ cs = 0) (hfm : fm.isRef = true) (St : Stt Z h0 cs fm) (gf : Nat → Value) (A : OArr Z h0 v' .byte 8 gf) (ab : n0 ≤ v') :
    OCon l Z (⟨"java/lang/StringUTF16", "putChar", "([BII)V"⟩ : MethodName) jdk_52_method_4_code 3 none ({ frames := 0, cells := 0, slots := 0, locals := 0 } : Room) #[(.ref v'), (.int (3 : Int32)), (.int c')] h0 (fun v h L => v = none ∧ Fr n0 L ∧ Keep h0 h [v'] ∧ Stt Z h cs fm ∧ OArr Z h v' .byte 8 (fun i => if i = (7 : Int32).toNatClampNeg then (.int (c' >>> ((8 : Int32) &&& 31)).toInt8.toInt32) else (fun i => if i = (6 : Int32).toNatClampNeg then (.int (c' >>> ((0 : Int32) &&& 31)).toInt8.toInt32) else gf i) i)) := by
  refine OConK.intro (y := (⟨"java/lang/StringUTF16", "putChar", "([BII)V"⟩ : MethodName)) (plainFor_of_name own_pn_java_lang_StringUTF16) (own_ef_rmPut3 v' (3 : Int32) c') ?_
  intro p e s m below meth c s₁ hx hby hml hown hnm hret hlk hZ X0 e0
  show OGoal p e below s _ _ _ (s₁.setTop (mkF m 0 #[.val (.ref v'), .val (.int (3 : Int32)), .val (.int c')] []))
  obtain ⟨T1, X2, e3, st4⟩ := getS X0 hx hZ hown (host := "") (hw _ (List.mem_of_getElem? (i := 114) rfl)) Via.refl e0 St.s2 (g := mkF m 0 #[.val (.ref v'), .val (.int (3 : Int32)), .val (.int c')] []) rfl (hb hby own_d_jdk_52_method_4_code_0)
  refine OGoal.mp (S' := (T1.setTop (mkF m 3 #[.val (.ref v'), .val (.int (3 : Int32)), .val (.int c')] [(.int (1 : Int32))]))) (fun _ k => st4 _ k) ?_
  refine OGoal.mp (S' := (T1.setTop (mkF m 28 #[.val (.ref v'), .val (.int (3 : Int32)), .val (.int c')] []))) (fun _ k => XS.ifYes X2.here hx rfl (pc0 := 3) (pc' := 28) rfl (hb hby own_d_jdk_52_method_4_code_3) rfl (XT.i0_ne_t (by decide)) (by decide) (by decide) k) ?_
  refine OGoal.mp (S' := (T1.setTop (mkF m 29 #[.val (.ref v'), .val (.int (3 : Int32)), .val (.int c')] [(.int (3 : Int32))]))) (fun _ k => XS.iloadN X2.here hx rfl (hb hby own_d_jdk_52_method_4_code_28) rfl k) ?_
  refine OGoal.mp (S' := (T1.setTop (mkF m 30 #[.val (.ref v'), .val (.int (3 : Int32)), .val (.int c')] [(.int (1 : Int32)), (.int (3 : Int32))]))) (fun _ k => XS.iconst X2.here hx rfl (hb hby own_d_jdk_52_method_4_code_29) k) ?_
  refine OGoal.mp (S' := (T1.setTop (mkF m 31 #[.val (.ref v'), .val (.int (3 : Int32)), .val (.int c')] [(.int ((3 : Int32) <<< ((1 : Int32) &&& 31)))]))) (fun _ k => XT.ishl X2.here hx rfl (hb hby own_d_jdk_52_method_4_code_30) rfl k) ?_
  rw [show ((3 : Int32) <<< ((1 : Int32) &&& 31)) = (6 : Int32) by decide]
  show OGoal p e below s _ _ _ (T1.setTop (mkF m 31 #[.val (.ref v'), .val (.int (3 : Int32)), .val (.int c')] [(.int (6 : Int32))]))
  refine OGoal.mp (S' := (T1.setTop (mkF m 32 #[.val (.ref v'), .val (.int (6 : Int32)), .val (.int c')] []))) (fun _ k => XS.istoreN X2.here hx rfl (hb hby own_d_jdk_52_method_4_code_31) rfl (l' := #[.val (.ref v'), .val (.int (6 : Int32)), .val (.int c')]) rfl k) ?_
  refine OGoal.mp (S' := (T1.setTop (mkF m 33 #[.val (.ref v'), .val (.int (6 : Int32)), .val (.int c')] [(.ref v')]))) (fun _ k => XS.aloadN X2.here hx rfl (hb hby own_d_jdk_52_method_4_code_32) rfl rfl k) ?_
  refine OGoal.mp (S' := (T1.setTop (mkF m 34 #[.val (.ref v'), .val (.int (6 : Int32)), .val (.int c')] [(.int (6 : Int32)), (.ref v')]))) (fun _ k => XS.iloadN X2.here hx rfl (hb hby own_d_jdk_52_method_4_code_33) rfl k) ?_
  refine OGoal.mp (S' := (T1.setTop (mkF m 37 #[.val (.ref v'), .val (.int ((6 : Int32) + (1 : Int32))), .val (.int c')] [(.int (6 : Int32)), (.ref v')]))) (fun _ k => XT.iincV X2.here hx rfl (1 : Int32) (hb hby own_d_jdk_52_method_4_code_34) rfl rfl (l' := #[.val (.ref v'), .val (.int ((6 : Int32) + (1 : Int32))), .val (.int c')]) rfl k) ?_
  rw [show ((6 : Int32) + (1 : Int32)) = (7 : Int32) by decide]
  show OGoal p e below s _ _ _ (T1.setTop (mkF m 37 #[.val (.ref v'), .val (.int (7 : Int32)), .val (.int c')] [(.int (6 : Int32)), (.ref v')]))
  refine OGoal.mp (S' := (T1.setTop (mkF m 38 #[.val (.ref v'), .val (.int (7 : Int32)), .val (.int c')] [(.int c'), (.int (6 : Int32)), (.ref v')]))) (fun _ k => XS.iloadN X2.here hx rfl (hb hby own_d_jdk_52_method_4_code_37) rfl k) ?_
  obtain ⟨T5, X6, e7, st8⟩ := getS X2 hx hZ hown (host := "") (hw _ (List.mem_of_getElem? (i := 115) rfl)) Via.refl e3 St.s3 (g := mkF m 38 #[.val (.ref v'), .val (.int (7 : Int32)), .val (.int c')] [(.int c'), (.int (6 : Int32)), (.ref v')]) rfl (hb hby own_d_jdk_52_method_4_code_38)
  refine OGoal.mp (S' := (T5.setTop (mkF m 41 #[.val (.ref v'), .val (.int (7 : Int32)), .val (.int c')] [(.int (0 : Int32)), (.int c'), (.int (6 : Int32)), (.ref v')]))) (fun _ k => st8 _ k) ?_
  refine OGoal.mp (S' := (T5.setTop (mkF m 42 #[.val (.ref v'), .val (.int (7 : Int32)), .val (.int c')] [(.int (c' >>> ((0 : Int32) &&& 31))), (.int (6 : Int32)), (.ref v')]))) (fun _ k => XT.ishr X6.here hx rfl (hb hby own_d_jdk_52_method_4_code_41) rfl k) ?_
  refine OGoal.mp (S' := (T5.setTop (mkF m 43 #[.val (.ref v'), .val (.int (7 : Int32)), .val (.int c')] [(.int (((c' >>> ((0 : Int32) &&& 31))).toInt8.toInt32)), (.int (6 : Int32)), (.ref v')]))) (fun _ k => XT.i2b X6.here hx rfl (hb hby own_d_jdk_52_method_4_code_42) rfl k) ?_
  obtain ⟨T9, h13, X10, e11, W14, st12⟩ := oStB X6 hx hZ e7 A (by decide) (by decide) (oNarBB _) (g := mkF m 43 #[.val (.ref v'), .val (.int (7 : Int32)), .val (.int c')] [(.int (((c' >>> ((0 : Int32) &&& 31))).toInt8.toInt32)), (.int (6 : Int32)), (.ref v')]) rfl rfl (hb hby own_d_jdk_52_method_4_code_43)
  have N15 := Fr.snoc X10 (Fr.nil n0) ab
  have K16 : Keep h0 h13 [v'] := (Keep.refl h0 [v']).wr W14 (Or.inl (by simp))
  have F17 := St.wr W14
  have F18 : OArr Z h13 v' .byte (8 : Int32) (fun jj => if jj = ((6 : Int32)).toNatClampNeg then (.int (((c' >>> ((0 : Int32) &&& 31))).toInt8.toInt32)) else gf jj : Nat → Value) := A.set W14
  have Z19 : n0 ≤ h13.size := Nat.le_trans Z0 (Keep.of_wr W14).1
  refine OGoal.mp (S' := (T9.setTop (mkF m 44 #[.val (.ref v'), .val (.int (7 : Int32)), .val (.int c')] []))) (fun _ k => st12 _ k) ?_
  refine OGoal.mp (S' := (T9.setTop (mkF m 45 #[.val (.ref v'), .val (.int (7 : Int32)), .val (.int c')] [(.ref v')]))) (fun _ k => XS.aloadN X10.here hx rfl (hb hby own_d_jdk_52_method_4_code_44) rfl rfl k) ?_
  refine OGoal.mp (S' := (T9.setTop (mkF m 46 #[.val (.ref v'), .val (.int (7 : Int32)), .val (.int c')] [(.int (7 : Int32)), (.ref v')]))) (fun _ k => XS.iloadN X10.here hx rfl (hb hby own_d_jdk_52_method_4_code_45) rfl k) ?_
  refine OGoal.mp (S' := (T9.setTop (mkF m 47 #[.val (.ref v'), .val (.int (7 : Int32)), .val (.int c')] [(.int c'), (.int (7 : Int32)), (.ref v')]))) (fun _ k => XS.iloadN X10.here hx rfl (hb hby own_d_jdk_52_method_4_code_46) rfl k) ?_
  obtain ⟨T20, X21, e22, st23⟩ := getS X10 hx hZ hown (host := "") (hw _ (List.mem_of_getElem? (i := 116) rfl)) Via.refl e11 F17.s4 (g := mkF m 47 #[.val (.ref v'), .val (.int (7 : Int32)), .val (.int c')] [(.int c'), (.int (7 : Int32)), (.ref v')]) rfl (hb hby own_d_jdk_52_method_4_code_47)
  refine OGoal.mp (S' := (T20.setTop (mkF m 50 #[.val (.ref v'), .val (.int (7 : Int32)), .val (.int c')] [(.int (8 : Int32)), (.int c'), (.int (7 : Int32)), (.ref v')]))) (fun _ k => st23 _ k) ?_
  refine OGoal.mp (S' := (T20.setTop (mkF m 51 #[.val (.ref v'), .val (.int (7 : Int32)), .val (.int c')] [(.int (c' >>> ((8 : Int32) &&& 31))), (.int (7 : Int32)), (.ref v')]))) (fun _ k => XT.ishr X21.here hx rfl (hb hby own_d_jdk_52_method_4_code_50) rfl k) ?_
  refine OGoal.mp (S' := (T20.setTop (mkF m 52 #[.val (.ref v'), .val (.int (7 : Int32)), .val (.int c')] [(.int (((c' >>> ((8 : Int32) &&& 31))).toInt8.toInt32)), (.int (7 : Int32)), (.ref v')]))) (fun _ k => XT.i2b X21.here hx rfl (hb hby own_d_jdk_52_method_4_code_51) rfl k) ?_
  obtain ⟨T24, h28, X25, e26, W29, st27⟩ := oStB X21 hx hZ e22 F18 (by decide) (by decide) (oNarBB _) (g := mkF m 52 #[.val (.ref v'), .val (.int (7 : Int32)), .val (.int c')] [(.int (((c' >>> ((8 : Int32) &&& 31))).toInt8.toInt32)), (.int (7 : Int32)), (.ref v')]) rfl rfl (hb hby own_d_jdk_52_method_4_code_52)
  have N30 := Fr.snoc X25 N15 ab
  have K31 : Keep h0 h28 [v'] := K16.wr W29 (Or.inl (by simp))
  have F32 := F17.wr W29
  have F33 : OArr Z h28 v' .byte (8 : Int32) (fun jj => if jj = ((7 : Int32)).toNatClampNeg then (.int (((c' >>> ((8 : Int32) &&& 31))).toInt8.toInt32)) else (fun jj => if jj = ((6 : Int32)).toNatClampNeg then (.int (((c' >>> ((0 : Int32) &&& 31))).toInt8.toInt32)) else gf jj : Nat → Value) jj : Nat → Value) := F18.set W29
  have Z34 : n0 ≤ h28.size := Nat.le_trans Z19 (Keep.of_wr W29).1
  refine OGoal.mp (S' := (T24.setTop (mkF m 53 #[.val (.ref v'), .val (.int (7 : Int32)), .val (.int c')] []))) (fun _ k => st27 _ k) ?_
  refine oRetV X25 hx hlk hret (hb hby own_d_jdk_52_method_4_code_53) ?_ (by decide) (by decide)
  rw [e26]; exact ⟨rfl, N30, K31, F32, F33⟩
theorem own_d_jdk_52_method_3_code_0 : decode jdk_52_method_3_code 0 = .ok (.iload_n 0, 1) := by decide +kernel
theorem own_d_jdk_52_method_3_code_1 : decode jdk_52_method_3_code 1 = .ok (.ifCond .ge 11, 3) := by decide +kernel
theorem own_d_jdk_52_method_3_code_12 : decode jdk_52_method_3_code 12 = .ok (.iload_n 0, 1) := by decide +kernel
theorem own_d_jdk_52_method_3_code_13 : decode jdk_52_method_3_code 13 = .ok (.ldc 20, 2) := by decide +kernel
theorem own_d_jdk_52_method_3_code_15 : decode jdk_52_method_3_code 15 = .ok (.if_icmp .lt 40, 3) := by decide +kernel
theorem own_d_jdk_52_method_3_code_55 : decode jdk_52_method_3_code 55 = .ok (.iload_n 0, 1) := by decide +kernel
theorem own_d_jdk_52_method_3_code_56 : decode jdk_52_method_3_code 56 = .ok (.iconst 1, 1) := by decide +kernel
theorem own_d_jdk_52_method_3_code_57 : decode jdk_52_method_3_code 57 = .ok (.ishl, 1) := by decide +kernel
theorem own_d_jdk_52_method_3_code_58 : decode jdk_52_method_3_code 58 = .ok (.ireturn, 1) := by decide +kernel
theorem own_ef_rmNL (x0 : Int32) (m : MethodId) : entryFrame m #[(.int x0)] 1 = mkF m 0 #[.val (.int x0)] [] := by first | (simp [entryFrame, mkF, argsToLocals, Value.category]; done) | rfl
set_option maxRecDepth 65536 in
set_option maxHeartbeats 40000000 in
theorem rmNL (l : Launch) (Z : State) (a0 : Array Value) (hw : ∀ d ∈ tables_1, d.before a0 Z = true)  (h0 : Heap) (n0 : Nat) (Z0 : n0 ≤ h0.size)  :
    OCon l Z (⟨"java/lang/StringUTF16", "newBytesLength", "(I)I"⟩ : MethodName) jdk_52_method_3_code 1 (some .int) ({ frames := 0, cells := 0, slots := 0, locals := 0 } : Room) #[(.int (4 : Int32))] h0 (fun v h L => v = some (.int (8 : Int32)) ∧ Fr n0 L ∧ h = h0) := by
  refine OConK.intro (y := (⟨"java/lang/StringUTF16", "newBytesLength", "(I)I"⟩ : MethodName)) (plainFor_of_name own_pn_java_lang_StringUTF16) (own_ef_rmNL (4 : Int32)) ?_
  intro p e s m below meth c s₁ hx hby hml hown hnm hret hlk hZ X0 e0
  show OGoal p e below s _ _ _ (s₁.setTop (mkF m 0 #[.val (.int (4 : Int32))] []))
  refine OGoal.mp (S' := (s₁.setTop (mkF m 1 #[.val (.int (4 : Int32))] [(.int (4 : Int32))]))) (fun _ k => XS.iloadN X0.here hx rfl (hb hby own_d_jdk_52_method_3_code_0) rfl k) ?_
  refine OGoal.mp (S' := (s₁.setTop (mkF m 12 #[.val (.int (4 : Int32))] []))) (fun _ k => XS.ifYes X0.here hx rfl (pc0 := 1) (pc' := 12) rfl (hb hby own_d_jdk_52_method_3_code_1) rfl (XT.i0_ge_t (by decide)) (by decide) (by decide) k) ?_
  refine OGoal.mp (S' := (s₁.setTop (mkF m 13 #[.val (.int (4 : Int32))] [(.int (4 : Int32))]))) (fun _ k => XS.iloadN X0.here hx rfl (hb hby own_d_jdk_52_method_3_code_12) rfl k) ?_
  refine OGoal.mp (S' := (s₁.setTop (mkF m 15 #[.val (.int (4 : Int32))] [(.int (1073741823 : Int32)), (.int (4 : Int32))]))) (fun _ k => Stand.ldcI X0 hx hown (mvT hZ (hw _ (List.mem_of_getElem? (i := 110) rfl))) rfl (hb hby own_d_jdk_52_method_3_code_13) k) ?_
  refine OGoal.mp (S' := (s₁.setTop (mkF m 55 #[.val (.int (4 : Int32))] []))) (fun _ k => XS.icmpYes X0.here hx rfl (pc0 := 15) (pc' := 55) rfl (hb hby own_d_jdk_52_method_3_code_15) rfl (XT.ii_lt_t (by decide)) (by decide) (by decide) k) ?_
  refine OGoal.mp (S' := (s₁.setTop (mkF m 56 #[.val (.int (4 : Int32))] [(.int (4 : Int32))]))) (fun _ k => XS.iloadN X0.here hx rfl (hb hby own_d_jdk_52_method_3_code_55) rfl k) ?_
  refine OGoal.mp (S' := (s₁.setTop (mkF m 57 #[.val (.int (4 : Int32))] [(.int (1 : Int32)), (.int (4 : Int32))]))) (fun _ k => XS.iconst X0.here hx rfl (hb hby own_d_jdk_52_method_3_code_56) k) ?_
  refine OGoal.mp (S' := (s₁.setTop (mkF m 58 #[.val (.int (4 : Int32))] [(.int ((4 : Int32) <<< ((1 : Int32) &&& 31)))]))) (fun _ k => XT.ishl X0.here hx rfl (hb hby own_d_jdk_52_method_3_code_57) rfl k) ?_
  rw [show ((4 : Int32) <<< ((1 : Int32) &&& 31)) = (8 : Int32) by decide]
  show OGoal p e below s _ _ _ (s₁.setTop (mkF m 58 #[.val (.int (4 : Int32))] [(.int (8 : Int32))]))
  refine oRetI X0 hx hlk hret (hb hby own_d_jdk_52_method_3_code_58) ?_ (by decide) (by decide)
  exact ⟨rfl, (Fr.nil n0), e0⟩
theorem own_d_jdk_52_method_2_code_0 : decode jdk_52_method_2_code 0 = .ok (.iload_n 0, 1) := by decide +kernel
theorem own_d_jdk_52_method_2_code_1 : decode jdk_52_method_2_code 1 = .ok (.invokestatic 11, 3) := by decide +kernel
theorem own_pd__I_I : parseMethodDescriptor "(I)I" = some ⟨[.int], some .int⟩ := by decide +kernel
theorem own_d_jdk_52_method_2_code_4 : decode jdk_52_method_2_code 4 = .ok (.newarray .byte, 2) := by decide +kernel
theorem own_d_jdk_52_method_2_code_6 : decode jdk_52_method_2_code 6 = .ok (.areturn, 1) := by decide +kernel
theorem own_ef_rmNB (x0 : Int32) (m : MethodId) : entryFrame m #[(.int x0)] 1 = mkF m 0 #[.val (.int x0)] [] := by first | (simp [entryFrame, mkF, argsToLocals, Value.category]; done) | rfl
set_option maxRecDepth 65536 in
set_option maxHeartbeats 40000000 in
theorem rmNB (l : Launch) (Z : State) (a0 : Array Value) (hw : ∀ d ∈ tables_1, d.before a0 Z = true)  (h0 : Heap) (n0 : Nat) (Z0 : n0 ≤ h0.size) (cs : Int32) (fm : Value) (hcs : ¬ cs = 0) (hfm : fm.isRef = true) (St : Stt Z h0 cs fm)  :
    OCon l Z (⟨"java/lang/StringUTF16", "newBytesFor", "(I)[B"⟩ : MethodName) jdk_52_method_2_code 1 (some (.array .byte)) ({ frames := 1, cells := 1, slots := 8, locals := 12 } : Room) #[(.int (4 : Int32))] h0 (fun v h L => ∃ r, v = some (.ref r) ∧ Fr n0 L ∧ Keep h0 h [] ∧ Stt Z h cs fm ∧ h0.size ≤ r ∧ OArr Z h r .byte 8 (fun _ => .int 0)) := by
  refine OConK.intro (y := (⟨"java/lang/StringUTF16", "newBytesFor", "(I)[B"⟩ : MethodName)) (plainFor_of_name own_pn_java_lang_StringUTF16) (own_ef_rmNB (4 : Int32)) ?_
  intro p e s m below meth c s₁ hx hby hml hown hnm hret hlk hZ X0 e0
  show OGoal p e below s _ _ _ (s₁.setTop (mkF m 0 #[.val (.int (4 : Int32))] []))
  refine OGoal.mp (S' := (s₁.setTop (mkF m 1 #[.val (.int (4 : Int32))] [(.int (4 : Int32))]))) (fun _ k => XS.iloadN X0.here hx rfl (hb hby own_d_jdk_52_method_2_code_0) rfl k) ?_
  refine oCallS (y := (⟨"java/lang/StringUTF16", "newBytesLength", "(I)I"⟩ : MethodName)) X0 hx hZ hown (hw _ (List.mem_of_getElem? (i := 107) rfl)) (hw _ (List.mem_of_getElem? (i := 108) rfl)) (hw _ (List.mem_of_getElem? (i := 22) rfl)) (hw _ (List.mem_of_getElem? (i := 109) rfl)) (by decide) (rmNL l Z a0 hw h0 n0 Z0) e0 [(.int (4 : Int32))] [] rfl rfl (by rw [hml]; rfl) (lenOf own_pd__I_I rfl) 0 (Nat.le_of_eq rfl) (by decide) (by decide) (by decide) (by decide) (hb hby own_d_jdk_52_method_2_code_1) ?_
  intro v1 T2 L3 X4 q5
  obtain ⟨rfl, N6, e7⟩ := q5
  have N8 := Fr.app (Fr.nil n0) N6
  show OGoal p e below s _ _ _ (T2.setTop (mkF m 4 #[.val (.int (4 : Int32))] [(.int (8 : Int32))]))
  obtain ⟨T9, h13, c16, X10, e11, E14, A15, XA19, st12⟩ := newPE X4 hx hZ (hw _ (List.mem_of_getElem? (i := 24) rfl)) e7 (g := mkF m 4 #[.val (.int (4 : Int32))] [(.int (8 : Int32))]) rfl (hb hby own_d_jdk_52_method_2_code_4) rfl (by decide) (cap := 8) (by decide) (by decide) (by decide) (by decide) (ad := "[B") (by rfl)
  obtain ⟨a17, g18⟩ : ∃ z, z = h0.size := ⟨_, rfl⟩
  rw [← g18] at A15 XA19 st12
  have fr20 : h0.size ≤ a17 := by rw [g18]; exact (Keep.refl h0 []).1
  have K21 : Keep h0 h13 [] := (Keep.refl h0 []).ext E14
  have F22 := St.ext E14
  have F23 : OArr Z h13 a17 .byte (8 : Int32) (fun _ => .int 0 : Nat → Value) := OArr.new A15 (by decide)
  have Z24 : n0 ≤ h13.size := Nat.le_trans Z0 E14.1
  have ab25 : n0 ≤ a17 := Nat.le_trans Z0 (Nat.le_of_eq g18.symm)
  refine OGoal.mp (S' := (T9.setTop (mkF m 6 #[.val (.int (4 : Int32))] [(.ref a17)]))) (fun _ k => st12 _ k) ?_
  refine oRetA X10 hx hlk hret rfl rfl (hb hby own_d_jdk_52_method_2_code_6) ?_ (by decide) (by decide)
  rw [e11]; exact ⟨a17, rfl, N8, K21, F22, fr20, F23⟩
theorem own_d_jdk_52_method_14_code_0 : decode jdk_52_method_14_code 0 = .ok (.iload_n 2, 1) := by decide +kernel
theorem own_d_jdk_52_method_14_code_1 : decode jdk_52_method_14_code 1 = .ok (.invokestatic 107, 3) := by decide +kernel
theorem own_pd__I__B : parseMethodDescriptor "(I)[B" = some ⟨[.int], some (.array .byte)⟩ := by decide +kernel
theorem own_d_jdk_52_method_14_code_4 : decode jdk_52_method_14_code 4 = .ok (.astore_n 3, 1) := by decide +kernel
theorem own_d_jdk_52_method_14_code_5 : decode jdk_52_method_14_code 5 = .ok (.iconst 0, 1) := by decide +kernel
theorem own_d_jdk_52_method_14_code_6 : decode jdk_52_method_14_code 6 = .ok (.istore 4, 2) := by decide +kernel
theorem own_d_jdk_52_method_14_code_8 : decode jdk_52_method_14_code 8 = .ok (.iload 4, 2) := by decide +kernel
theorem own_d_jdk_52_method_14_code_10 : decode jdk_52_method_14_code 10 = .ok (.iload_n 2, 1) := by decide +kernel
theorem own_d_jdk_52_method_14_code_11 : decode jdk_52_method_14_code 11 = .ok (.if_icmp .ge 21, 3) := by decide +kernel
theorem own_d_jdk_52_method_14_code_14 : decode jdk_52_method_14_code 14 = .ok (.aload_n 3, 1) := by decide +kernel
theorem own_d_jdk_52_method_14_code_15 : decode jdk_52_method_14_code 15 = .ok (.iload 4, 2) := by decide +kernel
theorem own_d_jdk_52_method_14_code_17 : decode jdk_52_method_14_code 17 = .ok (.aload_n 0, 1) := by decide +kernel
theorem own_d_jdk_52_method_14_code_18 : decode jdk_52_method_14_code 18 = .ok (.iload_n 1, 1) := by decide +kernel
theorem own_d_jdk_52_method_14_code_19 : decode jdk_52_method_14_code 19 = .ok (.caload, 1) := by decide +kernel
theorem own_d_jdk_52_method_14_code_20 : decode jdk_52_method_14_code 20 = .ok (.invokestatic 111, 3) := by decide +kernel
theorem own_pd___BII_V : parseMethodDescriptor "([BII)V" = some ⟨[(.array .byte), .int, .int], none⟩ := by decide +kernel
theorem own_d_jdk_52_method_14_code_23 : decode jdk_52_method_14_code 23 = .ok (.iinc 1 1, 3) := by decide +kernel
theorem own_d_jdk_52_method_14_code_26 : decode jdk_52_method_14_code 26 = .ok (.iinc 4 1, 3) := by decide +kernel
theorem own_d_jdk_52_method_14_code_29 : decode jdk_52_method_14_code 29 = .ok (.goto (-21), 3) := by decide +kernel
theorem own_d_jdk_52_method_14_code_32 : decode jdk_52_method_14_code 32 = .ok (.aload_n 3, 1) := by decide +kernel
theorem own_d_jdk_52_method_14_code_33 : decode jdk_52_method_14_code 33 = .ok (.areturn, 1) := by decide +kernel
theorem own_ef_rmTB (x0 : Addr) (x1 : Int32) (x2 : Int32) (m : MethodId) : entryFrame m #[(.ref x0), (.int x1), (.int x2)] 5 = mkF m 0 #[.val (.ref x0), .val (.int x1), .val (.int x2), .unset, .unset] [] := by first | (simp [entryFrame, mkF, argsToLocals, Value.category]; done) | rfl
set_option maxRecDepth 65536 in
set_option maxHeartbeats 40000000 in
theorem rmTB (l : Launch) (Z : State) (a0 : Array Value) (hw : ∀ d ∈ tables_1, d.before a0 Z = true) (c' : Addr) (h0 : Heap) (n0 : Nat) (Z0 : n0 ≤ h0.size) (cs : Int32) (fm : Value) (hcs : ¬ cs = 0) (hfm : fm.isRef = true) (St : Stt Z h0 cs fm) (f : Nat → Int32) (hC : Ch f) (Ac : OArr Z h0 c' .char 4 (fun k => .int (f k))) :
    OCon l Z (⟨"java/lang/StringUTF16", "toBytes", "([CII)[B"⟩ : MethodName) jdk_52_method_14_code 5 (some (.array .byte)) ({ frames := 2, cells := 1, slots := 8, locals := 24 } : Room) #[(.ref c'), (.int (0 : Int32)), (.int (4 : Int32))] h0 (fun v h L => ∃ r, v = some (.ref r) ∧ Fr n0 L ∧ Keep h0 h [] ∧ Stt Z h cs fm ∧ h0.size ≤ r ∧ OArr Z h r .byte 8 (fun k => .int (own_b f k))) := by
  refine OConK.intro (y := (⟨"java/lang/StringUTF16", "toBytes", "([CII)[B"⟩ : MethodName)) (plainFor_of_name own_pn_java_lang_StringUTF16) (own_ef_rmTB c' (0 : Int32) (4 : Int32)) ?_
  intro p e s m below meth c s₁ hx hby hml hown hnm hret hlk hZ X0 e0
  show OGoal p e below s _ _ _ (s₁.setTop (mkF m 0 #[.val (.ref c'), .val (.int (0 : Int32)), .val (.int (4 : Int32)), .unset, .unset] []))
  refine OGoal.mp (S' := (s₁.setTop (mkF m 1 #[.val (.ref c'), .val (.int (0 : Int32)), .val (.int (4 : Int32)), .unset, .unset] [(.int (4 : Int32))]))) (fun _ k => XS.iloadN X0.here hx rfl (hb hby own_d_jdk_52_method_14_code_0) rfl k) ?_
  refine oCallS (y := (⟨"java/lang/StringUTF16", "newBytesFor", "(I)[B"⟩ : MethodName)) X0 hx hZ hown (hw _ (List.mem_of_getElem? (i := 104) rfl)) (hw _ (List.mem_of_getElem? (i := 105) rfl)) (hw _ (List.mem_of_getElem? (i := 22) rfl)) (hw _ (List.mem_of_getElem? (i := 106) rfl)) (by decide) (rmNB l Z a0 hw h0 n0 Z0 cs fm hcs hfm St) e0 [(.int (4 : Int32))] [] rfl rfl (by rw [hml]; rfl) (lenOf own_pd__I__B rfl) 0 (Nat.le_of_eq rfl) (by decide) (by decide) (by decide) (by decide) (hb hby own_d_jdk_52_method_14_code_1) ?_
  intro v2 T3 L4 X5 q6
  obtain ⟨r1, rfl, N7, K8, S9, hr10, A11⟩ := q6
  have N12 := Fr.app (Fr.nil n0) N7
  have lt13 : c' < r1 := Nat.lt_of_lt_of_le Ac.lt hr10
  have ab14 : n0 ≤ r1 := Nat.le_trans Z0 hr10
  have F15 := Ac.keep K8 nin0
  have Z16 : n0 ≤ T3.heap.size := Nat.le_trans Z0 K8.1
  show OGoal p e below s _ _ _ (T3.setTop (mkF m 4 #[.val (.ref c'), .val (.int (0 : Int32)), .val (.int (4 : Int32)), .unset, .unset] [(.ref r1)]))
  refine OGoal.mp (S' := (T3.setTop (mkF m 5 #[.val (.ref c'), .val (.int (0 : Int32)), .val (.int (4 : Int32)), .val (.ref r1), .unset] []))) (fun _ k => XS.astoreN X5.here hx rfl (hb hby own_d_jdk_52_method_14_code_4) rfl rfl (l' := #[.val (.ref c'), .val (.int (0 : Int32)), .val (.int (4 : Int32)), .val (.ref r1), .unset]) rfl k) ?_
  refine OGoal.mp (S' := (T3.setTop (mkF m 6 #[.val (.ref c'), .val (.int (0 : Int32)), .val (.int (4 : Int32)), .val (.ref r1), .unset] [(.int (0 : Int32))]))) (fun _ k => XS.iconst X5.here hx rfl (hb hby own_d_jdk_52_method_14_code_5) k) ?_
  refine OGoal.mp (S' := (T3.setTop (mkF m 8 #[.val (.ref c'), .val (.int (0 : Int32)), .val (.int (4 : Int32)), .val (.ref r1), .val (.int (0 : Int32))] []))) (fun _ k => XS.istore X5.here hx rfl (hb hby own_d_jdk_52_method_14_code_6) rfl (l' := #[.val (.ref c'), .val (.int (0 : Int32)), .val (.int (4 : Int32)), .val (.ref r1), .val (.int (0 : Int32))]) rfl k) ?_
  refine OGoal.mp (S' := (T3.setTop (mkF m 10 #[.val (.ref c'), .val (.int (0 : Int32)), .val (.int (4 : Int32)), .val (.ref r1), .val (.int (0 : Int32))] [(.int (0 : Int32))]))) (fun _ k => XS.iload X5.here hx rfl (hb hby own_d_jdk_52_method_14_code_8) rfl k) ?_
  refine OGoal.mp (S' := (T3.setTop (mkF m 11 #[.val (.ref c'), .val (.int (0 : Int32)), .val (.int (4 : Int32)), .val (.ref r1), .val (.int (0 : Int32))] [(.int (4 : Int32)), (.int (0 : Int32))]))) (fun _ k => XS.iloadN X5.here hx rfl (hb hby own_d_jdk_52_method_14_code_10) rfl k) ?_
  refine OGoal.mp (S' := (T3.setTop (mkF m 14 #[.val (.ref c'), .val (.int (0 : Int32)), .val (.int (4 : Int32)), .val (.ref r1), .val (.int (0 : Int32))] []))) (fun _ k => XS.icmpNo X5.here hx rfl (hb hby own_d_jdk_52_method_14_code_11) rfl (XT.ii_ge_f (by decide)) k) ?_
  refine OGoal.mp (S' := (T3.setTop (mkF m 15 #[.val (.ref c'), .val (.int (0 : Int32)), .val (.int (4 : Int32)), .val (.ref r1), .val (.int (0 : Int32))] [(.ref r1)]))) (fun _ k => XS.aloadN X5.here hx rfl (hb hby own_d_jdk_52_method_14_code_14) rfl rfl k) ?_
  refine OGoal.mp (S' := (T3.setTop (mkF m 17 #[.val (.ref c'), .val (.int (0 : Int32)), .val (.int (4 : Int32)), .val (.ref r1), .val (.int (0 : Int32))] [(.int (0 : Int32)), (.ref r1)]))) (fun _ k => XS.iload X5.here hx rfl (hb hby own_d_jdk_52_method_14_code_15) rfl k) ?_
  refine OGoal.mp (S' := (T3.setTop (mkF m 18 #[.val (.ref c'), .val (.int (0 : Int32)), .val (.int (4 : Int32)), .val (.ref r1), .val (.int (0 : Int32))] [(.ref c'), (.int (0 : Int32)), (.ref r1)]))) (fun _ k => XS.aloadN X5.here hx rfl (hb hby own_d_jdk_52_method_14_code_17) rfl rfl k) ?_
  refine OGoal.mp (S' := (T3.setTop (mkF m 19 #[.val (.ref c'), .val (.int (0 : Int32)), .val (.int (4 : Int32)), .val (.ref r1), .val (.int (0 : Int32))] [(.int (0 : Int32)), (.ref c'), (.int (0 : Int32)), (.ref r1)]))) (fun _ k => XS.iloadN X5.here hx rfl (hb hby own_d_jdk_52_method_14_code_18) rfl k) ?_
  refine OGoal.mp (S' := (T3.setTop (mkF m 20 #[.val (.ref c'), .val (.int (0 : Int32)), .val (.int (4 : Int32)), .val (.ref r1), .val (.int (0 : Int32))] [(.int (f 0)), (.int (0 : Int32)), (.ref r1)]))) (fun _ k => oLdC X5 hx hZ rfl F15 (by decide) (by decide) rfl (g := mkF m 19 #[.val (.ref c'), .val (.int (0 : Int32)), .val (.int (4 : Int32)), .val (.ref r1), .val (.int (0 : Int32))] [(.int (0 : Int32)), (.ref c'), (.int (0 : Int32)), (.ref r1)]) rfl rfl (hb hby own_d_jdk_52_method_14_code_19) k) ?_
  refine oCallS (y := (⟨"java/lang/StringUTF16", "putChar", "([BII)V"⟩ : MethodName)) X5 hx hZ hown (hw _ (List.mem_of_getElem? (i := 111) rfl)) (hw _ (List.mem_of_getElem? (i := 112) rfl)) (hw _ (List.mem_of_getElem? (i := 22) rfl)) (hw _ (List.mem_of_getElem? (i := 113) rfl)) (by decide) (rmPut0 l Z a0 hw r1 (f 0) T3.heap n0 Z16 cs fm hcs hfm S9 _ A11 ab14) rfl [(.ref r1), (.int (0 : Int32)), (.int (f 0))] [] rfl rfl (by rw [hml]; rfl) (lenOf own_pd___BII_V rfl) 0 (Nat.le_of_eq rfl) (by decide) (by decide) (by decide) (by decide) (hb hby own_d_jdk_52_method_14_code_20) ?_
  intro v17 T18 L19 X20 q21
  obtain ⟨rfl, N22, K23, S24, A25⟩ := q21
  have N26 := Fr.app N12 N22
  have F27 := F15.keep K23 (ninS (Nat.ne_of_lt lt13) nin0)
  have K28 : Keep h0 T18.heap [] := K8.trans K23 (allS (Or.inr hr10) all0)
  have Z29 : n0 ≤ T18.heap.size := Nat.le_trans Z16 K23.1
  show OGoal p e below s _ _ _ (T18.setTop (mkF m 23 #[.val (.ref c'), .val (.int (0 : Int32)), .val (.int (4 : Int32)), .val (.ref r1), .val (.int (0 : Int32))] []))
  refine OGoal.mp (S' := (T18.setTop (mkF m 26 #[.val (.ref c'), .val (.int ((0 : Int32) + (1 : Int32))), .val (.int (4 : Int32)), .val (.ref r1), .val (.int (0 : Int32))] []))) (fun _ k => XT.iincV X20.here hx rfl (1 : Int32) (hb hby own_d_jdk_52_method_14_code_23) rfl rfl (l' := #[.val (.ref c'), .val (.int ((0 : Int32) + (1 : Int32))), .val (.int (4 : Int32)), .val (.ref r1), .val (.int (0 : Int32))]) rfl k) ?_
  rw [show ((0 : Int32) + (1 : Int32)) = (1 : Int32) by decide]
  show OGoal p e below s _ _ _ (T18.setTop (mkF m 26 #[.val (.ref c'), .val (.int (1 : Int32)), .val (.int (4 : Int32)), .val (.ref r1), .val (.int (0 : Int32))] []))
  refine OGoal.mp (S' := (T18.setTop (mkF m 29 #[.val (.ref c'), .val (.int (1 : Int32)), .val (.int (4 : Int32)), .val (.ref r1), .val (.int ((0 : Int32) + (1 : Int32)))] []))) (fun _ k => XT.iincV X20.here hx rfl (1 : Int32) (hb hby own_d_jdk_52_method_14_code_26) rfl rfl (l' := #[.val (.ref c'), .val (.int (1 : Int32)), .val (.int (4 : Int32)), .val (.ref r1), .val (.int ((0 : Int32) + (1 : Int32)))]) rfl k) ?_
  rw [show ((0 : Int32) + (1 : Int32)) = (1 : Int32) by decide]
  show OGoal p e below s _ _ _ (T18.setTop (mkF m 29 #[.val (.ref c'), .val (.int (1 : Int32)), .val (.int (4 : Int32)), .val (.ref r1), .val (.int (1 : Int32))] []))
  refine OGoal.mp (S' := (T18.setTop (mkF m 8 #[.val (.ref c'), .val (.int (1 : Int32)), .val (.int (4 : Int32)), .val (.ref r1), .val (.int (1 : Int32))] []))) (fun _ k => XS.goto X20.here hx rfl (pc0 := 29) (pc' := 8) rfl (hb hby own_d_jdk_52_method_14_code_29) (by decide) (by decide) k) ?_
  refine OGoal.mp (S' := (T18.setTop (mkF m 10 #[.val (.ref c'), .val (.int (1 : Int32)), .val (.int (4 : Int32)), .val (.ref r1), .val (.int (1 : Int32))] [(.int (1 : Int32))]))) (fun _ k => XS.iload X20.here hx rfl (hb hby own_d_jdk_52_method_14_code_8) rfl k) ?_
  refine OGoal.mp (S' := (T18.setTop (mkF m 11 #[.val (.ref c'), .val (.int (1 : Int32)), .val (.int (4 : Int32)), .val (.ref r1), .val (.int (1 : Int32))] [(.int (4 : Int32)), (.int (1 : Int32))]))) (fun _ k => XS.iloadN X20.here hx rfl (hb hby own_d_jdk_52_method_14_code_10) rfl k) ?_
  refine OGoal.mp (S' := (T18.setTop (mkF m 14 #[.val (.ref c'), .val (.int (1 : Int32)), .val (.int (4 : Int32)), .val (.ref r1), .val (.int (1 : Int32))] []))) (fun _ k => XS.icmpNo X20.here hx rfl (hb hby own_d_jdk_52_method_14_code_11) rfl (XT.ii_ge_f (by decide)) k) ?_
  refine OGoal.mp (S' := (T18.setTop (mkF m 15 #[.val (.ref c'), .val (.int (1 : Int32)), .val (.int (4 : Int32)), .val (.ref r1), .val (.int (1 : Int32))] [(.ref r1)]))) (fun _ k => XS.aloadN X20.here hx rfl (hb hby own_d_jdk_52_method_14_code_14) rfl rfl k) ?_
  refine OGoal.mp (S' := (T18.setTop (mkF m 17 #[.val (.ref c'), .val (.int (1 : Int32)), .val (.int (4 : Int32)), .val (.ref r1), .val (.int (1 : Int32))] [(.int (1 : Int32)), (.ref r1)]))) (fun _ k => XS.iload X20.here hx rfl (hb hby own_d_jdk_52_method_14_code_15) rfl k) ?_
  refine OGoal.mp (S' := (T18.setTop (mkF m 18 #[.val (.ref c'), .val (.int (1 : Int32)), .val (.int (4 : Int32)), .val (.ref r1), .val (.int (1 : Int32))] [(.ref c'), (.int (1 : Int32)), (.ref r1)]))) (fun _ k => XS.aloadN X20.here hx rfl (hb hby own_d_jdk_52_method_14_code_17) rfl rfl k) ?_
  refine OGoal.mp (S' := (T18.setTop (mkF m 19 #[.val (.ref c'), .val (.int (1 : Int32)), .val (.int (4 : Int32)), .val (.ref r1), .val (.int (1 : Int32))] [(.int (1 : Int32)), (.ref c'), (.int (1 : Int32)), (.ref r1)]))) (fun _ k => XS.iloadN X20.here hx rfl (hb hby own_d_jdk_52_method_14_code_18) rfl k) ?_
  refine OGoal.mp (S' := (T18.setTop (mkF m 20 #[.val (.ref c'), .val (.int (1 : Int32)), .val (.int (4 : Int32)), .val (.ref r1), .val (.int (1 : Int32))] [(.int (f 1)), (.int (1 : Int32)), (.ref r1)]))) (fun _ k => oLdC X20 hx hZ rfl F27 (by decide) (by decide) rfl (g := mkF m 19 #[.val (.ref c'), .val (.int (1 : Int32)), .val (.int (4 : Int32)), .val (.ref r1), .val (.int (1 : Int32))] [(.int (1 : Int32)), (.ref c'), (.int (1 : Int32)), (.ref r1)]) rfl rfl (hb hby own_d_jdk_52_method_14_code_19) k) ?_
  refine oCallS (y := (⟨"java/lang/StringUTF16", "putChar", "([BII)V"⟩ : MethodName)) X20 hx hZ hown (hw _ (List.mem_of_getElem? (i := 111) rfl)) (hw _ (List.mem_of_getElem? (i := 112) rfl)) (hw _ (List.mem_of_getElem? (i := 22) rfl)) (hw _ (List.mem_of_getElem? (i := 113) rfl)) (by decide) (rmPut1 l Z a0 hw r1 (f 1) T18.heap n0 Z29 cs fm hcs hfm S24 _ A25 ab14) rfl [(.ref r1), (.int (1 : Int32)), (.int (f 1))] [] rfl rfl (by rw [hml]; rfl) (lenOf own_pd___BII_V rfl) 0 (Nat.le_of_eq rfl) (by decide) (by decide) (by decide) (by decide) (hb hby own_d_jdk_52_method_14_code_20) ?_
  intro v30 T31 L32 X33 q34
  obtain ⟨rfl, N35, K36, S37, A38⟩ := q34
  have N39 := Fr.app N26 N35
  have F40 := F27.keep K36 (ninS (Nat.ne_of_lt lt13) nin0)
  have K41 : Keep h0 T31.heap [] := K28.trans K36 (allS (Or.inr hr10) all0)
  have Z42 : n0 ≤ T31.heap.size := Nat.le_trans Z29 K36.1
  show OGoal p e below s _ _ _ (T31.setTop (mkF m 23 #[.val (.ref c'), .val (.int (1 : Int32)), .val (.int (4 : Int32)), .val (.ref r1), .val (.int (1 : Int32))] []))
  refine OGoal.mp (S' := (T31.setTop (mkF m 26 #[.val (.ref c'), .val (.int ((1 : Int32) + (1 : Int32))), .val (.int (4 : Int32)), .val (.ref r1), .val (.int (1 : Int32))] []))) (fun _ k => XT.iincV X33.here hx rfl (1 : Int32) (hb hby own_d_jdk_52_method_14_code_23) rfl rfl (l' := #[.val (.ref c'), .val (.int ((1 : Int32) + (1 : Int32))), .val (.int (4 : Int32)), .val (.ref r1), .val (.int (1 : Int32))]) rfl k) ?_
  rw [show ((1 : Int32) + (1 : Int32)) = (2 : Int32) by decide]
  show OGoal p e below s _ _ _ (T31.setTop (mkF m 26 #[.val (.ref c'), .val (.int (2 : Int32)), .val (.int (4 : Int32)), .val (.ref r1), .val (.int (1 : Int32))] []))
  refine OGoal.mp (S' := (T31.setTop (mkF m 29 #[.val (.ref c'), .val (.int (2 : Int32)), .val (.int (4 : Int32)), .val (.ref r1), .val (.int ((1 : Int32) + (1 : Int32)))] []))) (fun _ k => XT.iincV X33.here hx rfl (1 : Int32) (hb hby own_d_jdk_52_method_14_code_26) rfl rfl (l' := #[.val (.ref c'), .val (.int (2 : Int32)), .val (.int (4 : Int32)), .val (.ref r1), .val (.int ((1 : Int32) + (1 : Int32)))]) rfl k) ?_
  rw [show ((1 : Int32) + (1 : Int32)) = (2 : Int32) by decide]
  show OGoal p e below s _ _ _ (T31.setTop (mkF m 29 #[.val (.ref c'), .val (.int (2 : Int32)), .val (.int (4 : Int32)), .val (.ref r1), .val (.int (2 : Int32))] []))
  refine OGoal.mp (S' := (T31.setTop (mkF m 8 #[.val (.ref c'), .val (.int (2 : Int32)), .val (.int (4 : Int32)), .val (.ref r1), .val (.int (2 : Int32))] []))) (fun _ k => XS.goto X33.here hx rfl (pc0 := 29) (pc' := 8) rfl (hb hby own_d_jdk_52_method_14_code_29) (by decide) (by decide) k) ?_
  refine OGoal.mp (S' := (T31.setTop (mkF m 10 #[.val (.ref c'), .val (.int (2 : Int32)), .val (.int (4 : Int32)), .val (.ref r1), .val (.int (2 : Int32))] [(.int (2 : Int32))]))) (fun _ k => XS.iload X33.here hx rfl (hb hby own_d_jdk_52_method_14_code_8) rfl k) ?_
  refine OGoal.mp (S' := (T31.setTop (mkF m 11 #[.val (.ref c'), .val (.int (2 : Int32)), .val (.int (4 : Int32)), .val (.ref r1), .val (.int (2 : Int32))] [(.int (4 : Int32)), (.int (2 : Int32))]))) (fun _ k => XS.iloadN X33.here hx rfl (hb hby own_d_jdk_52_method_14_code_10) rfl k) ?_
  refine OGoal.mp (S' := (T31.setTop (mkF m 14 #[.val (.ref c'), .val (.int (2 : Int32)), .val (.int (4 : Int32)), .val (.ref r1), .val (.int (2 : Int32))] []))) (fun _ k => XS.icmpNo X33.here hx rfl (hb hby own_d_jdk_52_method_14_code_11) rfl (XT.ii_ge_f (by decide)) k) ?_
  refine OGoal.mp (S' := (T31.setTop (mkF m 15 #[.val (.ref c'), .val (.int (2 : Int32)), .val (.int (4 : Int32)), .val (.ref r1), .val (.int (2 : Int32))] [(.ref r1)]))) (fun _ k => XS.aloadN X33.here hx rfl (hb hby own_d_jdk_52_method_14_code_14) rfl rfl k) ?_
  refine OGoal.mp (S' := (T31.setTop (mkF m 17 #[.val (.ref c'), .val (.int (2 : Int32)), .val (.int (4 : Int32)), .val (.ref r1), .val (.int (2 : Int32))] [(.int (2 : Int32)), (.ref r1)]))) (fun _ k => XS.iload X33.here hx rfl (hb hby own_d_jdk_52_method_14_code_15) rfl k) ?_
  refine OGoal.mp (S' := (T31.setTop (mkF m 18 #[.val (.ref c'), .val (.int (2 : Int32)), .val (.int (4 : Int32)), .val (.ref r1), .val (.int (2 : Int32))] [(.ref c'), (.int (2 : Int32)), (.ref r1)]))) (fun _ k => XS.aloadN X33.here hx rfl (hb hby own_d_jdk_52_method_14_code_17) rfl rfl k) ?_
  refine OGoal.mp (S' := (T31.setTop (mkF m 19 #[.val (.ref c'), .val (.int (2 : Int32)), .val (.int (4 : Int32)), .val (.ref r1), .val (.int (2 : Int32))] [(.int (2 : Int32)), (.ref c'), (.int (2 : Int32)), (.ref r1)]))) (fun _ k => XS.iloadN X33.here hx rfl (hb hby own_d_jdk_52_method_14_code_18) rfl k) ?_
  refine OGoal.mp (S' := (T31.setTop (mkF m 20 #[.val (.ref c'), .val (.int (2 : Int32)), .val (.int (4 : Int32)), .val (.ref r1), .val (.int (2 : Int32))] [(.int (f 2)), (.int (2 : Int32)), (.ref r1)]))) (fun _ k => oLdC X33 hx hZ rfl F40 (by decide) (by decide) rfl (g := mkF m 19 #[.val (.ref c'), .val (.int (2 : Int32)), .val (.int (4 : Int32)), .val (.ref r1), .val (.int (2 : Int32))] [(.int (2 : Int32)), (.ref c'), (.int (2 : Int32)), (.ref r1)]) rfl rfl (hb hby own_d_jdk_52_method_14_code_19) k) ?_
  refine oCallS (y := (⟨"java/lang/StringUTF16", "putChar", "([BII)V"⟩ : MethodName)) X33 hx hZ hown (hw _ (List.mem_of_getElem? (i := 111) rfl)) (hw _ (List.mem_of_getElem? (i := 112) rfl)) (hw _ (List.mem_of_getElem? (i := 22) rfl)) (hw _ (List.mem_of_getElem? (i := 113) rfl)) (by decide) (rmPut2 l Z a0 hw r1 (f 2) T31.heap n0 Z42 cs fm hcs hfm S37 _ A38 ab14) rfl [(.ref r1), (.int (2 : Int32)), (.int (f 2))] [] rfl rfl (by rw [hml]; rfl) (lenOf own_pd___BII_V rfl) 0 (Nat.le_of_eq rfl) (by decide) (by decide) (by decide) (by decide) (hb hby own_d_jdk_52_method_14_code_20) ?_
  intro v43 T44 L45 X46 q47
  obtain ⟨rfl, N48, K49, S50, A51⟩ := q47
  have N52 := Fr.app N39 N48
  have F53 := F40.keep K49 (ninS (Nat.ne_of_lt lt13) nin0)
  have K54 : Keep h0 T44.heap [] := K41.trans K49 (allS (Or.inr hr10) all0)
  have Z55 : n0 ≤ T44.heap.size := Nat.le_trans Z42 K49.1
  show OGoal p e below s _ _ _ (T44.setTop (mkF m 23 #[.val (.ref c'), .val (.int (2 : Int32)), .val (.int (4 : Int32)), .val (.ref r1), .val (.int (2 : Int32))] []))
  refine OGoal.mp (S' := (T44.setTop (mkF m 26 #[.val (.ref c'), .val (.int ((2 : Int32) + (1 : Int32))), .val (.int (4 : Int32)), .val (.ref r1), .val (.int (2 : Int32))] []))) (fun _ k => XT.iincV X46.here hx rfl (1 : Int32) (hb hby own_d_jdk_52_method_14_code_23) rfl rfl (l' := #[.val (.ref c'), .val (.int ((2 : Int32) + (1 : Int32))), .val (.int (4 : Int32)), .val (.ref r1), .val (.int (2 : Int32))]) rfl k) ?_
  rw [show ((2 : Int32) + (1 : Int32)) = (3 : Int32) by decide]
  show OGoal p e below s _ _ _ (T44.setTop (mkF m 26 #[.val (.ref c'), .val (.int (3 : Int32)), .val (.int (4 : Int32)), .val (.ref r1), .val (.int (2 : Int32))] []))
  refine OGoal.mp (S' := (T44.setTop (mkF m 29 #[.val (.ref c'), .val (.int (3 : Int32)), .val (.int (4 : Int32)), .val (.ref r1), .val (.int ((2 : Int32) + (1 : Int32)))] []))) (fun _ k => XT.iincV X46.here hx rfl (1 : Int32) (hb hby own_d_jdk_52_method_14_code_26) rfl rfl (l' := #[.val (.ref c'), .val (.int (3 : Int32)), .val (.int (4 : Int32)), .val (.ref r1), .val (.int ((2 : Int32) + (1 : Int32)))]) rfl k) ?_
  rw [show ((2 : Int32) + (1 : Int32)) = (3 : Int32) by decide]
  show OGoal p e below s _ _ _ (T44.setTop (mkF m 29 #[.val (.ref c'), .val (.int (3 : Int32)), .val (.int (4 : Int32)), .val (.ref r1), .val (.int (3 : Int32))] []))
  refine OGoal.mp (S' := (T44.setTop (mkF m 8 #[.val (.ref c'), .val (.int (3 : Int32)), .val (.int (4 : Int32)), .val (.ref r1), .val (.int (3 : Int32))] []))) (fun _ k => XS.goto X46.here hx rfl (pc0 := 29) (pc' := 8) rfl (hb hby own_d_jdk_52_method_14_code_29) (by decide) (by decide) k) ?_
  refine OGoal.mp (S' := (T44.setTop (mkF m 10 #[.val (.ref c'), .val (.int (3 : Int32)), .val (.int (4 : Int32)), .val (.ref r1), .val (.int (3 : Int32))] [(.int (3 : Int32))]))) (fun _ k => XS.iload X46.here hx rfl (hb hby own_d_jdk_52_method_14_code_8) rfl k) ?_
  refine OGoal.mp (S' := (T44.setTop (mkF m 11 #[.val (.ref c'), .val (.int (3 : Int32)), .val (.int (4 : Int32)), .val (.ref r1), .val (.int (3 : Int32))] [(.int (4 : Int32)), (.int (3 : Int32))]))) (fun _ k => XS.iloadN X46.here hx rfl (hb hby own_d_jdk_52_method_14_code_10) rfl k) ?_
  refine OGoal.mp (S' := (T44.setTop (mkF m 14 #[.val (.ref c'), .val (.int (3 : Int32)), .val (.int (4 : Int32)), .val (.ref r1), .val (.int (3 : Int32))] []))) (fun _ k => XS.icmpNo X46.here hx rfl (hb hby own_d_jdk_52_method_14_code_11) rfl (XT.ii_ge_f (by decide)) k) ?_
  refine OGoal.mp (S' := (T44.setTop (mkF m 15 #[.val (.ref c'), .val (.int (3 : Int32)), .val (.int (4 : Int32)), .val (.ref r1), .val (.int (3 : Int32))] [(.ref r1)]))) (fun _ k => XS.aloadN X46.here hx rfl (hb hby own_d_jdk_52_method_14_code_14) rfl rfl k) ?_
  refine OGoal.mp (S' := (T44.setTop (mkF m 17 #[.val (.ref c'), .val (.int (3 : Int32)), .val (.int (4 : Int32)), .val (.ref r1), .val (.int (3 : Int32))] [(.int (3 : Int32)), (.ref r1)]))) (fun _ k => XS.iload X46.here hx rfl (hb hby own_d_jdk_52_method_14_code_15) rfl k) ?_
  refine OGoal.mp (S' := (T44.setTop (mkF m 18 #[.val (.ref c'), .val (.int (3 : Int32)), .val (.int (4 : Int32)), .val (.ref r1), .val (.int (3 : Int32))] [(.ref c'), (.int (3 : Int32)), (.ref r1)]))) (fun _ k => XS.aloadN X46.here hx rfl (hb hby own_d_jdk_52_method_14_code_17) rfl rfl k) ?_
  refine OGoal.mp (S' := (T44.setTop (mkF m 19 #[.val (.ref c'), .val (.int (3 : Int32)), .val (.int (4 : Int32)), .val (.ref r1), .val (.int (3 : Int32))] [(.int (3 : Int32)), (.ref c'), (.int (3 : Int32)), (.ref r1)]))) (fun _ k => XS.iloadN X46.here hx rfl (hb hby own_d_jdk_52_method_14_code_18) rfl k) ?_
  refine OGoal.mp (S' := (T44.setTop (mkF m 20 #[.val (.ref c'), .val (.int (3 : Int32)), .val (.int (4 : Int32)), .val (.ref r1), .val (.int (3 : Int32))] [(.int (f 3)), (.int (3 : Int32)), (.ref r1)]))) (fun _ k => oLdC X46 hx hZ rfl F53 (by decide) (by decide) rfl (g := mkF m 19 #[.val (.ref c'), .val (.int (3 : Int32)), .val (.int (4 : Int32)), .val (.ref r1), .val (.int (3 : Int32))] [(.int (3 : Int32)), (.ref c'), (.int (3 : Int32)), (.ref r1)]) rfl rfl (hb hby own_d_jdk_52_method_14_code_19) k) ?_
  refine oCallS (y := (⟨"java/lang/StringUTF16", "putChar", "([BII)V"⟩ : MethodName)) X46 hx hZ hown (hw _ (List.mem_of_getElem? (i := 111) rfl)) (hw _ (List.mem_of_getElem? (i := 112) rfl)) (hw _ (List.mem_of_getElem? (i := 22) rfl)) (hw _ (List.mem_of_getElem? (i := 113) rfl)) (by decide) (rmPut3 l Z a0 hw r1 (f 3) T44.heap n0 Z55 cs fm hcs hfm S50 _ A51 ab14) rfl [(.ref r1), (.int (3 : Int32)), (.int (f 3))] [] rfl rfl (by rw [hml]; rfl) (lenOf own_pd___BII_V rfl) 0 (Nat.le_of_eq rfl) (by decide) (by decide) (by decide) (by decide) (hb hby own_d_jdk_52_method_14_code_20) ?_
  intro v56 T57 L58 X59 q60
  obtain ⟨rfl, N61, K62, S63, A64⟩ := q60
  have N65 := Fr.app N52 N61
  have F66 := F53.keep K62 (ninS (Nat.ne_of_lt lt13) nin0)
  have K67 : Keep h0 T57.heap [] := K54.trans K62 (allS (Or.inr hr10) all0)
  have Z68 : n0 ≤ T57.heap.size := Nat.le_trans Z55 K62.1
  show OGoal p e below s _ _ _ (T57.setTop (mkF m 23 #[.val (.ref c'), .val (.int (3 : Int32)), .val (.int (4 : Int32)), .val (.ref r1), .val (.int (3 : Int32))] []))
  refine OGoal.mp (S' := (T57.setTop (mkF m 26 #[.val (.ref c'), .val (.int ((3 : Int32) + (1 : Int32))), .val (.int (4 : Int32)), .val (.ref r1), .val (.int (3 : Int32))] []))) (fun _ k => XT.iincV X59.here hx rfl (1 : Int32) (hb hby own_d_jdk_52_method_14_code_23) rfl rfl (l' := #[.val (.ref c'), .val (.int ((3 : Int32) + (1 : Int32))), .val (.int (4 : Int32)), .val (.ref r1), .val (.int (3 : Int32))]) rfl k) ?_
  rw [show ((3 : Int32) + (1 : Int32)) = (4 : Int32) by decide]
  show OGoal p e below s _ _ _ (T57.setTop (mkF m 26 #[.val (.ref c'), .val (.int (4 : Int32)), .val (.int (4 : Int32)), .val (.ref r1), .val (.int (3 : Int32))] []))
  refine OGoal.mp (S' := (T57.setTop (mkF m 29 #[.val (.ref c'), .val (.int (4 : Int32)), .val (.int (4 : Int32)), .val (.ref r1), .val (.int ((3 : Int32) + (1 : Int32)))] []))) (fun _ k => XT.iincV X59.here hx rfl (1 : Int32) (hb hby own_d_jdk_52_method_14_code_26) rfl rfl (l' := #[.val (.ref c'), .val (.int (4 : Int32)), .val (.int (4 : Int32)), .val (.ref r1), .val (.int ((3 : Int32) + (1 : Int32)))]) rfl k) ?_
  rw [show ((3 : Int32) + (1 : Int32)) = (4 : Int32) by decide]
  show OGoal p e below s _ _ _ (T57.setTop (mkF m 29 #[.val (.ref c'), .val (.int (4 : Int32)), .val (.int (4 : Int32)), .val (.ref r1), .val (.int (4 : Int32))] []))
  refine OGoal.mp (S' := (T57.setTop (mkF m 8 #[.val (.ref c'), .val (.int (4 : Int32)), .val (.int (4 : Int32)), .val (.ref r1), .val (.int (4 : Int32))] []))) (fun _ k => XS.goto X59.here hx rfl (pc0 := 29) (pc' := 8) rfl (hb hby own_d_jdk_52_method_14_code_29) (by decide) (by decide) k) ?_
  refine OGoal.mp (S' := (T57.setTop (mkF m 10 #[.val (.ref c'), .val (.int (4 : Int32)), .val (.int (4 : Int32)), .val (.ref r1), .val (.int (4 : Int32))] [(.int (4 : Int32))]))) (fun _ k => XS.iload X59.here hx rfl (hb hby own_d_jdk_52_method_14_code_8) rfl k) ?_
  refine OGoal.mp (S' := (T57.setTop (mkF m 11 #[.val (.ref c'), .val (.int (4 : Int32)), .val (.int (4 : Int32)), .val (.ref r1), .val (.int (4 : Int32))] [(.int (4 : Int32)), (.int (4 : Int32))]))) (fun _ k => XS.iloadN X59.here hx rfl (hb hby own_d_jdk_52_method_14_code_10) rfl k) ?_
  refine OGoal.mp (S' := (T57.setTop (mkF m 32 #[.val (.ref c'), .val (.int (4 : Int32)), .val (.int (4 : Int32)), .val (.ref r1), .val (.int (4 : Int32))] []))) (fun _ k => XS.icmpYes X59.here hx rfl (pc0 := 11) (pc' := 32) rfl (hb hby own_d_jdk_52_method_14_code_11) rfl (XT.ii_ge_t (by decide)) (by decide) (by decide) k) ?_
  refine OGoal.mp (S' := (T57.setTop (mkF m 33 #[.val (.ref c'), .val (.int (4 : Int32)), .val (.int (4 : Int32)), .val (.ref r1), .val (.int (4 : Int32))] [(.ref r1)]))) (fun _ k => XS.aloadN X59.here hx rfl (hb hby own_d_jdk_52_method_14_code_32) rfl rfl k) ?_
  refine oRetA X59 hx hlk hret rfl rfl (hb hby own_d_jdk_52_method_14_code_33) ?_ (by decide) (by decide)
  refine ⟨r1, rfl, N65, K67, S63, hr10, A64.imp (fun i hi => ?_)⟩
  have hi2 : i < 8 := hi
  match i, hi2 with
  | 0, _ => rfl
  | 1, _ => rfl
  | 2, _ => rfl
  | 3, _ => rfl
  | 4, _ => rfl
  | 5, _ => rfl
  | 6, _ => rfl
  | 7, _ => rfl
theorem own_d_jdk_52_method_21_code_0 : decode jdk_52_method_21_code 0 = .ok (.iconst 0, 1) := by decide +kernel
theorem own_d_jdk_52_method_21_code_1 : decode jdk_52_method_21_code 1 = .ok (.istore 5, 2) := by decide +kernel
theorem own_d_jdk_52_method_21_code_3 : decode jdk_52_method_21_code 3 = .ok (.iload 5, 2) := by decide +kernel
theorem own_d_jdk_52_method_21_code_5 : decode jdk_52_method_21_code 5 = .ok (.iload 4, 2) := by decide +kernel
theorem own_d_jdk_52_method_21_code_7 : decode jdk_52_method_21_code 7 = .ok (.if_icmp .ge 37, 3) := by decide +kernel
theorem own_d_jdk_52_method_21_code_10 : decode jdk_52_method_21_code 10 = .ok (.aload_n 0, 1) := by decide +kernel
theorem own_d_jdk_52_method_21_code_11 : decode jdk_52_method_21_code 11 = .ok (.iload_n 1, 1) := by decide +kernel
theorem own_d_jdk_52_method_21_code_12 : decode jdk_52_method_21_code 12 = .ok (.caload, 1) := by decide +kernel
theorem own_d_jdk_52_method_21_code_13 : decode jdk_52_method_21_code 13 = .ok (.istore 6, 2) := by decide +kernel
theorem own_d_jdk_52_method_21_code_15 : decode jdk_52_method_21_code 15 = .ok (.iload 6, 2) := by decide +kernel
theorem own_d_jdk_52_method_21_code_17 : decode jdk_52_method_21_code 17 = .ok (.sipush 255, 3) := by decide +kernel
theorem own_d_jdk_52_method_21_code_20 : decode jdk_52_method_21_code 20 = .ok (.if_icmp .le 6, 3) := by decide +kernel
theorem own_d_jdk_52_method_21_code_26 : decode jdk_52_method_21_code 26 = .ok (.aload_n 2, 1) := by decide +kernel
theorem own_d_jdk_52_method_21_code_27 : decode jdk_52_method_21_code 27 = .ok (.iload_n 3, 1) := by decide +kernel
theorem own_d_jdk_52_method_21_code_28 : decode jdk_52_method_21_code 28 = .ok (.iload 6, 2) := by decide +kernel
theorem own_d_jdk_52_method_21_code_30 : decode jdk_52_method_21_code 30 = .ok (.i2b, 1) := by decide +kernel
theorem own_d_jdk_52_method_21_code_31 : decode jdk_52_method_21_code 31 = .ok (.bastore, 1) := by decide +kernel
theorem own_d_jdk_52_method_21_code_32 : decode jdk_52_method_21_code 32 = .ok (.iinc 1 1, 3) := by decide +kernel
theorem own_d_jdk_52_method_21_code_35 : decode jdk_52_method_21_code 35 = .ok (.iinc 3 1, 3) := by decide +kernel
theorem own_d_jdk_52_method_21_code_38 : decode jdk_52_method_21_code 38 = .ok (.iinc 5 1, 3) := by decide +kernel
theorem own_d_jdk_52_method_21_code_41 : decode jdk_52_method_21_code 41 = .ok (.goto (-38), 3) := by decide +kernel
theorem own_d_jdk_52_method_21_code_44 : decode jdk_52_method_21_code 44 = .ok (.iload 4, 2) := by decide +kernel
theorem own_d_jdk_52_method_21_code_46 : decode jdk_52_method_21_code 46 = .ok (.ireturn, 1) := by decide +kernel
theorem own_ef_rmC1L (x0 : Addr) (x1 : Int32) (x2 : Addr) (x3 : Int32) (x4 : Int32) (m : MethodId) : entryFrame m #[(.ref x0), (.int x1), (.ref x2), (.int x3), (.int x4)] 7 = mkF m 0 #[.val (.ref x0), .val (.int x1), .val (.ref x2), .val (.int x3), .val (.int x4), .unset, .unset] [] := by first | (simp [entryFrame, mkF, argsToLocals, Value.category]; done) | rfl
set_option maxRecDepth 65536 in
set_option maxHeartbeats 40000000 in
theorem rmC1L (l : Launch) (Z : State) (a0 : Array Value) (hw : ∀ d ∈ tables_1, d.before a0 Z = true) (c' d : Addr) (h0 : Heap) (n0 : Nat) (Z0 : n0 ≤ h0.size) (cs : Int32) (fm : Value) (hcs : ¬ cs = 0) (hfm : fm.isRef = true) (St : Stt Z h0 cs fm) (f : Nat → Int32) (hC : Ch f) (Ac : OArr Z h0 c' .char 4 (fun k => .int (f k))) (Ad : OArr Z h0 d .byte 4 (fun _ => .int 0)) (ncd : c' ≠ d) (ab : n0 ≤ d) (hL : Lat f) :
    OCon l Z (⟨"java/lang/StringUTF16", "compress", "([CI[BII)I"⟩ : MethodName) jdk_52_method_21_code 7 (some .int) ({ frames := 0, cells := 0, slots := 0, locals := 0 } : Room) #[(.ref c'), (.int (0 : Int32)), (.ref d), (.int (0 : Int32)), (.int (4 : Int32))] h0 (fun v h L => v = some (.int (4 : Int32)) ∧ Fr n0 L ∧ Keep h0 h [d] ∧ Stt Z h cs fm ∧ OArr Z h d .byte 4 (fun k => .int (own_l f k))) := by
  refine OConK.intro (y := (⟨"java/lang/StringUTF16", "compress", "([CI[BII)I"⟩ : MethodName)) (plainFor_of_name own_pn_java_lang_StringUTF16) (own_ef_rmC1L c' (0 : Int32) d (0 : Int32) (4 : Int32)) ?_
  intro p e s m below meth c s₁ hx hby hml hown hnm hret hlk hZ X0 e0
  show OGoal p e below s _ _ _ (s₁.setTop (mkF m 0 #[.val (.ref c'), .val (.int (0 : Int32)), .val (.ref d), .val (.int (0 : Int32)), .val (.int (4 : Int32)), .unset, .unset] []))
  refine OGoal.mp (S' := (s₁.setTop (mkF m 1 #[.val (.ref c'), .val (.int (0 : Int32)), .val (.ref d), .val (.int (0 : Int32)), .val (.int (4 : Int32)), .unset, .unset] [(.int (0 : Int32))]))) (fun _ k => XS.iconst X0.here hx rfl (hb hby own_d_jdk_52_method_21_code_0) k) ?_
  refine OGoal.mp (S' := (s₁.setTop (mkF m 3 #[.val (.ref c'), .val (.int (0 : Int32)), .val (.ref d), .val (.int (0 : Int32)), .val (.int (4 : Int32)), .val (.int (0 : Int32)), .unset] []))) (fun _ k => XS.istore X0.here hx rfl (hb hby own_d_jdk_52_method_21_code_1) rfl (l' := #[.val (.ref c'), .val (.int (0 : Int32)), .val (.ref d), .val (.int (0 : Int32)), .val (.int (4 : Int32)), .val (.int (0 : Int32)), .unset]) rfl k) ?_
  refine OGoal.mp (S' := (s₁.setTop (mkF m 5 #[.val (.ref c'), .val (.int (0 : Int32)), .val (.ref d), .val (.int (0 : Int32)), .val (.int (4 : Int32)), .val (.int (0 : Int32)), .unset] [(.int (0 : Int32))]))) (fun _ k => XS.iload X0.here hx rfl (hb hby own_d_jdk_52_method_21_code_3) rfl k) ?_
  refine OGoal.mp (S' := (s₁.setTop (mkF m 7 #[.val (.ref c'), .val (.int (0 : Int32)), .val (.ref d), .val (.int (0 : Int32)), .val (.int (4 : Int32)), .val (.int (0 : Int32)), .unset] [(.int (4 : Int32)), (.int (0 : Int32))]))) (fun _ k => XS.iload X0.here hx rfl (hb hby own_d_jdk_52_method_21_code_5) rfl k) ?_
  refine OGoal.mp (S' := (s₁.setTop (mkF m 10 #[.val (.ref c'), .val (.int (0 : Int32)), .val (.ref d), .val (.int (0 : Int32)), .val (.int (4 : Int32)), .val (.int (0 : Int32)), .unset] []))) (fun _ k => XS.icmpNo X0.here hx rfl (hb hby own_d_jdk_52_method_21_code_7) rfl (XT.ii_ge_f (by decide)) k) ?_
  refine OGoal.mp (S' := (s₁.setTop (mkF m 11 #[.val (.ref c'), .val (.int (0 : Int32)), .val (.ref d), .val (.int (0 : Int32)), .val (.int (4 : Int32)), .val (.int (0 : Int32)), .unset] [(.ref c')]))) (fun _ k => XS.aloadN X0.here hx rfl (hb hby own_d_jdk_52_method_21_code_10) rfl rfl k) ?_
  refine OGoal.mp (S' := (s₁.setTop (mkF m 12 #[.val (.ref c'), .val (.int (0 : Int32)), .val (.ref d), .val (.int (0 : Int32)), .val (.int (4 : Int32)), .val (.int (0 : Int32)), .unset] [(.int (0 : Int32)), (.ref c')]))) (fun _ k => XS.iloadN X0.here hx rfl (hb hby own_d_jdk_52_method_21_code_11) rfl k) ?_
  refine OGoal.mp (S' := (s₁.setTop (mkF m 13 #[.val (.ref c'), .val (.int (0 : Int32)), .val (.ref d), .val (.int (0 : Int32)), .val (.int (4 : Int32)), .val (.int (0 : Int32)), .unset] [(.int (f 0))]))) (fun _ k => oLdC X0 hx hZ e0 Ac (by decide) (by decide) rfl (g := mkF m 12 #[.val (.ref c'), .val (.int (0 : Int32)), .val (.ref d), .val (.int (0 : Int32)), .val (.int (4 : Int32)), .val (.int (0 : Int32)), .unset] [(.int (0 : Int32)), (.ref c')]) rfl rfl (hb hby own_d_jdk_52_method_21_code_12) k) ?_
  refine OGoal.mp (S' := (s₁.setTop (mkF m 15 #[.val (.ref c'), .val (.int (0 : Int32)), .val (.ref d), .val (.int (0 : Int32)), .val (.int (4 : Int32)), .val (.int (0 : Int32)), .val (.int (f 0))] []))) (fun _ k => XS.istore X0.here hx rfl (hb hby own_d_jdk_52_method_21_code_13) rfl (l' := #[.val (.ref c'), .val (.int (0 : Int32)), .val (.ref d), .val (.int (0 : Int32)), .val (.int (4 : Int32)), .val (.int (0 : Int32)), .val (.int (f 0))]) rfl k) ?_
  refine OGoal.mp (S' := (s₁.setTop (mkF m 17 #[.val (.ref c'), .val (.int (0 : Int32)), .val (.ref d), .val (.int (0 : Int32)), .val (.int (4 : Int32)), .val (.int (0 : Int32)), .val (.int (f 0))] [(.int (f 0))]))) (fun _ k => XS.iload X0.here hx rfl (hb hby own_d_jdk_52_method_21_code_15) rfl k) ?_
  refine OGoal.mp (S' := (s₁.setTop (mkF m 20 #[.val (.ref c'), .val (.int (0 : Int32)), .val (.ref d), .val (.int (0 : Int32)), .val (.int (4 : Int32)), .val (.int (0 : Int32)), .val (.int (f 0))] [(.int (255 : Int32)), (.int (f 0))]))) (fun _ k => XS.sipush X0.here hx rfl (hb hby own_d_jdk_52_method_21_code_17) k) ?_
  refine OGoal.mp (S' := (s₁.setTop (mkF m 26 #[.val (.ref c'), .val (.int (0 : Int32)), .val (.ref d), .val (.int (0 : Int32)), .val (.int (4 : Int32)), .val (.int (0 : Int32)), .val (.int (f 0))] []))) (fun _ k => XS.icmpYes X0.here hx rfl (pc0 := 20) (pc' := 26) rfl (hb hby own_d_jdk_52_method_21_code_20) rfl (XT.ii_le_t hL.1) (by decide) (by decide) k) ?_
  refine OGoal.mp (S' := (s₁.setTop (mkF m 27 #[.val (.ref c'), .val (.int (0 : Int32)), .val (.ref d), .val (.int (0 : Int32)), .val (.int (4 : Int32)), .val (.int (0 : Int32)), .val (.int (f 0))] [(.ref d)]))) (fun _ k => XS.aloadN X0.here hx rfl (hb hby own_d_jdk_52_method_21_code_26) rfl rfl k) ?_
  refine OGoal.mp (S' := (s₁.setTop (mkF m 28 #[.val (.ref c'), .val (.int (0 : Int32)), .val (.ref d), .val (.int (0 : Int32)), .val (.int (4 : Int32)), .val (.int (0 : Int32)), .val (.int (f 0))] [(.int (0 : Int32)), (.ref d)]))) (fun _ k => XS.iloadN X0.here hx rfl (hb hby own_d_jdk_52_method_21_code_27) rfl k) ?_
  refine OGoal.mp (S' := (s₁.setTop (mkF m 30 #[.val (.ref c'), .val (.int (0 : Int32)), .val (.ref d), .val (.int (0 : Int32)), .val (.int (4 : Int32)), .val (.int (0 : Int32)), .val (.int (f 0))] [(.int (f 0)), (.int (0 : Int32)), (.ref d)]))) (fun _ k => XS.iload X0.here hx rfl (hb hby own_d_jdk_52_method_21_code_28) rfl k) ?_
  refine OGoal.mp (S' := (s₁.setTop (mkF m 31 #[.val (.ref c'), .val (.int (0 : Int32)), .val (.ref d), .val (.int (0 : Int32)), .val (.int (4 : Int32)), .val (.int (0 : Int32)), .val (.int (f 0))] [(.int (((f 0)).toInt8.toInt32)), (.int (0 : Int32)), (.ref d)]))) (fun _ k => XT.i2b X0.here hx rfl (hb hby own_d_jdk_52_method_21_code_30) rfl k) ?_
  obtain ⟨T1, h5, X2, e3, W6, st4⟩ := oStB X0 hx hZ e0 Ad (by decide) (by decide) (oNarBB _) (g := mkF m 31 #[.val (.ref c'), .val (.int (0 : Int32)), .val (.ref d), .val (.int (0 : Int32)), .val (.int (4 : Int32)), .val (.int (0 : Int32)), .val (.int (f 0))] [(.int (((f 0)).toInt8.toInt32)), (.int (0 : Int32)), (.ref d)]) rfl rfl (hb hby own_d_jdk_52_method_21_code_31)
  have N7 := Fr.snoc X2 (Fr.nil n0) ab
  have K8 : Keep h0 h5 [d] := (Keep.refl h0 [d]).wr W6 (Or.inl (by simp))
  have F9 := St.wr W6
  have F10 := Ac.other W6 ncd
  have F11 : OArr Z h5 d .byte (4 : Int32) (fun jj => if jj = ((0 : Int32)).toNatClampNeg then (.int (((f 0)).toInt8.toInt32)) else (fun _ => .int 0) jj : Nat → Value) := Ad.set W6
  have Z12 : n0 ≤ h5.size := Nat.le_trans Z0 (Keep.of_wr W6).1
  refine OGoal.mp (S' := (T1.setTop (mkF m 32 #[.val (.ref c'), .val (.int (0 : Int32)), .val (.ref d), .val (.int (0 : Int32)), .val (.int (4 : Int32)), .val (.int (0 : Int32)), .val (.int (f 0))] []))) (fun _ k => st4 _ k) ?_
  refine OGoal.mp (S' := (T1.setTop (mkF m 35 #[.val (.ref c'), .val (.int ((0 : Int32) + (1 : Int32))), .val (.ref d), .val (.int (0 : Int32)), .val (.int (4 : Int32)), .val (.int (0 : Int32)), .val (.int (f 0))] []))) (fun _ k => XT.iincV X2.here hx rfl (1 : Int32) (hb hby own_d_jdk_52_method_21_code_32) rfl rfl (l' := #[.val (.ref c'), .val (.int ((0 : Int32) + (1 : Int32))), .val (.ref d), .val (.int (0 : Int32)), .val (.int (4 : Int32)), .val (.int (0 : Int32)), .val (.int (f 0))]) rfl k) ?_
  rw [show ((0 : Int32) + (1 : Int32)) = (1 : Int32) by decide]
  show OGoal p e below s _ _ _ (T1.setTop (mkF m 35 #[.val (.ref c'), .val (.int (1 : Int32)), .val (.ref d), .val (.int (0 : Int32)), .val (.int (4 : Int32)), .val (.int (0 : Int32)), .val (.int (f 0))] []))
  refine OGoal.mp (S' := (T1.setTop (mkF m 38 #[.val (.ref c'), .val (.int (1 : Int32)), .val (.ref d), .val (.int ((0 : Int32) + (1 : Int32))), .val (.int (4 : Int32)), .val (.int (0 : Int32)), .val (.int (f 0))] []))) (fun _ k => XT.iincV X2.here hx rfl (1 : Int32) (hb hby own_d_jdk_52_method_21_code_35) rfl rfl (l' := #[.val (.ref c'), .val (.int (1 : Int32)), .val (.ref d), .val (.int ((0 : Int32) + (1 : Int32))), .val (.int (4 : Int32)), .val (.int (0 : Int32)), .val (.int (f 0))]) rfl k) ?_
  rw [show ((0 : Int32) + (1 : Int32)) = (1 : Int32) by decide]
  show OGoal p e below s _ _ _ (T1.setTop (mkF m 38 #[.val (.ref c'), .val (.int (1 : Int32)), .val (.ref d), .val (.int (1 : Int32)), .val (.int (4 : Int32)), .val (.int (0 : Int32)), .val (.int (f 0))] []))
  refine OGoal.mp (S' := (T1.setTop (mkF m 41 #[.val (.ref c'), .val (.int (1 : Int32)), .val (.ref d), .val (.int (1 : Int32)), .val (.int (4 : Int32)), .val (.int ((0 : Int32) + (1 : Int32))), .val (.int (f 0))] []))) (fun _ k => XT.iincV X2.here hx rfl (1 : Int32) (hb hby own_d_jdk_52_method_21_code_38) rfl rfl (l' := #[.val (.ref c'), .val (.int (1 : Int32)), .val (.ref d), .val (.int (1 : Int32)), .val (.int (4 : Int32)), .val (.int ((0 : Int32) + (1 : Int32))), .val (.int (f 0))]) rfl k) ?_
  rw [show ((0 : Int32) + (1 : Int32)) = (1 : Int32) by decide]
  show OGoal p e below s _ _ _ (T1.setTop (mkF m 41 #[.val (.ref c'), .val (.int (1 : Int32)), .val (.ref d), .val (.int (1 : Int32)), .val (.int (4 : Int32)), .val (.int (1 : Int32)), .val (.int (f 0))] []))
  refine OGoal.mp (S' := (T1.setTop (mkF m 3 #[.val (.ref c'), .val (.int (1 : Int32)), .val (.ref d), .val (.int (1 : Int32)), .val (.int (4 : Int32)), .val (.int (1 : Int32)), .val (.int (f 0))] []))) (fun _ k => XS.goto X2.here hx rfl (pc0 := 41) (pc' := 3) rfl (hb hby own_d_jdk_52_method_21_code_41) (by decide) (by decide) k) ?_
  refine OGoal.mp (S' := (T1.setTop (mkF m 5 #[.val (.ref c'), .val (.int (1 : Int32)), .val (.ref d), .val (.int (1 : Int32)), .val (.int (4 : Int32)), .val (.int (1 : Int32)), .val (.int (f 0))] [(.int (1 : Int32))]))) (fun _ k => XS.iload X2.here hx rfl (hb hby own_d_jdk_52_method_21_code_3) rfl k) ?_
  refine OGoal.mp (S' := (T1.setTop (mkF m 7 #[.val (.ref c'), .val (.int (1 : Int32)), .val (.ref d), .val (.int (1 : Int32)), .val (.int (4 : Int32)), .val (.int (1 : Int32)), .val (.int (f 0))] [(.int (4 : Int32)), (.int (1 : Int32))]))) (fun _ k => XS.iload X2.here hx rfl (hb hby own_d_jdk_52_method_21_code_5) rfl k) ?_
  refine OGoal.mp (S' := (T1.setTop (mkF m 10 #[.val (.ref c'), .val (.int (1 : Int32)), .val (.ref d), .val (.int (1 : Int32)), .val (.int (4 : Int32)), .val (.int (1 : Int32)), .val (.int (f 0))] []))) (fun _ k => XS.icmpNo X2.here hx rfl (hb hby own_d_jdk_52_method_21_code_7) rfl (XT.ii_ge_f (by decide)) k) ?_
  refine OGoal.mp (S' := (T1.setTop (mkF m 11 #[.val (.ref c'), .val (.int (1 : Int32)), .val (.ref d), .val (.int (1 : Int32)), .val (.int (4 : Int32)), .val (.int (1 : Int32)), .val (.int (f 0))] [(.ref c')]))) (fun _ k => XS.aloadN X2.here hx rfl (hb hby own_d_jdk_52_method_21_code_10) rfl rfl k) ?_
  refine OGoal.mp (S' := (T1.setTop (mkF m 12 #[.val (.ref c'), .val (.int (1 : Int32)), .val (.ref d), .val (.int (1 : Int32)), .val (.int (4 : Int32)), .val (.int (1 : Int32)), .val (.int (f 0))] [(.int (1 : Int32)), (.ref c')]))) (fun _ k => XS.iloadN X2.here hx rfl (hb hby own_d_jdk_52_method_21_code_11) rfl k) ?_
  refine OGoal.mp (S' := (T1.setTop (mkF m 13 #[.val (.ref c'), .val (.int (1 : Int32)), .val (.ref d), .val (.int (1 : Int32)), .val (.int (4 : Int32)), .val (.int (1 : Int32)), .val (.int (f 0))] [(.int (f 1))]))) (fun _ k => oLdC X2 hx hZ e3 F10 (by decide) (by decide) rfl (g := mkF m 12 #[.val (.ref c'), .val (.int (1 : Int32)), .val (.ref d), .val (.int (1 : Int32)), .val (.int (4 : Int32)), .val (.int (1 : Int32)), .val (.int (f 0))] [(.int (1 : Int32)), (.ref c')]) rfl rfl (hb hby own_d_jdk_52_method_21_code_12) k) ?_
  refine OGoal.mp (S' := (T1.setTop (mkF m 15 #[.val (.ref c'), .val (.int (1 : Int32)), .val (.ref d), .val (.int (1 : Int32)), .val (.int (4 : Int32)), .val (.int (1 : Int32)), .val (.int (f 1))] []))) (fun _ k => XS.istore X2.here hx rfl (hb hby own_d_jdk_52_method_21_code_13) rfl (l' := #[.val (.ref c'), .val (.int (1 : Int32)), .val (.ref d), .val (.int (1 : Int32)), .val (.int (4 : Int32)), .val (.int (1 : Int32)), .val (.int (f 1))]) rfl k) ?_
  refine OGoal.mp (S' := (T1.setTop (mkF m 17 #[.val (.ref c'), .val (.int (1 : Int32)), .val (.ref d), .val (.int (1 : Int32)), .val (.int (4 : Int32)), .val (.int (1 : Int32)), .val (.int (f 1))] [(.int (f 1))]))) (fun _ k => XS.iload X2.here hx rfl (hb hby own_d_jdk_52_method_21_code_15) rfl k) ?_
  refine OGoal.mp (S' := (T1.setTop (mkF m 20 #[.val (.ref c'), .val (.int (1 : Int32)), .val (.ref d), .val (.int (1 : Int32)), .val (.int (4 : Int32)), .val (.int (1 : Int32)), .val (.int (f 1))] [(.int (255 : Int32)), (.int (f 1))]))) (fun _ k => XS.sipush X2.here hx rfl (hb hby own_d_jdk_52_method_21_code_17) k) ?_
  refine OGoal.mp (S' := (T1.setTop (mkF m 26 #[.val (.ref c'), .val (.int (1 : Int32)), .val (.ref d), .val (.int (1 : Int32)), .val (.int (4 : Int32)), .val (.int (1 : Int32)), .val (.int (f 1))] []))) (fun _ k => XS.icmpYes X2.here hx rfl (pc0 := 20) (pc' := 26) rfl (hb hby own_d_jdk_52_method_21_code_20) rfl (XT.ii_le_t hL.2.1) (by decide) (by decide) k) ?_
  refine OGoal.mp (S' := (T1.setTop (mkF m 27 #[.val (.ref c'), .val (.int (1 : Int32)), .val (.ref d), .val (.int (1 : Int32)), .val (.int (4 : Int32)), .val (.int (1 : Int32)), .val (.int (f 1))] [(.ref d)]))) (fun _ k => XS.aloadN X2.here hx rfl (hb hby own_d_jdk_52_method_21_code_26) rfl rfl k) ?_
  refine OGoal.mp (S' := (T1.setTop (mkF m 28 #[.val (.ref c'), .val (.int (1 : Int32)), .val (.ref d), .val (.int (1 : Int32)), .val (.int (4 : Int32)), .val (.int (1 : Int32)), .val (.int (f 1))] [(.int (1 : Int32)), (.ref d)]))) (fun _ k => XS.iloadN X2.here hx rfl (hb hby own_d_jdk_52_method_21_code_27) rfl k) ?_
  refine OGoal.mp (S' := (T1.setTop (mkF m 30 #[.val (.ref c'), .val (.int (1 : Int32)), .val (.ref d), .val (.int (1 : Int32)), .val (.int (4 : Int32)), .val (.int (1 : Int32)), .val (.int (f 1))] [(.int (f 1)), (.int (1 : Int32)), (.ref d)]))) (fun _ k => XS.iload X2.here hx rfl (hb hby own_d_jdk_52_method_21_code_28) rfl k) ?_
  refine OGoal.mp (S' := (T1.setTop (mkF m 31 #[.val (.ref c'), .val (.int (1 : Int32)), .val (.ref d), .val (.int (1 : Int32)), .val (.int (4 : Int32)), .val (.int (1 : Int32)), .val (.int (f 1))] [(.int (((f 1)).toInt8.toInt32)), (.int (1 : Int32)), (.ref d)]))) (fun _ k => XT.i2b X2.here hx rfl (hb hby own_d_jdk_52_method_21_code_30) rfl k) ?_
  obtain ⟨T13, h17, X14, e15, W18, st16⟩ := oStB X2 hx hZ e3 F11 (by decide) (by decide) (oNarBB _) (g := mkF m 31 #[.val (.ref c'), .val (.int (1 : Int32)), .val (.ref d), .val (.int (1 : Int32)), .val (.int (4 : Int32)), .val (.int (1 : Int32)), .val (.int (f 1))] [(.int (((f 1)).toInt8.toInt32)), (.int (1 : Int32)), (.ref d)]) rfl rfl (hb hby own_d_jdk_52_method_21_code_31)
  have N19 := Fr.snoc X14 N7 ab
  have K20 : Keep h0 h17 [d] := K8.wr W18 (Or.inl (by simp))
  have F21 := F9.wr W18
  have F22 := F10.other W18 ncd
  have F23 : OArr Z h17 d .byte (4 : Int32) (fun jj => if jj = ((1 : Int32)).toNatClampNeg then (.int (((f 1)).toInt8.toInt32)) else (fun jj => if jj = ((0 : Int32)).toNatClampNeg then (.int (((f 0)).toInt8.toInt32)) else (fun _ => .int 0) jj : Nat → Value) jj : Nat → Value) := F11.set W18
  have Z24 : n0 ≤ h17.size := Nat.le_trans Z12 (Keep.of_wr W18).1
  refine OGoal.mp (S' := (T13.setTop (mkF m 32 #[.val (.ref c'), .val (.int (1 : Int32)), .val (.ref d), .val (.int (1 : Int32)), .val (.int (4 : Int32)), .val (.int (1 : Int32)), .val (.int (f 1))] []))) (fun _ k => st16 _ k) ?_
  refine OGoal.mp (S' := (T13.setTop (mkF m 35 #[.val (.ref c'), .val (.int ((1 : Int32) + (1 : Int32))), .val (.ref d), .val (.int (1 : Int32)), .val (.int (4 : Int32)), .val (.int (1 : Int32)), .val (.int (f 1))] []))) (fun _ k => XT.iincV X14.here hx rfl (1 : Int32) (hb hby own_d_jdk_52_method_21_code_32) rfl rfl (l' := #[.val (.ref c'), .val (.int ((1 : Int32) + (1 : Int32))), .val (.ref d), .val (.int (1 : Int32)), .val (.int (4 : Int32)), .val (.int (1 : Int32)), .val (.int (f 1))]) rfl k) ?_
  rw [show ((1 : Int32) + (1 : Int32)) = (2 : Int32) by decide]
  show OGoal p e below s _ _ _ (T13.setTop (mkF m 35 #[.val (.ref c'), .val (.int (2 : Int32)), .val (.ref d), .val (.int (1 : Int32)), .val (.int (4 : Int32)), .val (.int (1 : Int32)), .val (.int (f 1))] []))
  refine OGoal.mp (S' := (T13.setTop (mkF m 38 #[.val (.ref c'), .val (.int (2 : Int32)), .val (.ref d), .val (.int ((1 : Int32) + (1 : Int32))), .val (.int (4 : Int32)), .val (.int (1 : Int32)), .val (.int (f 1))] []))) (fun _ k => XT.iincV X14.here hx rfl (1 : Int32) (hb hby own_d_jdk_52_method_21_code_35) rfl rfl (l' := #[.val (.ref c'), .val (.int (2 : Int32)), .val (.ref d), .val (.int ((1 : Int32) + (1 : Int32))), .val (.int (4 : Int32)), .val (.int (1 : Int32)), .val (.int (f 1))]) rfl k) ?_
  rw [show ((1 : Int32) + (1 : Int32)) = (2 : Int32) by decide]
  show OGoal p e below s _ _ _ (T13.setTop (mkF m 38 #[.val (.ref c'), .val (.int (2 : Int32)), .val (.ref d), .val (.int (2 : Int32)), .val (.int (4 : Int32)), .val (.int (1 : Int32)), .val (.int (f 1))] []))
  refine OGoal.mp (S' := (T13.setTop (mkF m 41 #[.val (.ref c'), .val (.int (2 : Int32)), .val (.ref d), .val (.int (2 : Int32)), .val (.int (4 : Int32)), .val (.int ((1 : Int32) + (1 : Int32))), .val (.int (f 1))] []))) (fun _ k => XT.iincV X14.here hx rfl (1 : Int32) (hb hby own_d_jdk_52_method_21_code_38) rfl rfl (l' := #[.val (.ref c'), .val (.int (2 : Int32)), .val (.ref d), .val (.int (2 : Int32)), .val (.int (4 : Int32)), .val (.int ((1 : Int32) + (1 : Int32))), .val (.int (f 1))]) rfl k) ?_
  rw [show ((1 : Int32) + (1 : Int32)) = (2 : Int32) by decide]
  show OGoal p e below s _ _ _ (T13.setTop (mkF m 41 #[.val (.ref c'), .val (.int (2 : Int32)), .val (.ref d), .val (.int (2 : Int32)), .val (.int (4 : Int32)), .val (.int (2 : Int32)), .val (.int (f 1))] []))
  refine OGoal.mp (S' := (T13.setTop (mkF m 3 #[.val (.ref c'), .val (.int (2 : Int32)), .val (.ref d), .val (.int (2 : Int32)), .val (.int (4 : Int32)), .val (.int (2 : Int32)), .val (.int (f 1))] []))) (fun _ k => XS.goto X14.here hx rfl (pc0 := 41) (pc' := 3) rfl (hb hby own_d_jdk_52_method_21_code_41) (by decide) (by decide) k) ?_
  refine OGoal.mp (S' := (T13.setTop (mkF m 5 #[.val (.ref c'), .val (.int (2 : Int32)), .val (.ref d), .val (.int (2 : Int32)), .val (.int (4 : Int32)), .val (.int (2 : Int32)), .val (.int (f 1))] [(.int (2 : Int32))]))) (fun _ k => XS.iload X14.here hx rfl (hb hby own_d_jdk_52_method_21_code_3) rfl k) ?_
  refine OGoal.mp (S' := (T13.setTop (mkF m 7 #[.val (.ref c'), .val (.int (2 : Int32)), .val (.ref d), .val (.int (2 : Int32)), .val (.int (4 : Int32)), .val (.int (2 : Int32)), .val (.int (f 1))] [(.int (4 : Int32)), (.int (2 : Int32))]))) (fun _ k => XS.iload X14.here hx rfl (hb hby own_d_jdk_52_method_21_code_5) rfl k) ?_
  refine OGoal.mp (S' := (T13.setTop (mkF m 10 #[.val (.ref c'), .val (.int (2 : Int32)), .val (.ref d), .val (.int (2 : Int32)), .val (.int (4 : Int32)), .val (.int (2 : Int32)), .val (.int (f 1))] []))) (fun _ k => XS.icmpNo X14.here hx rfl (hb hby own_d_jdk_52_method_21_code_7) rfl (XT.ii_ge_f (by decide)) k) ?_
  refine OGoal.mp (S' := (T13.setTop (mkF m 11 #[.val (.ref c'), .val (.int (2 : Int32)), .val (.ref d), .val (.int (2 : Int32)), .val (.int (4 : Int32)), .val (.int (2 : Int32)), .val (.int (f 1))] [(.ref c')]))) (fun _ k => XS.aloadN X14.here hx rfl (hb hby own_d_jdk_52_method_21_code_10) rfl rfl k) ?_
  refine OGoal.mp (S' := (T13.setTop (mkF m 12 #[.val (.ref c'), .val (.int (2 : Int32)), .val (.ref d), .val (.int (2 : Int32)), .val (.int (4 : Int32)), .val (.int (2 : Int32)), .val (.int (f 1))] [(.int (2 : Int32)), (.ref c')]))) (fun _ k => XS.iloadN X14.here hx rfl (hb hby own_d_jdk_52_method_21_code_11) rfl k) ?_
  refine OGoal.mp (S' := (T13.setTop (mkF m 13 #[.val (.ref c'), .val (.int (2 : Int32)), .val (.ref d), .val (.int (2 : Int32)), .val (.int (4 : Int32)), .val (.int (2 : Int32)), .val (.int (f 1))] [(.int (f 2))]))) (fun _ k => oLdC X14 hx hZ e15 F22 (by decide) (by decide) rfl (g := mkF m 12 #[.val (.ref c'), .val (.int (2 : Int32)), .val (.ref d), .val (.int (2 : Int32)), .val (.int (4 : Int32)), .val (.int (2 : Int32)), .val (.int (f 1))] [(.int (2 : Int32)), (.ref c')]) rfl rfl (hb hby own_d_jdk_52_method_21_code_12) k) ?_
  refine OGoal.mp (S' := (T13.setTop (mkF m 15 #[.val (.ref c'), .val (.int (2 : Int32)), .val (.ref d), .val (.int (2 : Int32)), .val (.int (4 : Int32)), .val (.int (2 : Int32)), .val (.int (f 2))] []))) (fun _ k => XS.istore X14.here hx rfl (hb hby own_d_jdk_52_method_21_code_13) rfl (l' := #[.val (.ref c'), .val (.int (2 : Int32)), .val (.ref d), .val (.int (2 : Int32)), .val (.int (4 : Int32)), .val (.int (2 : Int32)), .val (.int (f 2))]) rfl k) ?_
  refine OGoal.mp (S' := (T13.setTop (mkF m 17 #[.val (.ref c'), .val (.int (2 : Int32)), .val (.ref d), .val (.int (2 : Int32)), .val (.int (4 : Int32)), .val (.int (2 : Int32)), .val (.int (f 2))] [(.int (f 2))]))) (fun _ k => XS.iload X14.here hx rfl (hb hby own_d_jdk_52_method_21_code_15) rfl k) ?_
  refine OGoal.mp (S' := (T13.setTop (mkF m 20 #[.val (.ref c'), .val (.int (2 : Int32)), .val (.ref d), .val (.int (2 : Int32)), .val (.int (4 : Int32)), .val (.int (2 : Int32)), .val (.int (f 2))] [(.int (255 : Int32)), (.int (f 2))]))) (fun _ k => XS.sipush X14.here hx rfl (hb hby own_d_jdk_52_method_21_code_17) k) ?_
  refine OGoal.mp (S' := (T13.setTop (mkF m 26 #[.val (.ref c'), .val (.int (2 : Int32)), .val (.ref d), .val (.int (2 : Int32)), .val (.int (4 : Int32)), .val (.int (2 : Int32)), .val (.int (f 2))] []))) (fun _ k => XS.icmpYes X14.here hx rfl (pc0 := 20) (pc' := 26) rfl (hb hby own_d_jdk_52_method_21_code_20) rfl (XT.ii_le_t hL.2.2.1) (by decide) (by decide) k) ?_
  refine OGoal.mp (S' := (T13.setTop (mkF m 27 #[.val (.ref c'), .val (.int (2 : Int32)), .val (.ref d), .val (.int (2 : Int32)), .val (.int (4 : Int32)), .val (.int (2 : Int32)), .val (.int (f 2))] [(.ref d)]))) (fun _ k => XS.aloadN X14.here hx rfl (hb hby own_d_jdk_52_method_21_code_26) rfl rfl k) ?_
  refine OGoal.mp (S' := (T13.setTop (mkF m 28 #[.val (.ref c'), .val (.int (2 : Int32)), .val (.ref d), .val (.int (2 : Int32)), .val (.int (4 : Int32)), .val (.int (2 : Int32)), .val (.int (f 2))] [(.int (2 : Int32)), (.ref d)]))) (fun _ k => XS.iloadN X14.here hx rfl (hb hby own_d_jdk_52_method_21_code_27) rfl k) ?_
  refine OGoal.mp (S' := (T13.setTop (mkF m 30 #[.val (.ref c'), .val (.int (2 : Int32)), .val (.ref d), .val (.int (2 : Int32)), .val (.int (4 : Int32)), .val (.int (2 : Int32)), .val (.int (f 2))] [(.int (f 2)), (.int (2 : Int32)), (.ref d)]))) (fun _ k => XS.iload X14.here hx rfl (hb hby own_d_jdk_52_method_21_code_28) rfl k) ?_
  refine OGoal.mp (S' := (T13.setTop (mkF m 31 #[.val (.ref c'), .val (.int (2 : Int32)), .val (.ref d), .val (.int (2 : Int32)), .val (.int (4 : Int32)), .val (.int (2 : Int32)), .val (.int (f 2))] [(.int (((f 2)).toInt8.toInt32)), (.int (2 : Int32)), (.ref d)]))) (fun _ k => XT.i2b X14.here hx rfl (hb hby own_d_jdk_52_method_21_code_30) rfl k) ?_
  obtain ⟨T25, h29, X26, e27, W30, st28⟩ := oStB X14 hx hZ e15 F23 (by decide) (by decide) (oNarBB _) (g := mkF m 31 #[.val (.ref c'), .val (.int (2 : Int32)), .val (.ref d), .val (.int (2 : Int32)), .val (.int (4 : Int32)), .val (.int (2 : Int32)), .val (.int (f 2))] [(.int (((f 2)).toInt8.toInt32)), (.int (2 : Int32)), (.ref d)]) rfl rfl (hb hby own_d_jdk_52_method_21_code_31)
  have N31 := Fr.snoc X26 N19 ab
  have K32 : Keep h0 h29 [d] := K20.wr W30 (Or.inl (by simp))
  have F33 := F21.wr W30
  have F34 := F22.other W30 ncd
  have F35 : OArr Z h29 d .byte (4 : Int32) (fun jj => if jj = ((2 : Int32)).toNatClampNeg then (.int (((f 2)).toInt8.toInt32)) else (fun jj => if jj = ((1 : Int32)).toNatClampNeg then (.int (((f 1)).toInt8.toInt32)) else (fun jj => if jj = ((0 : Int32)).toNatClampNeg then (.int (((f 0)).toInt8.toInt32)) else (fun _ => .int 0) jj : Nat → Value) jj : Nat → Value) jj : Nat → Value) := F23.set W30
  have Z36 : n0 ≤ h29.size := Nat.le_trans Z24 (Keep.of_wr W30).1
  refine OGoal.mp (S' := (T25.setTop (mkF m 32 #[.val (.ref c'), .val (.int (2 : Int32)), .val (.ref d), .val (.int (2 : Int32)), .val (.int (4 : Int32)), .val (.int (2 : Int32)), .val (.int (f 2))] []))) (fun _ k => st28 _ k) ?_
  refine OGoal.mp (S' := (T25.setTop (mkF m 35 #[.val (.ref c'), .val (.int ((2 : Int32) + (1 : Int32))), .val (.ref d), .val (.int (2 : Int32)), .val (.int (4 : Int32)), .val (.int (2 : Int32)), .val (.int (f 2))] []))) (fun _ k => XT.iincV X26.here hx rfl (1 : Int32) (hb hby own_d_jdk_52_method_21_code_32) rfl rfl (l' := #[.val (.ref c'), .val (.int ((2 : Int32) + (1 : Int32))), .val (.ref d), .val (.int (2 : Int32)), .val (.int (4 : Int32)), .val (.int (2 : Int32)), .val (.int (f 2))]) rfl k) ?_
  rw [show ((2 : Int32) + (1 : Int32)) = (3 : Int32) by decide]
  show OGoal p e below s _ _ _ (T25.setTop (mkF m 35 #[.val (.ref c'), .val (.int (3 : Int32)), .val (.ref d), .val (.int (2 : Int32)), .val (.int (4 : Int32)), .val (.int (2 : Int32)), .val (.int (f 2))] []))
  refine OGoal.mp (S' := (T25.setTop (mkF m 38 #[.val (.ref c'), .val (.int (3 : Int32)), .val (.ref d), .val (.int ((2 : Int32) + (1 : Int32))), .val (.int (4 : Int32)), .val (.int (2 : Int32)), .val (.int (f 2))] []))) (fun _ k => XT.iincV X26.here hx rfl (1 : Int32) (hb hby own_d_jdk_52_method_21_code_35) rfl rfl (l' := #[.val (.ref c'), .val (.int (3 : Int32)), .val (.ref d), .val (.int ((2 : Int32) + (1 : Int32))), .val (.int (4 : Int32)), .val (.int (2 : Int32)), .val (.int (f 2))]) rfl k) ?_
  rw [show ((2 : Int32) + (1 : Int32)) = (3 : Int32) by decide]
  show OGoal p e below s _ _ _ (T25.setTop (mkF m 38 #[.val (.ref c'), .val (.int (3 : Int32)), .val (.ref d), .val (.int (3 : Int32)), .val (.int (4 : Int32)), .val (.int (2 : Int32)), .val (.int (f 2))] []))
  refine OGoal.mp (S' := (T25.setTop (mkF m 41 #[.val (.ref c'), .val (.int (3 : Int32)), .val (.ref d), .val (.int (3 : Int32)), .val (.int (4 : Int32)), .val (.int ((2 : Int32) + (1 : Int32))), .val (.int (f 2))] []))) (fun _ k => XT.iincV X26.here hx rfl (1 : Int32) (hb hby own_d_jdk_52_method_21_code_38) rfl rfl (l' := #[.val (.ref c'), .val (.int (3 : Int32)), .val (.ref d), .val (.int (3 : Int32)), .val (.int (4 : Int32)), .val (.int ((2 : Int32) + (1 : Int32))), .val (.int (f 2))]) rfl k) ?_
  rw [show ((2 : Int32) + (1 : Int32)) = (3 : Int32) by decide]
  show OGoal p e below s _ _ _ (T25.setTop (mkF m 41 #[.val (.ref c'), .val (.int (3 : Int32)), .val (.ref d), .val (.int (3 : Int32)), .val (.int (4 : Int32)), .val (.int (3 : Int32)), .val (.int (f 2))] []))
  refine OGoal.mp (S' := (T25.setTop (mkF m 3 #[.val (.ref c'), .val (.int (3 : Int32)), .val (.ref d), .val (.int (3 : Int32)), .val (.int (4 : Int32)), .val (.int (3 : Int32)), .val (.int (f 2))] []))) (fun _ k => XS.goto X26.here hx rfl (pc0 := 41) (pc' := 3) rfl (hb hby own_d_jdk_52_method_21_code_41) (by decide) (by decide) k) ?_
  refine OGoal.mp (S' := (T25.setTop (mkF m 5 #[.val (.ref c'), .val (.int (3 : Int32)), .val (.ref d), .val (.int (3 : Int32)), .val (.int (4 : Int32)), .val (.int (3 : Int32)), .val (.int (f 2))] [(.int (3 : Int32))]))) (fun _ k => XS.iload X26.here hx rfl (hb hby own_d_jdk_52_method_21_code_3) rfl k) ?_
  refine OGoal.mp (S' := (T25.setTop (mkF m 7 #[.val (.ref c'), .val (.int (3 : Int32)), .val (.ref d), .val (.int (3 : Int32)), .val (.int (4 : Int32)), .val (.int (3 : Int32)), .val (.int (f 2))] [(.int (4 : Int32)), (.int (3 : Int32))]))) (fun _ k => XS.iload X26.here hx rfl (hb hby own_d_jdk_52_method_21_code_5) rfl k) ?_
  refine OGoal.mp (S' := (T25.setTop (mkF m 10 #[.val (.ref c'), .val (.int (3 : Int32)), .val (.ref d), .val (.int (3 : Int32)), .val (.int (4 : Int32)), .val (.int (3 : Int32)), .val (.int (f 2))] []))) (fun _ k => XS.icmpNo X26.here hx rfl (hb hby own_d_jdk_52_method_21_code_7) rfl (XT.ii_ge_f (by decide)) k) ?_
  refine OGoal.mp (S' := (T25.setTop (mkF m 11 #[.val (.ref c'), .val (.int (3 : Int32)), .val (.ref d), .val (.int (3 : Int32)), .val (.int (4 : Int32)), .val (.int (3 : Int32)), .val (.int (f 2))] [(.ref c')]))) (fun _ k => XS.aloadN X26.here hx rfl (hb hby own_d_jdk_52_method_21_code_10) rfl rfl k) ?_
  refine OGoal.mp (S' := (T25.setTop (mkF m 12 #[.val (.ref c'), .val (.int (3 : Int32)), .val (.ref d), .val (.int (3 : Int32)), .val (.int (4 : Int32)), .val (.int (3 : Int32)), .val (.int (f 2))] [(.int (3 : Int32)), (.ref c')]))) (fun _ k => XS.iloadN X26.here hx rfl (hb hby own_d_jdk_52_method_21_code_11) rfl k) ?_
  refine OGoal.mp (S' := (T25.setTop (mkF m 13 #[.val (.ref c'), .val (.int (3 : Int32)), .val (.ref d), .val (.int (3 : Int32)), .val (.int (4 : Int32)), .val (.int (3 : Int32)), .val (.int (f 2))] [(.int (f 3))]))) (fun _ k => oLdC X26 hx hZ e27 F34 (by decide) (by decide) rfl (g := mkF m 12 #[.val (.ref c'), .val (.int (3 : Int32)), .val (.ref d), .val (.int (3 : Int32)), .val (.int (4 : Int32)), .val (.int (3 : Int32)), .val (.int (f 2))] [(.int (3 : Int32)), (.ref c')]) rfl rfl (hb hby own_d_jdk_52_method_21_code_12) k) ?_
  refine OGoal.mp (S' := (T25.setTop (mkF m 15 #[.val (.ref c'), .val (.int (3 : Int32)), .val (.ref d), .val (.int (3 : Int32)), .val (.int (4 : Int32)), .val (.int (3 : Int32)), .val (.int (f 3))] []))) (fun _ k => XS.istore X26.here hx rfl (hb hby own_d_jdk_52_method_21_code_13) rfl (l' := #[.val (.ref c'), .val (.int (3 : Int32)), .val (.ref d), .val (.int (3 : Int32)), .val (.int (4 : Int32)), .val (.int (3 : Int32)), .val (.int (f 3))]) rfl k) ?_
  refine OGoal.mp (S' := (T25.setTop (mkF m 17 #[.val (.ref c'), .val (.int (3 : Int32)), .val (.ref d), .val (.int (3 : Int32)), .val (.int (4 : Int32)), .val (.int (3 : Int32)), .val (.int (f 3))] [(.int (f 3))]))) (fun _ k => XS.iload X26.here hx rfl (hb hby own_d_jdk_52_method_21_code_15) rfl k) ?_
  refine OGoal.mp (S' := (T25.setTop (mkF m 20 #[.val (.ref c'), .val (.int (3 : Int32)), .val (.ref d), .val (.int (3 : Int32)), .val (.int (4 : Int32)), .val (.int (3 : Int32)), .val (.int (f 3))] [(.int (255 : Int32)), (.int (f 3))]))) (fun _ k => XS.sipush X26.here hx rfl (hb hby own_d_jdk_52_method_21_code_17) k) ?_
  refine OGoal.mp (S' := (T25.setTop (mkF m 26 #[.val (.ref c'), .val (.int (3 : Int32)), .val (.ref d), .val (.int (3 : Int32)), .val (.int (4 : Int32)), .val (.int (3 : Int32)), .val (.int (f 3))] []))) (fun _ k => XS.icmpYes X26.here hx rfl (pc0 := 20) (pc' := 26) rfl (hb hby own_d_jdk_52_method_21_code_20) rfl (XT.ii_le_t hL.2.2.2) (by decide) (by decide) k) ?_
  refine OGoal.mp (S' := (T25.setTop (mkF m 27 #[.val (.ref c'), .val (.int (3 : Int32)), .val (.ref d), .val (.int (3 : Int32)), .val (.int (4 : Int32)), .val (.int (3 : Int32)), .val (.int (f 3))] [(.ref d)]))) (fun _ k => XS.aloadN X26.here hx rfl (hb hby own_d_jdk_52_method_21_code_26) rfl rfl k) ?_
  refine OGoal.mp (S' := (T25.setTop (mkF m 28 #[.val (.ref c'), .val (.int (3 : Int32)), .val (.ref d), .val (.int (3 : Int32)), .val (.int (4 : Int32)), .val (.int (3 : Int32)), .val (.int (f 3))] [(.int (3 : Int32)), (.ref d)]))) (fun _ k => XS.iloadN X26.here hx rfl (hb hby own_d_jdk_52_method_21_code_27) rfl k) ?_
  refine OGoal.mp (S' := (T25.setTop (mkF m 30 #[.val (.ref c'), .val (.int (3 : Int32)), .val (.ref d), .val (.int (3 : Int32)), .val (.int (4 : Int32)), .val (.int (3 : Int32)), .val (.int (f 3))] [(.int (f 3)), (.int (3 : Int32)), (.ref d)]))) (fun _ k => XS.iload X26.here hx rfl (hb hby own_d_jdk_52_method_21_code_28) rfl k) ?_
  refine OGoal.mp (S' := (T25.setTop (mkF m 31 #[.val (.ref c'), .val (.int (3 : Int32)), .val (.ref d), .val (.int (3 : Int32)), .val (.int (4 : Int32)), .val (.int (3 : Int32)), .val (.int (f 3))] [(.int (((f 3)).toInt8.toInt32)), (.int (3 : Int32)), (.ref d)]))) (fun _ k => XT.i2b X26.here hx rfl (hb hby own_d_jdk_52_method_21_code_30) rfl k) ?_
  obtain ⟨T37, h41, X38, e39, W42, st40⟩ := oStB X26 hx hZ e27 F35 (by decide) (by decide) (oNarBB _) (g := mkF m 31 #[.val (.ref c'), .val (.int (3 : Int32)), .val (.ref d), .val (.int (3 : Int32)), .val (.int (4 : Int32)), .val (.int (3 : Int32)), .val (.int (f 3))] [(.int (((f 3)).toInt8.toInt32)), (.int (3 : Int32)), (.ref d)]) rfl rfl (hb hby own_d_jdk_52_method_21_code_31)
  have N43 := Fr.snoc X38 N31 ab
  have K44 : Keep h0 h41 [d] := K32.wr W42 (Or.inl (by simp))
  have F45 := F33.wr W42
  have F46 := F34.other W42 ncd
  have F47 : OArr Z h41 d .byte (4 : Int32) (fun jj => if jj = ((3 : Int32)).toNatClampNeg then (.int (((f 3)).toInt8.toInt32)) else (fun jj => if jj = ((2 : Int32)).toNatClampNeg then (.int (((f 2)).toInt8.toInt32)) else (fun jj => if jj = ((1 : Int32)).toNatClampNeg then (.int (((f 1)).toInt8.toInt32)) else (fun jj => if jj = ((0 : Int32)).toNatClampNeg then (.int (((f 0)).toInt8.toInt32)) else (fun _ => .int 0) jj : Nat → Value) jj : Nat → Value) jj : Nat → Value) jj : Nat → Value) := F35.set W42
  have Z48 : n0 ≤ h41.size := Nat.le_trans Z36 (Keep.of_wr W42).1
  refine OGoal.mp (S' := (T37.setTop (mkF m 32 #[.val (.ref c'), .val (.int (3 : Int32)), .val (.ref d), .val (.int (3 : Int32)), .val (.int (4 : Int32)), .val (.int (3 : Int32)), .val (.int (f 3))] []))) (fun _ k => st40 _ k) ?_
  refine OGoal.mp (S' := (T37.setTop (mkF m 35 #[.val (.ref c'), .val (.int ((3 : Int32) + (1 : Int32))), .val (.ref d), .val (.int (3 : Int32)), .val (.int (4 : Int32)), .val (.int (3 : Int32)), .val (.int (f 3))] []))) (fun _ k => XT.iincV X38.here hx rfl (1 : Int32) (hb hby own_d_jdk_52_method_21_code_32) rfl rfl (l' := #[.val (.ref c'), .val (.int ((3 : Int32) + (1 : Int32))), .val (.ref d), .val (.int (3 : Int32)), .val (.int (4 : Int32)), .val (.int (3 : Int32)), .val (.int (f 3))]) rfl k) ?_
  rw [show ((3 : Int32) + (1 : Int32)) = (4 : Int32) by decide]
  show OGoal p e below s _ _ _ (T37.setTop (mkF m 35 #[.val (.ref c'), .val (.int (4 : Int32)), .val (.ref d), .val (.int (3 : Int32)), .val (.int (4 : Int32)), .val (.int (3 : Int32)), .val (.int (f 3))] []))
  refine OGoal.mp (S' := (T37.setTop (mkF m 38 #[.val (.ref c'), .val (.int (4 : Int32)), .val (.ref d), .val (.int ((3 : Int32) + (1 : Int32))), .val (.int (4 : Int32)), .val (.int (3 : Int32)), .val (.int (f 3))] []))) (fun _ k => XT.iincV X38.here hx rfl (1 : Int32) (hb hby own_d_jdk_52_method_21_code_35) rfl rfl (l' := #[.val (.ref c'), .val (.int (4 : Int32)), .val (.ref d), .val (.int ((3 : Int32) + (1 : Int32))), .val (.int (4 : Int32)), .val (.int (3 : Int32)), .val (.int (f 3))]) rfl k) ?_
  rw [show ((3 : Int32) + (1 : Int32)) = (4 : Int32) by decide]
  show OGoal p e below s _ _ _ (T37.setTop (mkF m 38 #[.val (.ref c'), .val (.int (4 : Int32)), .val (.ref d), .val (.int (4 : Int32)), .val (.int (4 : Int32)), .val (.int (3 : Int32)), .val (.int (f 3))] []))
  refine OGoal.mp (S' := (T37.setTop (mkF m 41 #[.val (.ref c'), .val (.int (4 : Int32)), .val (.ref d), .val (.int (4 : Int32)), .val (.int (4 : Int32)), .val (.int ((3 : Int32) + (1 : Int32))), .val (.int (f 3))] []))) (fun _ k => XT.iincV X38.here hx rfl (1 : Int32) (hb hby own_d_jdk_52_method_21_code_38) rfl rfl (l' := #[.val (.ref c'), .val (.int (4 : Int32)), .val (.ref d), .val (.int (4 : Int32)), .val (.int (4 : Int32)), .val (.int ((3 : Int32) + (1 : Int32))), .val (.int (f 3))]) rfl k) ?_
  rw [show ((3 : Int32) + (1 : Int32)) = (4 : Int32) by decide]
  show OGoal p e below s _ _ _ (T37.setTop (mkF m 41 #[.val (.ref c'), .val (.int (4 : Int32)), .val (.ref d), .val (.int (4 : Int32)), .val (.int (4 : Int32)), .val (.int (4 : Int32)), .val (.int (f 3))] []))
  refine OGoal.mp (S' := (T37.setTop (mkF m 3 #[.val (.ref c'), .val (.int (4 : Int32)), .val (.ref d), .val (.int (4 : Int32)), .val (.int (4 : Int32)), .val (.int (4 : Int32)), .val (.int (f 3))] []))) (fun _ k => XS.goto X38.here hx rfl (pc0 := 41) (pc' := 3) rfl (hb hby own_d_jdk_52_method_21_code_41) (by decide) (by decide) k) ?_
  refine OGoal.mp (S' := (T37.setTop (mkF m 5 #[.val (.ref c'), .val (.int (4 : Int32)), .val (.ref d), .val (.int (4 : Int32)), .val (.int (4 : Int32)), .val (.int (4 : Int32)), .val (.int (f 3))] [(.int (4 : Int32))]))) (fun _ k => XS.iload X38.here hx rfl (hb hby own_d_jdk_52_method_21_code_3) rfl k) ?_
  refine OGoal.mp (S' := (T37.setTop (mkF m 7 #[.val (.ref c'), .val (.int (4 : Int32)), .val (.ref d), .val (.int (4 : Int32)), .val (.int (4 : Int32)), .val (.int (4 : Int32)), .val (.int (f 3))] [(.int (4 : Int32)), (.int (4 : Int32))]))) (fun _ k => XS.iload X38.here hx rfl (hb hby own_d_jdk_52_method_21_code_5) rfl k) ?_
  refine OGoal.mp (S' := (T37.setTop (mkF m 44 #[.val (.ref c'), .val (.int (4 : Int32)), .val (.ref d), .val (.int (4 : Int32)), .val (.int (4 : Int32)), .val (.int (4 : Int32)), .val (.int (f 3))] []))) (fun _ k => XS.icmpYes X38.here hx rfl (pc0 := 7) (pc' := 44) rfl (hb hby own_d_jdk_52_method_21_code_7) rfl (XT.ii_ge_t (by decide)) (by decide) (by decide) k) ?_
  refine OGoal.mp (S' := (T37.setTop (mkF m 46 #[.val (.ref c'), .val (.int (4 : Int32)), .val (.ref d), .val (.int (4 : Int32)), .val (.int (4 : Int32)), .val (.int (4 : Int32)), .val (.int (f 3))] [(.int (4 : Int32))]))) (fun _ k => XS.iload X38.here hx rfl (hb hby own_d_jdk_52_method_21_code_44) rfl k) ?_
  refine oRetI X38 hx hlk hret (hb hby own_d_jdk_52_method_21_code_46) ?_ (by decide) (by decide)
  rw [e39]; refine ⟨rfl, N43, K44, F45, F47.imp (fun i hi => ?_)⟩
  have hi2 : i < 4 := hi
  match i, hi2 with
  | 0, _ => rfl
  | 1, _ => rfl
  | 2, _ => rfl
  | 3, _ => rfl
theorem own_d_jdk_52_method_21_code_23 : decode jdk_52_method_21_code 23 = .ok (.iload 5, 2) := by decide +kernel
theorem own_d_jdk_52_method_21_code_25 : decode jdk_52_method_21_code 25 = .ok (.ireturn, 1) := by decide +kernel
theorem own_ef_rmC1U (x0 : Addr) (x1 : Int32) (x2 : Addr) (x3 : Int32) (x4 : Int32) (m : MethodId) : entryFrame m #[(.ref x0), (.int x1), (.ref x2), (.int x3), (.int x4)] 7 = mkF m 0 #[.val (.ref x0), .val (.int x1), .val (.ref x2), .val (.int x3), .val (.int x4), .unset, .unset] [] := by first | (simp [entryFrame, mkF, argsToLocals, Value.category]; done) | rfl
set_option maxRecDepth 65536 in
set_option maxHeartbeats 40000000 in
theorem rmC1U (l : Launch) (Z : State) (a0 : Array Value) (hw : ∀ d ∈ tables_1, d.before a0 Z = true) (c' d : Addr) (h0 : Heap) (n0 : Nat) (Z0 : n0 ≤ h0.size) (cs : Int32) (fm : Value) (hcs : ¬ cs = 0) (hfm : fm.isRef = true) (St : Stt Z h0 cs fm) (f : Nat → Int32) (hC : Ch f) (Ac : OArr Z h0 c' .char 4 (fun k => .int (f k))) (Ad : OArr Z h0 d .byte 4 (fun _ => .int 0)) (ncd : c' ≠ d) (ab : n0 ≤ d) (hU : ¬ Lat f) :
    OCon l Z (⟨"java/lang/StringUTF16", "compress", "([CI[BII)I"⟩ : MethodName) jdk_52_method_21_code 7 (some .int) ({ frames := 0, cells := 0, slots := 0, locals := 0 } : Room) #[(.ref c'), (.int (0 : Int32)), (.ref d), (.int (0 : Int32)), (.int (4 : Int32))] h0 (fun v h L => ∃ k : Int32, v = some (.int k) ∧ Fr n0 L ∧ Keep h0 h [d] ∧ Stt Z h cs fm ∧ 0 ≤ k.toInt ∧ k.toInt < 4 ∧ (255 : Int32) < f k.toInt.toNat) := by
  refine OConK.intro (y := (⟨"java/lang/StringUTF16", "compress", "([CI[BII)I"⟩ : MethodName)) (plainFor_of_name own_pn_java_lang_StringUTF16) (own_ef_rmC1U c' (0 : Int32) d (0 : Int32) (4 : Int32)) ?_
  intro p e s m below meth c s₁ hx hby hml hown hnm hret hlk hZ X0 e0
  show OGoal p e below s _ _ _ (s₁.setTop (mkF m 0 #[.val (.ref c'), .val (.int (0 : Int32)), .val (.ref d), .val (.int (0 : Int32)), .val (.int (4 : Int32)), .unset, .unset] []))
  refine OGoal.mp (S' := (s₁.setTop (mkF m 1 #[.val (.ref c'), .val (.int (0 : Int32)), .val (.ref d), .val (.int (0 : Int32)), .val (.int (4 : Int32)), .unset, .unset] [(.int (0 : Int32))]))) (fun _ k => XS.iconst X0.here hx rfl (hb hby own_d_jdk_52_method_21_code_0) k) ?_
  refine OGoal.mp (S' := (s₁.setTop (mkF m 3 #[.val (.ref c'), .val (.int (0 : Int32)), .val (.ref d), .val (.int (0 : Int32)), .val (.int (4 : Int32)), .val (.int (0 : Int32)), .unset] []))) (fun _ k => XS.istore X0.here hx rfl (hb hby own_d_jdk_52_method_21_code_1) rfl (l' := #[.val (.ref c'), .val (.int (0 : Int32)), .val (.ref d), .val (.int (0 : Int32)), .val (.int (4 : Int32)), .val (.int (0 : Int32)), .unset]) rfl k) ?_
  refine OGoal.mp (S' := (s₁.setTop (mkF m 5 #[.val (.ref c'), .val (.int (0 : Int32)), .val (.ref d), .val (.int (0 : Int32)), .val (.int (4 : Int32)), .val (.int (0 : Int32)), .unset] [(.int (0 : Int32))]))) (fun _ k => XS.iload X0.here hx rfl (hb hby own_d_jdk_52_method_21_code_3) rfl k) ?_
  refine OGoal.mp (S' := (s₁.setTop (mkF m 7 #[.val (.ref c'), .val (.int (0 : Int32)), .val (.ref d), .val (.int (0 : Int32)), .val (.int (4 : Int32)), .val (.int (0 : Int32)), .unset] [(.int (4 : Int32)), (.int (0 : Int32))]))) (fun _ k => XS.iload X0.here hx rfl (hb hby own_d_jdk_52_method_21_code_5) rfl k) ?_
  refine OGoal.mp (S' := (s₁.setTop (mkF m 10 #[.val (.ref c'), .val (.int (0 : Int32)), .val (.ref d), .val (.int (0 : Int32)), .val (.int (4 : Int32)), .val (.int (0 : Int32)), .unset] []))) (fun _ k => XS.icmpNo X0.here hx rfl (hb hby own_d_jdk_52_method_21_code_7) rfl (XT.ii_ge_f (by decide)) k) ?_
  refine OGoal.mp (S' := (s₁.setTop (mkF m 11 #[.val (.ref c'), .val (.int (0 : Int32)), .val (.ref d), .val (.int (0 : Int32)), .val (.int (4 : Int32)), .val (.int (0 : Int32)), .unset] [(.ref c')]))) (fun _ k => XS.aloadN X0.here hx rfl (hb hby own_d_jdk_52_method_21_code_10) rfl rfl k) ?_
  refine OGoal.mp (S' := (s₁.setTop (mkF m 12 #[.val (.ref c'), .val (.int (0 : Int32)), .val (.ref d), .val (.int (0 : Int32)), .val (.int (4 : Int32)), .val (.int (0 : Int32)), .unset] [(.int (0 : Int32)), (.ref c')]))) (fun _ k => XS.iloadN X0.here hx rfl (hb hby own_d_jdk_52_method_21_code_11) rfl k) ?_
  refine OGoal.mp (S' := (s₁.setTop (mkF m 13 #[.val (.ref c'), .val (.int (0 : Int32)), .val (.ref d), .val (.int (0 : Int32)), .val (.int (4 : Int32)), .val (.int (0 : Int32)), .unset] [(.int (f 0))]))) (fun _ k => oLdC X0 hx hZ e0 Ac (by decide) (by decide) rfl (g := mkF m 12 #[.val (.ref c'), .val (.int (0 : Int32)), .val (.ref d), .val (.int (0 : Int32)), .val (.int (4 : Int32)), .val (.int (0 : Int32)), .unset] [(.int (0 : Int32)), (.ref c')]) rfl rfl (hb hby own_d_jdk_52_method_21_code_12) k) ?_
  refine OGoal.mp (S' := (s₁.setTop (mkF m 15 #[.val (.ref c'), .val (.int (0 : Int32)), .val (.ref d), .val (.int (0 : Int32)), .val (.int (4 : Int32)), .val (.int (0 : Int32)), .val (.int (f 0))] []))) (fun _ k => XS.istore X0.here hx rfl (hb hby own_d_jdk_52_method_21_code_13) rfl (l' := #[.val (.ref c'), .val (.int (0 : Int32)), .val (.ref d), .val (.int (0 : Int32)), .val (.int (4 : Int32)), .val (.int (0 : Int32)), .val (.int (f 0))]) rfl k) ?_
  refine OGoal.mp (S' := (s₁.setTop (mkF m 17 #[.val (.ref c'), .val (.int (0 : Int32)), .val (.ref d), .val (.int (0 : Int32)), .val (.int (4 : Int32)), .val (.int (0 : Int32)), .val (.int (f 0))] [(.int (f 0))]))) (fun _ k => XS.iload X0.here hx rfl (hb hby own_d_jdk_52_method_21_code_15) rfl k) ?_
  refine OGoal.mp (S' := (s₁.setTop (mkF m 20 #[.val (.ref c'), .val (.int (0 : Int32)), .val (.ref d), .val (.int (0 : Int32)), .val (.int (4 : Int32)), .val (.int (0 : Int32)), .val (.int (f 0))] [(.int (255 : Int32)), (.int (f 0))]))) (fun _ k => XS.sipush X0.here hx rfl (hb hby own_d_jdk_52_method_21_code_17) k) ?_
  by_cases hc1 : (255 : Int32) < (f 0)
  · refine OGoal.mp (S' := (s₁.setTop (mkF m 23 #[.val (.ref c'), .val (.int (0 : Int32)), .val (.ref d), .val (.int (0 : Int32)), .val (.int (4 : Int32)), .val (.int (0 : Int32)), .val (.int (f 0))] []))) (fun _ k => XS.icmpNo X0.here hx rfl (hb hby own_d_jdk_52_method_21_code_20) rfl (XT.ii_le_f hc1) k) ?_
    refine OGoal.mp (S' := (s₁.setTop (mkF m 25 #[.val (.ref c'), .val (.int (0 : Int32)), .val (.ref d), .val (.int (0 : Int32)), .val (.int (4 : Int32)), .val (.int (0 : Int32)), .val (.int (f 0))] [(.int (0 : Int32))]))) (fun _ k => XS.iload X0.here hx rfl (hb hby own_d_jdk_52_method_21_code_23) rfl k) ?_
    refine oRetI X0 hx hlk hret (hb hby own_d_jdk_52_method_21_code_25) ?_ (by decide) (by decide)
    rw [e0]; exact ⟨(0 : Int32), rfl, (Fr.nil n0), (Keep.refl h0 [d]), St, by decide, by decide, hc1⟩
  · refine OGoal.mp (S' := (s₁.setTop (mkF m 26 #[.val (.ref c'), .val (.int (0 : Int32)), .val (.ref d), .val (.int (0 : Int32)), .val (.int (4 : Int32)), .val (.int (0 : Int32)), .val (.int (f 0))] []))) (fun _ k => XS.icmpYes X0.here hx rfl (pc0 := 20) (pc' := 26) rfl (hb hby own_d_jdk_52_method_21_code_20) rfl (XT.ii_le_t hc1) (by decide) (by decide) k) ?_
    refine OGoal.mp (S' := (s₁.setTop (mkF m 27 #[.val (.ref c'), .val (.int (0 : Int32)), .val (.ref d), .val (.int (0 : Int32)), .val (.int (4 : Int32)), .val (.int (0 : Int32)), .val (.int (f 0))] [(.ref d)]))) (fun _ k => XS.aloadN X0.here hx rfl (hb hby own_d_jdk_52_method_21_code_26) rfl rfl k) ?_
    refine OGoal.mp (S' := (s₁.setTop (mkF m 28 #[.val (.ref c'), .val (.int (0 : Int32)), .val (.ref d), .val (.int (0 : Int32)), .val (.int (4 : Int32)), .val (.int (0 : Int32)), .val (.int (f 0))] [(.int (0 : Int32)), (.ref d)]))) (fun _ k => XS.iloadN X0.here hx rfl (hb hby own_d_jdk_52_method_21_code_27) rfl k) ?_
    refine OGoal.mp (S' := (s₁.setTop (mkF m 30 #[.val (.ref c'), .val (.int (0 : Int32)), .val (.ref d), .val (.int (0 : Int32)), .val (.int (4 : Int32)), .val (.int (0 : Int32)), .val (.int (f 0))] [(.int (f 0)), (.int (0 : Int32)), (.ref d)]))) (fun _ k => XS.iload X0.here hx rfl (hb hby own_d_jdk_52_method_21_code_28) rfl k) ?_
    refine OGoal.mp (S' := (s₁.setTop (mkF m 31 #[.val (.ref c'), .val (.int (0 : Int32)), .val (.ref d), .val (.int (0 : Int32)), .val (.int (4 : Int32)), .val (.int (0 : Int32)), .val (.int (f 0))] [(.int (((f 0)).toInt8.toInt32)), (.int (0 : Int32)), (.ref d)]))) (fun _ k => XT.i2b X0.here hx rfl (hb hby own_d_jdk_52_method_21_code_30) rfl k) ?_
    obtain ⟨T2, h6, X3, e4, W7, st5⟩ := oStB X0 hx hZ e0 Ad (by decide) (by decide) (oNarBB _) (g := mkF m 31 #[.val (.ref c'), .val (.int (0 : Int32)), .val (.ref d), .val (.int (0 : Int32)), .val (.int (4 : Int32)), .val (.int (0 : Int32)), .val (.int (f 0))] [(.int (((f 0)).toInt8.toInt32)), (.int (0 : Int32)), (.ref d)]) rfl rfl (hb hby own_d_jdk_52_method_21_code_31)
    have N8 := Fr.snoc X3 (Fr.nil n0) ab
    have K9 : Keep h0 h6 [d] := (Keep.refl h0 [d]).wr W7 (Or.inl (by simp))
    have F10 := St.wr W7
    have F11 := Ac.other W7 ncd
    have F12 : OArr Z h6 d .byte (4 : Int32) (fun jj => if jj = ((0 : Int32)).toNatClampNeg then (.int (((f 0)).toInt8.toInt32)) else (fun _ => .int 0) jj : Nat → Value) := Ad.set W7
    have Z13 : n0 ≤ h6.size := Nat.le_trans Z0 (Keep.of_wr W7).1
    refine OGoal.mp (S' := (T2.setTop (mkF m 32 #[.val (.ref c'), .val (.int (0 : Int32)), .val (.ref d), .val (.int (0 : Int32)), .val (.int (4 : Int32)), .val (.int (0 : Int32)), .val (.int (f 0))] []))) (fun _ k => st5 _ k) ?_
    refine OGoal.mp (S' := (T2.setTop (mkF m 35 #[.val (.ref c'), .val (.int ((0 : Int32) + (1 : Int32))), .val (.ref d), .val (.int (0 : Int32)), .val (.int (4 : Int32)), .val (.int (0 : Int32)), .val (.int (f 0))] []))) (fun _ k => XT.iincV X3.here hx rfl (1 : Int32) (hb hby own_d_jdk_52_method_21_code_32) rfl rfl (l' := #[.val (.ref c'), .val (.int ((0 : Int32) + (1 : Int32))), .val (.ref d), .val (.int (0 : Int32)), .val (.int (4 : Int32)), .val (.int (0 : Int32)), .val (.int (f 0))]) rfl k) ?_
    rw [show ((0 : Int32) + (1 : Int32)) = (1 : Int32) by decide]
    show OGoal p e below s _ _ _ (T2.setTop (mkF m 35 #[.val (.ref c'), .val (.int (1 : Int32)), .val (.ref d), .val (.int (0 : Int32)), .val (.int (4 : Int32)), .val (.int (0 : Int32)), .val (.int (f 0))] []))
    refine OGoal.mp (S' := (T2.setTop (mkF m 38 #[.val (.ref c'), .val (.int (1 : Int32)), .val (.ref d), .val (.int ((0 : Int32) + (1 : Int32))), .val (.int (4 : Int32)), .val (.int (0 : Int32)), .val (.int (f 0))] []))) (fun _ k => XT.iincV X3.here hx rfl (1 : Int32) (hb hby own_d_jdk_52_method_21_code_35) rfl rfl (l' := #[.val (.ref c'), .val (.int (1 : Int32)), .val (.ref d), .val (.int ((0 : Int32) + (1 : Int32))), .val (.int (4 : Int32)), .val (.int (0 : Int32)), .val (.int (f 0))]) rfl k) ?_
    rw [show ((0 : Int32) + (1 : Int32)) = (1 : Int32) by decide]
    show OGoal p e below s _ _ _ (T2.setTop (mkF m 38 #[.val (.ref c'), .val (.int (1 : Int32)), .val (.ref d), .val (.int (1 : Int32)), .val (.int (4 : Int32)), .val (.int (0 : Int32)), .val (.int (f 0))] []))
    refine OGoal.mp (S' := (T2.setTop (mkF m 41 #[.val (.ref c'), .val (.int (1 : Int32)), .val (.ref d), .val (.int (1 : Int32)), .val (.int (4 : Int32)), .val (.int ((0 : Int32) + (1 : Int32))), .val (.int (f 0))] []))) (fun _ k => XT.iincV X3.here hx rfl (1 : Int32) (hb hby own_d_jdk_52_method_21_code_38) rfl rfl (l' := #[.val (.ref c'), .val (.int (1 : Int32)), .val (.ref d), .val (.int (1 : Int32)), .val (.int (4 : Int32)), .val (.int ((0 : Int32) + (1 : Int32))), .val (.int (f 0))]) rfl k) ?_
    rw [show ((0 : Int32) + (1 : Int32)) = (1 : Int32) by decide]
    show OGoal p e below s _ _ _ (T2.setTop (mkF m 41 #[.val (.ref c'), .val (.int (1 : Int32)), .val (.ref d), .val (.int (1 : Int32)), .val (.int (4 : Int32)), .val (.int (1 : Int32)), .val (.int (f 0))] []))
    refine OGoal.mp (S' := (T2.setTop (mkF m 3 #[.val (.ref c'), .val (.int (1 : Int32)), .val (.ref d), .val (.int (1 : Int32)), .val (.int (4 : Int32)), .val (.int (1 : Int32)), .val (.int (f 0))] []))) (fun _ k => XS.goto X3.here hx rfl (pc0 := 41) (pc' := 3) rfl (hb hby own_d_jdk_52_method_21_code_41) (by decide) (by decide) k) ?_
    refine OGoal.mp (S' := (T2.setTop (mkF m 5 #[.val (.ref c'), .val (.int (1 : Int32)), .val (.ref d), .val (.int (1 : Int32)), .val (.int (4 : Int32)), .val (.int (1 : Int32)), .val (.int (f 0))] [(.int (1 : Int32))]))) (fun _ k => XS.iload X3.here hx rfl (hb hby own_d_jdk_52_method_21_code_3) rfl k) ?_
    refine OGoal.mp (S' := (T2.setTop (mkF m 7 #[.val (.ref c'), .val (.int (1 : Int32)), .val (.ref d), .val (.int (1 : Int32)), .val (.int (4 : Int32)), .val (.int (1 : Int32)), .val (.int (f 0))] [(.int (4 : Int32)), (.int (1 : Int32))]))) (fun _ k => XS.iload X3.here hx rfl (hb hby own_d_jdk_52_method_21_code_5) rfl k) ?_
    refine OGoal.mp (S' := (T2.setTop (mkF m 10 #[.val (.ref c'), .val (.int (1 : Int32)), .val (.ref d), .val (.int (1 : Int32)), .val (.int (4 : Int32)), .val (.int (1 : Int32)), .val (.int (f 0))] []))) (fun _ k => XS.icmpNo X3.here hx rfl (hb hby own_d_jdk_52_method_21_code_7) rfl (XT.ii_ge_f (by decide)) k) ?_
    refine OGoal.mp (S' := (T2.setTop (mkF m 11 #[.val (.ref c'), .val (.int (1 : Int32)), .val (.ref d), .val (.int (1 : Int32)), .val (.int (4 : Int32)), .val (.int (1 : Int32)), .val (.int (f 0))] [(.ref c')]))) (fun _ k => XS.aloadN X3.here hx rfl (hb hby own_d_jdk_52_method_21_code_10) rfl rfl k) ?_
    refine OGoal.mp (S' := (T2.setTop (mkF m 12 #[.val (.ref c'), .val (.int (1 : Int32)), .val (.ref d), .val (.int (1 : Int32)), .val (.int (4 : Int32)), .val (.int (1 : Int32)), .val (.int (f 0))] [(.int (1 : Int32)), (.ref c')]))) (fun _ k => XS.iloadN X3.here hx rfl (hb hby own_d_jdk_52_method_21_code_11) rfl k) ?_
    refine OGoal.mp (S' := (T2.setTop (mkF m 13 #[.val (.ref c'), .val (.int (1 : Int32)), .val (.ref d), .val (.int (1 : Int32)), .val (.int (4 : Int32)), .val (.int (1 : Int32)), .val (.int (f 0))] [(.int (f 1))]))) (fun _ k => oLdC X3 hx hZ e4 F11 (by decide) (by decide) rfl (g := mkF m 12 #[.val (.ref c'), .val (.int (1 : Int32)), .val (.ref d), .val (.int (1 : Int32)), .val (.int (4 : Int32)), .val (.int (1 : Int32)), .val (.int (f 0))] [(.int (1 : Int32)), (.ref c')]) rfl rfl (hb hby own_d_jdk_52_method_21_code_12) k) ?_
    refine OGoal.mp (S' := (T2.setTop (mkF m 15 #[.val (.ref c'), .val (.int (1 : Int32)), .val (.ref d), .val (.int (1 : Int32)), .val (.int (4 : Int32)), .val (.int (1 : Int32)), .val (.int (f 1))] []))) (fun _ k => XS.istore X3.here hx rfl (hb hby own_d_jdk_52_method_21_code_13) rfl (l' := #[.val (.ref c'), .val (.int (1 : Int32)), .val (.ref d), .val (.int (1 : Int32)), .val (.int (4 : Int32)), .val (.int (1 : Int32)), .val (.int (f 1))]) rfl k) ?_
    refine OGoal.mp (S' := (T2.setTop (mkF m 17 #[.val (.ref c'), .val (.int (1 : Int32)), .val (.ref d), .val (.int (1 : Int32)), .val (.int (4 : Int32)), .val (.int (1 : Int32)), .val (.int (f 1))] [(.int (f 1))]))) (fun _ k => XS.iload X3.here hx rfl (hb hby own_d_jdk_52_method_21_code_15) rfl k) ?_
    refine OGoal.mp (S' := (T2.setTop (mkF m 20 #[.val (.ref c'), .val (.int (1 : Int32)), .val (.ref d), .val (.int (1 : Int32)), .val (.int (4 : Int32)), .val (.int (1 : Int32)), .val (.int (f 1))] [(.int (255 : Int32)), (.int (f 1))]))) (fun _ k => XS.sipush X3.here hx rfl (hb hby own_d_jdk_52_method_21_code_17) k) ?_
    by_cases hc14 : (255 : Int32) < (f 1)
    · refine OGoal.mp (S' := (T2.setTop (mkF m 23 #[.val (.ref c'), .val (.int (1 : Int32)), .val (.ref d), .val (.int (1 : Int32)), .val (.int (4 : Int32)), .val (.int (1 : Int32)), .val (.int (f 1))] []))) (fun _ k => XS.icmpNo X3.here hx rfl (hb hby own_d_jdk_52_method_21_code_20) rfl (XT.ii_le_f hc14) k) ?_
      refine OGoal.mp (S' := (T2.setTop (mkF m 25 #[.val (.ref c'), .val (.int (1 : Int32)), .val (.ref d), .val (.int (1 : Int32)), .val (.int (4 : Int32)), .val (.int (1 : Int32)), .val (.int (f 1))] [(.int (1 : Int32))]))) (fun _ k => XS.iload X3.here hx rfl (hb hby own_d_jdk_52_method_21_code_23) rfl k) ?_
      refine oRetI X3 hx hlk hret (hb hby own_d_jdk_52_method_21_code_25) ?_ (by decide) (by decide)
      rw [e4]; exact ⟨(1 : Int32), rfl, N8, K9, F10, by decide, by decide, hc14⟩
    · refine OGoal.mp (S' := (T2.setTop (mkF m 26 #[.val (.ref c'), .val (.int (1 : Int32)), .val (.ref d), .val (.int (1 : Int32)), .val (.int (4 : Int32)), .val (.int (1 : Int32)), .val (.int (f 1))] []))) (fun _ k => XS.icmpYes X3.here hx rfl (pc0 := 20) (pc' := 26) rfl (hb hby own_d_jdk_52_method_21_code_20) rfl (XT.ii_le_t hc14) (by decide) (by decide) k) ?_
      refine OGoal.mp (S' := (T2.setTop (mkF m 27 #[.val (.ref c'), .val (.int (1 : Int32)), .val (.ref d), .val (.int (1 : Int32)), .val (.int (4 : Int32)), .val (.int (1 : Int32)), .val (.int (f 1))] [(.ref d)]))) (fun _ k => XS.aloadN X3.here hx rfl (hb hby own_d_jdk_52_method_21_code_26) rfl rfl k) ?_
      refine OGoal.mp (S' := (T2.setTop (mkF m 28 #[.val (.ref c'), .val (.int (1 : Int32)), .val (.ref d), .val (.int (1 : Int32)), .val (.int (4 : Int32)), .val (.int (1 : Int32)), .val (.int (f 1))] [(.int (1 : Int32)), (.ref d)]))) (fun _ k => XS.iloadN X3.here hx rfl (hb hby own_d_jdk_52_method_21_code_27) rfl k) ?_
      refine OGoal.mp (S' := (T2.setTop (mkF m 30 #[.val (.ref c'), .val (.int (1 : Int32)), .val (.ref d), .val (.int (1 : Int32)), .val (.int (4 : Int32)), .val (.int (1 : Int32)), .val (.int (f 1))] [(.int (f 1)), (.int (1 : Int32)), (.ref d)]))) (fun _ k => XS.iload X3.here hx rfl (hb hby own_d_jdk_52_method_21_code_28) rfl k) ?_
      refine OGoal.mp (S' := (T2.setTop (mkF m 31 #[.val (.ref c'), .val (.int (1 : Int32)), .val (.ref d), .val (.int (1 : Int32)), .val (.int (4 : Int32)), .val (.int (1 : Int32)), .val (.int (f 1))] [(.int (((f 1)).toInt8.toInt32)), (.int (1 : Int32)), (.ref d)]))) (fun _ k => XT.i2b X3.here hx rfl (hb hby own_d_jdk_52_method_21_code_30) rfl k) ?_
      obtain ⟨T15, h19, X16, e17, W20, st18⟩ := oStB X3 hx hZ e4 F12 (by decide) (by decide) (oNarBB _) (g := mkF m 31 #[.val (.ref c'), .val (.int (1 : Int32)), .val (.ref d), .val (.int (1 : Int32)), .val (.int (4 : Int32)), .val (.int (1 : Int32)), .val (.int (f 1))] [(.int (((f 1)).toInt8.toInt32)), (.int (1 : Int32)), (.ref d)]) rfl rfl (hb hby own_d_jdk_52_method_21_code_31)
      have N21 := Fr.snoc X16 N8 ab
      have K22 : Keep h0 h19 [d] := K9.wr W20 (Or.inl (by simp))
      have F23 := F10.wr W20
      have F24 := F11.other W20 ncd
      have F25 : OArr Z h19 d .byte (4 : Int32) (fun jj => if jj = ((1 : Int32)).toNatClampNeg then (.int (((f 1)).toInt8.toInt32)) else (fun jj => if jj = ((0 : Int32)).toNatClampNeg then (.int (((f 0)).toInt8.toInt32)) else (fun _ => .int 0) jj : Nat → Value) jj : Nat → Value) := F12.set W20
      have Z26 : n0 ≤ h19.size := Nat.le_trans Z13 (Keep.of_wr W20).1
      refine OGoal.mp (S' := (T15.setTop (mkF m 32 #[.val (.ref c'), .val (.int (1 : Int32)), .val (.ref d), .val (.int (1 : Int32)), .val (.int (4 : Int32)), .val (.int (1 : Int32)), .val (.int (f 1))] []))) (fun _ k => st18 _ k) ?_
      refine OGoal.mp (S' := (T15.setTop (mkF m 35 #[.val (.ref c'), .val (.int ((1 : Int32) + (1 : Int32))), .val (.ref d), .val (.int (1 : Int32)), .val (.int (4 : Int32)), .val (.int (1 : Int32)), .val (.int (f 1))] []))) (fun _ k => XT.iincV X16.here hx rfl (1 : Int32) (hb hby own_d_jdk_52_method_21_code_32) rfl rfl (l' := #[.val (.ref c'), .val (.int ((1 : Int32) + (1 : Int32))), .val (.ref d), .val (.int (1 : Int32)), .val (.int (4 : Int32)), .val (.int (1 : Int32)), .val (.int (f 1))]) rfl k) ?_
      rw [show ((1 : Int32) + (1 : Int32)) = (2 : Int32) by decide]
      show OGoal p e below s _ _ _ (T15.setTop (mkF m 35 #[.val (.ref c'), .val (.int (2 : Int32)), .val (.ref d), .val (.int (1 : Int32)), .val (.int (4 : Int32)), .val (.int (1 : Int32)), .val (.int (f 1))] []))
      refine OGoal.mp (S' := (T15.setTop (mkF m 38 #[.val (.ref c'), .val (.int (2 : Int32)), .val (.ref d), .val (.int ((1 : Int32) + (1 : Int32))), .val (.int (4 : Int32)), .val (.int (1 : Int32)), .val (.int (f 1))] []))) (fun _ k => XT.iincV X16.here hx rfl (1 : Int32) (hb hby own_d_jdk_52_method_21_code_35) rfl rfl (l' := #[.val (.ref c'), .val (.int (2 : Int32)), .val (.ref d), .val (.int ((1 : Int32) + (1 : Int32))), .val (.int (4 : Int32)), .val (.int (1 : Int32)), .val (.int (f 1))]) rfl k) ?_
      rw [show ((1 : Int32) + (1 : Int32)) = (2 : Int32) by decide]
      show OGoal p e below s _ _ _ (T15.setTop (mkF m 38 #[.val (.ref c'), .val (.int (2 : Int32)), .val (.ref d), .val (.int (2 : Int32)), .val (.int (4 : Int32)), .val (.int (1 : Int32)), .val (.int (f 1))] []))
      refine OGoal.mp (S' := (T15.setTop (mkF m 41 #[.val (.ref c'), .val (.int (2 : Int32)), .val (.ref d), .val (.int (2 : Int32)), .val (.int (4 : Int32)), .val (.int ((1 : Int32) + (1 : Int32))), .val (.int (f 1))] []))) (fun _ k => XT.iincV X16.here hx rfl (1 : Int32) (hb hby own_d_jdk_52_method_21_code_38) rfl rfl (l' := #[.val (.ref c'), .val (.int (2 : Int32)), .val (.ref d), .val (.int (2 : Int32)), .val (.int (4 : Int32)), .val (.int ((1 : Int32) + (1 : Int32))), .val (.int (f 1))]) rfl k) ?_
      rw [show ((1 : Int32) + (1 : Int32)) = (2 : Int32) by decide]
      show OGoal p e below s _ _ _ (T15.setTop (mkF m 41 #[.val (.ref c'), .val (.int (2 : Int32)), .val (.ref d), .val (.int (2 : Int32)), .val (.int (4 : Int32)), .val (.int (2 : Int32)), .val (.int (f 1))] []))
      refine OGoal.mp (S' := (T15.setTop (mkF m 3 #[.val (.ref c'), .val (.int (2 : Int32)), .val (.ref d), .val (.int (2 : Int32)), .val (.int (4 : Int32)), .val (.int (2 : Int32)), .val (.int (f 1))] []))) (fun _ k => XS.goto X16.here hx rfl (pc0 := 41) (pc' := 3) rfl (hb hby own_d_jdk_52_method_21_code_41) (by decide) (by decide) k) ?_
      refine OGoal.mp (S' := (T15.setTop (mkF m 5 #[.val (.ref c'), .val (.int (2 : Int32)), .val (.ref d), .val (.int (2 : Int32)), .val (.int (4 : Int32)), .val (.int (2 : Int32)), .val (.int (f 1))] [(.int (2 : Int32))]))) (fun _ k => XS.iload X16.here hx rfl (hb hby own_d_jdk_52_method_21_code_3) rfl k) ?_
      refine OGoal.mp (S' := (T15.setTop (mkF m 7 #[.val (.ref c'), .val (.int (2 : Int32)), .val (.ref d), .val (.int (2 : Int32)), .val (.int (4 : Int32)), .val (.int (2 : Int32)), .val (.int (f 1))] [(.int (4 : Int32)), (.int (2 : Int32))]))) (fun _ k => XS.iload X16.here hx rfl (hb hby own_d_jdk_52_method_21_code_5) rfl k) ?_
      refine OGoal.mp (S' := (T15.setTop (mkF m 10 #[.val (.ref c'), .val (.int (2 : Int32)), .val (.ref d), .val (.int (2 : Int32)), .val (.int (4 : Int32)), .val (.int (2 : Int32)), .val (.int (f 1))] []))) (fun _ k => XS.icmpNo X16.here hx rfl (hb hby own_d_jdk_52_method_21_code_7) rfl (XT.ii_ge_f (by decide)) k) ?_
      refine OGoal.mp (S' := (T15.setTop (mkF m 11 #[.val (.ref c'), .val (.int (2 : Int32)), .val (.ref d), .val (.int (2 : Int32)), .val (.int (4 : Int32)), .val (.int (2 : Int32)), .val (.int (f 1))] [(.ref c')]))) (fun _ k => XS.aloadN X16.here hx rfl (hb hby own_d_jdk_52_method_21_code_10) rfl rfl k) ?_
      refine OGoal.mp (S' := (T15.setTop (mkF m 12 #[.val (.ref c'), .val (.int (2 : Int32)), .val (.ref d), .val (.int (2 : Int32)), .val (.int (4 : Int32)), .val (.int (2 : Int32)), .val (.int (f 1))] [(.int (2 : Int32)), (.ref c')]))) (fun _ k => XS.iloadN X16.here hx rfl (hb hby own_d_jdk_52_method_21_code_11) rfl k) ?_
      refine OGoal.mp (S' := (T15.setTop (mkF m 13 #[.val (.ref c'), .val (.int (2 : Int32)), .val (.ref d), .val (.int (2 : Int32)), .val (.int (4 : Int32)), .val (.int (2 : Int32)), .val (.int (f 1))] [(.int (f 2))]))) (fun _ k => oLdC X16 hx hZ e17 F24 (by decide) (by decide) rfl (g := mkF m 12 #[.val (.ref c'), .val (.int (2 : Int32)), .val (.ref d), .val (.int (2 : Int32)), .val (.int (4 : Int32)), .val (.int (2 : Int32)), .val (.int (f 1))] [(.int (2 : Int32)), (.ref c')]) rfl rfl (hb hby own_d_jdk_52_method_21_code_12) k) ?_
      refine OGoal.mp (S' := (T15.setTop (mkF m 15 #[.val (.ref c'), .val (.int (2 : Int32)), .val (.ref d), .val (.int (2 : Int32)), .val (.int (4 : Int32)), .val (.int (2 : Int32)), .val (.int (f 2))] []))) (fun _ k => XS.istore X16.here hx rfl (hb hby own_d_jdk_52_method_21_code_13) rfl (l' := #[.val (.ref c'), .val (.int (2 : Int32)), .val (.ref d), .val (.int (2 : Int32)), .val (.int (4 : Int32)), .val (.int (2 : Int32)), .val (.int (f 2))]) rfl k) ?_
      refine OGoal.mp (S' := (T15.setTop (mkF m 17 #[.val (.ref c'), .val (.int (2 : Int32)), .val (.ref d), .val (.int (2 : Int32)), .val (.int (4 : Int32)), .val (.int (2 : Int32)), .val (.int (f 2))] [(.int (f 2))]))) (fun _ k => XS.iload X16.here hx rfl (hb hby own_d_jdk_52_method_21_code_15) rfl k) ?_
      refine OGoal.mp (S' := (T15.setTop (mkF m 20 #[.val (.ref c'), .val (.int (2 : Int32)), .val (.ref d), .val (.int (2 : Int32)), .val (.int (4 : Int32)), .val (.int (2 : Int32)), .val (.int (f 2))] [(.int (255 : Int32)), (.int (f 2))]))) (fun _ k => XS.sipush X16.here hx rfl (hb hby own_d_jdk_52_method_21_code_17) k) ?_
      by_cases hc27 : (255 : Int32) < (f 2)
      · refine OGoal.mp (S' := (T15.setTop (mkF m 23 #[.val (.ref c'), .val (.int (2 : Int32)), .val (.ref d), .val (.int (2 : Int32)), .val (.int (4 : Int32)), .val (.int (2 : Int32)), .val (.int (f 2))] []))) (fun _ k => XS.icmpNo X16.here hx rfl (hb hby own_d_jdk_52_method_21_code_20) rfl (XT.ii_le_f hc27) k) ?_
        refine OGoal.mp (S' := (T15.setTop (mkF m 25 #[.val (.ref c'), .val (.int (2 : Int32)), .val (.ref d), .val (.int (2 : Int32)), .val (.int (4 : Int32)), .val (.int (2 : Int32)), .val (.int (f 2))] [(.int (2 : Int32))]))) (fun _ k => XS.iload X16.here hx rfl (hb hby own_d_jdk_52_method_21_code_23) rfl k) ?_
        refine oRetI X16 hx hlk hret (hb hby own_d_jdk_52_method_21_code_25) ?_ (by decide) (by decide)
        rw [e17]; exact ⟨(2 : Int32), rfl, N21, K22, F23, by decide, by decide, hc27⟩
      · refine OGoal.mp (S' := (T15.setTop (mkF m 26 #[.val (.ref c'), .val (.int (2 : Int32)), .val (.ref d), .val (.int (2 : Int32)), .val (.int (4 : Int32)), .val (.int (2 : Int32)), .val (.int (f 2))] []))) (fun _ k => XS.icmpYes X16.here hx rfl (pc0 := 20) (pc' := 26) rfl (hb hby own_d_jdk_52_method_21_code_20) rfl (XT.ii_le_t hc27) (by decide) (by decide) k) ?_
        refine OGoal.mp (S' := (T15.setTop (mkF m 27 #[.val (.ref c'), .val (.int (2 : Int32)), .val (.ref d), .val (.int (2 : Int32)), .val (.int (4 : Int32)), .val (.int (2 : Int32)), .val (.int (f 2))] [(.ref d)]))) (fun _ k => XS.aloadN X16.here hx rfl (hb hby own_d_jdk_52_method_21_code_26) rfl rfl k) ?_
        refine OGoal.mp (S' := (T15.setTop (mkF m 28 #[.val (.ref c'), .val (.int (2 : Int32)), .val (.ref d), .val (.int (2 : Int32)), .val (.int (4 : Int32)), .val (.int (2 : Int32)), .val (.int (f 2))] [(.int (2 : Int32)), (.ref d)]))) (fun _ k => XS.iloadN X16.here hx rfl (hb hby own_d_jdk_52_method_21_code_27) rfl k) ?_
        refine OGoal.mp (S' := (T15.setTop (mkF m 30 #[.val (.ref c'), .val (.int (2 : Int32)), .val (.ref d), .val (.int (2 : Int32)), .val (.int (4 : Int32)), .val (.int (2 : Int32)), .val (.int (f 2))] [(.int (f 2)), (.int (2 : Int32)), (.ref d)]))) (fun _ k => XS.iload X16.here hx rfl (hb hby own_d_jdk_52_method_21_code_28) rfl k) ?_
        refine OGoal.mp (S' := (T15.setTop (mkF m 31 #[.val (.ref c'), .val (.int (2 : Int32)), .val (.ref d), .val (.int (2 : Int32)), .val (.int (4 : Int32)), .val (.int (2 : Int32)), .val (.int (f 2))] [(.int (((f 2)).toInt8.toInt32)), (.int (2 : Int32)), (.ref d)]))) (fun _ k => XT.i2b X16.here hx rfl (hb hby own_d_jdk_52_method_21_code_30) rfl k) ?_
        obtain ⟨T28, h32, X29, e30, W33, st31⟩ := oStB X16 hx hZ e17 F25 (by decide) (by decide) (oNarBB _) (g := mkF m 31 #[.val (.ref c'), .val (.int (2 : Int32)), .val (.ref d), .val (.int (2 : Int32)), .val (.int (4 : Int32)), .val (.int (2 : Int32)), .val (.int (f 2))] [(.int (((f 2)).toInt8.toInt32)), (.int (2 : Int32)), (.ref d)]) rfl rfl (hb hby own_d_jdk_52_method_21_code_31)
        have N34 := Fr.snoc X29 N21 ab
        have K35 : Keep h0 h32 [d] := K22.wr W33 (Or.inl (by simp))
        have F36 := F23.wr W33
        have F37 := F24.other W33 ncd
        have F38 : OArr Z h32 d .byte (4 : Int32) (fun jj => if jj = ((2 : Int32)).toNatClampNeg then (.int (((f 2)).toInt8.toInt32)) else (fun jj => if jj = ((1 : Int32)).toNatClampNeg then (.int (((f 1)).toInt8.toInt32)) else (fun jj => if jj = ((0 : Int32)).toNatClampNeg then (.int (((f 0)).toInt8.toInt32)) else (fun _ => .int 0) jj : Nat → Value) jj : Nat → Value) jj : Nat → Value) := F25.set W33
        have Z39 : n0 ≤ h32.size := Nat.le_trans Z26 (Keep.of_wr W33).1
        refine OGoal.mp (S' := (T28.setTop (mkF m 32 #[.val (.ref c'), .val (.int (2 : Int32)), .val (.ref d), .val (.int (2 : Int32)), .val (.int (4 : Int32)), .val (.int (2 : Int32)), .val (.int (f 2))] []))) (fun _ k => st31 _ k) ?_
        refine OGoal.mp (S' := (T28.setTop (mkF m 35 #[.val (.ref c'), .val (.int ((2 : Int32) + (1 : Int32))), .val (.ref d), .val (.int (2 : Int32)), .val (.int (4 : Int32)), .val (.int (2 : Int32)), .val (.int (f 2))] []))) (fun _ k => XT.iincV X29.here hx rfl (1 : Int32) (hb hby own_d_jdk_52_method_21_code_32) rfl rfl (l' := #[.val (.ref c'), .val (.int ((2 : Int32) + (1 : Int32))), .val (.ref d), .val (.int (2 : Int32)), .val (.int (4 : Int32)), .val (.int (2 : Int32)), .val (.int (f 2))]) rfl k) ?_
        rw [show ((2 : Int32) + (1 : Int32)) = (3 : Int32) by decide]
        show OGoal p e below s _ _ _ (T28.setTop (mkF m 35 #[.val (.ref c'), .val (.int (3 : Int32)), .val (.ref d), .val (.int (2 : Int32)), .val (.int (4 : Int32)), .val (.int (2 : Int32)), .val (.int (f 2))] []))
        refine OGoal.mp (S' := (T28.setTop (mkF m 38 #[.val (.ref c'), .val (.int (3 : Int32)), .val (.ref d), .val (.int ((2 : Int32) + (1 : Int32))), .val (.int (4 : Int32)), .val (.int (2 : Int32)), .val (.int (f 2))] []))) (fun _ k => XT.iincV X29.here hx rfl (1 : Int32) (hb hby own_d_jdk_52_method_21_code_35) rfl rfl (l' := #[.val (.ref c'), .val (.int (3 : Int32)), .val (.ref d), .val (.int ((2 : Int32) + (1 : Int32))), .val (.int (4 : Int32)), .val (.int (2 : Int32)), .val (.int (f 2))]) rfl k) ?_
        rw [show ((2 : Int32) + (1 : Int32)) = (3 : Int32) by decide]
        show OGoal p e below s _ _ _ (T28.setTop (mkF m 38 #[.val (.ref c'), .val (.int (3 : Int32)), .val (.ref d), .val (.int (3 : Int32)), .val (.int (4 : Int32)), .val (.int (2 : Int32)), .val (.int (f 2))] []))
        refine OGoal.mp (S' := (T28.setTop (mkF m 41 #[.val (.ref c'), .val (.int (3 : Int32)), .val (.ref d), .val (.int (3 : Int32)), .val (.int (4 : Int32)), .val (.int ((2 : Int32) + (1 : Int32))), .val (.int (f 2))] []))) (fun _ k => XT.iincV X29.here hx rfl (1 : Int32) (hb hby own_d_jdk_52_method_21_code_38) rfl rfl (l' := #[.val (.ref c'), .val (.int (3 : Int32)), .val (.ref d), .val (.int (3 : Int32)), .val (.int (4 : Int32)), .val (.int ((2 : Int32) + (1 : Int32))), .val (.int (f 2))]) rfl k) ?_
        rw [show ((2 : Int32) + (1 : Int32)) = (3 : Int32) by decide]
        show OGoal p e below s _ _ _ (T28.setTop (mkF m 41 #[.val (.ref c'), .val (.int (3 : Int32)), .val (.ref d), .val (.int (3 : Int32)), .val (.int (4 : Int32)), .val (.int (3 : Int32)), .val (.int (f 2))] []))
        refine OGoal.mp (S' := (T28.setTop (mkF m 3 #[.val (.ref c'), .val (.int (3 : Int32)), .val (.ref d), .val (.int (3 : Int32)), .val (.int (4 : Int32)), .val (.int (3 : Int32)), .val (.int (f 2))] []))) (fun _ k => XS.goto X29.here hx rfl (pc0 := 41) (pc' := 3) rfl (hb hby own_d_jdk_52_method_21_code_41) (by decide) (by decide) k) ?_
        refine OGoal.mp (S' := (T28.setTop (mkF m 5 #[.val (.ref c'), .val (.int (3 : Int32)), .val (.ref d), .val (.int (3 : Int32)), .val (.int (4 : Int32)), .val (.int (3 : Int32)), .val (.int (f 2))] [(.int (3 : Int32))]))) (fun _ k => XS.iload X29.here hx rfl (hb hby own_d_jdk_52_method_21_code_3) rfl k) ?_
        refine OGoal.mp (S' := (T28.setTop (mkF m 7 #[.val (.ref c'), .val (.int (3 : Int32)), .val (.ref d), .val (.int (3 : Int32)), .val (.int (4 : Int32)), .val (.int (3 : Int32)), .val (.int (f 2))] [(.int (4 : Int32)), (.int (3 : Int32))]))) (fun _ k => XS.iload X29.here hx rfl (hb hby own_d_jdk_52_method_21_code_5) rfl k) ?_
        refine OGoal.mp (S' := (T28.setTop (mkF m 10 #[.val (.ref c'), .val (.int (3 : Int32)), .val (.ref d), .val (.int (3 : Int32)), .val (.int (4 : Int32)), .val (.int (3 : Int32)), .val (.int (f 2))] []))) (fun _ k => XS.icmpNo X29.here hx rfl (hb hby own_d_jdk_52_method_21_code_7) rfl (XT.ii_ge_f (by decide)) k) ?_
        refine OGoal.mp (S' := (T28.setTop (mkF m 11 #[.val (.ref c'), .val (.int (3 : Int32)), .val (.ref d), .val (.int (3 : Int32)), .val (.int (4 : Int32)), .val (.int (3 : Int32)), .val (.int (f 2))] [(.ref c')]))) (fun _ k => XS.aloadN X29.here hx rfl (hb hby own_d_jdk_52_method_21_code_10) rfl rfl k) ?_
        refine OGoal.mp (S' := (T28.setTop (mkF m 12 #[.val (.ref c'), .val (.int (3 : Int32)), .val (.ref d), .val (.int (3 : Int32)), .val (.int (4 : Int32)), .val (.int (3 : Int32)), .val (.int (f 2))] [(.int (3 : Int32)), (.ref c')]))) (fun _ k => XS.iloadN X29.here hx rfl (hb hby own_d_jdk_52_method_21_code_11) rfl k) ?_
        refine OGoal.mp (S' := (T28.setTop (mkF m 13 #[.val (.ref c'), .val (.int (3 : Int32)), .val (.ref d), .val (.int (3 : Int32)), .val (.int (4 : Int32)), .val (.int (3 : Int32)), .val (.int (f 2))] [(.int (f 3))]))) (fun _ k => oLdC X29 hx hZ e30 F37 (by decide) (by decide) rfl (g := mkF m 12 #[.val (.ref c'), .val (.int (3 : Int32)), .val (.ref d), .val (.int (3 : Int32)), .val (.int (4 : Int32)), .val (.int (3 : Int32)), .val (.int (f 2))] [(.int (3 : Int32)), (.ref c')]) rfl rfl (hb hby own_d_jdk_52_method_21_code_12) k) ?_
        refine OGoal.mp (S' := (T28.setTop (mkF m 15 #[.val (.ref c'), .val (.int (3 : Int32)), .val (.ref d), .val (.int (3 : Int32)), .val (.int (4 : Int32)), .val (.int (3 : Int32)), .val (.int (f 3))] []))) (fun _ k => XS.istore X29.here hx rfl (hb hby own_d_jdk_52_method_21_code_13) rfl (l' := #[.val (.ref c'), .val (.int (3 : Int32)), .val (.ref d), .val (.int (3 : Int32)), .val (.int (4 : Int32)), .val (.int (3 : Int32)), .val (.int (f 3))]) rfl k) ?_
        refine OGoal.mp (S' := (T28.setTop (mkF m 17 #[.val (.ref c'), .val (.int (3 : Int32)), .val (.ref d), .val (.int (3 : Int32)), .val (.int (4 : Int32)), .val (.int (3 : Int32)), .val (.int (f 3))] [(.int (f 3))]))) (fun _ k => XS.iload X29.here hx rfl (hb hby own_d_jdk_52_method_21_code_15) rfl k) ?_
        refine OGoal.mp (S' := (T28.setTop (mkF m 20 #[.val (.ref c'), .val (.int (3 : Int32)), .val (.ref d), .val (.int (3 : Int32)), .val (.int (4 : Int32)), .val (.int (3 : Int32)), .val (.int (f 3))] [(.int (255 : Int32)), (.int (f 3))]))) (fun _ k => XS.sipush X29.here hx rfl (hb hby own_d_jdk_52_method_21_code_17) k) ?_
        by_cases hc40 : (255 : Int32) < (f 3)
        · refine OGoal.mp (S' := (T28.setTop (mkF m 23 #[.val (.ref c'), .val (.int (3 : Int32)), .val (.ref d), .val (.int (3 : Int32)), .val (.int (4 : Int32)), .val (.int (3 : Int32)), .val (.int (f 3))] []))) (fun _ k => XS.icmpNo X29.here hx rfl (hb hby own_d_jdk_52_method_21_code_20) rfl (XT.ii_le_f hc40) k) ?_
          refine OGoal.mp (S' := (T28.setTop (mkF m 25 #[.val (.ref c'), .val (.int (3 : Int32)), .val (.ref d), .val (.int (3 : Int32)), .val (.int (4 : Int32)), .val (.int (3 : Int32)), .val (.int (f 3))] [(.int (3 : Int32))]))) (fun _ k => XS.iload X29.here hx rfl (hb hby own_d_jdk_52_method_21_code_23) rfl k) ?_
          refine oRetI X29 hx hlk hret (hb hby own_d_jdk_52_method_21_code_25) ?_ (by decide) (by decide)
          rw [e30]; exact ⟨(3 : Int32), rfl, N34, K35, F36, by decide, by decide, hc40⟩
        · refine OGoal.mp (S' := (T28.setTop (mkF m 26 #[.val (.ref c'), .val (.int (3 : Int32)), .val (.ref d), .val (.int (3 : Int32)), .val (.int (4 : Int32)), .val (.int (3 : Int32)), .val (.int (f 3))] []))) (fun _ k => XS.icmpYes X29.here hx rfl (pc0 := 20) (pc' := 26) rfl (hb hby own_d_jdk_52_method_21_code_20) rfl (XT.ii_le_t hc40) (by decide) (by decide) k) ?_
          refine OGoal.mp (S' := (T28.setTop (mkF m 27 #[.val (.ref c'), .val (.int (3 : Int32)), .val (.ref d), .val (.int (3 : Int32)), .val (.int (4 : Int32)), .val (.int (3 : Int32)), .val (.int (f 3))] [(.ref d)]))) (fun _ k => XS.aloadN X29.here hx rfl (hb hby own_d_jdk_52_method_21_code_26) rfl rfl k) ?_
          refine OGoal.mp (S' := (T28.setTop (mkF m 28 #[.val (.ref c'), .val (.int (3 : Int32)), .val (.ref d), .val (.int (3 : Int32)), .val (.int (4 : Int32)), .val (.int (3 : Int32)), .val (.int (f 3))] [(.int (3 : Int32)), (.ref d)]))) (fun _ k => XS.iloadN X29.here hx rfl (hb hby own_d_jdk_52_method_21_code_27) rfl k) ?_
          refine OGoal.mp (S' := (T28.setTop (mkF m 30 #[.val (.ref c'), .val (.int (3 : Int32)), .val (.ref d), .val (.int (3 : Int32)), .val (.int (4 : Int32)), .val (.int (3 : Int32)), .val (.int (f 3))] [(.int (f 3)), (.int (3 : Int32)), (.ref d)]))) (fun _ k => XS.iload X29.here hx rfl (hb hby own_d_jdk_52_method_21_code_28) rfl k) ?_
          refine OGoal.mp (S' := (T28.setTop (mkF m 31 #[.val (.ref c'), .val (.int (3 : Int32)), .val (.ref d), .val (.int (3 : Int32)), .val (.int (4 : Int32)), .val (.int (3 : Int32)), .val (.int (f 3))] [(.int (((f 3)).toInt8.toInt32)), (.int (3 : Int32)), (.ref d)]))) (fun _ k => XT.i2b X29.here hx rfl (hb hby own_d_jdk_52_method_21_code_30) rfl k) ?_
          obtain ⟨T41, h45, X42, e43, W46, st44⟩ := oStB X29 hx hZ e30 F38 (by decide) (by decide) (oNarBB _) (g := mkF m 31 #[.val (.ref c'), .val (.int (3 : Int32)), .val (.ref d), .val (.int (3 : Int32)), .val (.int (4 : Int32)), .val (.int (3 : Int32)), .val (.int (f 3))] [(.int (((f 3)).toInt8.toInt32)), (.int (3 : Int32)), (.ref d)]) rfl rfl (hb hby own_d_jdk_52_method_21_code_31)
          have N47 := Fr.snoc X42 N34 ab
          have K48 : Keep h0 h45 [d] := K35.wr W46 (Or.inl (by simp))
          have F49 := F36.wr W46
          have F50 := F37.other W46 ncd
          have F51 : OArr Z h45 d .byte (4 : Int32) (fun jj => if jj = ((3 : Int32)).toNatClampNeg then (.int (((f 3)).toInt8.toInt32)) else (fun jj => if jj = ((2 : Int32)).toNatClampNeg then (.int (((f 2)).toInt8.toInt32)) else (fun jj => if jj = ((1 : Int32)).toNatClampNeg then (.int (((f 1)).toInt8.toInt32)) else (fun jj => if jj = ((0 : Int32)).toNatClampNeg then (.int (((f 0)).toInt8.toInt32)) else (fun _ => .int 0) jj : Nat → Value) jj : Nat → Value) jj : Nat → Value) jj : Nat → Value) := F38.set W46
          have Z52 : n0 ≤ h45.size := Nat.le_trans Z39 (Keep.of_wr W46).1
          refine OGoal.mp (S' := (T41.setTop (mkF m 32 #[.val (.ref c'), .val (.int (3 : Int32)), .val (.ref d), .val (.int (3 : Int32)), .val (.int (4 : Int32)), .val (.int (3 : Int32)), .val (.int (f 3))] []))) (fun _ k => st44 _ k) ?_
          refine OGoal.mp (S' := (T41.setTop (mkF m 35 #[.val (.ref c'), .val (.int ((3 : Int32) + (1 : Int32))), .val (.ref d), .val (.int (3 : Int32)), .val (.int (4 : Int32)), .val (.int (3 : Int32)), .val (.int (f 3))] []))) (fun _ k => XT.iincV X42.here hx rfl (1 : Int32) (hb hby own_d_jdk_52_method_21_code_32) rfl rfl (l' := #[.val (.ref c'), .val (.int ((3 : Int32) + (1 : Int32))), .val (.ref d), .val (.int (3 : Int32)), .val (.int (4 : Int32)), .val (.int (3 : Int32)), .val (.int (f 3))]) rfl k) ?_
          rw [show ((3 : Int32) + (1 : Int32)) = (4 : Int32) by decide]
          show OGoal p e below s _ _ _ (T41.setTop (mkF m 35 #[.val (.ref c'), .val (.int (4 : Int32)), .val (.ref d), .val (.int (3 : Int32)), .val (.int (4 : Int32)), .val (.int (3 : Int32)), .val (.int (f 3))] []))
          refine OGoal.mp (S' := (T41.setTop (mkF m 38 #[.val (.ref c'), .val (.int (4 : Int32)), .val (.ref d), .val (.int ((3 : Int32) + (1 : Int32))), .val (.int (4 : Int32)), .val (.int (3 : Int32)), .val (.int (f 3))] []))) (fun _ k => XT.iincV X42.here hx rfl (1 : Int32) (hb hby own_d_jdk_52_method_21_code_35) rfl rfl (l' := #[.val (.ref c'), .val (.int (4 : Int32)), .val (.ref d), .val (.int ((3 : Int32) + (1 : Int32))), .val (.int (4 : Int32)), .val (.int (3 : Int32)), .val (.int (f 3))]) rfl k) ?_
          rw [show ((3 : Int32) + (1 : Int32)) = (4 : Int32) by decide]
          show OGoal p e below s _ _ _ (T41.setTop (mkF m 38 #[.val (.ref c'), .val (.int (4 : Int32)), .val (.ref d), .val (.int (4 : Int32)), .val (.int (4 : Int32)), .val (.int (3 : Int32)), .val (.int (f 3))] []))
          refine OGoal.mp (S' := (T41.setTop (mkF m 41 #[.val (.ref c'), .val (.int (4 : Int32)), .val (.ref d), .val (.int (4 : Int32)), .val (.int (4 : Int32)), .val (.int ((3 : Int32) + (1 : Int32))), .val (.int (f 3))] []))) (fun _ k => XT.iincV X42.here hx rfl (1 : Int32) (hb hby own_d_jdk_52_method_21_code_38) rfl rfl (l' := #[.val (.ref c'), .val (.int (4 : Int32)), .val (.ref d), .val (.int (4 : Int32)), .val (.int (4 : Int32)), .val (.int ((3 : Int32) + (1 : Int32))), .val (.int (f 3))]) rfl k) ?_
          rw [show ((3 : Int32) + (1 : Int32)) = (4 : Int32) by decide]
          show OGoal p e below s _ _ _ (T41.setTop (mkF m 41 #[.val (.ref c'), .val (.int (4 : Int32)), .val (.ref d), .val (.int (4 : Int32)), .val (.int (4 : Int32)), .val (.int (4 : Int32)), .val (.int (f 3))] []))
          refine OGoal.mp (S' := (T41.setTop (mkF m 3 #[.val (.ref c'), .val (.int (4 : Int32)), .val (.ref d), .val (.int (4 : Int32)), .val (.int (4 : Int32)), .val (.int (4 : Int32)), .val (.int (f 3))] []))) (fun _ k => XS.goto X42.here hx rfl (pc0 := 41) (pc' := 3) rfl (hb hby own_d_jdk_52_method_21_code_41) (by decide) (by decide) k) ?_
          refine OGoal.mp (S' := (T41.setTop (mkF m 5 #[.val (.ref c'), .val (.int (4 : Int32)), .val (.ref d), .val (.int (4 : Int32)), .val (.int (4 : Int32)), .val (.int (4 : Int32)), .val (.int (f 3))] [(.int (4 : Int32))]))) (fun _ k => XS.iload X42.here hx rfl (hb hby own_d_jdk_52_method_21_code_3) rfl k) ?_
          refine OGoal.mp (S' := (T41.setTop (mkF m 7 #[.val (.ref c'), .val (.int (4 : Int32)), .val (.ref d), .val (.int (4 : Int32)), .val (.int (4 : Int32)), .val (.int (4 : Int32)), .val (.int (f 3))] [(.int (4 : Int32)), (.int (4 : Int32))]))) (fun _ k => XS.iload X42.here hx rfl (hb hby own_d_jdk_52_method_21_code_5) rfl k) ?_
          refine OGoal.mp (S' := (T41.setTop (mkF m 44 #[.val (.ref c'), .val (.int (4 : Int32)), .val (.ref d), .val (.int (4 : Int32)), .val (.int (4 : Int32)), .val (.int (4 : Int32)), .val (.int (f 3))] []))) (fun _ k => XS.icmpYes X42.here hx rfl (pc0 := 7) (pc' := 44) rfl (hb hby own_d_jdk_52_method_21_code_7) rfl (XT.ii_ge_t (by decide)) (by decide) (by decide) k) ?_
          refine OGoal.mp (S' := (T41.setTop (mkF m 46 #[.val (.ref c'), .val (.int (4 : Int32)), .val (.ref d), .val (.int (4 : Int32)), .val (.int (4 : Int32)), .val (.int (4 : Int32)), .val (.int (f 3))] [(.int (4 : Int32))]))) (fun _ k => XS.iload X42.here hx rfl (hb hby own_d_jdk_52_method_21_code_44) rfl k) ?_
          refine oRetI X42 hx hlk hret (hb hby own_d_jdk_52_method_21_code_46) ?_ (by decide) (by decide)
          exact absurd ⟨hc1, hc14, hc27, hc40⟩ hU
theorem own_d_jdk_52_method_16_code_0 : decode jdk_52_method_16_code 0 = .ok (.iload_n 2, 1) := by decide +kernel
theorem own_d_jdk_52_method_16_code_1 : decode jdk_52_method_16_code 1 = .ok (.newarray .byte, 2) := by decide +kernel
theorem own_d_jdk_52_method_16_code_3 : decode jdk_52_method_16_code 3 = .ok (.astore_n 3, 1) := by decide +kernel
theorem own_d_jdk_52_method_16_code_4 : decode jdk_52_method_16_code 4 = .ok (.aload_n 0, 1) := by decide +kernel
theorem own_d_jdk_52_method_16_code_5 : decode jdk_52_method_16_code 5 = .ok (.iload_n 1, 1) := by decide +kernel
theorem own_d_jdk_52_method_16_code_6 : decode jdk_52_method_16_code 6 = .ok (.aload_n 3, 1) := by decide +kernel
theorem own_d_jdk_52_method_16_code_7 : decode jdk_52_method_16_code 7 = .ok (.iconst 0, 1) := by decide +kernel
theorem own_d_jdk_52_method_16_code_8 : decode jdk_52_method_16_code 8 = .ok (.iload_n 2, 1) := by decide +kernel
theorem own_d_jdk_52_method_16_code_9 : decode jdk_52_method_16_code 9 = .ok (.invokestatic 115, 3) := by decide +kernel
theorem own_pd___CI_BII_I : parseMethodDescriptor "([CI[BII)I" = some ⟨[(.array .char), .int, (.array .byte), .int, .int], some .int⟩ := by decide +kernel
theorem own_d_jdk_52_method_16_code_12 : decode jdk_52_method_16_code 12 = .ok (.istore 4, 2) := by decide +kernel
theorem own_d_jdk_52_method_16_code_14 : decode jdk_52_method_16_code 14 = .ok (.iload 4, 2) := by decide +kernel
theorem own_d_jdk_52_method_16_code_16 : decode jdk_52_method_16_code 16 = .ok (.iload_n 2, 1) := by decide +kernel
theorem own_d_jdk_52_method_16_code_17 : decode jdk_52_method_16_code 17 = .ok (.if_icmp .eq 40, 3) := by decide +kernel
theorem own_d_jdk_52_method_16_code_57 : decode jdk_52_method_16_code 57 = .ok (.aload_n 3, 1) := by decide +kernel
theorem own_d_jdk_52_method_16_code_58 : decode jdk_52_method_16_code 58 = .ok (.areturn, 1) := by decide +kernel
theorem own_ef_rmC2L (x0 : Addr) (x1 : Int32) (x2 : Int32) (m : MethodId) : entryFrame m #[(.ref x0), (.int x1), (.int x2)] 6 = mkF m 0 #[.val (.ref x0), .val (.int x1), .val (.int x2), .unset, .unset, .unset] [] := by first | (simp [entryFrame, mkF, argsToLocals, Value.category]; done) | rfl
set_option maxRecDepth 65536 in
set_option maxHeartbeats 40000000 in
theorem rmC2L (l : Launch) (Z : State) (a0 : Array Value) (hw : ∀ d ∈ tables_1, d.before a0 Z = true) (c' : Addr) (h0 : Heap) (n0 : Nat) (Z0 : n0 ≤ h0.size) (cs : Int32) (fm : Value) (hcs : ¬ cs = 0) (hfm : fm.isRef = true) (St : Stt Z h0 cs fm) (f : Nat → Int32) (hC : Ch f) (Ac : OArr Z h0 c' .char 4 (fun k => .int (f k))) (hL : Lat f) :
    OCon l Z (⟨"java/lang/StringUTF16", "compress", "([CII)[B"⟩ : MethodName) jdk_52_method_16_code 6 (some (.array .byte)) ({ frames := 1, cells := 1, slots := 4, locals := 18 } : Room) #[(.ref c'), (.int (0 : Int32)), (.int (4 : Int32))] h0 (fun v h L => ∃ r, v = some (.ref r) ∧ Fr n0 L ∧ Keep h0 h [] ∧ Stt Z h cs fm ∧ h0.size ≤ r ∧ OArr Z h r .byte 4 (fun k => .int (own_l f k))) := by
  refine OConK.intro (y := (⟨"java/lang/StringUTF16", "compress", "([CII)[B"⟩ : MethodName)) (plainFor_of_name own_pn_java_lang_StringUTF16) (own_ef_rmC2L c' (0 : Int32) (4 : Int32)) ?_
  intro p e s m below meth c s₁ hx hby hml hown hnm hret hlk hZ X0 e0
  show OGoal p e below s _ _ _ (s₁.setTop (mkF m 0 #[.val (.ref c'), .val (.int (0 : Int32)), .val (.int (4 : Int32)), .unset, .unset, .unset] []))
  refine OGoal.mp (S' := (s₁.setTop (mkF m 1 #[.val (.ref c'), .val (.int (0 : Int32)), .val (.int (4 : Int32)), .unset, .unset, .unset] [(.int (4 : Int32))]))) (fun _ k => XS.iloadN X0.here hx rfl (hb hby own_d_jdk_52_method_16_code_0) rfl k) ?_
  obtain ⟨T1, h5, c8, X2, e3, E6, A7, XA11, st4⟩ := newPE X0 hx hZ (hw _ (List.mem_of_getElem? (i := 24) rfl)) e0 (g := mkF m 1 #[.val (.ref c'), .val (.int (0 : Int32)), .val (.int (4 : Int32)), .unset, .unset, .unset] [(.int (4 : Int32))]) rfl (hb hby own_d_jdk_52_method_16_code_1) rfl (by decide) (cap := 4) (by decide) (by decide) (by decide) (by decide) (ad := "[B") (by rfl)
  obtain ⟨a9, g10⟩ : ∃ z, z = h0.size := ⟨_, rfl⟩
  rw [← g10] at A7 XA11 st4
  have lt12 : c' < a9 := by rw [g10]; exact Ac.lt
  have fr13 : h0.size ≤ a9 := by rw [g10]; exact (Keep.refl h0 []).1
  have K14 : Keep h0 h5 [] := (Keep.refl h0 []).ext E6
  have F15 := St.ext E6
  have F16 := Ac.ext E6
  have F17 : OArr Z h5 a9 .byte (4 : Int32) (fun _ => .int 0 : Nat → Value) := OArr.new A7 (by decide)
  have Z18 : n0 ≤ h5.size := Nat.le_trans Z0 E6.1
  have ab19 : n0 ≤ a9 := Nat.le_trans Z0 (Nat.le_of_eq g10.symm)
  refine OGoal.mp (S' := (T1.setTop (mkF m 3 #[.val (.ref c'), .val (.int (0 : Int32)), .val (.int (4 : Int32)), .unset, .unset, .unset] [(.ref a9)]))) (fun _ k => st4 _ k) ?_
  refine OGoal.mp (S' := (T1.setTop (mkF m 4 #[.val (.ref c'), .val (.int (0 : Int32)), .val (.int (4 : Int32)), .val (.ref a9), .unset, .unset] []))) (fun _ k => XS.astoreN X2.here hx rfl (hb hby own_d_jdk_52_method_16_code_3) rfl rfl (l' := #[.val (.ref c'), .val (.int (0 : Int32)), .val (.int (4 : Int32)), .val (.ref a9), .unset, .unset]) rfl k) ?_
  refine OGoal.mp (S' := (T1.setTop (mkF m 5 #[.val (.ref c'), .val (.int (0 : Int32)), .val (.int (4 : Int32)), .val (.ref a9), .unset, .unset] [(.ref c')]))) (fun _ k => XS.aloadN X2.here hx rfl (hb hby own_d_jdk_52_method_16_code_4) rfl rfl k) ?_
  refine OGoal.mp (S' := (T1.setTop (mkF m 6 #[.val (.ref c'), .val (.int (0 : Int32)), .val (.int (4 : Int32)), .val (.ref a9), .unset, .unset] [(.int (0 : Int32)), (.ref c')]))) (fun _ k => XS.iloadN X2.here hx rfl (hb hby own_d_jdk_52_method_16_code_5) rfl k) ?_
  refine OGoal.mp (S' := (T1.setTop (mkF m 7 #[.val (.ref c'), .val (.int (0 : Int32)), .val (.int (4 : Int32)), .val (.ref a9), .unset, .unset] [(.ref a9), (.int (0 : Int32)), (.ref c')]))) (fun _ k => XS.aloadN X2.here hx rfl (hb hby own_d_jdk_52_method_16_code_6) rfl rfl k) ?_
  refine OGoal.mp (S' := (T1.setTop (mkF m 8 #[.val (.ref c'), .val (.int (0 : Int32)), .val (.int (4 : Int32)), .val (.ref a9), .unset, .unset] [(.int (0 : Int32)), (.ref a9), (.int (0 : Int32)), (.ref c')]))) (fun _ k => XS.iconst X2.here hx rfl (hb hby own_d_jdk_52_method_16_code_7) k) ?_
  refine OGoal.mp (S' := (T1.setTop (mkF m 9 #[.val (.ref c'), .val (.int (0 : Int32)), .val (.int (4 : Int32)), .val (.ref a9), .unset, .unset] [(.int (4 : Int32)), (.int (0 : Int32)), (.ref a9), (.int (0 : Int32)), (.ref c')]))) (fun _ k => XS.iloadN X2.here hx rfl (hb hby own_d_jdk_52_method_16_code_8) rfl k) ?_
  refine oCallS (y := (⟨"java/lang/StringUTF16", "compress", "([CI[BII)I"⟩ : MethodName)) X2 hx hZ hown (hw _ (List.mem_of_getElem? (i := 25) rfl)) (hw _ (List.mem_of_getElem? (i := 26) rfl)) (hw _ (List.mem_of_getElem? (i := 22) rfl)) (hw _ (List.mem_of_getElem? (i := 27) rfl)) (by decide) (rmC1L l Z a0 hw c' a9 h5 n0 Z18 cs fm hcs hfm F15 f hC F16 F17 (Nat.ne_of_lt lt12) ab19 hL) e3 [(.ref c'), (.int (0 : Int32)), (.ref a9), (.int (0 : Int32)), (.int (4 : Int32))] [] rfl rfl (by rw [hml]; rfl) (lenOf own_pd___CI_BII_I rfl) 0 (Nat.le_of_eq rfl) (by decide) (by decide) (by decide) (by decide) (hb hby own_d_jdk_52_method_16_code_9) ?_
  intro v21 T22 L23 X24 q25
  obtain ⟨rfl, N26, K27, S28, A29⟩ := q25
  have N30 := Fr.app (Fr.nil n0) N26
  have F34 := F16.keep K27 (ninS (Nat.ne_of_lt lt12) nin0)
  have K35 : Keep h0 T22.heap [] := K14.trans K27 (allS (Or.inr fr13) all0)
  have Z36 : n0 ≤ T22.heap.size := Nat.le_trans Z18 K27.1
  show OGoal p e below s _ _ _ (T22.setTop (mkF m 12 #[.val (.ref c'), .val (.int (0 : Int32)), .val (.int (4 : Int32)), .val (.ref a9), .unset, .unset] [(.int (4 : Int32))]))
  refine OGoal.mp (S' := (T22.setTop (mkF m 14 #[.val (.ref c'), .val (.int (0 : Int32)), .val (.int (4 : Int32)), .val (.ref a9), .val (.int (4 : Int32)), .unset] []))) (fun _ k => XS.istore X24.here hx rfl (hb hby own_d_jdk_52_method_16_code_12) rfl (l' := #[.val (.ref c'), .val (.int (0 : Int32)), .val (.int (4 : Int32)), .val (.ref a9), .val (.int (4 : Int32)), .unset]) rfl k) ?_
  refine OGoal.mp (S' := (T22.setTop (mkF m 16 #[.val (.ref c'), .val (.int (0 : Int32)), .val (.int (4 : Int32)), .val (.ref a9), .val (.int (4 : Int32)), .unset] [(.int (4 : Int32))]))) (fun _ k => XS.iload X24.here hx rfl (hb hby own_d_jdk_52_method_16_code_14) rfl k) ?_
  refine OGoal.mp (S' := (T22.setTop (mkF m 17 #[.val (.ref c'), .val (.int (0 : Int32)), .val (.int (4 : Int32)), .val (.ref a9), .val (.int (4 : Int32)), .unset] [(.int (4 : Int32)), (.int (4 : Int32))]))) (fun _ k => XS.iloadN X24.here hx rfl (hb hby own_d_jdk_52_method_16_code_16) rfl k) ?_
  refine OGoal.mp (S' := (T22.setTop (mkF m 57 #[.val (.ref c'), .val (.int (0 : Int32)), .val (.int (4 : Int32)), .val (.ref a9), .val (.int (4 : Int32)), .unset] []))) (fun _ k => XS.icmpYes X24.here hx rfl (pc0 := 17) (pc' := 57) rfl (hb hby own_d_jdk_52_method_16_code_17) rfl (XT.ii_eq_t (by decide)) (by decide) (by decide) k) ?_
  refine OGoal.mp (S' := (T22.setTop (mkF m 58 #[.val (.ref c'), .val (.int (0 : Int32)), .val (.int (4 : Int32)), .val (.ref a9), .val (.int (4 : Int32)), .unset] [(.ref a9)]))) (fun _ k => XS.aloadN X24.here hx rfl (hb hby own_d_jdk_52_method_16_code_57) rfl rfl k) ?_
  refine oRetA X24 hx hlk hret rfl rfl (hb hby own_d_jdk_52_method_16_code_58) ?_ (by decide) (by decide)
  exact ⟨a9, rfl, N30, K35, S28, fr13, A29⟩
theorem own_d_jdk_52_method_16_code_20 : decode jdk_52_method_16_code 20 = .ok (.aload_n 0, 1) := by decide +kernel
theorem own_d_jdk_52_method_16_code_21 : decode jdk_52_method_16_code 21 = .ok (.iload_n 1, 1) := by decide +kernel
theorem own_d_jdk_52_method_16_code_22 : decode jdk_52_method_16_code 22 = .ok (.iload_n 2, 1) := by decide +kernel
theorem own_d_jdk_52_method_16_code_23 : decode jdk_52_method_16_code 23 = .ok (.invokestatic 119, 3) := by decide +kernel
theorem own_pd___CII__B : parseMethodDescriptor "([CII)[B" = some ⟨[(.array .char), .int, .int], some (.array .byte)⟩ := by decide +kernel
theorem own_d_jdk_52_method_16_code_26 : decode jdk_52_method_16_code 26 = .ok (.astore 5, 2) := by decide +kernel
theorem own_d_jdk_52_method_16_code_28 : decode jdk_52_method_16_code 28 = .ok (.aload 5, 2) := by decide +kernel
theorem own_d_jdk_52_method_16_code_30 : decode jdk_52_method_16_code 30 = .ok (.iload 4, 2) := by decide +kernel
theorem own_d_jdk_52_method_16_code_32 : decode jdk_52_method_16_code 32 = .ok (.invokestatic 71, 3) := by decide +kernel
theorem own_d_jdk_52_method_16_code_35 : decode jdk_52_method_16_code 35 = .ok (.sipush 255, 3) := by decide +kernel
theorem own_d_jdk_52_method_16_code_38 : decode jdk_52_method_16_code 38 = .ok (.if_icmp .gt 16, 3) := by decide +kernel
theorem own_d_jdk_52_method_16_code_54 : decode jdk_52_method_16_code 54 = .ok (.aload 5, 2) := by decide +kernel
theorem own_d_jdk_52_method_16_code_56 : decode jdk_52_method_16_code 56 = .ok (.areturn, 1) := by decide +kernel
theorem own_ef_rmC2U (x0 : Addr) (x1 : Int32) (x2 : Int32) (m : MethodId) : entryFrame m #[(.ref x0), (.int x1), (.int x2)] 6 = mkF m 0 #[.val (.ref x0), .val (.int x1), .val (.int x2), .unset, .unset, .unset] [] := by first | (simp [entryFrame, mkF, argsToLocals, Value.category]; done) | rfl
set_option maxRecDepth 65536 in
set_option maxHeartbeats 40000000 in
theorem rmC2U (l : Launch) (Z : State) (a0 : Array Value) (hw : ∀ d ∈ tables_1, d.before a0 Z = true) (c' : Addr) (h0 : Heap) (n0 : Nat) (Z0 : n0 ≤ h0.size) (cs : Int32) (fm : Value) (hcs : ¬ cs = 0) (hfm : fm.isRef = true) (St : Stt Z h0 cs fm) (f : Nat → Int32) (hC : Ch f) (Ac : OArr Z h0 c' .char 4 (fun k => .int (f k))) (hU : ¬ Lat f) :
    OCon l Z (⟨"java/lang/StringUTF16", "compress", "([CII)[B"⟩ : MethodName) jdk_52_method_16_code 6 (some (.array .byte)) ({ frames := 3, cells := 2, slots := 12, locals := 40 } : Room) #[(.ref c'), (.int (0 : Int32)), (.int (4 : Int32))] h0 (fun v h L => ∃ r, v = some (.ref r) ∧ Fr n0 L ∧ Keep h0 h [] ∧ Stt Z h cs fm ∧ h0.size ≤ r ∧ OArr Z h r .byte 8 (fun k => .int (own_b f k))) := by
  refine OConK.intro (y := (⟨"java/lang/StringUTF16", "compress", "([CII)[B"⟩ : MethodName)) (plainFor_of_name own_pn_java_lang_StringUTF16) (own_ef_rmC2U c' (0 : Int32) (4 : Int32)) ?_
  intro p e s m below meth c s₁ hx hby hml hown hnm hret hlk hZ X0 e0
  show OGoal p e below s _ _ _ (s₁.setTop (mkF m 0 #[.val (.ref c'), .val (.int (0 : Int32)), .val (.int (4 : Int32)), .unset, .unset, .unset] []))
  refine OGoal.mp (S' := (s₁.setTop (mkF m 1 #[.val (.ref c'), .val (.int (0 : Int32)), .val (.int (4 : Int32)), .unset, .unset, .unset] [(.int (4 : Int32))]))) (fun _ k => XS.iloadN X0.here hx rfl (hb hby own_d_jdk_52_method_16_code_0) rfl k) ?_
  obtain ⟨T1, h5, c8, X2, e3, E6, A7, XA11, st4⟩ := newPE X0 hx hZ (hw _ (List.mem_of_getElem? (i := 24) rfl)) e0 (g := mkF m 1 #[.val (.ref c'), .val (.int (0 : Int32)), .val (.int (4 : Int32)), .unset, .unset, .unset] [(.int (4 : Int32))]) rfl (hb hby own_d_jdk_52_method_16_code_1) rfl (by decide) (cap := 4) (by decide) (by decide) (by decide) (by decide) (ad := "[B") (by rfl)
  obtain ⟨a9, g10⟩ : ∃ z, z = h0.size := ⟨_, rfl⟩
  rw [← g10] at A7 XA11 st4
  have lt12 : c' < a9 := by rw [g10]; exact Ac.lt
  have fr13 : h0.size ≤ a9 := by rw [g10]; exact (Keep.refl h0 []).1
  have K14 : Keep h0 h5 [] := (Keep.refl h0 []).ext E6
  have F15 := St.ext E6
  have F16 := Ac.ext E6
  have F17 : OArr Z h5 a9 .byte (4 : Int32) (fun _ => .int 0 : Nat → Value) := OArr.new A7 (by decide)
  have Z18 : n0 ≤ h5.size := Nat.le_trans Z0 E6.1
  have ab19 : n0 ≤ a9 := Nat.le_trans Z0 (Nat.le_of_eq g10.symm)
  refine OGoal.mp (S' := (T1.setTop (mkF m 3 #[.val (.ref c'), .val (.int (0 : Int32)), .val (.int (4 : Int32)), .unset, .unset, .unset] [(.ref a9)]))) (fun _ k => st4 _ k) ?_
  refine OGoal.mp (S' := (T1.setTop (mkF m 4 #[.val (.ref c'), .val (.int (0 : Int32)), .val (.int (4 : Int32)), .val (.ref a9), .unset, .unset] []))) (fun _ k => XS.astoreN X2.here hx rfl (hb hby own_d_jdk_52_method_16_code_3) rfl rfl (l' := #[.val (.ref c'), .val (.int (0 : Int32)), .val (.int (4 : Int32)), .val (.ref a9), .unset, .unset]) rfl k) ?_
  refine OGoal.mp (S' := (T1.setTop (mkF m 5 #[.val (.ref c'), .val (.int (0 : Int32)), .val (.int (4 : Int32)), .val (.ref a9), .unset, .unset] [(.ref c')]))) (fun _ k => XS.aloadN X2.here hx rfl (hb hby own_d_jdk_52_method_16_code_4) rfl rfl k) ?_
  refine OGoal.mp (S' := (T1.setTop (mkF m 6 #[.val (.ref c'), .val (.int (0 : Int32)), .val (.int (4 : Int32)), .val (.ref a9), .unset, .unset] [(.int (0 : Int32)), (.ref c')]))) (fun _ k => XS.iloadN X2.here hx rfl (hb hby own_d_jdk_52_method_16_code_5) rfl k) ?_
  refine OGoal.mp (S' := (T1.setTop (mkF m 7 #[.val (.ref c'), .val (.int (0 : Int32)), .val (.int (4 : Int32)), .val (.ref a9), .unset, .unset] [(.ref a9), (.int (0 : Int32)), (.ref c')]))) (fun _ k => XS.aloadN X2.here hx rfl (hb hby own_d_jdk_52_method_16_code_6) rfl rfl k) ?_
  refine OGoal.mp (S' := (T1.setTop (mkF m 8 #[.val (.ref c'), .val (.int (0 : Int32)), .val (.int (4 : Int32)), .val (.ref a9), .unset, .unset] [(.int (0 : Int32)), (.ref a9), (.int (0 : Int32)), (.ref c')]))) (fun _ k => XS.iconst X2.here hx rfl (hb hby own_d_jdk_52_method_16_code_7) k) ?_
  refine OGoal.mp (S' := (T1.setTop (mkF m 9 #[.val (.ref c'), .val (.int (0 : Int32)), .val (.int (4 : Int32)), .val (.ref a9), .unset, .unset] [(.int (4 : Int32)), (.int (0 : Int32)), (.ref a9), (.int (0 : Int32)), (.ref c')]))) (fun _ k => XS.iloadN X2.here hx rfl (hb hby own_d_jdk_52_method_16_code_8) rfl k) ?_
  refine oCallS (y := (⟨"java/lang/StringUTF16", "compress", "([CI[BII)I"⟩ : MethodName)) X2 hx hZ hown (hw _ (List.mem_of_getElem? (i := 25) rfl)) (hw _ (List.mem_of_getElem? (i := 26) rfl)) (hw _ (List.mem_of_getElem? (i := 22) rfl)) (hw _ (List.mem_of_getElem? (i := 27) rfl)) (by decide) (rmC1U l Z a0 hw c' a9 h5 n0 Z18 cs fm hcs hfm F15 f hC F16 F17 (Nat.ne_of_lt lt12) ab19 hU) e3 [(.ref c'), (.int (0 : Int32)), (.ref a9), (.int (0 : Int32)), (.int (4 : Int32))] [] rfl rfl (by rw [hml]; rfl) (lenOf own_pd___CI_BII_I rfl) 0 (Nat.le_of_eq rfl) (by decide) (by decide) (by decide) (by decide) (hb hby own_d_jdk_52_method_16_code_9) ?_
  intro v21 T22 L23 X24 q25
  obtain ⟨k20, rfl, N26, K27, S28, kp31, kq32, kr33⟩ := q25
  have N30 := Fr.app (Fr.nil n0) N26
  have F34 := F16.keep K27 (ninS (Nat.ne_of_lt lt12) nin0)
  have K35 : Keep h0 T22.heap [] := K14.trans K27 (allS (Or.inr fr13) all0)
  have Z36 : n0 ≤ T22.heap.size := Nat.le_trans Z18 K27.1
  show OGoal p e below s _ _ _ (T22.setTop (mkF m 12 #[.val (.ref c'), .val (.int (0 : Int32)), .val (.int (4 : Int32)), .val (.ref a9), .unset, .unset] [(.int k20)]))
  refine OGoal.mp (S' := (T22.setTop (mkF m 14 #[.val (.ref c'), .val (.int (0 : Int32)), .val (.int (4 : Int32)), .val (.ref a9), .val (.int k20), .unset] []))) (fun _ k => XS.istore X24.here hx rfl (hb hby own_d_jdk_52_method_16_code_12) rfl (l' := #[.val (.ref c'), .val (.int (0 : Int32)), .val (.int (4 : Int32)), .val (.ref a9), .val (.int k20), .unset]) rfl k) ?_
  refine OGoal.mp (S' := (T22.setTop (mkF m 16 #[.val (.ref c'), .val (.int (0 : Int32)), .val (.int (4 : Int32)), .val (.ref a9), .val (.int k20), .unset] [(.int k20)]))) (fun _ k => XS.iload X24.here hx rfl (hb hby own_d_jdk_52_method_16_code_14) rfl k) ?_
  refine OGoal.mp (S' := (T22.setTop (mkF m 17 #[.val (.ref c'), .val (.int (0 : Int32)), .val (.int (4 : Int32)), .val (.ref a9), .val (.int k20), .unset] [(.int (4 : Int32)), (.int k20)]))) (fun _ k => XS.iloadN X24.here hx rfl (hb hby own_d_jdk_52_method_16_code_16) rfl k) ?_
  refine OGoal.mp (S' := (T22.setTop (mkF m 20 #[.val (.ref c'), .val (.int (0 : Int32)), .val (.int (4 : Int32)), .val (.ref a9), .val (.int k20), .unset] []))) (fun _ k => XS.icmpNo X24.here hx rfl (hb hby own_d_jdk_52_method_16_code_17) rfl (XT.ii_eq_f (mNe (by rw [show (4 : Int32).toInt = 4 by decide]; omega))) k) ?_
  refine OGoal.mp (S' := (T22.setTop (mkF m 21 #[.val (.ref c'), .val (.int (0 : Int32)), .val (.int (4 : Int32)), .val (.ref a9), .val (.int k20), .unset] [(.ref c')]))) (fun _ k => XS.aloadN X24.here hx rfl (hb hby own_d_jdk_52_method_16_code_20) rfl rfl k) ?_
  refine OGoal.mp (S' := (T22.setTop (mkF m 22 #[.val (.ref c'), .val (.int (0 : Int32)), .val (.int (4 : Int32)), .val (.ref a9), .val (.int k20), .unset] [(.int (0 : Int32)), (.ref c')]))) (fun _ k => XS.iloadN X24.here hx rfl (hb hby own_d_jdk_52_method_16_code_21) rfl k) ?_
  refine OGoal.mp (S' := (T22.setTop (mkF m 23 #[.val (.ref c'), .val (.int (0 : Int32)), .val (.int (4 : Int32)), .val (.ref a9), .val (.int k20), .unset] [(.int (4 : Int32)), (.int (0 : Int32)), (.ref c')]))) (fun _ k => XS.iloadN X24.here hx rfl (hb hby own_d_jdk_52_method_16_code_22) rfl k) ?_
  refine oCallS (y := (⟨"java/lang/StringUTF16", "toBytes", "([CII)[B"⟩ : MethodName)) X24 hx hZ hown (hw _ (List.mem_of_getElem? (i := 101) rfl)) (hw _ (List.mem_of_getElem? (i := 102) rfl)) (hw _ (List.mem_of_getElem? (i := 22) rfl)) (hw _ (List.mem_of_getElem? (i := 103) rfl)) (by decide) (rmTB l Z a0 hw c' T22.heap n0 Z36 cs fm hcs hfm S28 f hC F34) rfl [(.ref c'), (.int (0 : Int32)), (.int (4 : Int32))] [] rfl rfl (by rw [hml]; rfl) (lenOf own_pd___CII__B rfl) 0 (Nat.le_of_eq rfl) (by decide) (by decide) (by decide) (by decide) (hb hby own_d_jdk_52_method_16_code_23) ?_
  intro v38 T39 L40 X41 q42
  obtain ⟨r37, rfl, N43, K44, S45, hr46, A47⟩ := q42
  have N48 := Fr.app N30 N43
  have fr49 : h0.size ≤ r37 := Nat.le_trans K35.1 hr46
  have K50 : Keep h0 T39.heap [] := K35.trans K44 (fun x q => nomatch q)
  have Z51 : n0 ≤ T39.heap.size := Nat.le_trans Z36 K44.1
  show OGoal p e below s _ _ _ (T39.setTop (mkF m 26 #[.val (.ref c'), .val (.int (0 : Int32)), .val (.int (4 : Int32)), .val (.ref a9), .val (.int k20), .unset] [(.ref r37)]))
  refine OGoal.mp (S' := (T39.setTop (mkF m 28 #[.val (.ref c'), .val (.int (0 : Int32)), .val (.int (4 : Int32)), .val (.ref a9), .val (.int k20), .val (.ref r37)] []))) (fun _ k => XS.astore X41.here hx rfl (hb hby own_d_jdk_52_method_16_code_26) rfl rfl (l' := #[.val (.ref c'), .val (.int (0 : Int32)), .val (.int (4 : Int32)), .val (.ref a9), .val (.int k20), .val (.ref r37)]) rfl k) ?_
  refine OGoal.mp (S' := (T39.setTop (mkF m 30 #[.val (.ref c'), .val (.int (0 : Int32)), .val (.int (4 : Int32)), .val (.ref a9), .val (.int k20), .val (.ref r37)] [(.ref r37)]))) (fun _ k => XS.aload X41.here hx rfl (hb hby own_d_jdk_52_method_16_code_28) rfl rfl k) ?_
  refine OGoal.mp (S' := (T39.setTop (mkF m 32 #[.val (.ref c'), .val (.int (0 : Int32)), .val (.int (4 : Int32)), .val (.ref a9), .val (.int k20), .val (.ref r37)] [(.int k20), (.ref r37)]))) (fun _ k => XS.iload X41.here hx rfl (hb hby own_d_jdk_52_method_16_code_30) rfl k) ?_
  refine oCallS (y := (⟨"java/lang/StringUTF16", "getChar", "([BI)C"⟩ : MethodName)) X41 hx hZ hown (hw _ (List.mem_of_getElem? (i := 117) rfl)) (hw _ (List.mem_of_getElem? (i := 118) rfl)) (hw _ (List.mem_of_getElem? (i := 22) rfl)) (hw _ (List.mem_of_getElem? (i := 119) rfl)) (by decide) (rmGC l Z a0 hw r37 k20 T39.heap n0 Z51 cs fm hcs hfm S45 f hC A47 kp31 kq32) rfl [(.ref r37), (.int k20)] [] rfl rfl (by rw [hml]; rfl) (lenOf own_pd___BI_C rfl) 0 (Nat.le_of_eq rfl) (by decide) (by decide) (by decide) (by decide) (hb hby own_d_jdk_52_method_16_code_32) ?_
  intro v52 T53 L54 X55 q56
  obtain ⟨rfl, N57, e58⟩ := q56
  have N59 := Fr.app N48 N57
  show OGoal p e below s _ _ _ (T53.setTop (mkF m 35 #[.val (.ref c'), .val (.int (0 : Int32)), .val (.int (4 : Int32)), .val (.ref a9), .val (.int k20), .val (.ref r37)] [(.int (f k20.toInt.toNat))]))
  refine OGoal.mp (S' := (T53.setTop (mkF m 38 #[.val (.ref c'), .val (.int (0 : Int32)), .val (.int (4 : Int32)), .val (.ref a9), .val (.int k20), .val (.ref r37)] [(.int (255 : Int32)), (.int (f k20.toInt.toNat))]))) (fun _ k => XS.sipush X55.here hx rfl (hb hby own_d_jdk_52_method_16_code_35) k) ?_
  refine OGoal.mp (S' := (T53.setTop (mkF m 54 #[.val (.ref c'), .val (.int (0 : Int32)), .val (.int (4 : Int32)), .val (.ref a9), .val (.int k20), .val (.ref r37)] []))) (fun _ k => XS.icmpYes X55.here hx rfl (pc0 := 38) (pc' := 54) rfl (hb hby own_d_jdk_52_method_16_code_38) rfl (XT.ii_gt_t kr33) (by decide) (by decide) k) ?_
  refine OGoal.mp (S' := (T53.setTop (mkF m 56 #[.val (.ref c'), .val (.int (0 : Int32)), .val (.int (4 : Int32)), .val (.ref a9), .val (.int k20), .val (.ref r37)] [(.ref r37)]))) (fun _ k => XS.aload X55.here hx rfl (hb hby own_d_jdk_52_method_16_code_54) rfl rfl k) ?_
  refine oRetA X55 hx hlk hret rfl rfl (hb hby own_d_jdk_52_method_16_code_56) ?_ (by decide) (by decide)
  rw [e58]; exact ⟨r37, rfl, N59, K50, S45, fr49, A47⟩
theorem own_d_jdk_52_method_15_code_0 : decode jdk_52_method_15_code 0 = .ok (.iload_n 1, 1) := by decide +kernel
theorem own_d_jdk_52_method_15_code_1 : decode jdk_52_method_15_code 1 = .ok (.aload_n 0, 1) := by decide +kernel
theorem own_d_jdk_52_method_15_code_2 : decode jdk_52_method_15_code 2 = .ok (.arraylength, 1) := by decide +kernel
theorem own_d_jdk_52_method_15_code_3 : decode jdk_52_method_15_code 3 = .ok (.isub, 1) := by decide +kernel
theorem own_d_jdk_52_method_15_code_4 : decode jdk_52_method_15_code 4 = .ok (.bipush 31, 2) := by decide +kernel
theorem own_d_jdk_52_method_15_code_6 : decode jdk_52_method_15_code 6 = .ok (.iushr, 1) := by decide +kernel
theorem own_d_jdk_52_method_15_code_7 : decode jdk_52_method_15_code 7 = .ok (.i2b, 1) := by decide +kernel
theorem own_d_jdk_52_method_15_code_8 : decode jdk_52_method_15_code 8 = .ok (.ireturn, 1) := by decide +kernel
theorem own_ef_rmCF0 (x0 : Addr) (x1 : Int32) (m : MethodId) : entryFrame m #[(.ref x0), (.int x1)] 2 = mkF m 0 #[.val (.ref x0), .val (.int x1)] [] := by first | (simp [entryFrame, mkF, argsToLocals, Value.category]; done) | rfl
set_option maxRecDepth 65536 in
set_option maxHeartbeats 40000000 in
theorem rmCF0 (l : Launch) (Z : State) (a0 : Array Value) (hw : ∀ d ∈ tables_1, d.before a0 Z = true) (r : Addr) (h0 : Heap) (n0 : Nat) (Z0 : n0 ≤ h0.size) (gf : Nat → Value) (A : OArr Z h0 r .byte 4 gf) :
    OCon l Z (⟨"java/lang/StringUTF16", "coderFromArrayLen", "([BI)B"⟩ : MethodName) jdk_52_method_15_code 2 (some .byte) ({ frames := 0, cells := 0, slots := 0, locals := 0 } : Room) #[(.ref r), (.int (4 : Int32))] h0 (fun v h L => v = some (.int (0 : Int32)) ∧ Fr n0 L ∧ h = h0) := by
  refine OConK.intro (y := (⟨"java/lang/StringUTF16", "coderFromArrayLen", "([BI)B"⟩ : MethodName)) (plainFor_of_name own_pn_java_lang_StringUTF16) (own_ef_rmCF0 r (4 : Int32)) ?_
  intro p e s m below meth c s₁ hx hby hml hown hnm hret hlk hZ X0 e0
  show OGoal p e below s _ _ _ (s₁.setTop (mkF m 0 #[.val (.ref r), .val (.int (4 : Int32))] []))
  refine OGoal.mp (S' := (s₁.setTop (mkF m 1 #[.val (.ref r), .val (.int (4 : Int32))] [(.int (4 : Int32))]))) (fun _ k => XS.iloadN X0.here hx rfl (hb hby own_d_jdk_52_method_15_code_0) rfl k) ?_
  refine OGoal.mp (S' := (s₁.setTop (mkF m 2 #[.val (.ref r), .val (.int (4 : Int32))] [(.ref r), (.int (4 : Int32))]))) (fun _ k => XS.aloadN X0.here hx rfl (hb hby own_d_jdk_52_method_15_code_1) rfl rfl k) ?_
  refine OGoal.mp (S' := (s₁.setTop (mkF m 3 #[.val (.ref r), .val (.int (4 : Int32))] [(.int (4 : Int32)), (.int (4 : Int32))]))) (fun _ k => oLen X0 hx hZ e0 A (g := mkF m 2 #[.val (.ref r), .val (.int (4 : Int32))] [(.ref r), (.int (4 : Int32))]) rfl rfl (hb hby own_d_jdk_52_method_15_code_2) k) ?_
  refine OGoal.mp (S' := (s₁.setTop (mkF m 4 #[.val (.ref r), .val (.int (4 : Int32))] [(.int ((4 : Int32) - (4 : Int32)))]))) (fun _ k => XS.isub X0.here hx rfl (hb hby own_d_jdk_52_method_15_code_3) rfl k) ?_
  rw [show ((4 : Int32) - (4 : Int32)) = (0 : Int32) by decide]
  show OGoal p e below s _ _ _ (s₁.setTop (mkF m 4 #[.val (.ref r), .val (.int (4 : Int32))] [(.int (0 : Int32))]))
  refine OGoal.mp (S' := (s₁.setTop (mkF m 6 #[.val (.ref r), .val (.int (4 : Int32))] [(.int (31 : Int32)), (.int (0 : Int32))]))) (fun _ k => XS.bipush X0.here hx rfl (hb hby own_d_jdk_52_method_15_code_4) k) ?_
  refine OGoal.mp (S' := (s₁.setTop (mkF m 7 #[.val (.ref r), .val (.int (4 : Int32))] [(.int (XT.ushr (0 : Int32) (31 : Int32)))]))) (fun _ k => XT.iushr X0.here hx rfl (hb hby own_d_jdk_52_method_15_code_6) rfl k) ?_
  rw [show (XT.ushr (0 : Int32) (31 : Int32)) = (0 : Int32) by decide]
  show OGoal p e below s _ _ _ (s₁.setTop (mkF m 7 #[.val (.ref r), .val (.int (4 : Int32))] [(.int (0 : Int32))]))
  refine OGoal.mp (S' := (s₁.setTop (mkF m 8 #[.val (.ref r), .val (.int (4 : Int32))] [(.int (((0 : Int32)).toInt8.toInt32))]))) (fun _ k => XT.i2b X0.here hx rfl (hb hby own_d_jdk_52_method_15_code_7) rfl k) ?_
  rw [show (((0 : Int32)).toInt8.toInt32) = (0 : Int32) by decide]
  show OGoal p e below s _ _ _ (s₁.setTop (mkF m 8 #[.val (.ref r), .val (.int (4 : Int32))] [(.int (0 : Int32))]))
  refine oRetB X0 hx hlk hret (by decide) (hb hby own_d_jdk_52_method_15_code_8) ?_ (by decide) (by decide)
  exact ⟨rfl, (Fr.nil n0), e0⟩
theorem own_ef_rmCF1 (x0 : Addr) (x1 : Int32) (m : MethodId) : entryFrame m #[(.ref x0), (.int x1)] 2 = mkF m 0 #[.val (.ref x0), .val (.int x1)] [] := by first | (simp [entryFrame, mkF, argsToLocals, Value.category]; done) | rfl
set_option maxRecDepth 65536 in
set_option maxHeartbeats 40000000 in
theorem rmCF1 (l : Launch) (Z : State) (a0 : Array Value) (hw : ∀ d ∈ tables_1, d.before a0 Z = true) (r : Addr) (h0 : Heap) (n0 : Nat) (Z0 : n0 ≤ h0.size) (gf : Nat → Value) (A : OArr Z h0 r .byte 8 gf) :
    OCon l Z (⟨"java/lang/StringUTF16", "coderFromArrayLen", "([BI)B"⟩ : MethodName) jdk_52_method_15_code 2 (some .byte) ({ frames := 0, cells := 0, slots := 0, locals := 0 } : Room) #[(.ref r), (.int (4 : Int32))] h0 (fun v h L => v = some (.int (1 : Int32)) ∧ Fr n0 L ∧ h = h0) := by
  refine OConK.intro (y := (⟨"java/lang/StringUTF16", "coderFromArrayLen", "([BI)B"⟩ : MethodName)) (plainFor_of_name own_pn_java_lang_StringUTF16) (own_ef_rmCF1 r (4 : Int32)) ?_
  intro p e s m below meth c s₁ hx hby hml hown hnm hret hlk hZ X0 e0
  show OGoal p e below s _ _ _ (s₁.setTop (mkF m 0 #[.val (.ref r), .val (.int (4 : Int32))] []))
  refine OGoal.mp (S' := (s₁.setTop (mkF m 1 #[.val (.ref r), .val (.int (4 : Int32))] [(.int (4 : Int32))]))) (fun _ k => XS.iloadN X0.here hx rfl (hb hby own_d_jdk_52_method_15_code_0) rfl k) ?_
  refine OGoal.mp (S' := (s₁.setTop (mkF m 2 #[.val (.ref r), .val (.int (4 : Int32))] [(.ref r), (.int (4 : Int32))]))) (fun _ k => XS.aloadN X0.here hx rfl (hb hby own_d_jdk_52_method_15_code_1) rfl rfl k) ?_
  refine OGoal.mp (S' := (s₁.setTop (mkF m 3 #[.val (.ref r), .val (.int (4 : Int32))] [(.int (8 : Int32)), (.int (4 : Int32))]))) (fun _ k => oLen X0 hx hZ e0 A (g := mkF m 2 #[.val (.ref r), .val (.int (4 : Int32))] [(.ref r), (.int (4 : Int32))]) rfl rfl (hb hby own_d_jdk_52_method_15_code_2) k) ?_
  refine OGoal.mp (S' := (s₁.setTop (mkF m 4 #[.val (.ref r), .val (.int (4 : Int32))] [(.int ((4 : Int32) - (8 : Int32)))]))) (fun _ k => XS.isub X0.here hx rfl (hb hby own_d_jdk_52_method_15_code_3) rfl k) ?_
  rw [show ((4 : Int32) - (8 : Int32)) = (-4 : Int32) by decide]
  show OGoal p e below s _ _ _ (s₁.setTop (mkF m 4 #[.val (.ref r), .val (.int (4 : Int32))] [(.int (-4 : Int32))]))
  refine OGoal.mp (S' := (s₁.setTop (mkF m 6 #[.val (.ref r), .val (.int (4 : Int32))] [(.int (31 : Int32)), (.int (-4 : Int32))]))) (fun _ k => XS.bipush X0.here hx rfl (hb hby own_d_jdk_52_method_15_code_4) k) ?_
  refine OGoal.mp (S' := (s₁.setTop (mkF m 7 #[.val (.ref r), .val (.int (4 : Int32))] [(.int (XT.ushr (-4 : Int32) (31 : Int32)))]))) (fun _ k => XT.iushr X0.here hx rfl (hb hby own_d_jdk_52_method_15_code_6) rfl k) ?_
  rw [show (XT.ushr (-4 : Int32) (31 : Int32)) = (1 : Int32) by decide]
  show OGoal p e below s _ _ _ (s₁.setTop (mkF m 7 #[.val (.ref r), .val (.int (4 : Int32))] [(.int (1 : Int32))]))
  refine OGoal.mp (S' := (s₁.setTop (mkF m 8 #[.val (.ref r), .val (.int (4 : Int32))] [(.int (((1 : Int32)).toInt8.toInt32))]))) (fun _ k => XT.i2b X0.here hx rfl (hb hby own_d_jdk_52_method_15_code_7) rfl k) ?_
  rw [show (((1 : Int32)).toInt8.toInt32) = (1 : Int32) by decide]
  show OGoal p e below s _ _ _ (s₁.setTop (mkF m 8 #[.val (.ref r), .val (.int (4 : Int32))] [(.int (1 : Int32))]))
  refine oRetB X0 hx hlk hret (by decide) (hb hby own_d_jdk_52_method_15_code_8) ?_ (by decide) (by decide)
  exact ⟨rfl, (Fr.nil n0), e0⟩
theorem own_d_jdk_42_method_149_code_0 : decode jdk_42_method_149_code 0 = .ok (.aload_n 0, 1) := by decide +kernel
theorem own_d_jdk_42_method_149_code_1 : decode jdk_42_method_149_code 1 = .ok (.invokespecial 1, 3) := by decide +kernel
theorem own_d_jdk_42_method_149_code_4 : decode jdk_42_method_149_code 4 = .ok (.iload_n 3, 1) := by decide +kernel
theorem own_d_jdk_42_method_149_code_5 : decode jdk_42_method_149_code 5 = .ok (.ifCond .ne 22, 3) := by decide +kernel
theorem own_d_jdk_42_method_149_code_27 : decode jdk_42_method_149_code 27 = .ok (.getstatic 38, 3) := by decide +kernel
theorem own_d_jdk_42_method_149_code_30 : decode jdk_42_method_149_code 30 = .ok (.ifCond .eq 28, 3) := by decide +kernel
theorem own_d_jdk_42_method_149_code_33 : decode jdk_42_method_149_code 33 = .ok (.aload_n 1, 1) := by decide +kernel
theorem own_d_jdk_42_method_149_code_34 : decode jdk_42_method_149_code 34 = .ok (.iload_n 2, 1) := by decide +kernel
theorem own_d_jdk_42_method_149_code_35 : decode jdk_42_method_149_code 35 = .ok (.iload_n 3, 1) := by decide +kernel
theorem own_d_jdk_42_method_149_code_36 : decode jdk_42_method_149_code 36 = .ok (.invokestatic 177, 3) := by decide +kernel
theorem own_d_jdk_42_method_149_code_39 : decode jdk_42_method_149_code 39 = .ok (.astore 5, 2) := by decide +kernel
theorem own_d_jdk_42_method_149_code_41 : decode jdk_42_method_149_code 41 = .ok (.aload_n 0, 1) := by decide +kernel
theorem own_d_jdk_42_method_149_code_42 : decode jdk_42_method_149_code 42 = .ok (.aload 5, 2) := by decide +kernel
theorem own_d_jdk_42_method_149_code_44 : decode jdk_42_method_149_code 44 = .ok (.iload_n 3, 1) := by decide +kernel
theorem own_d_jdk_42_method_149_code_45 : decode jdk_42_method_149_code 45 = .ok (.invokestatic 47, 3) := by decide +kernel
theorem own_pd___BI_B : parseMethodDescriptor "([BI)B" = some ⟨[(.array .byte), .int], some .byte⟩ := by decide +kernel
theorem own_d_jdk_42_method_149_code_48 : decode jdk_42_method_149_code 48 = .ok (.putfield 15, 3) := by decide +kernel
theorem own_d_jdk_42_method_149_code_51 : decode jdk_42_method_149_code 51 = .ok (.aload_n 0, 1) := by decide +kernel
theorem own_d_jdk_42_method_149_code_52 : decode jdk_42_method_149_code 52 = .ok (.aload 5, 2) := by decide +kernel
theorem own_d_jdk_42_method_149_code_54 : decode jdk_42_method_149_code 54 = .ok (.putfield 9, 3) := by decide +kernel
theorem own_d_jdk_42_method_149_code_57 : decode jdk_42_method_149_code 57 = .ok (.return_, 1) := by decide +kernel
theorem own_ef_rmSIL (x0 : Addr) (x1 : Addr) (x2 : Int32) (x3 : Int32) (m : MethodId) : entryFrame m #[(.ref x0), (.ref x1), (.int x2), (.int x3), .null] 6 = mkF m 0 #[.val (.ref x0), .val (.ref x1), .val (.int x2), .val (.int x3), .val .null, .unset] [] := by first | (simp [entryFrame, mkF, argsToLocals, Value.category]; done) | rfl
set_option maxRecDepth 65536 in
set_option maxHeartbeats 40000000 in
theorem rmSIL (l : Launch) (Z : State) (a0 : Array Value) (hw : ∀ d ∈ tables_1, d.before a0 Z = true) (a c' : Addr) (h0 : Heap) (n0 : Nat) (Z0 : n0 ≤ h0.size) (cs : Int32) (fm : Value) (hcs : ¬ cs = 0) (hfm : fm.isRef = true) (St : Stt Z h0 cs fm) (f : Nat → Int32) (hC : Ch f) (Ac : OArr Z h0 c' .char 4 (fun k => .int (f k))) (E : Exa Z h0 a "java/lang/String") (Fv : Fld Z h0 a "java/lang/String" "value" "[B" .null) (Fc : Fld Z h0 a "java/lang/String" "coder" "B" (.int (0 : Int32))) (ab : n0 ≤ a) (hL : Lat f) :
    OCon l Z (⟨"java/lang/String", "<init>", "([CIILjava/lang/Void;)V"⟩ : MethodName) jdk_42_method_149_code 6 none ({ frames := 6, cells := 2, slots := 12, locals := 140 } : Room) #[(.ref a), (.ref c'), (.int (0 : Int32)), (.int (4 : Int32)), .null] h0 (fun v h L => v = none ∧ Fr n0 L ∧ Keep h0 h [a] ∧ Stt Z h cs fm ∧ Str4 Z h a f) := by
  refine OConK.intro (y := (⟨"java/lang/String", "<init>", "([CIILjava/lang/Void;)V"⟩ : MethodName)) (plainFor_of_name own_pn_java_lang_String) (own_ef_rmSIL a c' (0 : Int32) (4 : Int32)) ?_
  intro p e s m below meth c s₁ hx hby hml hown hnm hret hlk hZ X0 e0
  show OGoal p e below s _ _ _ (s₁.setTop (mkF m 0 #[.val (.ref a), .val (.ref c'), .val (.int (0 : Int32)), .val (.int (4 : Int32)), .val .null, .unset] []))
  refine OGoal.mp (S' := (s₁.setTop (mkF m 1 #[.val (.ref a), .val (.ref c'), .val (.int (0 : Int32)), .val (.int (4 : Int32)), .val .null, .unset] [(.ref a)]))) (fun _ k => XS.aloadN X0.here hx rfl (hb hby own_d_jdk_42_method_149_code_0) rfl rfl k) ?_
  obtain ⟨T1, X2, e3, st4⟩ := initO X0 hx hZ hown (hw _ (List.mem_of_getElem? (i := 16) rfl)) (hw _ (List.mem_of_getElem? (i := 17) rfl)) (hw _ (List.mem_of_getElem? (i := 18) rfl)) e0 (g := mkF m 1 #[.val (.ref a), .val (.ref c'), .val (.int (0 : Int32)), .val (.int (4 : Int32)), .val .null, .unset] [(.ref a)]) rfl (by rw [hml]; rfl) rfl (hb hby own_d_jdk_42_method_149_code_1) (by decide) (W := 0) (by show 2 * 0 + _ ≤ _; exact Nat.le_of_eq rfl) (by decide)
  refine OGoal.mp (S' := (T1.setTop (mkF m 4 #[.val (.ref a), .val (.ref c'), .val (.int (0 : Int32)), .val (.int (4 : Int32)), .val .null, .unset] []))) (fun _ k => st4 _ k) ?_
  refine OGoal.mp (S' := (T1.setTop (mkF m 5 #[.val (.ref a), .val (.ref c'), .val (.int (0 : Int32)), .val (.int (4 : Int32)), .val .null, .unset] [(.int (4 : Int32))]))) (fun _ k => XS.iloadN X2.here hx rfl (hb hby own_d_jdk_42_method_149_code_4) rfl k) ?_
  refine OGoal.mp (S' := (T1.setTop (mkF m 27 #[.val (.ref a), .val (.ref c'), .val (.int (0 : Int32)), .val (.int (4 : Int32)), .val .null, .unset] []))) (fun _ k => XS.ifYes X2.here hx rfl (pc0 := 5) (pc' := 27) rfl (hb hby own_d_jdk_42_method_149_code_5) rfl (XT.i0_ne_t (by decide)) (by decide) (by decide) k) ?_
  obtain ⟨T5, X6, e7, st8⟩ := getS X2 hx hZ hown (host := "") (hw _ (List.mem_of_getElem? (i := 19) rfl)) Via.refl e3 St.s1 (g := mkF m 27 #[.val (.ref a), .val (.ref c'), .val (.int (0 : Int32)), .val (.int (4 : Int32)), .val .null, .unset] []) rfl (hb hby own_d_jdk_42_method_149_code_27)
  refine OGoal.mp (S' := (T5.setTop (mkF m 30 #[.val (.ref a), .val (.ref c'), .val (.int (0 : Int32)), .val (.int (4 : Int32)), .val .null, .unset] [(.int cs)]))) (fun _ k => st8 _ k) ?_
  refine OGoal.mp (S' := (T5.setTop (mkF m 33 #[.val (.ref a), .val (.ref c'), .val (.int (0 : Int32)), .val (.int (4 : Int32)), .val .null, .unset] []))) (fun _ k => XS.ifNo X6.here hx rfl (hb hby own_d_jdk_42_method_149_code_30) rfl (XT.i0_eq_f hcs) k) ?_
  refine OGoal.mp (S' := (T5.setTop (mkF m 34 #[.val (.ref a), .val (.ref c'), .val (.int (0 : Int32)), .val (.int (4 : Int32)), .val .null, .unset] [(.ref c')]))) (fun _ k => XS.aloadN X6.here hx rfl (hb hby own_d_jdk_42_method_149_code_33) rfl rfl k) ?_
  refine OGoal.mp (S' := (T5.setTop (mkF m 35 #[.val (.ref a), .val (.ref c'), .val (.int (0 : Int32)), .val (.int (4 : Int32)), .val .null, .unset] [(.int (0 : Int32)), (.ref c')]))) (fun _ k => XS.iloadN X6.here hx rfl (hb hby own_d_jdk_42_method_149_code_34) rfl k) ?_
  refine OGoal.mp (S' := (T5.setTop (mkF m 36 #[.val (.ref a), .val (.ref c'), .val (.int (0 : Int32)), .val (.int (4 : Int32)), .val .null, .unset] [(.int (4 : Int32)), (.int (0 : Int32)), (.ref c')]))) (fun _ k => XS.iloadN X6.here hx rfl (hb hby own_d_jdk_42_method_149_code_35) rfl k) ?_
  refine oCallS (y := (⟨"java/lang/StringUTF16", "compress", "([CII)[B"⟩ : MethodName)) X6 hx hZ hown (hw _ (List.mem_of_getElem? (i := 20) rfl)) (hw _ (List.mem_of_getElem? (i := 21) rfl)) (hw _ (List.mem_of_getElem? (i := 22) rfl)) (hw _ (List.mem_of_getElem? (i := 23) rfl)) (by decide) (rmC2L l Z a0 hw c' h0 n0 Z0 cs fm hcs hfm St f hC Ac hL) e7 [(.ref c'), (.int (0 : Int32)), (.int (4 : Int32))] [] rfl rfl (by rw [hml]; rfl) (lenOf own_pd___CII__B rfl) 0 (Nat.le_of_eq rfl) (by decide) (by decide) (by decide) (by decide) (hb hby own_d_jdk_42_method_149_code_36) ?_
  intro v10 T11 L12 X13 q14
  obtain ⟨r9, rfl, N15, K16, S17, hr18, A19⟩ := q14
  have N20 := Fr.app (Fr.nil n0) N15
  have lt21 : a < r9 := Nat.lt_of_lt_of_le E.lt hr18
  have F22 := E.keep K16
  have F23 := Fv.keep K16 nin0
  have F24 := Fc.keep K16 nin0
  have K25 : Keep h0 T11.heap [a] := (Keep.refl h0 [a]).trans K16 (fun x q => nomatch q)
  have Z26 : n0 ≤ T11.heap.size := Nat.le_trans Z0 K16.1
  show OGoal p e below s _ _ _ (T11.setTop (mkF m 39 #[.val (.ref a), .val (.ref c'), .val (.int (0 : Int32)), .val (.int (4 : Int32)), .val .null, .unset] [(.ref r9)]))
  refine OGoal.mp (S' := (T11.setTop (mkF m 41 #[.val (.ref a), .val (.ref c'), .val (.int (0 : Int32)), .val (.int (4 : Int32)), .val .null, .val (.ref r9)] []))) (fun _ k => XS.astore X13.here hx rfl (hb hby own_d_jdk_42_method_149_code_39) rfl rfl (l' := #[.val (.ref a), .val (.ref c'), .val (.int (0 : Int32)), .val (.int (4 : Int32)), .val .null, .val (.ref r9)]) rfl k) ?_
  refine OGoal.mp (S' := (T11.setTop (mkF m 42 #[.val (.ref a), .val (.ref c'), .val (.int (0 : Int32)), .val (.int (4 : Int32)), .val .null, .val (.ref r9)] [(.ref a)]))) (fun _ k => XS.aloadN X13.here hx rfl (hb hby own_d_jdk_42_method_149_code_41) rfl rfl k) ?_
  refine OGoal.mp (S' := (T11.setTop (mkF m 44 #[.val (.ref a), .val (.ref c'), .val (.int (0 : Int32)), .val (.int (4 : Int32)), .val .null, .val (.ref r9)] [(.ref r9), (.ref a)]))) (fun _ k => XS.aload X13.here hx rfl (hb hby own_d_jdk_42_method_149_code_42) rfl rfl k) ?_
  refine OGoal.mp (S' := (T11.setTop (mkF m 45 #[.val (.ref a), .val (.ref c'), .val (.int (0 : Int32)), .val (.int (4 : Int32)), .val .null, .val (.ref r9)] [(.int (4 : Int32)), (.ref r9), (.ref a)]))) (fun _ k => XS.iloadN X13.here hx rfl (hb hby own_d_jdk_42_method_149_code_44) rfl k) ?_
  refine oCallS (y := (⟨"java/lang/StringUTF16", "coderFromArrayLen", "([BI)B"⟩ : MethodName)) X13 hx hZ hown (hw _ (List.mem_of_getElem? (i := 28) rfl)) (hw _ (List.mem_of_getElem? (i := 29) rfl)) (hw _ (List.mem_of_getElem? (i := 22) rfl)) (hw _ (List.mem_of_getElem? (i := 30) rfl)) (by decide) (rmCF0 l Z a0 hw r9 T11.heap n0 Z26 _ A19) rfl [(.ref r9), (.int (4 : Int32))] [(.ref a)] rfl rfl (by rw [hml]; rfl) (lenOf own_pd___BI_B rfl) 1 (Nat.le_of_eq rfl) (by decide) (by decide) (by decide) (by decide) (hb hby own_d_jdk_42_method_149_code_45) ?_
  intro v27 T28 L29 X30 q31
  obtain ⟨rfl, N32, e33⟩ := q31
  have N34 := Fr.app N20 N32
  show OGoal p e below s _ _ _ (T28.setTop (mkF m 48 #[.val (.ref a), .val (.ref c'), .val (.int (0 : Int32)), .val (.int (4 : Int32)), .val .null, .val (.ref r9)] [(.int (0 : Int32)), (.ref a)]))
  obtain ⟨T35, h39, X36, e37, W40, st38⟩ := putF X30 hx hZ hown (host := "") (Or.inl (hw _ (List.mem_of_getElem? (i := 31) rfl))) Via.refl e33 F24 F22 (Or.inr ⟨(hw _ (List.mem_of_getElem? (i := 32) rfl)), rfl, hnm⟩) (hw _ (List.mem_of_getElem? (i := 7) rfl)) (ty := .byte) (by decide) rfl rfl (g := mkF m 48 #[.val (.ref a), .val (.ref c'), .val (.int (0 : Int32)), .val (.int (4 : Int32)), .val .null, .val (.ref r9)] [(.int (0 : Int32)), (.ref a)]) rfl rfl (hb hby own_d_jdk_42_method_149_code_48)
  have N41 := Fr.snoc X36 N34 ab
  have Z42 : n0 ≤ h39.size := Nat.le_trans Z26 (Keep.of_wr W40).1
  have K43 : Keep h0 h39 [a] := K25.wr W40 (Or.inl (by simp))
  have F44 := S17.wr W40
  have F45 := A19.other W40 (Nat.ne_of_gt lt21)
  have F46 := F22.wr W40
  have F47 := F23.other W40 (Or.inr (slot_ne (a0 := a0) (C := "java/lang/String") (t := (.array .byte)) (t' := .byte) (Or.inr (hw _ (List.mem_of_getElem? (i := 34) rfl))) (Or.inr (hw _ (List.mem_of_getElem? (i := 32) rfl))) (by decide) (by decide) (by decide)))
  have F48 := F24.same W40
  refine OGoal.mp (S' := (T35.setTop (mkF m 51 #[.val (.ref a), .val (.ref c'), .val (.int (0 : Int32)), .val (.int (4 : Int32)), .val .null, .val (.ref r9)] []))) (fun _ k => st38 _ k) ?_
  refine OGoal.mp (S' := (T35.setTop (mkF m 52 #[.val (.ref a), .val (.ref c'), .val (.int (0 : Int32)), .val (.int (4 : Int32)), .val .null, .val (.ref r9)] [(.ref a)]))) (fun _ k => XS.aloadN X36.here hx rfl (hb hby own_d_jdk_42_method_149_code_51) rfl rfl k) ?_
  refine OGoal.mp (S' := (T35.setTop (mkF m 54 #[.val (.ref a), .val (.ref c'), .val (.int (0 : Int32)), .val (.int (4 : Int32)), .val .null, .val (.ref r9)] [(.ref r9), (.ref a)]))) (fun _ k => XS.aload X36.here hx rfl (hb hby own_d_jdk_42_method_149_code_52) rfl rfl k) ?_
  obtain ⟨T49, h53, X50, e51, W54, st52⟩ := putF X36 hx hZ hown (host := "") (Or.inl (hw _ (List.mem_of_getElem? (i := 33) rfl))) Via.refl e37 F47 F46 (Or.inr ⟨(hw _ (List.mem_of_getElem? (i := 34) rfl)), rfl, hnm⟩) (hw _ (List.mem_of_getElem? (i := 7) rfl)) (ty := (.array .byte)) (by decide) rfl rfl (g := mkF m 54 #[.val (.ref a), .val (.ref c'), .val (.int (0 : Int32)), .val (.int (4 : Int32)), .val .null, .val (.ref r9)] [(.ref r9), (.ref a)]) rfl rfl (hb hby own_d_jdk_42_method_149_code_54)
  have N55 := Fr.snoc X50 N41 ab
  have Z56 : n0 ≤ h53.size := Nat.le_trans Z42 (Keep.of_wr W54).1
  have K57 : Keep h0 h53 [a] := K43.wr W54 (Or.inl (by simp))
  have F58 := F44.wr W54
  have F59 := F45.other W54 (Nat.ne_of_gt lt21)
  have F60 := F46.wr W54
  have F61 := F47.same W54
  have F62 := F48.other W54 (Or.inr (slot_ne (a0 := a0) (C := "java/lang/String") (t := .byte) (t' := (.array .byte)) (Or.inr (hw _ (List.mem_of_getElem? (i := 32) rfl))) (Or.inr (hw _ (List.mem_of_getElem? (i := 34) rfl))) (by decide) (by decide) (by decide)))
  refine OGoal.mp (S' := (T49.setTop (mkF m 57 #[.val (.ref a), .val (.ref c'), .val (.int (0 : Int32)), .val (.int (4 : Int32)), .val .null, .val (.ref r9)] []))) (fun _ k => st52 _ k) ?_
  refine oRetV X50 hx hlk hret (hb hby own_d_jdk_42_method_149_code_57) ?_ (by decide) (by decide)
  rw [e51]; exact ⟨rfl, N55, K57, F58, Or.inl ⟨r9, F60, F61, F62, F59, hL⟩⟩
theorem own_ef_rmSIU (x0 : Addr) (x1 : Addr) (x2 : Int32) (x3 : Int32) (m : MethodId) : entryFrame m #[(.ref x0), (.ref x1), (.int x2), (.int x3), .null] 6 = mkF m 0 #[.val (.ref x0), .val (.ref x1), .val (.int x2), .val (.int x3), .val .null, .unset] [] := by first | (simp [entryFrame, mkF, argsToLocals, Value.category]; done) | rfl
set_option maxRecDepth 65536 in
set_option maxHeartbeats 40000000 in
theorem rmSIU (l : Launch) (Z : State) (a0 : Array Value) (hw : ∀ d ∈ tables_1, d.before a0 Z = true) (a c' : Addr) (h0 : Heap) (n0 : Nat) (Z0 : n0 ≤ h0.size) (cs : Int32) (fm : Value) (hcs : ¬ cs = 0) (hfm : fm.isRef = true) (St : Stt Z h0 cs fm) (f : Nat → Int32) (hC : Ch f) (Ac : OArr Z h0 c' .char 4 (fun k => .int (f k))) (E : Exa Z h0 a "java/lang/String") (Fv : Fld Z h0 a "java/lang/String" "value" "[B" .null) (Fc : Fld Z h0 a "java/lang/String" "coder" "B" (.int (0 : Int32))) (ab : n0 ≤ a) (hU : ¬ Lat f) :
    OCon l Z (⟨"java/lang/String", "<init>", "([CIILjava/lang/Void;)V"⟩ : MethodName) jdk_42_method_149_code 6 none ({ frames := 6, cells := 2, slots := 12, locals := 140 } : Room) #[(.ref a), (.ref c'), (.int (0 : Int32)), (.int (4 : Int32)), .null] h0 (fun v h L => v = none ∧ Fr n0 L ∧ Keep h0 h [a] ∧ Stt Z h cs fm ∧ Str4 Z h a f) := by
  refine OConK.intro (y := (⟨"java/lang/String", "<init>", "([CIILjava/lang/Void;)V"⟩ : MethodName)) (plainFor_of_name own_pn_java_lang_String) (own_ef_rmSIU a c' (0 : Int32) (4 : Int32)) ?_
  intro p e s m below meth c s₁ hx hby hml hown hnm hret hlk hZ X0 e0
  show OGoal p e below s _ _ _ (s₁.setTop (mkF m 0 #[.val (.ref a), .val (.ref c'), .val (.int (0 : Int32)), .val (.int (4 : Int32)), .val .null, .unset] []))
  refine OGoal.mp (S' := (s₁.setTop (mkF m 1 #[.val (.ref a), .val (.ref c'), .val (.int (0 : Int32)), .val (.int (4 : Int32)), .val .null, .unset] [(.ref a)]))) (fun _ k => XS.aloadN X0.here hx rfl (hb hby own_d_jdk_42_method_149_code_0) rfl rfl k) ?_
  obtain ⟨T1, X2, e3, st4⟩ := initO X0 hx hZ hown (hw _ (List.mem_of_getElem? (i := 16) rfl)) (hw _ (List.mem_of_getElem? (i := 17) rfl)) (hw _ (List.mem_of_getElem? (i := 18) rfl)) e0 (g := mkF m 1 #[.val (.ref a), .val (.ref c'), .val (.int (0 : Int32)), .val (.int (4 : Int32)), .val .null, .unset] [(.ref a)]) rfl (by rw [hml]; rfl) rfl (hb hby own_d_jdk_42_method_149_code_1) (by decide) (W := 0) (by show 2 * 0 + _ ≤ _; exact Nat.le_of_eq rfl) (by decide)
  refine OGoal.mp (S' := (T1.setTop (mkF m 4 #[.val (.ref a), .val (.ref c'), .val (.int (0 : Int32)), .val (.int (4 : Int32)), .val .null, .unset] []))) (fun _ k => st4 _ k) ?_
  refine OGoal.mp (S' := (T1.setTop (mkF m 5 #[.val (.ref a), .val (.ref c'), .val (.int (0 : Int32)), .val (.int (4 : Int32)), .val .null, .unset] [(.int (4 : Int32))]))) (fun _ k => XS.iloadN X2.here hx rfl (hb hby own_d_jdk_42_method_149_code_4) rfl k) ?_
  refine OGoal.mp (S' := (T1.setTop (mkF m 27 #[.val (.ref a), .val (.ref c'), .val (.int (0 : Int32)), .val (.int (4 : Int32)), .val .null, .unset] []))) (fun _ k => XS.ifYes X2.here hx rfl (pc0 := 5) (pc' := 27) rfl (hb hby own_d_jdk_42_method_149_code_5) rfl (XT.i0_ne_t (by decide)) (by decide) (by decide) k) ?_
  obtain ⟨T5, X6, e7, st8⟩ := getS X2 hx hZ hown (host := "") (hw _ (List.mem_of_getElem? (i := 19) rfl)) Via.refl e3 St.s1 (g := mkF m 27 #[.val (.ref a), .val (.ref c'), .val (.int (0 : Int32)), .val (.int (4 : Int32)), .val .null, .unset] []) rfl (hb hby own_d_jdk_42_method_149_code_27)
  refine OGoal.mp (S' := (T5.setTop (mkF m 30 #[.val (.ref a), .val (.ref c'), .val (.int (0 : Int32)), .val (.int (4 : Int32)), .val .null, .unset] [(.int cs)]))) (fun _ k => st8 _ k) ?_
  refine OGoal.mp (S' := (T5.setTop (mkF m 33 #[.val (.ref a), .val (.ref c'), .val (.int (0 : Int32)), .val (.int (4 : Int32)), .val .null, .unset] []))) (fun _ k => XS.ifNo X6.here hx rfl (hb hby own_d_jdk_42_method_149_code_30) rfl (XT.i0_eq_f hcs) k) ?_
  refine OGoal.mp (S' := (T5.setTop (mkF m 34 #[.val (.ref a), .val (.ref c'), .val (.int (0 : Int32)), .val (.int (4 : Int32)), .val .null, .unset] [(.ref c')]))) (fun _ k => XS.aloadN X6.here hx rfl (hb hby own_d_jdk_42_method_149_code_33) rfl rfl k) ?_
  refine OGoal.mp (S' := (T5.setTop (mkF m 35 #[.val (.ref a), .val (.ref c'), .val (.int (0 : Int32)), .val (.int (4 : Int32)), .val .null, .unset] [(.int (0 : Int32)), (.ref c')]))) (fun _ k => XS.iloadN X6.here hx rfl (hb hby own_d_jdk_42_method_149_code_34) rfl k) ?_
  refine OGoal.mp (S' := (T5.setTop (mkF m 36 #[.val (.ref a), .val (.ref c'), .val (.int (0 : Int32)), .val (.int (4 : Int32)), .val .null, .unset] [(.int (4 : Int32)), (.int (0 : Int32)), (.ref c')]))) (fun _ k => XS.iloadN X6.here hx rfl (hb hby own_d_jdk_42_method_149_code_35) rfl k) ?_
  refine oCallS (y := (⟨"java/lang/StringUTF16", "compress", "([CII)[B"⟩ : MethodName)) X6 hx hZ hown (hw _ (List.mem_of_getElem? (i := 20) rfl)) (hw _ (List.mem_of_getElem? (i := 21) rfl)) (hw _ (List.mem_of_getElem? (i := 22) rfl)) (hw _ (List.mem_of_getElem? (i := 23) rfl)) (by decide) (rmC2U l Z a0 hw c' h0 n0 Z0 cs fm hcs hfm St f hC Ac hU) e7 [(.ref c'), (.int (0 : Int32)), (.int (4 : Int32))] [] rfl rfl (by rw [hml]; rfl) (lenOf own_pd___CII__B rfl) 0 (Nat.le_of_eq rfl) (by decide) (by decide) (by decide) (by decide) (hb hby own_d_jdk_42_method_149_code_36) ?_
  intro v10 T11 L12 X13 q14
  obtain ⟨r9, rfl, N15, K16, S17, hr18, A19⟩ := q14
  have N20 := Fr.app (Fr.nil n0) N15
  have lt21 : a < r9 := Nat.lt_of_lt_of_le E.lt hr18
  have F22 := E.keep K16
  have F23 := Fv.keep K16 nin0
  have F24 := Fc.keep K16 nin0
  have K25 : Keep h0 T11.heap [a] := (Keep.refl h0 [a]).trans K16 (fun x q => nomatch q)
  have Z26 : n0 ≤ T11.heap.size := Nat.le_trans Z0 K16.1
  show OGoal p e below s _ _ _ (T11.setTop (mkF m 39 #[.val (.ref a), .val (.ref c'), .val (.int (0 : Int32)), .val (.int (4 : Int32)), .val .null, .unset] [(.ref r9)]))
  refine OGoal.mp (S' := (T11.setTop (mkF m 41 #[.val (.ref a), .val (.ref c'), .val (.int (0 : Int32)), .val (.int (4 : Int32)), .val .null, .val (.ref r9)] []))) (fun _ k => XS.astore X13.here hx rfl (hb hby own_d_jdk_42_method_149_code_39) rfl rfl (l' := #[.val (.ref a), .val (.ref c'), .val (.int (0 : Int32)), .val (.int (4 : Int32)), .val .null, .val (.ref r9)]) rfl k) ?_
  refine OGoal.mp (S' := (T11.setTop (mkF m 42 #[.val (.ref a), .val (.ref c'), .val (.int (0 : Int32)), .val (.int (4 : Int32)), .val .null, .val (.ref r9)] [(.ref a)]))) (fun _ k => XS.aloadN X13.here hx rfl (hb hby own_d_jdk_42_method_149_code_41) rfl rfl k) ?_
  refine OGoal.mp (S' := (T11.setTop (mkF m 44 #[.val (.ref a), .val (.ref c'), .val (.int (0 : Int32)), .val (.int (4 : Int32)), .val .null, .val (.ref r9)] [(.ref r9), (.ref a)]))) (fun _ k => XS.aload X13.here hx rfl (hb hby own_d_jdk_42_method_149_code_42) rfl rfl k) ?_
  refine OGoal.mp (S' := (T11.setTop (mkF m 45 #[.val (.ref a), .val (.ref c'), .val (.int (0 : Int32)), .val (.int (4 : Int32)), .val .null, .val (.ref r9)] [(.int (4 : Int32)), (.ref r9), (.ref a)]))) (fun _ k => XS.iloadN X13.here hx rfl (hb hby own_d_jdk_42_method_149_code_44) rfl k) ?_
  refine oCallS (y := (⟨"java/lang/StringUTF16", "coderFromArrayLen", "([BI)B"⟩ : MethodName)) X13 hx hZ hown (hw _ (List.mem_of_getElem? (i := 28) rfl)) (hw _ (List.mem_of_getElem? (i := 29) rfl)) (hw _ (List.mem_of_getElem? (i := 22) rfl)) (hw _ (List.mem_of_getElem? (i := 30) rfl)) (by decide) (rmCF1 l Z a0 hw r9 T11.heap n0 Z26 _ A19) rfl [(.ref r9), (.int (4 : Int32))] [(.ref a)] rfl rfl (by rw [hml]; rfl) (lenOf own_pd___BI_B rfl) 1 (Nat.le_of_eq rfl) (by decide) (by decide) (by decide) (by decide) (hb hby own_d_jdk_42_method_149_code_45) ?_
  intro v27 T28 L29 X30 q31
  obtain ⟨rfl, N32, e33⟩ := q31
  have N34 := Fr.app N20 N32
  show OGoal p e below s _ _ _ (T28.setTop (mkF m 48 #[.val (.ref a), .val (.ref c'), .val (.int (0 : Int32)), .val (.int (4 : Int32)), .val .null, .val (.ref r9)] [(.int (1 : Int32)), (.ref a)]))
  obtain ⟨T35, h39, X36, e37, W40, st38⟩ := putF X30 hx hZ hown (host := "") (Or.inl (hw _ (List.mem_of_getElem? (i := 31) rfl))) Via.refl e33 F24 F22 (Or.inr ⟨(hw _ (List.mem_of_getElem? (i := 32) rfl)), rfl, hnm⟩) (hw _ (List.mem_of_getElem? (i := 7) rfl)) (ty := .byte) (by decide) rfl rfl (g := mkF m 48 #[.val (.ref a), .val (.ref c'), .val (.int (0 : Int32)), .val (.int (4 : Int32)), .val .null, .val (.ref r9)] [(.int (1 : Int32)), (.ref a)]) rfl rfl (hb hby own_d_jdk_42_method_149_code_48)
  have N41 := Fr.snoc X36 N34 ab
  have Z42 : n0 ≤ h39.size := Nat.le_trans Z26 (Keep.of_wr W40).1
  have K43 : Keep h0 h39 [a] := K25.wr W40 (Or.inl (by simp))
  have F44 := S17.wr W40
  have F45 := A19.other W40 (Nat.ne_of_gt lt21)
  have F46 := F22.wr W40
  have F47 := F23.other W40 (Or.inr (slot_ne (a0 := a0) (C := "java/lang/String") (t := (.array .byte)) (t' := .byte) (Or.inr (hw _ (List.mem_of_getElem? (i := 34) rfl))) (Or.inr (hw _ (List.mem_of_getElem? (i := 32) rfl))) (by decide) (by decide) (by decide)))
  have F48 := F24.same W40
  refine OGoal.mp (S' := (T35.setTop (mkF m 51 #[.val (.ref a), .val (.ref c'), .val (.int (0 : Int32)), .val (.int (4 : Int32)), .val .null, .val (.ref r9)] []))) (fun _ k => st38 _ k) ?_
  refine OGoal.mp (S' := (T35.setTop (mkF m 52 #[.val (.ref a), .val (.ref c'), .val (.int (0 : Int32)), .val (.int (4 : Int32)), .val .null, .val (.ref r9)] [(.ref a)]))) (fun _ k => XS.aloadN X36.here hx rfl (hb hby own_d_jdk_42_method_149_code_51) rfl rfl k) ?_
  refine OGoal.mp (S' := (T35.setTop (mkF m 54 #[.val (.ref a), .val (.ref c'), .val (.int (0 : Int32)), .val (.int (4 : Int32)), .val .null, .val (.ref r9)] [(.ref r9), (.ref a)]))) (fun _ k => XS.aload X36.here hx rfl (hb hby own_d_jdk_42_method_149_code_52) rfl rfl k) ?_
  obtain ⟨T49, h53, X50, e51, W54, st52⟩ := putF X36 hx hZ hown (host := "") (Or.inl (hw _ (List.mem_of_getElem? (i := 33) rfl))) Via.refl e37 F47 F46 (Or.inr ⟨(hw _ (List.mem_of_getElem? (i := 34) rfl)), rfl, hnm⟩) (hw _ (List.mem_of_getElem? (i := 7) rfl)) (ty := (.array .byte)) (by decide) rfl rfl (g := mkF m 54 #[.val (.ref a), .val (.ref c'), .val (.int (0 : Int32)), .val (.int (4 : Int32)), .val .null, .val (.ref r9)] [(.ref r9), (.ref a)]) rfl rfl (hb hby own_d_jdk_42_method_149_code_54)
  have N55 := Fr.snoc X50 N41 ab
  have Z56 : n0 ≤ h53.size := Nat.le_trans Z42 (Keep.of_wr W54).1
  have K57 : Keep h0 h53 [a] := K43.wr W54 (Or.inl (by simp))
  have F58 := F44.wr W54
  have F59 := F45.other W54 (Nat.ne_of_gt lt21)
  have F60 := F46.wr W54
  have F61 := F47.same W54
  have F62 := F48.other W54 (Or.inr (slot_ne (a0 := a0) (C := "java/lang/String") (t := .byte) (t' := (.array .byte)) (Or.inr (hw _ (List.mem_of_getElem? (i := 32) rfl))) (Or.inr (hw _ (List.mem_of_getElem? (i := 34) rfl))) (by decide) (by decide) (by decide)))
  refine OGoal.mp (S' := (T49.setTop (mkF m 57 #[.val (.ref a), .val (.ref c'), .val (.int (0 : Int32)), .val (.int (4 : Int32)), .val .null, .val (.ref r9)] []))) (fun _ k => st52 _ k) ?_
  refine oRetV X50 hx hlk hret (hb hby own_d_jdk_42_method_149_code_57) ?_ (by decide) (by decide)
  rw [e51]; exact ⟨rfl, N55, K57, F58, Or.inr ⟨r9, F60, F61, F62, F59⟩⟩
set_option maxRecDepth 65536 in
set_option maxHeartbeats 40000000 in
theorem rmSI (l : Launch) (Z : State) (a0 : Array Value) (hw : ∀ d ∈ tables_1, d.before a0 Z = true) (a c' : Addr) (h0 : Heap) (n0 : Nat) (Z0 : n0 ≤ h0.size) (cs : Int32) (fm : Value) (hcs : ¬ cs = 0) (hfm : fm.isRef = true) (St : Stt Z h0 cs fm) (f : Nat → Int32) (hC : Ch f) (Ac : OArr Z h0 c' .char 4 (fun k => .int (f k))) (E : Exa Z h0 a "java/lang/String") (Fv : Fld Z h0 a "java/lang/String" "value" "[B" .null) (Fc : Fld Z h0 a "java/lang/String" "coder" "B" (.int (0 : Int32))) (ab : n0 ≤ a) :
    OCon l Z (⟨"java/lang/String", "<init>", "([CIILjava/lang/Void;)V"⟩ : MethodName) jdk_42_method_149_code 6 none ({ frames := 6, cells := 2, slots := 12, locals := 140 } : Room) #[(.ref a), (.ref c'), (.int (0 : Int32)), (.int (4 : Int32)), .null] h0 (fun v h L => v = none ∧ Fr n0 L ∧ Keep h0 h [a] ∧ Stt Z h cs fm ∧ Str4 Z h a f) := by
  by_cases hL : Lat f
  · exact rmSIL l Z a0 hw a c' h0 n0 Z0 cs fm hcs hfm St f hC Ac E Fv Fc ab hL
  · exact rmSIU l Z a0 hw a c' h0 n0 Z0 cs fm hcs hfm St f hC Ac E Fv Fc ab hL
theorem own_d_jdk_42_method_3_code_0 : decode jdk_42_method_3_code 0 = .ok (.aload_n 0, 1) := by decide +kernel
theorem own_d_jdk_42_method_3_code_1 : decode jdk_42_method_3_code 1 = .ok (.aload_n 1, 1) := by decide +kernel
theorem own_d_jdk_42_method_3_code_2 : decode jdk_42_method_3_code 2 = .ok (.iconst 0, 1) := by decide +kernel
theorem own_d_jdk_42_method_3_code_3 : decode jdk_42_method_3_code 3 = .ok (.aload_n 1, 1) := by decide +kernel
theorem own_d_jdk_42_method_3_code_4 : decode jdk_42_method_3_code 4 = .ok (.arraylength, 1) := by decide +kernel
theorem own_d_jdk_42_method_3_code_5 : decode jdk_42_method_3_code 5 = .ok (.aconst_null, 1) := by decide +kernel
theorem own_d_jdk_42_method_3_code_6 : decode jdk_42_method_3_code 6 = .ok (.invokespecial 27, 3) := by decide +kernel
theorem own_pd___CIILjava_lang_Void__V : parseMethodDescriptor "([CIILjava/lang/Void;)V" = some ⟨[(.array .char), .int, .int, (.object "java/lang/Void")], none⟩ := by decide +kernel
theorem own_d_jdk_42_method_3_code_9 : decode jdk_42_method_3_code 9 = .ok (.return_, 1) := by decide +kernel
theorem own_ef_rmS1 (x0 : Addr) (x1 : Addr) (m : MethodId) : entryFrame m #[(.ref x0), (.ref x1)] 2 = mkF m 0 #[.val (.ref x0), .val (.ref x1)] [] := by first | (simp [entryFrame, mkF, argsToLocals, Value.category]; done) | rfl
set_option maxRecDepth 65536 in
set_option maxHeartbeats 40000000 in
theorem rmS1 (l : Launch) (Z : State) (a0 : Array Value) (hw : ∀ d ∈ tables_1, d.before a0 Z = true) (a c' : Addr) (h0 : Heap) (n0 : Nat) (Z0 : n0 ≤ h0.size) (cs : Int32) (fm : Value) (hcs : ¬ cs = 0) (hfm : fm.isRef = true) (St : Stt Z h0 cs fm) (f : Nat → Int32) (hC : Ch f) (Ac : OArr Z h0 c' .char 4 (fun k => .int (f k))) (E : Exa Z h0 a "java/lang/String") (Fv : Fld Z h0 a "java/lang/String" "value" "[B" .null) (Fc : Fld Z h0 a "java/lang/String" "coder" "B" (.int (0 : Int32))) (ab : n0 ≤ a) :
    OCon l Z (⟨"java/lang/String", "<init>", "([C)V"⟩ : MethodName) jdk_42_method_3_code 2 none ({ frames := 7, cells := 2, slots := 12, locals := 157 } : Room) #[(.ref a), (.ref c')] h0 (fun v h L => v = none ∧ Fr n0 L ∧ Keep h0 h [a] ∧ Stt Z h cs fm ∧ Str4 Z h a f) := by
  refine OConK.intro (y := (⟨"java/lang/String", "<init>", "([C)V"⟩ : MethodName)) (plainFor_of_name own_pn_java_lang_String) (own_ef_rmS1 a c') ?_
  intro p e s m below meth c s₁ hx hby hml hown hnm hret hlk hZ X0 e0
  show OGoal p e below s _ _ _ (s₁.setTop (mkF m 0 #[.val (.ref a), .val (.ref c')] []))
  refine OGoal.mp (S' := (s₁.setTop (mkF m 1 #[.val (.ref a), .val (.ref c')] [(.ref a)]))) (fun _ k => XS.aloadN X0.here hx rfl (hb hby own_d_jdk_42_method_3_code_0) rfl rfl k) ?_
  refine OGoal.mp (S' := (s₁.setTop (mkF m 2 #[.val (.ref a), .val (.ref c')] [(.ref c'), (.ref a)]))) (fun _ k => XS.aloadN X0.here hx rfl (hb hby own_d_jdk_42_method_3_code_1) rfl rfl k) ?_
  refine OGoal.mp (S' := (s₁.setTop (mkF m 3 #[.val (.ref a), .val (.ref c')] [(.int (0 : Int32)), (.ref c'), (.ref a)]))) (fun _ k => XS.iconst X0.here hx rfl (hb hby own_d_jdk_42_method_3_code_2) k) ?_
  refine OGoal.mp (S' := (s₁.setTop (mkF m 4 #[.val (.ref a), .val (.ref c')] [(.ref c'), (.int (0 : Int32)), (.ref c'), (.ref a)]))) (fun _ k => XS.aloadN X0.here hx rfl (hb hby own_d_jdk_42_method_3_code_3) rfl rfl k) ?_
  refine OGoal.mp (S' := (s₁.setTop (mkF m 5 #[.val (.ref a), .val (.ref c')] [(.int (4 : Int32)), (.int (0 : Int32)), (.ref c'), (.ref a)]))) (fun _ k => oLen X0 hx hZ e0 Ac (g := mkF m 4 #[.val (.ref a), .val (.ref c')] [(.ref c'), (.int (0 : Int32)), (.ref c'), (.ref a)]) rfl rfl (hb hby own_d_jdk_42_method_3_code_4) k) ?_
  refine OGoal.mp (S' := (s₁.setTop (mkF m 6 #[.val (.ref a), .val (.ref c')] [.null, (.int (4 : Int32)), (.int (0 : Int32)), (.ref c'), (.ref a)]))) (fun _ k => XS.aconstNull X0.here hx rfl (hb hby own_d_jdk_42_method_3_code_5) k) ?_
  refine oCallN (y := (⟨"java/lang/String", "<init>", "([CIILjava/lang/Void;)V"⟩ : MethodName)) X0 hx hZ rfl hown (hw _ (List.mem_of_getElem? (i := 12) rfl)) (hw _ (List.mem_of_getElem? (i := 13) rfl)) (hw _ (List.mem_of_getElem? (i := 8) rfl)) (hw _ (List.mem_of_getElem? (i := 15) rfl)) (by decide) (rmSI l Z a0 hw a c' h0 n0 Z0 cs fm hcs hfm St f hC Ac E Fv Fc ab) e0 [(.ref c'), (.int (0 : Int32)), (.int (4 : Int32)), .null] [] rfl rfl (by rw [hml]; rfl) (lenOf own_pd___CIILjava_lang_Void__V rfl) 0 (Nat.le_of_eq rfl) (by decide) (by decide) (by decide) (by decide) (hb hby own_d_jdk_42_method_3_code_6) ?_
  intro v1 T2 L3 X4 q5
  obtain ⟨rfl, N6, K7, S8, D9⟩ := q5
  have N10 := Fr.app (Fr.nil n0) N6
  show OGoal p e below s _ _ _ (T2.setTop (mkF m 9 #[.val (.ref a), .val (.ref c')] []))
  refine oRetV X4 hx hlk hret (hb hby own_d_jdk_42_method_3_code_9) ?_ (by decide) (by decide)
  exact ⟨rfl, N10, K7, S8, D9⟩
theorem own_d_prog_19_method_1_code_0 : decode prog_19_method_1_code 0 = .ok (.aload_n 0, 1) := by decide +kernel
theorem own_d_prog_19_method_1_code_1 : decode prog_19_method_1_code 1 = .ok (.invokespecial 1, 3) := by decide +kernel
theorem own_d_prog_19_method_1_code_4 : decode prog_19_method_1_code 4 = .ok (.aload_n 0, 1) := by decide +kernel
theorem own_d_prog_19_method_1_code_5 : decode prog_19_method_1_code 5 = .ok (.aload_n 1, 1) := by decide +kernel
theorem own_d_prog_19_method_1_code_6 : decode prog_19_method_1_code 6 = .ok (.putfield 7, 3) := by decide +kernel
theorem own_d_prog_19_method_1_code_9 : decode prog_19_method_1_code 9 = .ok (.return_, 1) := by decide +kernel
theorem own_pn_com_example_deadlock_to_diagnosis_deadlocktodiagnosis_reader_LineScanner : plainName "com/example/deadlock_to_diagnosis/deadlocktodiagnosis/reader/LineScanner" = true := by first | (simp [plainName, overriddenIn]; done) | decide +kernel
theorem own_ef_rmLI (x0 : Addr) (x1 : Addr) (m : MethodId) : entryFrame m #[(.ref x0), (.ref x1)] 2 = mkF m 0 #[.val (.ref x0), .val (.ref x1)] [] := by first | (simp [entryFrame, mkF, argsToLocals, Value.category]; done) | rfl
set_option maxRecDepth 65536 in
set_option maxHeartbeats 40000000 in
theorem rmLI (l : Launch) (Z : State) (a0 : Array Value) (hw : ∀ d ∈ tables_1, d.before a0 Z = true) (a b : Addr) (h0 : Heap) (n0 : Nat) (Z0 : n0 ≤ h0.size) (cs : Int32) (fm : Value) (hcs : ¬ cs = 0) (hfm : fm.isRef = true) (St : Stt Z h0 cs fm) (E : Exa Z h0 a "com/example/deadlock_to_diagnosis/deadlocktodiagnosis/reader/LineScanner") (Fn : Fld Z h0 a "com/example/deadlock_to_diagnosis/deadlocktodiagnosis/reader/LineScanner" "line" "Ljava/lang/String;" .null) (Fa : Fld Z h0 a "com/example/deadlock_to_diagnosis/deadlocktodiagnosis/reader/LineScanner" "at" "I" (.int (0 : Int32))) (ab : n0 ≤ a) :
    OCon l Z (⟨"com/example/deadlock_to_diagnosis/deadlocktodiagnosis/reader/LineScanner", "<init>", "(Ljava/lang/String;)V"⟩ : MethodName) prog_19_method_1_code 2 none ({ frames := 1, cells := 0, slots := 0, locals := 12 } : Room) #[(.ref a), (.ref b)] h0 (fun v h L => v = none ∧ Fr n0 L ∧ Keep h0 h [a] ∧ Exa Z h a "com/example/deadlock_to_diagnosis/deadlocktodiagnosis/reader/LineScanner" ∧ Fld Z h a "com/example/deadlock_to_diagnosis/deadlocktodiagnosis/reader/LineScanner" "line" "Ljava/lang/String;" (.ref b) ∧ Fld Z h a "com/example/deadlock_to_diagnosis/deadlocktodiagnosis/reader/LineScanner" "at" "I" (.int (0 : Int32)) ∧ Stt Z h cs fm) := by
  refine OConK.intro (y := (⟨"com/example/deadlock_to_diagnosis/deadlocktodiagnosis/reader/LineScanner", "<init>", "(Ljava/lang/String;)V"⟩ : MethodName)) (plainFor_of_name own_pn_com_example_deadlock_to_diagnosis_deadlocktodiagnosis_reader_LineScanner) (own_ef_rmLI a b) ?_
  intro p e s m below meth c s₁ hx hby hml hown hnm hret hlk hZ X0 e0
  show OGoal p e below s _ _ _ (s₁.setTop (mkF m 0 #[.val (.ref a), .val (.ref b)] []))
  refine OGoal.mp (S' := (s₁.setTop (mkF m 1 #[.val (.ref a), .val (.ref b)] [(.ref a)]))) (fun _ k => XS.aloadN X0.here hx rfl (hb hby own_d_prog_19_method_1_code_0) rfl rfl k) ?_
  obtain ⟨T1, X2, e3, st4⟩ := initO X0 hx hZ hown (hw _ (List.mem_of_getElem? (i := 38) rfl)) (hw _ (List.mem_of_getElem? (i := 17) rfl)) (hw _ (List.mem_of_getElem? (i := 18) rfl)) e0 (g := mkF m 1 #[.val (.ref a), .val (.ref b)] [(.ref a)]) rfl (by rw [hml]; rfl) rfl (hb hby own_d_prog_19_method_1_code_1) (by decide) (W := 0) (by show 2 * 0 + _ ≤ _; exact Nat.le_of_eq rfl) (by decide)
  refine OGoal.mp (S' := (T1.setTop (mkF m 4 #[.val (.ref a), .val (.ref b)] []))) (fun _ k => st4 _ k) ?_
  refine OGoal.mp (S' := (T1.setTop (mkF m 5 #[.val (.ref a), .val (.ref b)] [(.ref a)]))) (fun _ k => XS.aloadN X2.here hx rfl (hb hby own_d_prog_19_method_1_code_4) rfl rfl k) ?_
  refine OGoal.mp (S' := (T1.setTop (mkF m 6 #[.val (.ref a), .val (.ref b)] [(.ref b), (.ref a)]))) (fun _ k => XS.aloadN X2.here hx rfl (hb hby own_d_prog_19_method_1_code_5) rfl rfl k) ?_
  obtain ⟨T5, h9, X6, e7, W10, st8⟩ := putF X2 hx hZ hown (host := "") (Or.inl (hw _ (List.mem_of_getElem? (i := 39) rfl))) Via.refl e3 Fn E (Or.inr ⟨(hw _ (List.mem_of_getElem? (i := 40) rfl)), rfl, hnm⟩) (hw _ (List.mem_of_getElem? (i := 4) rfl)) (ty := (.object "java/lang/String")) (by decide) rfl rfl (g := mkF m 6 #[.val (.ref a), .val (.ref b)] [(.ref b), (.ref a)]) rfl rfl (hb hby own_d_prog_19_method_1_code_6)
  have N11 := Fr.snoc X6 (Fr.nil n0) ab
  have Z12 : n0 ≤ h9.size := Nat.le_trans Z0 (Keep.of_wr W10).1
  have K13 : Keep h0 h9 [a] := (Keep.refl h0 [a]).wr W10 (Or.inl (by simp))
  have F14 := St.wr W10
  have F15 := E.wr W10
  have F16 := Fn.same W10
  have F17 := Fa.other W10 (Or.inr (slot_ne (a0 := a0) (C := "com/example/deadlock_to_diagnosis/deadlocktodiagnosis/reader/LineScanner") (t := .int) (t' := (.object "java/lang/String")) (Or.inl (hw _ (List.mem_of_getElem? (i := 47) rfl))) (Or.inr (hw _ (List.mem_of_getElem? (i := 40) rfl))) (by decide) (by decide) (by decide)))
  refine OGoal.mp (S' := (T5.setTop (mkF m 9 #[.val (.ref a), .val (.ref b)] []))) (fun _ k => st8 _ k) ?_
  refine oRetV X6 hx hlk hret (hb hby own_d_prog_19_method_1_code_9) ?_ (by decide) (by decide)
  rw [e7]; exact ⟨rfl, N11, K13, F15, F16, F17, F14⟩
theorem own_d_prog_19_method_4_code_0 : decode prog_19_method_4_code 0 = .ok (.aload_n 0, 1) := by decide +kernel
theorem own_d_prog_19_method_4_code_1 : decode prog_19_method_4_code 1 = .ok (.iload_n 1, 1) := by decide +kernel
theorem own_d_prog_19_method_4_code_2 : decode prog_19_method_4_code 2 = .ok (.putfield 13, 3) := by decide +kernel
theorem own_d_prog_19_method_4_code_5 : decode prog_19_method_4_code 5 = .ok (.return_, 1) := by decide +kernel
theorem own_ef_rmMv (x0 : Addr) (x1 : Int32) (m : MethodId) : entryFrame m #[(.ref x0), (.int x1)] 2 = mkF m 0 #[.val (.ref x0), .val (.int x1)] [] := by first | (simp [entryFrame, mkF, argsToLocals, Value.category]; done) | rfl
set_option maxRecDepth 65536 in
set_option maxHeartbeats 40000000 in
theorem rmMv (l : Launch) (Z : State) (a0 : Array Value) (hw : ∀ d ∈ tables_1, d.before a0 Z = true) (a : Addr) (x1 : Int32) (h0 : Heap) (n0 : Nat) (Z0 : n0 ≤ h0.size) (cs : Int32) (fm : Value) (hcs : ¬ cs = 0) (hfm : fm.isRef = true) (St : Stt Z h0 cs fm) (b : Addr) (y1 : Int32) (E : Exa Z h0 a "com/example/deadlock_to_diagnosis/deadlocktodiagnosis/reader/LineScanner") (Fn : Fld Z h0 a "com/example/deadlock_to_diagnosis/deadlocktodiagnosis/reader/LineScanner" "line" "Ljava/lang/String;" (.ref b)) (Fa : Fld Z h0 a "com/example/deadlock_to_diagnosis/deadlocktodiagnosis/reader/LineScanner" "at" "I" (.int y1)) (ab : n0 ≤ a) :
    OCon l Z (⟨"com/example/deadlock_to_diagnosis/deadlocktodiagnosis/reader/LineScanner", "moveTo", "(I)V"⟩ : MethodName) prog_19_method_4_code 2 none ({ frames := 0, cells := 0, slots := 0, locals := 0 } : Room) #[(.ref a), (.int x1)] h0 (fun v h L => v = none ∧ Fr n0 L ∧ Keep h0 h [a] ∧ Fld Z h a "com/example/deadlock_to_diagnosis/deadlocktodiagnosis/reader/LineScanner" "line" "Ljava/lang/String;" (.ref b) ∧ Fld Z h a "com/example/deadlock_to_diagnosis/deadlocktodiagnosis/reader/LineScanner" "at" "I" (.int x1) ∧ Stt Z h cs fm) := by
  refine OConK.intro (y := (⟨"com/example/deadlock_to_diagnosis/deadlocktodiagnosis/reader/LineScanner", "moveTo", "(I)V"⟩ : MethodName)) (plainFor_of_name own_pn_com_example_deadlock_to_diagnosis_deadlocktodiagnosis_reader_LineScanner) (own_ef_rmMv a x1) ?_
  intro p e s m below meth c s₁ hx hby hml hown hnm hret hlk hZ X0 e0
  show OGoal p e below s _ _ _ (s₁.setTop (mkF m 0 #[.val (.ref a), .val (.int x1)] []))
  refine OGoal.mp (S' := (s₁.setTop (mkF m 1 #[.val (.ref a), .val (.int x1)] [(.ref a)]))) (fun _ k => XS.aloadN X0.here hx rfl (hb hby own_d_prog_19_method_4_code_0) rfl rfl k) ?_
  refine OGoal.mp (S' := (s₁.setTop (mkF m 2 #[.val (.ref a), .val (.int x1)] [(.int x1), (.ref a)]))) (fun _ k => XS.iloadN X0.here hx rfl (hb hby own_d_prog_19_method_4_code_1) rfl k) ?_
  obtain ⟨T1, h5, X2, e3, W6, st4⟩ := putF X0 hx hZ hown (host := "") (Or.inl (hw _ (List.mem_of_getElem? (i := 46) rfl))) Via.refl e0 Fa E (Or.inl (hw _ (List.mem_of_getElem? (i := 47) rfl))) (hw _ (List.mem_of_getElem? (i := 4) rfl)) (ty := .int) (by decide) rfl rfl (g := mkF m 2 #[.val (.ref a), .val (.int x1)] [(.int x1), (.ref a)]) rfl rfl (hb hby own_d_prog_19_method_4_code_2)
  have N7 := Fr.snoc X2 (Fr.nil n0) ab
  have Z8 : n0 ≤ h5.size := Nat.le_trans Z0 (Keep.of_wr W6).1
  have K9 : Keep h0 h5 [a] := (Keep.refl h0 [a]).wr W6 (Or.inl (by simp))
  have F10 := St.wr W6
  have F11 := Fn.other W6 (Or.inr (slot_ne (a0 := a0) (C := "com/example/deadlock_to_diagnosis/deadlocktodiagnosis/reader/LineScanner") (t := (.object "java/lang/String")) (t' := .int) (Or.inr (hw _ (List.mem_of_getElem? (i := 40) rfl))) (Or.inl (hw _ (List.mem_of_getElem? (i := 47) rfl))) (by decide) (by decide) (by decide)))
  have F12 := E.wr W6
  have F13 := Fa.same W6
  refine OGoal.mp (S' := (T1.setTop (mkF m 5 #[.val (.ref a), .val (.int x1)] []))) (fun _ k => st4 _ k) ?_
  refine oRetV X2 hx hlk hret (hb hby own_d_prog_19_method_4_code_5) ?_ (by decide) (by decide)
  rw [e3]; exact ⟨rfl, N7, K9, F11, F13, F10⟩
theorem own_d_prog_19_method_3_code_0 : decode prog_19_method_3_code 0 = .ok (.aload_n 0, 1) := by decide +kernel
theorem own_d_prog_19_method_3_code_1 : decode prog_19_method_3_code 1 = .ok (.getfield 13, 3) := by decide +kernel
theorem own_d_prog_19_method_3_code_4 : decode prog_19_method_3_code 4 = .ok (.ireturn, 1) := by decide +kernel
theorem own_ef_rmPo (x0 : Addr) (m : MethodId) : entryFrame m #[(.ref x0)] 1 = mkF m 0 #[.val (.ref x0)] [] := by first | (simp [entryFrame, mkF, argsToLocals, Value.category]; done) | rfl
set_option maxRecDepth 65536 in
set_option maxHeartbeats 40000000 in
theorem rmPo (l : Launch) (Z : State) (a0 : Array Value) (hw : ∀ d ∈ tables_1, d.before a0 Z = true) (a : Addr) (h0 : Heap) (n0 : Nat) (Z0 : n0 ≤ h0.size) (y1 : Int32) (Fa : Fld Z h0 a "com/example/deadlock_to_diagnosis/deadlocktodiagnosis/reader/LineScanner" "at" "I" (.int y1)) :
    OCon l Z (⟨"com/example/deadlock_to_diagnosis/deadlocktodiagnosis/reader/LineScanner", "position", "()I"⟩ : MethodName) prog_19_method_3_code 1 (some .int) ({ frames := 0, cells := 0, slots := 0, locals := 0 } : Room) #[(.ref a)] h0 (fun v h L => v = some (.int y1) ∧ Fr n0 L ∧ h = h0) := by
  refine OConK.intro (y := (⟨"com/example/deadlock_to_diagnosis/deadlocktodiagnosis/reader/LineScanner", "position", "()I"⟩ : MethodName)) (plainFor_of_name own_pn_com_example_deadlock_to_diagnosis_deadlocktodiagnosis_reader_LineScanner) (own_ef_rmPo a) ?_
  intro p e s m below meth c s₁ hx hby hml hown hnm hret hlk hZ X0 e0
  show OGoal p e below s _ _ _ (s₁.setTop (mkF m 0 #[.val (.ref a)] []))
  refine OGoal.mp (S' := (s₁.setTop (mkF m 1 #[.val (.ref a)] [(.ref a)]))) (fun _ k => XS.aloadN X0.here hx rfl (hb hby own_d_prog_19_method_3_code_0) rfl rfl k) ?_
  obtain ⟨T1, X2, e3, st4⟩ := getF X0 hx hZ hown (host := "") (Or.inl (hw _ (List.mem_of_getElem? (i := 46) rfl))) Via.refl e0 Fa (g := mkF m 1 #[.val (.ref a)] [(.ref a)]) rfl rfl (hb hby own_d_prog_19_method_3_code_1)
  refine OGoal.mp (S' := (T1.setTop (mkF m 4 #[.val (.ref a)] [(.int y1)]))) (fun _ k => st4 _ k) ?_
  refine oRetI X2 hx hlk hret (hb hby own_d_prog_19_method_3_code_4) ?_ (by decide) (by decide)
  exact ⟨rfl, (Fr.nil n0), e3⟩
theorem own_d_prog_19_method_19_code_0 : decode prog_19_method_19_code 0 = .ok (.iload_n 0, 1) := by decide +kernel
theorem own_d_prog_19_method_19_code_1 : decode prog_19_method_19_code 1 = .ok (.bipush 48, 2) := by decide +kernel
theorem own_d_prog_19_method_19_code_3 : decode prog_19_method_19_code 3 = .ok (.if_icmp .lt 13, 3) := by decide +kernel
theorem own_d_prog_19_method_19_code_16 : decode prog_19_method_19_code 16 = .ok (.iconst 0, 1) := by decide +kernel
theorem own_d_prog_19_method_19_code_17 : decode prog_19_method_19_code 17 = .ok (.ireturn, 1) := by decide +kernel
theorem own_d_prog_19_method_19_code_6 : decode prog_19_method_19_code 6 = .ok (.iload_n 0, 1) := by decide +kernel
theorem own_d_prog_19_method_19_code_7 : decode prog_19_method_19_code 7 = .ok (.bipush 57, 2) := by decide +kernel
theorem own_d_prog_19_method_19_code_9 : decode prog_19_method_19_code 9 = .ok (.if_icmp .gt 7, 3) := by decide +kernel
theorem own_d_prog_19_method_19_code_12 : decode prog_19_method_19_code 12 = .ok (.iconst 1, 1) := by decide +kernel
theorem own_d_prog_19_method_19_code_13 : decode prog_19_method_19_code 13 = .ok (.goto 4, 3) := by decide +kernel
theorem own_ef_rmDi (x0 : Int32) (m : MethodId) : entryFrame m #[(.int x0)] 1 = mkF m 0 #[.val (.int x0)] [] := by first | (simp [entryFrame, mkF, argsToLocals, Value.category]; done) | rfl
set_option maxRecDepth 65536 in
set_option maxHeartbeats 40000000 in
theorem rmDi (l : Launch) (Z : State) (a0 : Array Value) (hw : ∀ d ∈ tables_1, d.before a0 Z = true) (c' : Int32) (h0 : Heap) (n0 : Nat) (Z0 : n0 ≤ h0.size)  :
    OCon l Z (⟨"com/example/deadlock_to_diagnosis/deadlocktodiagnosis/reader/LineScanner", "isDigit", "(C)Z"⟩ : MethodName) prog_19_method_19_code 1 (some .boolean) ({ frames := 0, cells := 0, slots := 0, locals := 0 } : Room) #[(.int c')] h0 (fun v h L => v = some (.int (own_dg c')) ∧ Fr n0 L ∧ h = h0) := by
  refine OConK.intro (y := (⟨"com/example/deadlock_to_diagnosis/deadlocktodiagnosis/reader/LineScanner", "isDigit", "(C)Z"⟩ : MethodName)) (plainFor_of_name own_pn_com_example_deadlock_to_diagnosis_deadlocktodiagnosis_reader_LineScanner) (own_ef_rmDi c') ?_
  intro p e s m below meth c s₁ hx hby hml hown hnm hret hlk hZ X0 e0
  show OGoal p e below s _ _ _ (s₁.setTop (mkF m 0 #[.val (.int c')] []))
  refine OGoal.mp (S' := (s₁.setTop (mkF m 1 #[.val (.int c')] [(.int c')]))) (fun _ k => XS.iloadN X0.here hx rfl (hb hby own_d_prog_19_method_19_code_0) rfl k) ?_
  refine OGoal.mp (S' := (s₁.setTop (mkF m 3 #[.val (.int c')] [(.int (48 : Int32)), (.int c')]))) (fun _ k => XS.bipush X0.here hx rfl (hb hby own_d_prog_19_method_19_code_1) k) ?_
  by_cases hc1 : c' < (48 : Int32)
  · refine OGoal.mp (S' := (s₁.setTop (mkF m 16 #[.val (.int c')] []))) (fun _ k => XS.icmpYes X0.here hx rfl (pc0 := 3) (pc' := 16) rfl (hb hby own_d_prog_19_method_19_code_3) rfl (XT.ii_lt_t hc1) (by decide) (by decide) k) ?_
    refine OGoal.mp (S' := (s₁.setTop (mkF m 17 #[.val (.int c')] [(.int (0 : Int32))]))) (fun _ k => XS.iconst X0.here hx rfl (hb hby own_d_prog_19_method_19_code_16) k) ?_
    refine oRetZ X0 hx hlk hret (Or.inl rfl) (hb hby own_d_prog_19_method_19_code_17) ?_ (by decide) (by decide)
    exact ⟨by unfold own_dg; rw [if_pos hc1], (Fr.nil n0), e0⟩
  · refine OGoal.mp (S' := (s₁.setTop (mkF m 6 #[.val (.int c')] []))) (fun _ k => XS.icmpNo X0.here hx rfl (hb hby own_d_prog_19_method_19_code_3) rfl (XT.ii_lt_f hc1) k) ?_
    refine OGoal.mp (S' := (s₁.setTop (mkF m 7 #[.val (.int c')] [(.int c')]))) (fun _ k => XS.iloadN X0.here hx rfl (hb hby own_d_prog_19_method_19_code_6) rfl k) ?_
    refine OGoal.mp (S' := (s₁.setTop (mkF m 9 #[.val (.int c')] [(.int (57 : Int32)), (.int c')]))) (fun _ k => XS.bipush X0.here hx rfl (hb hby own_d_prog_19_method_19_code_7) k) ?_
    by_cases hc2 : (57 : Int32) < c'
    · refine OGoal.mp (S' := (s₁.setTop (mkF m 16 #[.val (.int c')] []))) (fun _ k => XS.icmpYes X0.here hx rfl (pc0 := 9) (pc' := 16) rfl (hb hby own_d_prog_19_method_19_code_9) rfl (XT.ii_gt_t hc2) (by decide) (by decide) k) ?_
      refine OGoal.mp (S' := (s₁.setTop (mkF m 17 #[.val (.int c')] [(.int (0 : Int32))]))) (fun _ k => XS.iconst X0.here hx rfl (hb hby own_d_prog_19_method_19_code_16) k) ?_
      refine oRetZ X0 hx hlk hret (Or.inl rfl) (hb hby own_d_prog_19_method_19_code_17) ?_ (by decide) (by decide)
      exact ⟨by unfold own_dg; rw [if_neg hc1, if_pos hc2], (Fr.nil n0), e0⟩
    · refine OGoal.mp (S' := (s₁.setTop (mkF m 12 #[.val (.int c')] []))) (fun _ k => XS.icmpNo X0.here hx rfl (hb hby own_d_prog_19_method_19_code_9) rfl (XT.ii_gt_f hc2) k) ?_
      refine OGoal.mp (S' := (s₁.setTop (mkF m 13 #[.val (.int c')] [(.int (1 : Int32))]))) (fun _ k => XS.iconst X0.here hx rfl (hb hby own_d_prog_19_method_19_code_12) k) ?_
      refine OGoal.mp (S' := (s₁.setTop (mkF m 17 #[.val (.int c')] [(.int (1 : Int32))]))) (fun _ k => XS.goto X0.here hx rfl (pc0 := 13) (pc' := 17) rfl (hb hby own_d_prog_19_method_19_code_13) (by decide) (by decide) k) ?_
      refine oRetZ X0 hx hlk hret (Or.inr rfl) (hb hby own_d_prog_19_method_19_code_17) ?_ (by decide) (by decide)
      exact ⟨by unfold own_dg; rw [if_neg hc1, if_neg hc2], (Fr.nil n0), e0⟩
theorem own_d_method_3_code_0 : decode method_3_code 0 = .ok (.iload_n 0, 1) := by decide +kernel
theorem own_d_method_3_code_1 : decode method_3_code 1 = .ok (.bipush 48, 2) := by decide +kernel
theorem own_d_method_3_code_3 : decode method_3_code 3 = .ok (.isub, 1) := by decide +kernel
theorem own_d_method_3_code_4 : decode method_3_code 4 = .ok (.istore_n 1, 1) := by decide +kernel
theorem own_d_method_3_code_5 : decode method_3_code 5 = .ok (.iload_n 1, 1) := by decide +kernel
theorem own_d_method_3_code_6 : decode method_3_code 6 = .ok (.ifCond .lt 13, 3) := by decide +kernel
theorem own_d_method_3_code_19 : decode method_3_code 19 = .ok (.iconst 0, 1) := by decide +kernel
theorem own_d_method_3_code_20 : decode method_3_code 20 = .ok (.ireturn, 1) := by decide +kernel
theorem own_d_method_3_code_9 : decode method_3_code 9 = .ok (.iload_n 1, 1) := by decide +kernel
theorem own_d_method_3_code_10 : decode method_3_code 10 = .ok (.bipush 9, 2) := by decide +kernel
theorem own_d_method_3_code_12 : decode method_3_code 12 = .ok (.if_icmp .gt 7, 3) := by decide +kernel
theorem own_d_method_3_code_15 : decode method_3_code 15 = .ok (.iconst 1, 1) := by decide +kernel
theorem own_d_method_3_code_16 : decode method_3_code 16 = .ok (.goto 4, 3) := by decide +kernel
theorem own_pn_com_example_deadlock_to_diagnosis_deadlocktodiagnosis_reader_LineScannerDigitsPinLaw : plainName "com/example/deadlock_to_diagnosis/deadlocktodiagnosis/reader/LineScannerDigitsPinLaw" = true := by first | (simp [plainName, overriddenIn]; done) | decide +kernel
theorem own_ef_rmAd (x0 : Int32) (m : MethodId) : entryFrame m #[(.int x0)] 2 = mkF m 0 #[.val (.int x0), .unset] [] := by first | (simp [entryFrame, mkF, argsToLocals, Value.category]; done) | rfl
set_option maxRecDepth 65536 in
set_option maxHeartbeats 40000000 in
theorem rmAd (l : Launch) (Z : State) (a0 : Array Value) (hw : ∀ d ∈ tables_1, d.before a0 Z = true) (c' : Int32) (h0 : Heap) (n0 : Nat) (Z0 : n0 ≤ h0.size) (hc0 : 0 ≤ c'.toInt) (hc1 : c'.toInt < 65536) :
    OCon l Z (⟨"com/example/deadlock_to_diagnosis/deadlocktodiagnosis/reader/LineScannerDigitsPinLaw", "isAsciiDigit", "(C)Z"⟩ : MethodName) method_3_code 2 (some .boolean) ({ frames := 0, cells := 0, slots := 0, locals := 0 } : Room) #[(.int c')] h0 (fun v h L => v = some (.int (own_dg c')) ∧ Fr n0 L ∧ h = h0) := by
  refine OConK.intro (y := (⟨"com/example/deadlock_to_diagnosis/deadlocktodiagnosis/reader/LineScannerDigitsPinLaw", "isAsciiDigit", "(C)Z"⟩ : MethodName)) (plainFor_of_name own_pn_com_example_deadlock_to_diagnosis_deadlocktodiagnosis_reader_LineScannerDigitsPinLaw) (own_ef_rmAd c') ?_
  intro p e s m below meth c s₁ hx hby hml hown hnm hret hlk hZ X0 e0
  show OGoal p e below s _ _ _ (s₁.setTop (mkF m 0 #[.val (.int c'), .unset] []))
  refine OGoal.mp (S' := (s₁.setTop (mkF m 1 #[.val (.int c'), .unset] [(.int c')]))) (fun _ k => XS.iloadN X0.here hx rfl (hb hby own_d_method_3_code_0) rfl k) ?_
  refine OGoal.mp (S' := (s₁.setTop (mkF m 3 #[.val (.int c'), .unset] [(.int (48 : Int32)), (.int c')]))) (fun _ k => XS.bipush X0.here hx rfl (hb hby own_d_method_3_code_1) k) ?_
  refine OGoal.mp (S' := (s₁.setTop (mkF m 4 #[.val (.int c'), .unset] [(.int (c' - (48 : Int32)))]))) (fun _ k => XS.isub X0.here hx rfl (hb hby own_d_method_3_code_3) rfl k) ?_
  refine OGoal.mp (S' := (s₁.setTop (mkF m 5 #[.val (.int c'), .val (.int (c' - (48 : Int32)))] []))) (fun _ k => XS.istoreN X0.here hx rfl (hb hby own_d_method_3_code_4) rfl (l' := #[.val (.int c'), .val (.int (c' - (48 : Int32)))]) rfl k) ?_
  refine OGoal.mp (S' := (s₁.setTop (mkF m 6 #[.val (.int c'), .val (.int (c' - (48 : Int32)))] [(.int (c' - (48 : Int32)))]))) (fun _ k => XS.iloadN X0.here hx rfl (hb hby own_d_method_3_code_5) rfl k) ?_
  by_cases hc1 : (c' - (48 : Int32)) < 0
  · refine OGoal.mp (S' := (s₁.setTop (mkF m 19 #[.val (.int c'), .val (.int (c' - (48 : Int32)))] []))) (fun _ k => XS.ifYes X0.here hx rfl (pc0 := 6) (pc' := 19) rfl (hb hby own_d_method_3_code_6) rfl (XT.i0_lt_t hc1) (by decide) (by decide) k) ?_
    refine OGoal.mp (S' := (s₁.setTop (mkF m 20 #[.val (.int c'), .val (.int (c' - (48 : Int32)))] [(.int (0 : Int32))]))) (fun _ k => XS.iconst X0.here hx rfl (hb hby own_d_method_3_code_19) k) ?_
    refine oRetZ X0 hx hlk hret (Or.inl rfl) (hb hby own_d_method_3_code_20) ?_ (by decide) (by decide)
    have t1 := c_isub c' 48
    have t2 := rng32 (c' - 48)
    have l48 : (48 : Int32).toInt = 48 := by decide
    have l57 : (57 : Int32).toInt = 57 := by decide
    have l9 : (9 : Int32).toInt = 9 := by decide
    have l0 : (0 : Int32).toInt = 0 := by decide
    have g2 := oLt hc1
    exact ⟨by unfold own_dg; rw [if_pos (mLt (by omega))], (Fr.nil n0), e0⟩
  · refine OGoal.mp (S' := (s₁.setTop (mkF m 9 #[.val (.int c'), .val (.int (c' - (48 : Int32)))] []))) (fun _ k => XS.ifNo X0.here hx rfl (hb hby own_d_method_3_code_6) rfl (XT.i0_lt_f hc1) k) ?_
    refine OGoal.mp (S' := (s₁.setTop (mkF m 10 #[.val (.int c'), .val (.int (c' - (48 : Int32)))] [(.int (c' - (48 : Int32)))]))) (fun _ k => XS.iloadN X0.here hx rfl (hb hby own_d_method_3_code_9) rfl k) ?_
    refine OGoal.mp (S' := (s₁.setTop (mkF m 12 #[.val (.int c'), .val (.int (c' - (48 : Int32)))] [(.int (9 : Int32)), (.int (c' - (48 : Int32)))]))) (fun _ k => XS.bipush X0.here hx rfl (hb hby own_d_method_3_code_10) k) ?_
    by_cases hc3 : (9 : Int32) < (c' - (48 : Int32))
    · refine OGoal.mp (S' := (s₁.setTop (mkF m 19 #[.val (.int c'), .val (.int (c' - (48 : Int32)))] []))) (fun _ k => XS.icmpYes X0.here hx rfl (pc0 := 12) (pc' := 19) rfl (hb hby own_d_method_3_code_12) rfl (XT.ii_gt_t hc3) (by decide) (by decide) k) ?_
      refine OGoal.mp (S' := (s₁.setTop (mkF m 20 #[.val (.int c'), .val (.int (c' - (48 : Int32)))] [(.int (0 : Int32))]))) (fun _ k => XS.iconst X0.here hx rfl (hb hby own_d_method_3_code_19) k) ?_
      refine oRetZ X0 hx hlk hret (Or.inl rfl) (hb hby own_d_method_3_code_20) ?_ (by decide) (by decide)
      have t1 := c_isub c' 48
      have t2 := rng32 (c' - 48)
      have l48 : (48 : Int32).toInt = 48 := by decide
      have l57 : (57 : Int32).toInt = 57 := by decide
      have l9 : (9 : Int32).toInt = 9 := by decide
      have l0 : (0 : Int32).toInt = 0 := by decide
      have g4 := oNlt hc1
      have g5 := oLt hc3
      exact ⟨by unfold own_dg; rw [if_neg (mNlt (by omega)), if_pos (mLt (by omega))], (Fr.nil n0), e0⟩
    · refine OGoal.mp (S' := (s₁.setTop (mkF m 15 #[.val (.int c'), .val (.int (c' - (48 : Int32)))] []))) (fun _ k => XS.icmpNo X0.here hx rfl (hb hby own_d_method_3_code_12) rfl (XT.ii_gt_f hc3) k) ?_
      refine OGoal.mp (S' := (s₁.setTop (mkF m 16 #[.val (.int c'), .val (.int (c' - (48 : Int32)))] [(.int (1 : Int32))]))) (fun _ k => XS.iconst X0.here hx rfl (hb hby own_d_method_3_code_15) k) ?_
      refine OGoal.mp (S' := (s₁.setTop (mkF m 20 #[.val (.int c'), .val (.int (c' - (48 : Int32)))] [(.int (1 : Int32))]))) (fun _ k => XS.goto X0.here hx rfl (pc0 := 16) (pc' := 20) rfl (hb hby own_d_method_3_code_16) (by decide) (by decide) k) ?_
      refine oRetZ X0 hx hlk hret (Or.inr rfl) (hb hby own_d_method_3_code_20) ?_ (by decide) (by decide)
      have t1 := c_isub c' 48
      have t2 := rng32 (c' - 48)
      have l48 : (48 : Int32).toInt = 48 := by decide
      have l57 : (57 : Int32).toInt = 57 := by decide
      have l9 : (9 : Int32).toInt = 9 := by decide
      have l0 : (0 : Int32).toInt = 0 := by decide
      have g6 := oNlt hc1
      have g7 := oNlt hc3
      exact ⟨by unfold own_dg; rw [if_neg (mNlt (by omega)), if_neg (mNlt (by omega))], (Fr.nil n0), e0⟩
def Q_dg (Z : State) (f : Nat → Int32) (a : Addr) (q few most : Int32) (h0 : Heap) (n0 : Nat) (v : Option Value) (h : Heap) (L : List Loc) : Prop := v = some (.int (own_res (Int32.ofNat (own_run f (4 - q.toInt.toNat) q.toInt.toNat)) few most)) ∧ Fr n0 L ∧ Keep h0 h [a] ∧ Fld Z h a "com/example/deadlock_to_diagnosis/deadlocktodiagnosis/reader/LineScanner" "at" "I" (.int (own_at q (Int32.ofNat (own_run f (4 - q.toInt.toNat) q.toInt.toNat)) few most))
theorem own_d_prog_19_method_10_code_0 : decode prog_19_method_10_code 0 = .ok (.aload_n 0, 1) := by decide +kernel
theorem own_d_prog_19_method_10_code_1 : decode prog_19_method_10_code 1 = .ok (.getfield 13, 3) := by decide +kernel
theorem own_d_prog_19_method_10_code_4 : decode prog_19_method_10_code 4 = .ok (.istore_n 3, 1) := by decide +kernel
theorem own_d_prog_19_method_10_code_5 : decode prog_19_method_10_code 5 = .ok (.iload_n 3, 1) := by decide +kernel
theorem own_d_prog_19_method_10_code_6 : decode prog_19_method_10_code 6 = .ok (.aload_n 0, 1) := by decide +kernel
theorem own_d_prog_19_method_10_code_7 : decode prog_19_method_10_code 7 = .ok (.getfield 7, 3) := by decide +kernel
theorem own_d_prog_19_method_10_code_10 : decode prog_19_method_10_code 10 = .ok (.invokevirtual 17, 3) := by decide +kernel
theorem own_pd___I : parseMethodDescriptor "()I" = some ⟨[], some .int⟩ := by decide +kernel
theorem own_d_prog_19_method_10_code_13 : decode prog_19_method_10_code 13 = .ok (.if_icmp .ge 23, 3) := by decide +kernel
theorem own_d_prog_19_method_10_code_16 : decode prog_19_method_10_code 16 = .ok (.aload_n 0, 1) := by decide +kernel
theorem own_d_prog_19_method_10_code_17 : decode prog_19_method_10_code 17 = .ok (.getfield 7, 3) := by decide +kernel
theorem own_d_prog_19_method_10_code_20 : decode prog_19_method_10_code 20 = .ok (.iload_n 3, 1) := by decide +kernel
theorem own_d_prog_19_method_10_code_21 : decode prog_19_method_10_code 21 = .ok (.invokevirtual 35, 3) := by decide +kernel
theorem own_pd__I_C : parseMethodDescriptor "(I)C" = some ⟨[.int], some .char⟩ := by decide +kernel
theorem own_d_prog_19_method_10_code_24 : decode prog_19_method_10_code 24 = .ok (.invokestatic 43, 3) := by decide +kernel
theorem own_pd__C_Z : parseMethodDescriptor "(C)Z" = some ⟨[.char], some .boolean⟩ := by decide +kernel
theorem own_d_prog_19_method_10_code_27 : decode prog_19_method_10_code 27 = .ok (.ifCond .eq 9, 3) := by decide +kernel
theorem own_d_prog_19_method_10_code_36 : decode prog_19_method_10_code 36 = .ok (.iload_n 3, 1) := by decide +kernel
theorem own_d_prog_19_method_10_code_37 : decode prog_19_method_10_code 37 = .ok (.aload_n 0, 1) := by decide +kernel
theorem own_d_prog_19_method_10_code_38 : decode prog_19_method_10_code 38 = .ok (.getfield 13, 3) := by decide +kernel
theorem own_d_prog_19_method_10_code_41 : decode prog_19_method_10_code 41 = .ok (.isub, 1) := by decide +kernel
theorem own_d_prog_19_method_10_code_42 : decode prog_19_method_10_code 42 = .ok (.iload_n 1, 1) := by decide +kernel
theorem own_d_prog_19_method_10_code_43 : decode prog_19_method_10_code 43 = .ok (.if_icmp .lt 17, 3) := by decide +kernel
theorem own_d_prog_19_method_10_code_60 : decode prog_19_method_10_code 60 = .ok (.iconst 0, 1) := by decide +kernel
theorem own_d_prog_19_method_10_code_61 : decode prog_19_method_10_code 61 = .ok (.istore 4, 2) := by decide +kernel
theorem own_d_prog_19_method_10_code_63 : decode prog_19_method_10_code 63 = .ok (.iload 4, 2) := by decide +kernel
theorem own_d_prog_19_method_10_code_65 : decode prog_19_method_10_code 65 = .ok (.ifCond .eq 8, 3) := by decide +kernel
theorem own_d_prog_19_method_10_code_73 : decode prog_19_method_10_code 73 = .ok (.iload 4, 2) := by decide +kernel
theorem own_d_prog_19_method_10_code_75 : decode prog_19_method_10_code 75 = .ok (.ireturn, 1) := by decide +kernel
theorem own_d_prog_19_method_10_code_46 : decode prog_19_method_10_code 46 = .ok (.iload_n 3, 1) := by decide +kernel
theorem own_d_prog_19_method_10_code_47 : decode prog_19_method_10_code 47 = .ok (.aload_n 0, 1) := by decide +kernel
theorem own_d_prog_19_method_10_code_48 : decode prog_19_method_10_code 48 = .ok (.getfield 13, 3) := by decide +kernel
theorem own_d_prog_19_method_10_code_51 : decode prog_19_method_10_code 51 = .ok (.isub, 1) := by decide +kernel
theorem own_d_prog_19_method_10_code_52 : decode prog_19_method_10_code 52 = .ok (.iload_n 2, 1) := by decide +kernel
theorem own_d_prog_19_method_10_code_53 : decode prog_19_method_10_code 53 = .ok (.if_icmp .gt 7, 3) := by decide +kernel
theorem own_d_prog_19_method_10_code_56 : decode prog_19_method_10_code 56 = .ok (.iconst 1, 1) := by decide +kernel
theorem own_d_prog_19_method_10_code_57 : decode prog_19_method_10_code 57 = .ok (.goto 4, 3) := by decide +kernel
theorem own_d_prog_19_method_10_code_68 : decode prog_19_method_10_code 68 = .ok (.aload_n 0, 1) := by decide +kernel
theorem own_d_prog_19_method_10_code_69 : decode prog_19_method_10_code 69 = .ok (.iload_n 3, 1) := by decide +kernel
theorem own_d_prog_19_method_10_code_70 : decode prog_19_method_10_code 70 = .ok (.putfield 13, 3) := by decide +kernel
theorem own_d_prog_19_method_10_code_30 : decode prog_19_method_10_code 30 = .ok (.iinc 3 1, 3) := by decide +kernel
theorem own_d_prog_19_method_10_code_33 : decode prog_19_method_10_code 33 = .ok (.goto (-28), 3) := by decide +kernel
theorem own_ef_rmDg0 (x0 : Addr) (x1 : Int32) (x2 : Int32) (m : MethodId) : entryFrame m #[(.ref x0), (.int x1), (.int x2)] 5 = mkF m 0 #[.val (.ref x0), .val (.int x1), .val (.int x2), .unset, .unset] [] := by first | (simp [entryFrame, mkF, argsToLocals, Value.category]; done) | rfl
set_option maxRecDepth 65536 in
set_option maxHeartbeats 40000000 in
theorem rmDg0 (l : Launch) (Z : State) (a0 : Array Value) (hw : ∀ d ∈ tables_1, d.before a0 Z = true) (a : Addr) (few most : Int32) (h0 : Heap) (n0 : Nat) (Z0 : n0 ≤ h0.size) (cs : Int32) (fm : Value) (hcs : ¬ cs = 0) (hfm : fm.isRef = true) (St : Stt Z h0 cs fm) (b : Addr) (f : Nat → Int32) (hC : Ch f) (hS : Str4 Z h0 b f) (E : Exa Z h0 a "com/example/deadlock_to_diagnosis/deadlocktodiagnosis/reader/LineScanner") (Fn : Fld Z h0 a "com/example/deadlock_to_diagnosis/deadlocktodiagnosis/reader/LineScanner" "line" "Ljava/lang/String;" (.ref b)) (Fa : Fld Z h0 a "com/example/deadlock_to_diagnosis/deadlocktodiagnosis/reader/LineScanner" "at" "I" (.int (0 : Int32))) (ab : n0 ≤ a) :
    OCon l Z (⟨"com/example/deadlock_to_diagnosis/deadlocktodiagnosis/reader/LineScanner", "digits", "(II)Z"⟩ : MethodName) prog_19_method_10_code 5 (some .boolean) ({ frames := 8, cells := 0, slots := 0, locals := 150 } : Room) #[(.ref a), (.int few), (.int most)] h0 (Q_dg Z f a (0 : Int32) few most h0 n0) := by
  refine OConK.intro (y := (⟨"com/example/deadlock_to_diagnosis/deadlocktodiagnosis/reader/LineScanner", "digits", "(II)Z"⟩ : MethodName)) (plainFor_of_name own_pn_com_example_deadlock_to_diagnosis_deadlocktodiagnosis_reader_LineScanner) (own_ef_rmDg0 a few most) ?_
  intro p e s m below meth c s₁ hx hby hml hown hnm hret hlk hZ X0 e0
  show OGoal p e below s _ _ _ (s₁.setTop (mkF m 0 #[.val (.ref a), .val (.int few), .val (.int most), .unset, .unset] []))
  refine OGoal.mp (S' := (s₁.setTop (mkF m 1 #[.val (.ref a), .val (.int few), .val (.int most), .unset, .unset] [(.ref a)]))) (fun _ k => XS.aloadN X0.here hx rfl (hb hby own_d_prog_19_method_10_code_0) rfl rfl k) ?_
  obtain ⟨T1, X2, e3, st4⟩ := getF X0 hx hZ hown (host := "") (Or.inl (hw _ (List.mem_of_getElem? (i := 46) rfl))) Via.refl e0 Fa (g := mkF m 1 #[.val (.ref a), .val (.int few), .val (.int most), .unset, .unset] [(.ref a)]) rfl rfl (hb hby own_d_prog_19_method_10_code_1)
  refine OGoal.mp (S' := (T1.setTop (mkF m 4 #[.val (.ref a), .val (.int few), .val (.int most), .unset, .unset] [(.int (0 : Int32))]))) (fun _ k => st4 _ k) ?_
  refine OGoal.mp (S' := (T1.setTop (mkF m 5 #[.val (.ref a), .val (.int few), .val (.int most), .val (.int (0 : Int32)), .unset] []))) (fun _ k => XS.istoreN X2.here hx rfl (hb hby own_d_prog_19_method_10_code_4) rfl (l' := #[.val (.ref a), .val (.int few), .val (.int most), .val (.int (0 : Int32)), .unset]) rfl k) ?_
  refine OGoal.mp (S' := (T1.setTop (mkF m 6 #[.val (.ref a), .val (.int few), .val (.int most), .val (.int (0 : Int32)), .unset] [(.int (0 : Int32))]))) (fun _ k => XS.iloadN X2.here hx rfl (hb hby own_d_prog_19_method_10_code_5) rfl k) ?_
  refine OGoal.mp (S' := (T1.setTop (mkF m 7 #[.val (.ref a), .val (.int few), .val (.int most), .val (.int (0 : Int32)), .unset] [(.ref a), (.int (0 : Int32))]))) (fun _ k => XS.aloadN X2.here hx rfl (hb hby own_d_prog_19_method_10_code_6) rfl rfl k) ?_
  obtain ⟨T5, X6, e7, st8⟩ := getF X2 hx hZ hown (host := "") (Or.inl (hw _ (List.mem_of_getElem? (i := 39) rfl))) Via.refl e3 Fn (g := mkF m 7 #[.val (.ref a), .val (.int few), .val (.int most), .val (.int (0 : Int32)), .unset] [(.ref a), (.int (0 : Int32))]) rfl rfl (hb hby own_d_prog_19_method_10_code_7)
  refine OGoal.mp (S' := (T5.setTop (mkF m 10 #[.val (.ref a), .val (.int few), .val (.int most), .val (.int (0 : Int32)), .unset] [(.ref b), (.int (0 : Int32))]))) (fun _ k => st8 _ k) ?_
  refine oCallV (y := (⟨"java/lang/String", "length", "()I"⟩ : MethodName)) (z := (⟨"java/lang/String", "length", "()I"⟩ : MethodName)) X6 hx hZ hown (hw _ (List.mem_of_getElem? (i := 53) rfl)) (hw _ (List.mem_of_getElem? (i := 54) rfl)) (hw _ (List.mem_of_getElem? (i := 56) rfl)) (hw _ (List.mem_of_getElem? (i := 55) rfl)) (hw _ (List.mem_of_getElem? (i := 8) rfl)) (hw _ (List.mem_of_getElem? (i := 57) rfl)) (by decide) (rmLn l Z a0 hw b h0 n0 Z0 cs fm hcs hfm St f hS) e7 hS.exa [] [(.int (0 : Int32))] rfl rfl (by rw [hml]; rfl) (notFace_of_selects (args := #[]) (mvT hZ (hw _ (List.mem_of_getElem? (i := 56) rfl)))) (lenOf own_pd___I rfl) 1 (Nat.le_of_eq rfl) (by decide) (by decide) (by decide) (by decide) (hb hby own_d_prog_19_method_10_code_10) ?_
  intro v9 T10 L11 X12 q13
  obtain ⟨rfl, N14, e15⟩ := q13
  have N16 := Fr.app (Fr.nil n0) N14
  show OGoal p e below s _ _ _ (T10.setTop (mkF m 13 #[.val (.ref a), .val (.int few), .val (.int most), .val (.int (0 : Int32)), .unset] [(.int (4 : Int32)), (.int (0 : Int32))]))
  refine OGoal.mp (S' := (T10.setTop (mkF m 16 #[.val (.ref a), .val (.int few), .val (.int most), .val (.int (0 : Int32)), .unset] []))) (fun _ k => XS.icmpNo X12.here hx rfl (hb hby own_d_prog_19_method_10_code_13) rfl (XT.ii_ge_f (by decide)) k) ?_
  refine OGoal.mp (S' := (T10.setTop (mkF m 17 #[.val (.ref a), .val (.int few), .val (.int most), .val (.int (0 : Int32)), .unset] [(.ref a)]))) (fun _ k => XS.aloadN X12.here hx rfl (hb hby own_d_prog_19_method_10_code_16) rfl rfl k) ?_
  obtain ⟨T17, X18, e19, st20⟩ := getF X12 hx hZ hown (host := "") (Or.inl (hw _ (List.mem_of_getElem? (i := 39) rfl))) Via.refl e15 Fn (g := mkF m 17 #[.val (.ref a), .val (.int few), .val (.int most), .val (.int (0 : Int32)), .unset] [(.ref a)]) rfl rfl (hb hby own_d_prog_19_method_10_code_17)
  refine OGoal.mp (S' := (T17.setTop (mkF m 20 #[.val (.ref a), .val (.int few), .val (.int most), .val (.int (0 : Int32)), .unset] [(.ref b)]))) (fun _ k => st20 _ k) ?_
  refine OGoal.mp (S' := (T17.setTop (mkF m 21 #[.val (.ref a), .val (.int few), .val (.int most), .val (.int (0 : Int32)), .unset] [(.int (0 : Int32)), (.ref b)]))) (fun _ k => XS.iloadN X18.here hx rfl (hb hby own_d_prog_19_method_10_code_20) rfl k) ?_
  refine oCallV (y := (⟨"java/lang/String", "charAt", "(I)C"⟩ : MethodName)) (z := (⟨"java/lang/String", "charAt", "(I)C"⟩ : MethodName)) X18 hx hZ hown (hw _ (List.mem_of_getElem? (i := 63) rfl)) (hw _ (List.mem_of_getElem? (i := 64) rfl)) (hw _ (List.mem_of_getElem? (i := 66) rfl)) (hw _ (List.mem_of_getElem? (i := 65) rfl)) (hw _ (List.mem_of_getElem? (i := 8) rfl)) (hw _ (List.mem_of_getElem? (i := 67) rfl)) (by decide) (rmCA l Z a0 hw b (0 : Int32) h0 n0 Z0 cs fm hcs hfm St f hC hS (by decide) (by decide)) e19 hS.exa [(.int (0 : Int32))] [] rfl rfl (by rw [hml]; rfl) (notFace_of_selects (args := #[]) (mvT hZ (hw _ (List.mem_of_getElem? (i := 66) rfl)))) (lenOf own_pd__I_C rfl) 0 (Nat.le_of_eq rfl) (by decide) (by decide) (by decide) (by decide) (hb hby own_d_prog_19_method_10_code_21) ?_
  intro v21 T22 L23 X24 q25
  obtain ⟨rfl, N26, e27⟩ := q25
  have N28 := Fr.app N16 N26
  show OGoal p e below s _ _ _ (T22.setTop (mkF m 24 #[.val (.ref a), .val (.int few), .val (.int most), .val (.int (0 : Int32)), .unset] [(.int (f (0 : Int32).toInt.toNat))]))
  refine oCallS (y := (⟨"com/example/deadlock_to_diagnosis/deadlocktodiagnosis/reader/LineScanner", "isDigit", "(C)Z"⟩ : MethodName)) X24 hx hZ hown (hw _ (List.mem_of_getElem? (i := 85) rfl)) (hw _ (List.mem_of_getElem? (i := 86) rfl)) (hw _ (List.mem_of_getElem? (i := 5) rfl)) (hw _ (List.mem_of_getElem? (i := 87) rfl)) (by decide) (rmDi l Z a0 hw (f (0 : Int32).toInt.toNat) h0 n0 Z0) e27 [(.int (f (0 : Int32).toInt.toNat))] [] rfl rfl (by rw [hml]; rfl) (lenOf own_pd__C_Z rfl) 0 (Nat.le_of_eq rfl) (by decide) (by decide) (by decide) (by decide) (hb hby own_d_prog_19_method_10_code_24) ?_
  intro v29 T30 L31 X32 q33
  obtain ⟨rfl, N34, e35⟩ := q33
  have N36 := Fr.app N28 N34
  show OGoal p e below s _ _ _ (T30.setTop (mkF m 27 #[.val (.ref a), .val (.int few), .val (.int most), .val (.int (0 : Int32)), .unset] [(.int (own_dg (f (0 : Int32).toInt.toNat)))]))
  by_cases hc37 : (own_dg (f (0 : Int32).toInt.toNat)) = 0
  · refine OGoal.mp (S' := (T30.setTop (mkF m 36 #[.val (.ref a), .val (.int few), .val (.int most), .val (.int (0 : Int32)), .unset] []))) (fun _ k => XS.ifYes X32.here hx rfl (pc0 := 27) (pc' := 36) rfl (hb hby own_d_prog_19_method_10_code_27) rfl (XT.i0_eq_t hc37) (by decide) (by decide) k) ?_
    refine OGoal.mp (S' := (T30.setTop (mkF m 37 #[.val (.ref a), .val (.int few), .val (.int most), .val (.int (0 : Int32)), .unset] [(.int (0 : Int32))]))) (fun _ k => XS.iloadN X32.here hx rfl (hb hby own_d_prog_19_method_10_code_36) rfl k) ?_
    refine OGoal.mp (S' := (T30.setTop (mkF m 38 #[.val (.ref a), .val (.int few), .val (.int most), .val (.int (0 : Int32)), .unset] [(.ref a), (.int (0 : Int32))]))) (fun _ k => XS.aloadN X32.here hx rfl (hb hby own_d_prog_19_method_10_code_37) rfl rfl k) ?_
    obtain ⟨T38, X39, e40, st41⟩ := getF X32 hx hZ hown (host := "") (Or.inl (hw _ (List.mem_of_getElem? (i := 46) rfl))) Via.refl e35 Fa (g := mkF m 38 #[.val (.ref a), .val (.int few), .val (.int most), .val (.int (0 : Int32)), .unset] [(.ref a), (.int (0 : Int32))]) rfl rfl (hb hby own_d_prog_19_method_10_code_38)
    refine OGoal.mp (S' := (T38.setTop (mkF m 41 #[.val (.ref a), .val (.int few), .val (.int most), .val (.int (0 : Int32)), .unset] [(.int (0 : Int32)), (.int (0 : Int32))]))) (fun _ k => st41 _ k) ?_
    refine OGoal.mp (S' := (T38.setTop (mkF m 42 #[.val (.ref a), .val (.int few), .val (.int most), .val (.int (0 : Int32)), .unset] [(.int ((0 : Int32) - (0 : Int32)))]))) (fun _ k => XS.isub X39.here hx rfl (hb hby own_d_prog_19_method_10_code_41) rfl k) ?_
    rw [show ((0 : Int32) - (0 : Int32)) = (0 : Int32) by decide]
    show OGoal p e below s _ _ _ (T38.setTop (mkF m 42 #[.val (.ref a), .val (.int few), .val (.int most), .val (.int (0 : Int32)), .unset] [(.int (0 : Int32))]))
    refine OGoal.mp (S' := (T38.setTop (mkF m 43 #[.val (.ref a), .val (.int few), .val (.int most), .val (.int (0 : Int32)), .unset] [(.int few), (.int (0 : Int32))]))) (fun _ k => XS.iloadN X39.here hx rfl (hb hby own_d_prog_19_method_10_code_42) rfl k) ?_
    by_cases hc42 : (0 : Int32) < few
    · refine OGoal.mp (S' := (T38.setTop (mkF m 60 #[.val (.ref a), .val (.int few), .val (.int most), .val (.int (0 : Int32)), .unset] []))) (fun _ k => XS.icmpYes X39.here hx rfl (pc0 := 43) (pc' := 60) rfl (hb hby own_d_prog_19_method_10_code_43) rfl (XT.ii_lt_t hc42) (by decide) (by decide) k) ?_
      refine OGoal.mp (S' := (T38.setTop (mkF m 61 #[.val (.ref a), .val (.int few), .val (.int most), .val (.int (0 : Int32)), .unset] [(.int (0 : Int32))]))) (fun _ k => XS.iconst X39.here hx rfl (hb hby own_d_prog_19_method_10_code_60) k) ?_
      refine OGoal.mp (S' := (T38.setTop (mkF m 63 #[.val (.ref a), .val (.int few), .val (.int most), .val (.int (0 : Int32)), .val (.int (0 : Int32))] []))) (fun _ k => XS.istore X39.here hx rfl (hb hby own_d_prog_19_method_10_code_61) rfl (l' := #[.val (.ref a), .val (.int few), .val (.int most), .val (.int (0 : Int32)), .val (.int (0 : Int32))]) rfl k) ?_
      refine OGoal.mp (S' := (T38.setTop (mkF m 65 #[.val (.ref a), .val (.int few), .val (.int most), .val (.int (0 : Int32)), .val (.int (0 : Int32))] [(.int (0 : Int32))]))) (fun _ k => XS.iload X39.here hx rfl (hb hby own_d_prog_19_method_10_code_63) rfl k) ?_
      refine OGoal.mp (S' := (T38.setTop (mkF m 73 #[.val (.ref a), .val (.int few), .val (.int most), .val (.int (0 : Int32)), .val (.int (0 : Int32))] []))) (fun _ k => XS.ifYes X39.here hx rfl (pc0 := 65) (pc' := 73) rfl (hb hby own_d_prog_19_method_10_code_65) rfl (XT.i0_eq_t (by decide)) (by decide) (by decide) k) ?_
      refine OGoal.mp (S' := (T38.setTop (mkF m 75 #[.val (.ref a), .val (.int few), .val (.int most), .val (.int (0 : Int32)), .val (.int (0 : Int32))] [(.int (0 : Int32))]))) (fun _ k => XS.iload X39.here hx rfl (hb hby own_d_prog_19_method_10_code_73) rfl k) ?_
      refine oRetZ X39 hx hlk hret (Or.inl rfl) (hb hby own_d_prog_19_method_10_code_75) ?_ (by decide) (by decide)
      have hr : own_run f (4 - (0 : Int32).toInt.toNat) (0 : Int32).toInt.toNat = 0 := by
        show own_run f 4 0 = 0
        have e0 : own_run f 4 0 = 0 := if_pos hc37
        rw [e0]
      have hs : own_res (Int32.ofNat 0) few most = (0 : Int32) := by show own_res (0 : Int32) few most = _; unfold own_res; rw [if_pos hc42]
      refine ⟨?_, N36, ?_, ?_⟩
      · rw [hr, hs]
      · rw [e40]; exact (Keep.refl h0 [a])
      · rw [hr, e40]; unfold own_at; rw [hs]; exact Fa
    · refine OGoal.mp (S' := (T38.setTop (mkF m 46 #[.val (.ref a), .val (.int few), .val (.int most), .val (.int (0 : Int32)), .unset] []))) (fun _ k => XS.icmpNo X39.here hx rfl (hb hby own_d_prog_19_method_10_code_43) rfl (XT.ii_lt_f hc42) k) ?_
      refine OGoal.mp (S' := (T38.setTop (mkF m 47 #[.val (.ref a), .val (.int few), .val (.int most), .val (.int (0 : Int32)), .unset] [(.int (0 : Int32))]))) (fun _ k => XS.iloadN X39.here hx rfl (hb hby own_d_prog_19_method_10_code_46) rfl k) ?_
      refine OGoal.mp (S' := (T38.setTop (mkF m 48 #[.val (.ref a), .val (.int few), .val (.int most), .val (.int (0 : Int32)), .unset] [(.ref a), (.int (0 : Int32))]))) (fun _ k => XS.aloadN X39.here hx rfl (hb hby own_d_prog_19_method_10_code_47) rfl rfl k) ?_
      obtain ⟨T43, X44, e45, st46⟩ := getF X39 hx hZ hown (host := "") (Or.inl (hw _ (List.mem_of_getElem? (i := 46) rfl))) Via.refl e40 Fa (g := mkF m 48 #[.val (.ref a), .val (.int few), .val (.int most), .val (.int (0 : Int32)), .unset] [(.ref a), (.int (0 : Int32))]) rfl rfl (hb hby own_d_prog_19_method_10_code_48)
      refine OGoal.mp (S' := (T43.setTop (mkF m 51 #[.val (.ref a), .val (.int few), .val (.int most), .val (.int (0 : Int32)), .unset] [(.int (0 : Int32)), (.int (0 : Int32))]))) (fun _ k => st46 _ k) ?_
      refine OGoal.mp (S' := (T43.setTop (mkF m 52 #[.val (.ref a), .val (.int few), .val (.int most), .val (.int (0 : Int32)), .unset] [(.int ((0 : Int32) - (0 : Int32)))]))) (fun _ k => XS.isub X44.here hx rfl (hb hby own_d_prog_19_method_10_code_51) rfl k) ?_
      rw [show ((0 : Int32) - (0 : Int32)) = (0 : Int32) by decide]
      show OGoal p e below s _ _ _ (T43.setTop (mkF m 52 #[.val (.ref a), .val (.int few), .val (.int most), .val (.int (0 : Int32)), .unset] [(.int (0 : Int32))]))
      refine OGoal.mp (S' := (T43.setTop (mkF m 53 #[.val (.ref a), .val (.int few), .val (.int most), .val (.int (0 : Int32)), .unset] [(.int most), (.int (0 : Int32))]))) (fun _ k => XS.iloadN X44.here hx rfl (hb hby own_d_prog_19_method_10_code_52) rfl k) ?_
      by_cases hc47 : most < (0 : Int32)
      · refine OGoal.mp (S' := (T43.setTop (mkF m 60 #[.val (.ref a), .val (.int few), .val (.int most), .val (.int (0 : Int32)), .unset] []))) (fun _ k => XS.icmpYes X44.here hx rfl (pc0 := 53) (pc' := 60) rfl (hb hby own_d_prog_19_method_10_code_53) rfl (XT.ii_gt_t hc47) (by decide) (by decide) k) ?_
        refine OGoal.mp (S' := (T43.setTop (mkF m 61 #[.val (.ref a), .val (.int few), .val (.int most), .val (.int (0 : Int32)), .unset] [(.int (0 : Int32))]))) (fun _ k => XS.iconst X44.here hx rfl (hb hby own_d_prog_19_method_10_code_60) k) ?_
        refine OGoal.mp (S' := (T43.setTop (mkF m 63 #[.val (.ref a), .val (.int few), .val (.int most), .val (.int (0 : Int32)), .val (.int (0 : Int32))] []))) (fun _ k => XS.istore X44.here hx rfl (hb hby own_d_prog_19_method_10_code_61) rfl (l' := #[.val (.ref a), .val (.int few), .val (.int most), .val (.int (0 : Int32)), .val (.int (0 : Int32))]) rfl k) ?_
        refine OGoal.mp (S' := (T43.setTop (mkF m 65 #[.val (.ref a), .val (.int few), .val (.int most), .val (.int (0 : Int32)), .val (.int (0 : Int32))] [(.int (0 : Int32))]))) (fun _ k => XS.iload X44.here hx rfl (hb hby own_d_prog_19_method_10_code_63) rfl k) ?_
        refine OGoal.mp (S' := (T43.setTop (mkF m 73 #[.val (.ref a), .val (.int few), .val (.int most), .val (.int (0 : Int32)), .val (.int (0 : Int32))] []))) (fun _ k => XS.ifYes X44.here hx rfl (pc0 := 65) (pc' := 73) rfl (hb hby own_d_prog_19_method_10_code_65) rfl (XT.i0_eq_t (by decide)) (by decide) (by decide) k) ?_
        refine OGoal.mp (S' := (T43.setTop (mkF m 75 #[.val (.ref a), .val (.int few), .val (.int most), .val (.int (0 : Int32)), .val (.int (0 : Int32))] [(.int (0 : Int32))]))) (fun _ k => XS.iload X44.here hx rfl (hb hby own_d_prog_19_method_10_code_73) rfl k) ?_
        refine oRetZ X44 hx hlk hret (Or.inl rfl) (hb hby own_d_prog_19_method_10_code_75) ?_ (by decide) (by decide)
        have hr : own_run f (4 - (0 : Int32).toInt.toNat) (0 : Int32).toInt.toNat = 0 := by
          show own_run f 4 0 = 0
          have e0 : own_run f 4 0 = 0 := if_pos hc37
          rw [e0]
        have hs : own_res (Int32.ofNat 0) few most = (0 : Int32) := by show own_res (0 : Int32) few most = _; unfold own_res; rw [if_neg hc42, if_pos hc47]
        refine ⟨?_, N36, ?_, ?_⟩
        · rw [hr, hs]
        · rw [e45]; exact (Keep.refl h0 [a])
        · rw [hr, e45]; unfold own_at; rw [hs]; exact Fa
      · refine OGoal.mp (S' := (T43.setTop (mkF m 56 #[.val (.ref a), .val (.int few), .val (.int most), .val (.int (0 : Int32)), .unset] []))) (fun _ k => XS.icmpNo X44.here hx rfl (hb hby own_d_prog_19_method_10_code_53) rfl (XT.ii_gt_f hc47) k) ?_
        refine OGoal.mp (S' := (T43.setTop (mkF m 57 #[.val (.ref a), .val (.int few), .val (.int most), .val (.int (0 : Int32)), .unset] [(.int (1 : Int32))]))) (fun _ k => XS.iconst X44.here hx rfl (hb hby own_d_prog_19_method_10_code_56) k) ?_
        refine OGoal.mp (S' := (T43.setTop (mkF m 61 #[.val (.ref a), .val (.int few), .val (.int most), .val (.int (0 : Int32)), .unset] [(.int (1 : Int32))]))) (fun _ k => XS.goto X44.here hx rfl (pc0 := 57) (pc' := 61) rfl (hb hby own_d_prog_19_method_10_code_57) (by decide) (by decide) k) ?_
        refine OGoal.mp (S' := (T43.setTop (mkF m 63 #[.val (.ref a), .val (.int few), .val (.int most), .val (.int (0 : Int32)), .val (.int (1 : Int32))] []))) (fun _ k => XS.istore X44.here hx rfl (hb hby own_d_prog_19_method_10_code_61) rfl (l' := #[.val (.ref a), .val (.int few), .val (.int most), .val (.int (0 : Int32)), .val (.int (1 : Int32))]) rfl k) ?_
        refine OGoal.mp (S' := (T43.setTop (mkF m 65 #[.val (.ref a), .val (.int few), .val (.int most), .val (.int (0 : Int32)), .val (.int (1 : Int32))] [(.int (1 : Int32))]))) (fun _ k => XS.iload X44.here hx rfl (hb hby own_d_prog_19_method_10_code_63) rfl k) ?_
        refine OGoal.mp (S' := (T43.setTop (mkF m 68 #[.val (.ref a), .val (.int few), .val (.int most), .val (.int (0 : Int32)), .val (.int (1 : Int32))] []))) (fun _ k => XS.ifNo X44.here hx rfl (hb hby own_d_prog_19_method_10_code_65) rfl (XT.i0_eq_f (by decide)) k) ?_
        refine OGoal.mp (S' := (T43.setTop (mkF m 69 #[.val (.ref a), .val (.int few), .val (.int most), .val (.int (0 : Int32)), .val (.int (1 : Int32))] [(.ref a)]))) (fun _ k => XS.aloadN X44.here hx rfl (hb hby own_d_prog_19_method_10_code_68) rfl rfl k) ?_
        refine OGoal.mp (S' := (T43.setTop (mkF m 70 #[.val (.ref a), .val (.int few), .val (.int most), .val (.int (0 : Int32)), .val (.int (1 : Int32))] [(.int (0 : Int32)), (.ref a)]))) (fun _ k => XS.iloadN X44.here hx rfl (hb hby own_d_prog_19_method_10_code_69) rfl k) ?_
        obtain ⟨T48, h52, X49, e50, W53, st51⟩ := putF X44 hx hZ hown (host := "") (Or.inl (hw _ (List.mem_of_getElem? (i := 46) rfl))) Via.refl e45 Fa E (Or.inl (hw _ (List.mem_of_getElem? (i := 47) rfl))) (hw _ (List.mem_of_getElem? (i := 4) rfl)) (ty := .int) (by decide) rfl rfl (g := mkF m 70 #[.val (.ref a), .val (.int few), .val (.int most), .val (.int (0 : Int32)), .val (.int (1 : Int32))] [(.int (0 : Int32)), (.ref a)]) rfl rfl (hb hby own_d_prog_19_method_10_code_70)
        have N54 := Fr.snoc X49 N36 ab
        have Z55 : n0 ≤ h52.size := Nat.le_trans Z0 (Keep.of_wr W53).1
        have K56 : Keep h0 h52 [a] := (Keep.refl h0 [a]).wr W53 (Or.inl (by simp))
        have F57 := St.wr W53
        have F58 := E.wr W53
        have F59 := hS.exa.wr W53
        have F60 := Fn.other W53 (Or.inr (slot_ne (a0 := a0) (C := "com/example/deadlock_to_diagnosis/deadlocktodiagnosis/reader/LineScanner") (t := (.object "java/lang/String")) (t' := .int) (Or.inr (hw _ (List.mem_of_getElem? (i := 40) rfl))) (Or.inl (hw _ (List.mem_of_getElem? (i := 47) rfl))) (by decide) (by decide) (by decide)))
        have F61 := Fa.same W53
        refine OGoal.mp (S' := (T48.setTop (mkF m 73 #[.val (.ref a), .val (.int few), .val (.int most), .val (.int (0 : Int32)), .val (.int (1 : Int32))] []))) (fun _ k => st51 _ k) ?_
        refine OGoal.mp (S' := (T48.setTop (mkF m 75 #[.val (.ref a), .val (.int few), .val (.int most), .val (.int (0 : Int32)), .val (.int (1 : Int32))] [(.int (1 : Int32))]))) (fun _ k => XS.iload X49.here hx rfl (hb hby own_d_prog_19_method_10_code_73) rfl k) ?_
        refine oRetZ X49 hx hlk hret (Or.inr rfl) (hb hby own_d_prog_19_method_10_code_75) ?_ (by decide) (by decide)
        have hr : own_run f (4 - (0 : Int32).toInt.toNat) (0 : Int32).toInt.toNat = 0 := by
          show own_run f 4 0 = 0
          have e0 : own_run f 4 0 = 0 := if_pos hc37
          rw [e0]
        have hs : own_res (Int32.ofNat 0) few most = (1 : Int32) := by show own_res (0 : Int32) few most = _; unfold own_res; rw [if_neg hc42, if_neg hc47]
        refine ⟨?_, N54, ?_, ?_⟩
        · rw [hr, hs]
        · rw [e50]; exact K56
        · rw [hr, e50]; unfold own_at; rw [hs]; exact F61
  · refine OGoal.mp (S' := (T30.setTop (mkF m 30 #[.val (.ref a), .val (.int few), .val (.int most), .val (.int (0 : Int32)), .unset] []))) (fun _ k => XS.ifNo X32.here hx rfl (hb hby own_d_prog_19_method_10_code_27) rfl (XT.i0_eq_f hc37) k) ?_
    refine OGoal.mp (S' := (T30.setTop (mkF m 33 #[.val (.ref a), .val (.int few), .val (.int most), .val (.int ((0 : Int32) + (1 : Int32))), .unset] []))) (fun _ k => XT.iincV X32.here hx rfl (1 : Int32) (hb hby own_d_prog_19_method_10_code_30) rfl rfl (l' := #[.val (.ref a), .val (.int few), .val (.int most), .val (.int ((0 : Int32) + (1 : Int32))), .unset]) rfl k) ?_
    rw [show ((0 : Int32) + (1 : Int32)) = (1 : Int32) by decide]
    show OGoal p e below s _ _ _ (T30.setTop (mkF m 33 #[.val (.ref a), .val (.int few), .val (.int most), .val (.int (1 : Int32)), .unset] []))
    refine OGoal.mp (S' := (T30.setTop (mkF m 5 #[.val (.ref a), .val (.int few), .val (.int most), .val (.int (1 : Int32)), .unset] []))) (fun _ k => XS.goto X32.here hx rfl (pc0 := 33) (pc' := 5) rfl (hb hby own_d_prog_19_method_10_code_33) (by decide) (by decide) k) ?_
    refine OGoal.mp (S' := (T30.setTop (mkF m 6 #[.val (.ref a), .val (.int few), .val (.int most), .val (.int (1 : Int32)), .unset] [(.int (1 : Int32))]))) (fun _ k => XS.iloadN X32.here hx rfl (hb hby own_d_prog_19_method_10_code_5) rfl k) ?_
    refine OGoal.mp (S' := (T30.setTop (mkF m 7 #[.val (.ref a), .val (.int few), .val (.int most), .val (.int (1 : Int32)), .unset] [(.ref a), (.int (1 : Int32))]))) (fun _ k => XS.aloadN X32.here hx rfl (hb hby own_d_prog_19_method_10_code_6) rfl rfl k) ?_
    obtain ⟨T62, X63, e64, st65⟩ := getF X32 hx hZ hown (host := "") (Or.inl (hw _ (List.mem_of_getElem? (i := 39) rfl))) Via.refl e35 Fn (g := mkF m 7 #[.val (.ref a), .val (.int few), .val (.int most), .val (.int (1 : Int32)), .unset] [(.ref a), (.int (1 : Int32))]) rfl rfl (hb hby own_d_prog_19_method_10_code_7)
    refine OGoal.mp (S' := (T62.setTop (mkF m 10 #[.val (.ref a), .val (.int few), .val (.int most), .val (.int (1 : Int32)), .unset] [(.ref b), (.int (1 : Int32))]))) (fun _ k => st65 _ k) ?_
    refine oCallV (y := (⟨"java/lang/String", "length", "()I"⟩ : MethodName)) (z := (⟨"java/lang/String", "length", "()I"⟩ : MethodName)) X63 hx hZ hown (hw _ (List.mem_of_getElem? (i := 53) rfl)) (hw _ (List.mem_of_getElem? (i := 54) rfl)) (hw _ (List.mem_of_getElem? (i := 56) rfl)) (hw _ (List.mem_of_getElem? (i := 55) rfl)) (hw _ (List.mem_of_getElem? (i := 8) rfl)) (hw _ (List.mem_of_getElem? (i := 57) rfl)) (by decide) (rmLn l Z a0 hw b h0 n0 Z0 cs fm hcs hfm St f hS) e64 hS.exa [] [(.int (1 : Int32))] rfl rfl (by rw [hml]; rfl) (notFace_of_selects (args := #[]) (mvT hZ (hw _ (List.mem_of_getElem? (i := 56) rfl)))) (lenOf own_pd___I rfl) 1 (Nat.le_of_eq rfl) (by decide) (by decide) (by decide) (by decide) (hb hby own_d_prog_19_method_10_code_10) ?_
    intro v66 T67 L68 X69 q70
    obtain ⟨rfl, N71, e72⟩ := q70
    have N73 := Fr.app N36 N71
    show OGoal p e below s _ _ _ (T67.setTop (mkF m 13 #[.val (.ref a), .val (.int few), .val (.int most), .val (.int (1 : Int32)), .unset] [(.int (4 : Int32)), (.int (1 : Int32))]))
    refine OGoal.mp (S' := (T67.setTop (mkF m 16 #[.val (.ref a), .val (.int few), .val (.int most), .val (.int (1 : Int32)), .unset] []))) (fun _ k => XS.icmpNo X69.here hx rfl (hb hby own_d_prog_19_method_10_code_13) rfl (XT.ii_ge_f (by decide)) k) ?_
    refine OGoal.mp (S' := (T67.setTop (mkF m 17 #[.val (.ref a), .val (.int few), .val (.int most), .val (.int (1 : Int32)), .unset] [(.ref a)]))) (fun _ k => XS.aloadN X69.here hx rfl (hb hby own_d_prog_19_method_10_code_16) rfl rfl k) ?_
    obtain ⟨T74, X75, e76, st77⟩ := getF X69 hx hZ hown (host := "") (Or.inl (hw _ (List.mem_of_getElem? (i := 39) rfl))) Via.refl e72 Fn (g := mkF m 17 #[.val (.ref a), .val (.int few), .val (.int most), .val (.int (1 : Int32)), .unset] [(.ref a)]) rfl rfl (hb hby own_d_prog_19_method_10_code_17)
    refine OGoal.mp (S' := (T74.setTop (mkF m 20 #[.val (.ref a), .val (.int few), .val (.int most), .val (.int (1 : Int32)), .unset] [(.ref b)]))) (fun _ k => st77 _ k) ?_
    refine OGoal.mp (S' := (T74.setTop (mkF m 21 #[.val (.ref a), .val (.int few), .val (.int most), .val (.int (1 : Int32)), .unset] [(.int (1 : Int32)), (.ref b)]))) (fun _ k => XS.iloadN X75.here hx rfl (hb hby own_d_prog_19_method_10_code_20) rfl k) ?_
    refine oCallV (y := (⟨"java/lang/String", "charAt", "(I)C"⟩ : MethodName)) (z := (⟨"java/lang/String", "charAt", "(I)C"⟩ : MethodName)) X75 hx hZ hown (hw _ (List.mem_of_getElem? (i := 63) rfl)) (hw _ (List.mem_of_getElem? (i := 64) rfl)) (hw _ (List.mem_of_getElem? (i := 66) rfl)) (hw _ (List.mem_of_getElem? (i := 65) rfl)) (hw _ (List.mem_of_getElem? (i := 8) rfl)) (hw _ (List.mem_of_getElem? (i := 67) rfl)) (by decide) (rmCA l Z a0 hw b (1 : Int32) h0 n0 Z0 cs fm hcs hfm St f hC hS (by decide) (by decide)) e76 hS.exa [(.int (1 : Int32))] [] rfl rfl (by rw [hml]; rfl) (notFace_of_selects (args := #[]) (mvT hZ (hw _ (List.mem_of_getElem? (i := 66) rfl)))) (lenOf own_pd__I_C rfl) 0 (Nat.le_of_eq rfl) (by decide) (by decide) (by decide) (by decide) (hb hby own_d_prog_19_method_10_code_21) ?_
    intro v78 T79 L80 X81 q82
    obtain ⟨rfl, N83, e84⟩ := q82
    have N85 := Fr.app N73 N83
    show OGoal p e below s _ _ _ (T79.setTop (mkF m 24 #[.val (.ref a), .val (.int few), .val (.int most), .val (.int (1 : Int32)), .unset] [(.int (f (1 : Int32).toInt.toNat))]))
    refine oCallS (y := (⟨"com/example/deadlock_to_diagnosis/deadlocktodiagnosis/reader/LineScanner", "isDigit", "(C)Z"⟩ : MethodName)) X81 hx hZ hown (hw _ (List.mem_of_getElem? (i := 85) rfl)) (hw _ (List.mem_of_getElem? (i := 86) rfl)) (hw _ (List.mem_of_getElem? (i := 5) rfl)) (hw _ (List.mem_of_getElem? (i := 87) rfl)) (by decide) (rmDi l Z a0 hw (f (1 : Int32).toInt.toNat) h0 n0 Z0) e84 [(.int (f (1 : Int32).toInt.toNat))] [] rfl rfl (by rw [hml]; rfl) (lenOf own_pd__C_Z rfl) 0 (Nat.le_of_eq rfl) (by decide) (by decide) (by decide) (by decide) (hb hby own_d_prog_19_method_10_code_24) ?_
    intro v86 T87 L88 X89 q90
    obtain ⟨rfl, N91, e92⟩ := q90
    have N93 := Fr.app N85 N91
    show OGoal p e below s _ _ _ (T87.setTop (mkF m 27 #[.val (.ref a), .val (.int few), .val (.int most), .val (.int (1 : Int32)), .unset] [(.int (own_dg (f (1 : Int32).toInt.toNat)))]))
    by_cases hc94 : (own_dg (f (1 : Int32).toInt.toNat)) = 0
    · refine OGoal.mp (S' := (T87.setTop (mkF m 36 #[.val (.ref a), .val (.int few), .val (.int most), .val (.int (1 : Int32)), .unset] []))) (fun _ k => XS.ifYes X89.here hx rfl (pc0 := 27) (pc' := 36) rfl (hb hby own_d_prog_19_method_10_code_27) rfl (XT.i0_eq_t hc94) (by decide) (by decide) k) ?_
      refine OGoal.mp (S' := (T87.setTop (mkF m 37 #[.val (.ref a), .val (.int few), .val (.int most), .val (.int (1 : Int32)), .unset] [(.int (1 : Int32))]))) (fun _ k => XS.iloadN X89.here hx rfl (hb hby own_d_prog_19_method_10_code_36) rfl k) ?_
      refine OGoal.mp (S' := (T87.setTop (mkF m 38 #[.val (.ref a), .val (.int few), .val (.int most), .val (.int (1 : Int32)), .unset] [(.ref a), (.int (1 : Int32))]))) (fun _ k => XS.aloadN X89.here hx rfl (hb hby own_d_prog_19_method_10_code_37) rfl rfl k) ?_
      obtain ⟨T95, X96, e97, st98⟩ := getF X89 hx hZ hown (host := "") (Or.inl (hw _ (List.mem_of_getElem? (i := 46) rfl))) Via.refl e92 Fa (g := mkF m 38 #[.val (.ref a), .val (.int few), .val (.int most), .val (.int (1 : Int32)), .unset] [(.ref a), (.int (1 : Int32))]) rfl rfl (hb hby own_d_prog_19_method_10_code_38)
      refine OGoal.mp (S' := (T95.setTop (mkF m 41 #[.val (.ref a), .val (.int few), .val (.int most), .val (.int (1 : Int32)), .unset] [(.int (0 : Int32)), (.int (1 : Int32))]))) (fun _ k => st98 _ k) ?_
      refine OGoal.mp (S' := (T95.setTop (mkF m 42 #[.val (.ref a), .val (.int few), .val (.int most), .val (.int (1 : Int32)), .unset] [(.int ((1 : Int32) - (0 : Int32)))]))) (fun _ k => XS.isub X96.here hx rfl (hb hby own_d_prog_19_method_10_code_41) rfl k) ?_
      rw [show ((1 : Int32) - (0 : Int32)) = (1 : Int32) by decide]
      show OGoal p e below s _ _ _ (T95.setTop (mkF m 42 #[.val (.ref a), .val (.int few), .val (.int most), .val (.int (1 : Int32)), .unset] [(.int (1 : Int32))]))
      refine OGoal.mp (S' := (T95.setTop (mkF m 43 #[.val (.ref a), .val (.int few), .val (.int most), .val (.int (1 : Int32)), .unset] [(.int few), (.int (1 : Int32))]))) (fun _ k => XS.iloadN X96.here hx rfl (hb hby own_d_prog_19_method_10_code_42) rfl k) ?_
      by_cases hc99 : (1 : Int32) < few
      · refine OGoal.mp (S' := (T95.setTop (mkF m 60 #[.val (.ref a), .val (.int few), .val (.int most), .val (.int (1 : Int32)), .unset] []))) (fun _ k => XS.icmpYes X96.here hx rfl (pc0 := 43) (pc' := 60) rfl (hb hby own_d_prog_19_method_10_code_43) rfl (XT.ii_lt_t hc99) (by decide) (by decide) k) ?_
        refine OGoal.mp (S' := (T95.setTop (mkF m 61 #[.val (.ref a), .val (.int few), .val (.int most), .val (.int (1 : Int32)), .unset] [(.int (0 : Int32))]))) (fun _ k => XS.iconst X96.here hx rfl (hb hby own_d_prog_19_method_10_code_60) k) ?_
        refine OGoal.mp (S' := (T95.setTop (mkF m 63 #[.val (.ref a), .val (.int few), .val (.int most), .val (.int (1 : Int32)), .val (.int (0 : Int32))] []))) (fun _ k => XS.istore X96.here hx rfl (hb hby own_d_prog_19_method_10_code_61) rfl (l' := #[.val (.ref a), .val (.int few), .val (.int most), .val (.int (1 : Int32)), .val (.int (0 : Int32))]) rfl k) ?_
        refine OGoal.mp (S' := (T95.setTop (mkF m 65 #[.val (.ref a), .val (.int few), .val (.int most), .val (.int (1 : Int32)), .val (.int (0 : Int32))] [(.int (0 : Int32))]))) (fun _ k => XS.iload X96.here hx rfl (hb hby own_d_prog_19_method_10_code_63) rfl k) ?_
        refine OGoal.mp (S' := (T95.setTop (mkF m 73 #[.val (.ref a), .val (.int few), .val (.int most), .val (.int (1 : Int32)), .val (.int (0 : Int32))] []))) (fun _ k => XS.ifYes X96.here hx rfl (pc0 := 65) (pc' := 73) rfl (hb hby own_d_prog_19_method_10_code_65) rfl (XT.i0_eq_t (by decide)) (by decide) (by decide) k) ?_
        refine OGoal.mp (S' := (T95.setTop (mkF m 75 #[.val (.ref a), .val (.int few), .val (.int most), .val (.int (1 : Int32)), .val (.int (0 : Int32))] [(.int (0 : Int32))]))) (fun _ k => XS.iload X96.here hx rfl (hb hby own_d_prog_19_method_10_code_73) rfl k) ?_
        refine oRetZ X96 hx hlk hret (Or.inl rfl) (hb hby own_d_prog_19_method_10_code_75) ?_ (by decide) (by decide)
        have hr : own_run f (4 - (0 : Int32).toInt.toNat) (0 : Int32).toInt.toNat = 1 := by
          show own_run f 4 0 = 1
          have e0 : own_run f 4 0 = own_run f 3 1 + 1 := if_neg hc37
          have e1 : own_run f 3 1 = 0 := if_pos hc94
          rw [e0, e1]
        have hs : own_res (Int32.ofNat 1) few most = (0 : Int32) := by show own_res (1 : Int32) few most = _; unfold own_res; rw [if_pos hc99]
        refine ⟨?_, N93, ?_, ?_⟩
        · rw [hr, hs]
        · rw [e97]; exact (Keep.refl h0 [a])
        · rw [hr, e97]; unfold own_at; rw [hs]; exact Fa
      · refine OGoal.mp (S' := (T95.setTop (mkF m 46 #[.val (.ref a), .val (.int few), .val (.int most), .val (.int (1 : Int32)), .unset] []))) (fun _ k => XS.icmpNo X96.here hx rfl (hb hby own_d_prog_19_method_10_code_43) rfl (XT.ii_lt_f hc99) k) ?_
        refine OGoal.mp (S' := (T95.setTop (mkF m 47 #[.val (.ref a), .val (.int few), .val (.int most), .val (.int (1 : Int32)), .unset] [(.int (1 : Int32))]))) (fun _ k => XS.iloadN X96.here hx rfl (hb hby own_d_prog_19_method_10_code_46) rfl k) ?_
        refine OGoal.mp (S' := (T95.setTop (mkF m 48 #[.val (.ref a), .val (.int few), .val (.int most), .val (.int (1 : Int32)), .unset] [(.ref a), (.int (1 : Int32))]))) (fun _ k => XS.aloadN X96.here hx rfl (hb hby own_d_prog_19_method_10_code_47) rfl rfl k) ?_
        obtain ⟨T100, X101, e102, st103⟩ := getF X96 hx hZ hown (host := "") (Or.inl (hw _ (List.mem_of_getElem? (i := 46) rfl))) Via.refl e97 Fa (g := mkF m 48 #[.val (.ref a), .val (.int few), .val (.int most), .val (.int (1 : Int32)), .unset] [(.ref a), (.int (1 : Int32))]) rfl rfl (hb hby own_d_prog_19_method_10_code_48)
        refine OGoal.mp (S' := (T100.setTop (mkF m 51 #[.val (.ref a), .val (.int few), .val (.int most), .val (.int (1 : Int32)), .unset] [(.int (0 : Int32)), (.int (1 : Int32))]))) (fun _ k => st103 _ k) ?_
        refine OGoal.mp (S' := (T100.setTop (mkF m 52 #[.val (.ref a), .val (.int few), .val (.int most), .val (.int (1 : Int32)), .unset] [(.int ((1 : Int32) - (0 : Int32)))]))) (fun _ k => XS.isub X101.here hx rfl (hb hby own_d_prog_19_method_10_code_51) rfl k) ?_
        rw [show ((1 : Int32) - (0 : Int32)) = (1 : Int32) by decide]
        show OGoal p e below s _ _ _ (T100.setTop (mkF m 52 #[.val (.ref a), .val (.int few), .val (.int most), .val (.int (1 : Int32)), .unset] [(.int (1 : Int32))]))
        refine OGoal.mp (S' := (T100.setTop (mkF m 53 #[.val (.ref a), .val (.int few), .val (.int most), .val (.int (1 : Int32)), .unset] [(.int most), (.int (1 : Int32))]))) (fun _ k => XS.iloadN X101.here hx rfl (hb hby own_d_prog_19_method_10_code_52) rfl k) ?_
        by_cases hc104 : most < (1 : Int32)
        · refine OGoal.mp (S' := (T100.setTop (mkF m 60 #[.val (.ref a), .val (.int few), .val (.int most), .val (.int (1 : Int32)), .unset] []))) (fun _ k => XS.icmpYes X101.here hx rfl (pc0 := 53) (pc' := 60) rfl (hb hby own_d_prog_19_method_10_code_53) rfl (XT.ii_gt_t hc104) (by decide) (by decide) k) ?_
          refine OGoal.mp (S' := (T100.setTop (mkF m 61 #[.val (.ref a), .val (.int few), .val (.int most), .val (.int (1 : Int32)), .unset] [(.int (0 : Int32))]))) (fun _ k => XS.iconst X101.here hx rfl (hb hby own_d_prog_19_method_10_code_60) k) ?_
          refine OGoal.mp (S' := (T100.setTop (mkF m 63 #[.val (.ref a), .val (.int few), .val (.int most), .val (.int (1 : Int32)), .val (.int (0 : Int32))] []))) (fun _ k => XS.istore X101.here hx rfl (hb hby own_d_prog_19_method_10_code_61) rfl (l' := #[.val (.ref a), .val (.int few), .val (.int most), .val (.int (1 : Int32)), .val (.int (0 : Int32))]) rfl k) ?_
          refine OGoal.mp (S' := (T100.setTop (mkF m 65 #[.val (.ref a), .val (.int few), .val (.int most), .val (.int (1 : Int32)), .val (.int (0 : Int32))] [(.int (0 : Int32))]))) (fun _ k => XS.iload X101.here hx rfl (hb hby own_d_prog_19_method_10_code_63) rfl k) ?_
          refine OGoal.mp (S' := (T100.setTop (mkF m 73 #[.val (.ref a), .val (.int few), .val (.int most), .val (.int (1 : Int32)), .val (.int (0 : Int32))] []))) (fun _ k => XS.ifYes X101.here hx rfl (pc0 := 65) (pc' := 73) rfl (hb hby own_d_prog_19_method_10_code_65) rfl (XT.i0_eq_t (by decide)) (by decide) (by decide) k) ?_
          refine OGoal.mp (S' := (T100.setTop (mkF m 75 #[.val (.ref a), .val (.int few), .val (.int most), .val (.int (1 : Int32)), .val (.int (0 : Int32))] [(.int (0 : Int32))]))) (fun _ k => XS.iload X101.here hx rfl (hb hby own_d_prog_19_method_10_code_73) rfl k) ?_
          refine oRetZ X101 hx hlk hret (Or.inl rfl) (hb hby own_d_prog_19_method_10_code_75) ?_ (by decide) (by decide)
          have hr : own_run f (4 - (0 : Int32).toInt.toNat) (0 : Int32).toInt.toNat = 1 := by
            show own_run f 4 0 = 1
            have e0 : own_run f 4 0 = own_run f 3 1 + 1 := if_neg hc37
            have e1 : own_run f 3 1 = 0 := if_pos hc94
            rw [e0, e1]
          have hs : own_res (Int32.ofNat 1) few most = (0 : Int32) := by show own_res (1 : Int32) few most = _; unfold own_res; rw [if_neg hc99, if_pos hc104]
          refine ⟨?_, N93, ?_, ?_⟩
          · rw [hr, hs]
          · rw [e102]; exact (Keep.refl h0 [a])
          · rw [hr, e102]; unfold own_at; rw [hs]; exact Fa
        · refine OGoal.mp (S' := (T100.setTop (mkF m 56 #[.val (.ref a), .val (.int few), .val (.int most), .val (.int (1 : Int32)), .unset] []))) (fun _ k => XS.icmpNo X101.here hx rfl (hb hby own_d_prog_19_method_10_code_53) rfl (XT.ii_gt_f hc104) k) ?_
          refine OGoal.mp (S' := (T100.setTop (mkF m 57 #[.val (.ref a), .val (.int few), .val (.int most), .val (.int (1 : Int32)), .unset] [(.int (1 : Int32))]))) (fun _ k => XS.iconst X101.here hx rfl (hb hby own_d_prog_19_method_10_code_56) k) ?_
          refine OGoal.mp (S' := (T100.setTop (mkF m 61 #[.val (.ref a), .val (.int few), .val (.int most), .val (.int (1 : Int32)), .unset] [(.int (1 : Int32))]))) (fun _ k => XS.goto X101.here hx rfl (pc0 := 57) (pc' := 61) rfl (hb hby own_d_prog_19_method_10_code_57) (by decide) (by decide) k) ?_
          refine OGoal.mp (S' := (T100.setTop (mkF m 63 #[.val (.ref a), .val (.int few), .val (.int most), .val (.int (1 : Int32)), .val (.int (1 : Int32))] []))) (fun _ k => XS.istore X101.here hx rfl (hb hby own_d_prog_19_method_10_code_61) rfl (l' := #[.val (.ref a), .val (.int few), .val (.int most), .val (.int (1 : Int32)), .val (.int (1 : Int32))]) rfl k) ?_
          refine OGoal.mp (S' := (T100.setTop (mkF m 65 #[.val (.ref a), .val (.int few), .val (.int most), .val (.int (1 : Int32)), .val (.int (1 : Int32))] [(.int (1 : Int32))]))) (fun _ k => XS.iload X101.here hx rfl (hb hby own_d_prog_19_method_10_code_63) rfl k) ?_
          refine OGoal.mp (S' := (T100.setTop (mkF m 68 #[.val (.ref a), .val (.int few), .val (.int most), .val (.int (1 : Int32)), .val (.int (1 : Int32))] []))) (fun _ k => XS.ifNo X101.here hx rfl (hb hby own_d_prog_19_method_10_code_65) rfl (XT.i0_eq_f (by decide)) k) ?_
          refine OGoal.mp (S' := (T100.setTop (mkF m 69 #[.val (.ref a), .val (.int few), .val (.int most), .val (.int (1 : Int32)), .val (.int (1 : Int32))] [(.ref a)]))) (fun _ k => XS.aloadN X101.here hx rfl (hb hby own_d_prog_19_method_10_code_68) rfl rfl k) ?_
          refine OGoal.mp (S' := (T100.setTop (mkF m 70 #[.val (.ref a), .val (.int few), .val (.int most), .val (.int (1 : Int32)), .val (.int (1 : Int32))] [(.int (1 : Int32)), (.ref a)]))) (fun _ k => XS.iloadN X101.here hx rfl (hb hby own_d_prog_19_method_10_code_69) rfl k) ?_
          obtain ⟨T105, h109, X106, e107, W110, st108⟩ := putF X101 hx hZ hown (host := "") (Or.inl (hw _ (List.mem_of_getElem? (i := 46) rfl))) Via.refl e102 Fa E (Or.inl (hw _ (List.mem_of_getElem? (i := 47) rfl))) (hw _ (List.mem_of_getElem? (i := 4) rfl)) (ty := .int) (by decide) rfl rfl (g := mkF m 70 #[.val (.ref a), .val (.int few), .val (.int most), .val (.int (1 : Int32)), .val (.int (1 : Int32))] [(.int (1 : Int32)), (.ref a)]) rfl rfl (hb hby own_d_prog_19_method_10_code_70)
          have N111 := Fr.snoc X106 N93 ab
          have Z112 : n0 ≤ h109.size := Nat.le_trans Z0 (Keep.of_wr W110).1
          have K113 : Keep h0 h109 [a] := (Keep.refl h0 [a]).wr W110 (Or.inl (by simp))
          have F114 := St.wr W110
          have F115 := E.wr W110
          have F116 := hS.exa.wr W110
          have F117 := Fn.other W110 (Or.inr (slot_ne (a0 := a0) (C := "com/example/deadlock_to_diagnosis/deadlocktodiagnosis/reader/LineScanner") (t := (.object "java/lang/String")) (t' := .int) (Or.inr (hw _ (List.mem_of_getElem? (i := 40) rfl))) (Or.inl (hw _ (List.mem_of_getElem? (i := 47) rfl))) (by decide) (by decide) (by decide)))
          have F118 := Fa.same W110
          refine OGoal.mp (S' := (T105.setTop (mkF m 73 #[.val (.ref a), .val (.int few), .val (.int most), .val (.int (1 : Int32)), .val (.int (1 : Int32))] []))) (fun _ k => st108 _ k) ?_
          refine OGoal.mp (S' := (T105.setTop (mkF m 75 #[.val (.ref a), .val (.int few), .val (.int most), .val (.int (1 : Int32)), .val (.int (1 : Int32))] [(.int (1 : Int32))]))) (fun _ k => XS.iload X106.here hx rfl (hb hby own_d_prog_19_method_10_code_73) rfl k) ?_
          refine oRetZ X106 hx hlk hret (Or.inr rfl) (hb hby own_d_prog_19_method_10_code_75) ?_ (by decide) (by decide)
          have hr : own_run f (4 - (0 : Int32).toInt.toNat) (0 : Int32).toInt.toNat = 1 := by
            show own_run f 4 0 = 1
            have e0 : own_run f 4 0 = own_run f 3 1 + 1 := if_neg hc37
            have e1 : own_run f 3 1 = 0 := if_pos hc94
            rw [e0, e1]
          have hs : own_res (Int32.ofNat 1) few most = (1 : Int32) := by show own_res (1 : Int32) few most = _; unfold own_res; rw [if_neg hc99, if_neg hc104]
          refine ⟨?_, N111, ?_, ?_⟩
          · rw [hr, hs]
          · rw [e107]; exact K113
          · rw [hr, e107]; unfold own_at; rw [hs]; exact F118
    · refine OGoal.mp (S' := (T87.setTop (mkF m 30 #[.val (.ref a), .val (.int few), .val (.int most), .val (.int (1 : Int32)), .unset] []))) (fun _ k => XS.ifNo X89.here hx rfl (hb hby own_d_prog_19_method_10_code_27) rfl (XT.i0_eq_f hc94) k) ?_
      refine OGoal.mp (S' := (T87.setTop (mkF m 33 #[.val (.ref a), .val (.int few), .val (.int most), .val (.int ((1 : Int32) + (1 : Int32))), .unset] []))) (fun _ k => XT.iincV X89.here hx rfl (1 : Int32) (hb hby own_d_prog_19_method_10_code_30) rfl rfl (l' := #[.val (.ref a), .val (.int few), .val (.int most), .val (.int ((1 : Int32) + (1 : Int32))), .unset]) rfl k) ?_
      rw [show ((1 : Int32) + (1 : Int32)) = (2 : Int32) by decide]
      show OGoal p e below s _ _ _ (T87.setTop (mkF m 33 #[.val (.ref a), .val (.int few), .val (.int most), .val (.int (2 : Int32)), .unset] []))
      refine OGoal.mp (S' := (T87.setTop (mkF m 5 #[.val (.ref a), .val (.int few), .val (.int most), .val (.int (2 : Int32)), .unset] []))) (fun _ k => XS.goto X89.here hx rfl (pc0 := 33) (pc' := 5) rfl (hb hby own_d_prog_19_method_10_code_33) (by decide) (by decide) k) ?_
      refine OGoal.mp (S' := (T87.setTop (mkF m 6 #[.val (.ref a), .val (.int few), .val (.int most), .val (.int (2 : Int32)), .unset] [(.int (2 : Int32))]))) (fun _ k => XS.iloadN X89.here hx rfl (hb hby own_d_prog_19_method_10_code_5) rfl k) ?_
      refine OGoal.mp (S' := (T87.setTop (mkF m 7 #[.val (.ref a), .val (.int few), .val (.int most), .val (.int (2 : Int32)), .unset] [(.ref a), (.int (2 : Int32))]))) (fun _ k => XS.aloadN X89.here hx rfl (hb hby own_d_prog_19_method_10_code_6) rfl rfl k) ?_
      obtain ⟨T119, X120, e121, st122⟩ := getF X89 hx hZ hown (host := "") (Or.inl (hw _ (List.mem_of_getElem? (i := 39) rfl))) Via.refl e92 Fn (g := mkF m 7 #[.val (.ref a), .val (.int few), .val (.int most), .val (.int (2 : Int32)), .unset] [(.ref a), (.int (2 : Int32))]) rfl rfl (hb hby own_d_prog_19_method_10_code_7)
      refine OGoal.mp (S' := (T119.setTop (mkF m 10 #[.val (.ref a), .val (.int few), .val (.int most), .val (.int (2 : Int32)), .unset] [(.ref b), (.int (2 : Int32))]))) (fun _ k => st122 _ k) ?_
      refine oCallV (y := (⟨"java/lang/String", "length", "()I"⟩ : MethodName)) (z := (⟨"java/lang/String", "length", "()I"⟩ : MethodName)) X120 hx hZ hown (hw _ (List.mem_of_getElem? (i := 53) rfl)) (hw _ (List.mem_of_getElem? (i := 54) rfl)) (hw _ (List.mem_of_getElem? (i := 56) rfl)) (hw _ (List.mem_of_getElem? (i := 55) rfl)) (hw _ (List.mem_of_getElem? (i := 8) rfl)) (hw _ (List.mem_of_getElem? (i := 57) rfl)) (by decide) (rmLn l Z a0 hw b h0 n0 Z0 cs fm hcs hfm St f hS) e121 hS.exa [] [(.int (2 : Int32))] rfl rfl (by rw [hml]; rfl) (notFace_of_selects (args := #[]) (mvT hZ (hw _ (List.mem_of_getElem? (i := 56) rfl)))) (lenOf own_pd___I rfl) 1 (Nat.le_of_eq rfl) (by decide) (by decide) (by decide) (by decide) (hb hby own_d_prog_19_method_10_code_10) ?_
      intro v123 T124 L125 X126 q127
      obtain ⟨rfl, N128, e129⟩ := q127
      have N130 := Fr.app N93 N128
      show OGoal p e below s _ _ _ (T124.setTop (mkF m 13 #[.val (.ref a), .val (.int few), .val (.int most), .val (.int (2 : Int32)), .unset] [(.int (4 : Int32)), (.int (2 : Int32))]))
      refine OGoal.mp (S' := (T124.setTop (mkF m 16 #[.val (.ref a), .val (.int few), .val (.int most), .val (.int (2 : Int32)), .unset] []))) (fun _ k => XS.icmpNo X126.here hx rfl (hb hby own_d_prog_19_method_10_code_13) rfl (XT.ii_ge_f (by decide)) k) ?_
      refine OGoal.mp (S' := (T124.setTop (mkF m 17 #[.val (.ref a), .val (.int few), .val (.int most), .val (.int (2 : Int32)), .unset] [(.ref a)]))) (fun _ k => XS.aloadN X126.here hx rfl (hb hby own_d_prog_19_method_10_code_16) rfl rfl k) ?_
      obtain ⟨T131, X132, e133, st134⟩ := getF X126 hx hZ hown (host := "") (Or.inl (hw _ (List.mem_of_getElem? (i := 39) rfl))) Via.refl e129 Fn (g := mkF m 17 #[.val (.ref a), .val (.int few), .val (.int most), .val (.int (2 : Int32)), .unset] [(.ref a)]) rfl rfl (hb hby own_d_prog_19_method_10_code_17)
      refine OGoal.mp (S' := (T131.setTop (mkF m 20 #[.val (.ref a), .val (.int few), .val (.int most), .val (.int (2 : Int32)), .unset] [(.ref b)]))) (fun _ k => st134 _ k) ?_
      refine OGoal.mp (S' := (T131.setTop (mkF m 21 #[.val (.ref a), .val (.int few), .val (.int most), .val (.int (2 : Int32)), .unset] [(.int (2 : Int32)), (.ref b)]))) (fun _ k => XS.iloadN X132.here hx rfl (hb hby own_d_prog_19_method_10_code_20) rfl k) ?_
      refine oCallV (y := (⟨"java/lang/String", "charAt", "(I)C"⟩ : MethodName)) (z := (⟨"java/lang/String", "charAt", "(I)C"⟩ : MethodName)) X132 hx hZ hown (hw _ (List.mem_of_getElem? (i := 63) rfl)) (hw _ (List.mem_of_getElem? (i := 64) rfl)) (hw _ (List.mem_of_getElem? (i := 66) rfl)) (hw _ (List.mem_of_getElem? (i := 65) rfl)) (hw _ (List.mem_of_getElem? (i := 8) rfl)) (hw _ (List.mem_of_getElem? (i := 67) rfl)) (by decide) (rmCA l Z a0 hw b (2 : Int32) h0 n0 Z0 cs fm hcs hfm St f hC hS (by decide) (by decide)) e133 hS.exa [(.int (2 : Int32))] [] rfl rfl (by rw [hml]; rfl) (notFace_of_selects (args := #[]) (mvT hZ (hw _ (List.mem_of_getElem? (i := 66) rfl)))) (lenOf own_pd__I_C rfl) 0 (Nat.le_of_eq rfl) (by decide) (by decide) (by decide) (by decide) (hb hby own_d_prog_19_method_10_code_21) ?_
      intro v135 T136 L137 X138 q139
      obtain ⟨rfl, N140, e141⟩ := q139
      have N142 := Fr.app N130 N140
      show OGoal p e below s _ _ _ (T136.setTop (mkF m 24 #[.val (.ref a), .val (.int few), .val (.int most), .val (.int (2 : Int32)), .unset] [(.int (f (2 : Int32).toInt.toNat))]))
      refine oCallS (y := (⟨"com/example/deadlock_to_diagnosis/deadlocktodiagnosis/reader/LineScanner", "isDigit", "(C)Z"⟩ : MethodName)) X138 hx hZ hown (hw _ (List.mem_of_getElem? (i := 85) rfl)) (hw _ (List.mem_of_getElem? (i := 86) rfl)) (hw _ (List.mem_of_getElem? (i := 5) rfl)) (hw _ (List.mem_of_getElem? (i := 87) rfl)) (by decide) (rmDi l Z a0 hw (f (2 : Int32).toInt.toNat) h0 n0 Z0) e141 [(.int (f (2 : Int32).toInt.toNat))] [] rfl rfl (by rw [hml]; rfl) (lenOf own_pd__C_Z rfl) 0 (Nat.le_of_eq rfl) (by decide) (by decide) (by decide) (by decide) (hb hby own_d_prog_19_method_10_code_24) ?_
      intro v143 T144 L145 X146 q147
      obtain ⟨rfl, N148, e149⟩ := q147
      have N150 := Fr.app N142 N148
      show OGoal p e below s _ _ _ (T144.setTop (mkF m 27 #[.val (.ref a), .val (.int few), .val (.int most), .val (.int (2 : Int32)), .unset] [(.int (own_dg (f (2 : Int32).toInt.toNat)))]))
      by_cases hc151 : (own_dg (f (2 : Int32).toInt.toNat)) = 0
      · refine OGoal.mp (S' := (T144.setTop (mkF m 36 #[.val (.ref a), .val (.int few), .val (.int most), .val (.int (2 : Int32)), .unset] []))) (fun _ k => XS.ifYes X146.here hx rfl (pc0 := 27) (pc' := 36) rfl (hb hby own_d_prog_19_method_10_code_27) rfl (XT.i0_eq_t hc151) (by decide) (by decide) k) ?_
        refine OGoal.mp (S' := (T144.setTop (mkF m 37 #[.val (.ref a), .val (.int few), .val (.int most), .val (.int (2 : Int32)), .unset] [(.int (2 : Int32))]))) (fun _ k => XS.iloadN X146.here hx rfl (hb hby own_d_prog_19_method_10_code_36) rfl k) ?_
        refine OGoal.mp (S' := (T144.setTop (mkF m 38 #[.val (.ref a), .val (.int few), .val (.int most), .val (.int (2 : Int32)), .unset] [(.ref a), (.int (2 : Int32))]))) (fun _ k => XS.aloadN X146.here hx rfl (hb hby own_d_prog_19_method_10_code_37) rfl rfl k) ?_
        obtain ⟨T152, X153, e154, st155⟩ := getF X146 hx hZ hown (host := "") (Or.inl (hw _ (List.mem_of_getElem? (i := 46) rfl))) Via.refl e149 Fa (g := mkF m 38 #[.val (.ref a), .val (.int few), .val (.int most), .val (.int (2 : Int32)), .unset] [(.ref a), (.int (2 : Int32))]) rfl rfl (hb hby own_d_prog_19_method_10_code_38)
        refine OGoal.mp (S' := (T152.setTop (mkF m 41 #[.val (.ref a), .val (.int few), .val (.int most), .val (.int (2 : Int32)), .unset] [(.int (0 : Int32)), (.int (2 : Int32))]))) (fun _ k => st155 _ k) ?_
        refine OGoal.mp (S' := (T152.setTop (mkF m 42 #[.val (.ref a), .val (.int few), .val (.int most), .val (.int (2 : Int32)), .unset] [(.int ((2 : Int32) - (0 : Int32)))]))) (fun _ k => XS.isub X153.here hx rfl (hb hby own_d_prog_19_method_10_code_41) rfl k) ?_
        rw [show ((2 : Int32) - (0 : Int32)) = (2 : Int32) by decide]
        show OGoal p e below s _ _ _ (T152.setTop (mkF m 42 #[.val (.ref a), .val (.int few), .val (.int most), .val (.int (2 : Int32)), .unset] [(.int (2 : Int32))]))
        refine OGoal.mp (S' := (T152.setTop (mkF m 43 #[.val (.ref a), .val (.int few), .val (.int most), .val (.int (2 : Int32)), .unset] [(.int few), (.int (2 : Int32))]))) (fun _ k => XS.iloadN X153.here hx rfl (hb hby own_d_prog_19_method_10_code_42) rfl k) ?_
        by_cases hc156 : (2 : Int32) < few
        · refine OGoal.mp (S' := (T152.setTop (mkF m 60 #[.val (.ref a), .val (.int few), .val (.int most), .val (.int (2 : Int32)), .unset] []))) (fun _ k => XS.icmpYes X153.here hx rfl (pc0 := 43) (pc' := 60) rfl (hb hby own_d_prog_19_method_10_code_43) rfl (XT.ii_lt_t hc156) (by decide) (by decide) k) ?_
          refine OGoal.mp (S' := (T152.setTop (mkF m 61 #[.val (.ref a), .val (.int few), .val (.int most), .val (.int (2 : Int32)), .unset] [(.int (0 : Int32))]))) (fun _ k => XS.iconst X153.here hx rfl (hb hby own_d_prog_19_method_10_code_60) k) ?_
          refine OGoal.mp (S' := (T152.setTop (mkF m 63 #[.val (.ref a), .val (.int few), .val (.int most), .val (.int (2 : Int32)), .val (.int (0 : Int32))] []))) (fun _ k => XS.istore X153.here hx rfl (hb hby own_d_prog_19_method_10_code_61) rfl (l' := #[.val (.ref a), .val (.int few), .val (.int most), .val (.int (2 : Int32)), .val (.int (0 : Int32))]) rfl k) ?_
          refine OGoal.mp (S' := (T152.setTop (mkF m 65 #[.val (.ref a), .val (.int few), .val (.int most), .val (.int (2 : Int32)), .val (.int (0 : Int32))] [(.int (0 : Int32))]))) (fun _ k => XS.iload X153.here hx rfl (hb hby own_d_prog_19_method_10_code_63) rfl k) ?_
          refine OGoal.mp (S' := (T152.setTop (mkF m 73 #[.val (.ref a), .val (.int few), .val (.int most), .val (.int (2 : Int32)), .val (.int (0 : Int32))] []))) (fun _ k => XS.ifYes X153.here hx rfl (pc0 := 65) (pc' := 73) rfl (hb hby own_d_prog_19_method_10_code_65) rfl (XT.i0_eq_t (by decide)) (by decide) (by decide) k) ?_
          refine OGoal.mp (S' := (T152.setTop (mkF m 75 #[.val (.ref a), .val (.int few), .val (.int most), .val (.int (2 : Int32)), .val (.int (0 : Int32))] [(.int (0 : Int32))]))) (fun _ k => XS.iload X153.here hx rfl (hb hby own_d_prog_19_method_10_code_73) rfl k) ?_
          refine oRetZ X153 hx hlk hret (Or.inl rfl) (hb hby own_d_prog_19_method_10_code_75) ?_ (by decide) (by decide)
          have hr : own_run f (4 - (0 : Int32).toInt.toNat) (0 : Int32).toInt.toNat = 2 := by
            show own_run f 4 0 = 2
            have e0 : own_run f 4 0 = own_run f 3 1 + 1 := if_neg hc37
            have e1 : own_run f 3 1 = own_run f 2 2 + 1 := if_neg hc94
            have e2 : own_run f 2 2 = 0 := if_pos hc151
            rw [e0, e1, e2]
          have hs : own_res (Int32.ofNat 2) few most = (0 : Int32) := by show own_res (2 : Int32) few most = _; unfold own_res; rw [if_pos hc156]
          refine ⟨?_, N150, ?_, ?_⟩
          · rw [hr, hs]
          · rw [e154]; exact (Keep.refl h0 [a])
          · rw [hr, e154]; unfold own_at; rw [hs]; exact Fa
        · refine OGoal.mp (S' := (T152.setTop (mkF m 46 #[.val (.ref a), .val (.int few), .val (.int most), .val (.int (2 : Int32)), .unset] []))) (fun _ k => XS.icmpNo X153.here hx rfl (hb hby own_d_prog_19_method_10_code_43) rfl (XT.ii_lt_f hc156) k) ?_
          refine OGoal.mp (S' := (T152.setTop (mkF m 47 #[.val (.ref a), .val (.int few), .val (.int most), .val (.int (2 : Int32)), .unset] [(.int (2 : Int32))]))) (fun _ k => XS.iloadN X153.here hx rfl (hb hby own_d_prog_19_method_10_code_46) rfl k) ?_
          refine OGoal.mp (S' := (T152.setTop (mkF m 48 #[.val (.ref a), .val (.int few), .val (.int most), .val (.int (2 : Int32)), .unset] [(.ref a), (.int (2 : Int32))]))) (fun _ k => XS.aloadN X153.here hx rfl (hb hby own_d_prog_19_method_10_code_47) rfl rfl k) ?_
          obtain ⟨T157, X158, e159, st160⟩ := getF X153 hx hZ hown (host := "") (Or.inl (hw _ (List.mem_of_getElem? (i := 46) rfl))) Via.refl e154 Fa (g := mkF m 48 #[.val (.ref a), .val (.int few), .val (.int most), .val (.int (2 : Int32)), .unset] [(.ref a), (.int (2 : Int32))]) rfl rfl (hb hby own_d_prog_19_method_10_code_48)
          refine OGoal.mp (S' := (T157.setTop (mkF m 51 #[.val (.ref a), .val (.int few), .val (.int most), .val (.int (2 : Int32)), .unset] [(.int (0 : Int32)), (.int (2 : Int32))]))) (fun _ k => st160 _ k) ?_
          refine OGoal.mp (S' := (T157.setTop (mkF m 52 #[.val (.ref a), .val (.int few), .val (.int most), .val (.int (2 : Int32)), .unset] [(.int ((2 : Int32) - (0 : Int32)))]))) (fun _ k => XS.isub X158.here hx rfl (hb hby own_d_prog_19_method_10_code_51) rfl k) ?_
          rw [show ((2 : Int32) - (0 : Int32)) = (2 : Int32) by decide]
          show OGoal p e below s _ _ _ (T157.setTop (mkF m 52 #[.val (.ref a), .val (.int few), .val (.int most), .val (.int (2 : Int32)), .unset] [(.int (2 : Int32))]))
          refine OGoal.mp (S' := (T157.setTop (mkF m 53 #[.val (.ref a), .val (.int few), .val (.int most), .val (.int (2 : Int32)), .unset] [(.int most), (.int (2 : Int32))]))) (fun _ k => XS.iloadN X158.here hx rfl (hb hby own_d_prog_19_method_10_code_52) rfl k) ?_
          by_cases hc161 : most < (2 : Int32)
          · refine OGoal.mp (S' := (T157.setTop (mkF m 60 #[.val (.ref a), .val (.int few), .val (.int most), .val (.int (2 : Int32)), .unset] []))) (fun _ k => XS.icmpYes X158.here hx rfl (pc0 := 53) (pc' := 60) rfl (hb hby own_d_prog_19_method_10_code_53) rfl (XT.ii_gt_t hc161) (by decide) (by decide) k) ?_
            refine OGoal.mp (S' := (T157.setTop (mkF m 61 #[.val (.ref a), .val (.int few), .val (.int most), .val (.int (2 : Int32)), .unset] [(.int (0 : Int32))]))) (fun _ k => XS.iconst X158.here hx rfl (hb hby own_d_prog_19_method_10_code_60) k) ?_
            refine OGoal.mp (S' := (T157.setTop (mkF m 63 #[.val (.ref a), .val (.int few), .val (.int most), .val (.int (2 : Int32)), .val (.int (0 : Int32))] []))) (fun _ k => XS.istore X158.here hx rfl (hb hby own_d_prog_19_method_10_code_61) rfl (l' := #[.val (.ref a), .val (.int few), .val (.int most), .val (.int (2 : Int32)), .val (.int (0 : Int32))]) rfl k) ?_
            refine OGoal.mp (S' := (T157.setTop (mkF m 65 #[.val (.ref a), .val (.int few), .val (.int most), .val (.int (2 : Int32)), .val (.int (0 : Int32))] [(.int (0 : Int32))]))) (fun _ k => XS.iload X158.here hx rfl (hb hby own_d_prog_19_method_10_code_63) rfl k) ?_
            refine OGoal.mp (S' := (T157.setTop (mkF m 73 #[.val (.ref a), .val (.int few), .val (.int most), .val (.int (2 : Int32)), .val (.int (0 : Int32))] []))) (fun _ k => XS.ifYes X158.here hx rfl (pc0 := 65) (pc' := 73) rfl (hb hby own_d_prog_19_method_10_code_65) rfl (XT.i0_eq_t (by decide)) (by decide) (by decide) k) ?_
            refine OGoal.mp (S' := (T157.setTop (mkF m 75 #[.val (.ref a), .val (.int few), .val (.int most), .val (.int (2 : Int32)), .val (.int (0 : Int32))] [(.int (0 : Int32))]))) (fun _ k => XS.iload X158.here hx rfl (hb hby own_d_prog_19_method_10_code_73) rfl k) ?_
            refine oRetZ X158 hx hlk hret (Or.inl rfl) (hb hby own_d_prog_19_method_10_code_75) ?_ (by decide) (by decide)
            have hr : own_run f (4 - (0 : Int32).toInt.toNat) (0 : Int32).toInt.toNat = 2 := by
              show own_run f 4 0 = 2
              have e0 : own_run f 4 0 = own_run f 3 1 + 1 := if_neg hc37
              have e1 : own_run f 3 1 = own_run f 2 2 + 1 := if_neg hc94
              have e2 : own_run f 2 2 = 0 := if_pos hc151
              rw [e0, e1, e2]
            have hs : own_res (Int32.ofNat 2) few most = (0 : Int32) := by show own_res (2 : Int32) few most = _; unfold own_res; rw [if_neg hc156, if_pos hc161]
            refine ⟨?_, N150, ?_, ?_⟩
            · rw [hr, hs]
            · rw [e159]; exact (Keep.refl h0 [a])
            · rw [hr, e159]; unfold own_at; rw [hs]; exact Fa
          · refine OGoal.mp (S' := (T157.setTop (mkF m 56 #[.val (.ref a), .val (.int few), .val (.int most), .val (.int (2 : Int32)), .unset] []))) (fun _ k => XS.icmpNo X158.here hx rfl (hb hby own_d_prog_19_method_10_code_53) rfl (XT.ii_gt_f hc161) k) ?_
            refine OGoal.mp (S' := (T157.setTop (mkF m 57 #[.val (.ref a), .val (.int few), .val (.int most), .val (.int (2 : Int32)), .unset] [(.int (1 : Int32))]))) (fun _ k => XS.iconst X158.here hx rfl (hb hby own_d_prog_19_method_10_code_56) k) ?_
            refine OGoal.mp (S' := (T157.setTop (mkF m 61 #[.val (.ref a), .val (.int few), .val (.int most), .val (.int (2 : Int32)), .unset] [(.int (1 : Int32))]))) (fun _ k => XS.goto X158.here hx rfl (pc0 := 57) (pc' := 61) rfl (hb hby own_d_prog_19_method_10_code_57) (by decide) (by decide) k) ?_
            refine OGoal.mp (S' := (T157.setTop (mkF m 63 #[.val (.ref a), .val (.int few), .val (.int most), .val (.int (2 : Int32)), .val (.int (1 : Int32))] []))) (fun _ k => XS.istore X158.here hx rfl (hb hby own_d_prog_19_method_10_code_61) rfl (l' := #[.val (.ref a), .val (.int few), .val (.int most), .val (.int (2 : Int32)), .val (.int (1 : Int32))]) rfl k) ?_
            refine OGoal.mp (S' := (T157.setTop (mkF m 65 #[.val (.ref a), .val (.int few), .val (.int most), .val (.int (2 : Int32)), .val (.int (1 : Int32))] [(.int (1 : Int32))]))) (fun _ k => XS.iload X158.here hx rfl (hb hby own_d_prog_19_method_10_code_63) rfl k) ?_
            refine OGoal.mp (S' := (T157.setTop (mkF m 68 #[.val (.ref a), .val (.int few), .val (.int most), .val (.int (2 : Int32)), .val (.int (1 : Int32))] []))) (fun _ k => XS.ifNo X158.here hx rfl (hb hby own_d_prog_19_method_10_code_65) rfl (XT.i0_eq_f (by decide)) k) ?_
            refine OGoal.mp (S' := (T157.setTop (mkF m 69 #[.val (.ref a), .val (.int few), .val (.int most), .val (.int (2 : Int32)), .val (.int (1 : Int32))] [(.ref a)]))) (fun _ k => XS.aloadN X158.here hx rfl (hb hby own_d_prog_19_method_10_code_68) rfl rfl k) ?_
            refine OGoal.mp (S' := (T157.setTop (mkF m 70 #[.val (.ref a), .val (.int few), .val (.int most), .val (.int (2 : Int32)), .val (.int (1 : Int32))] [(.int (2 : Int32)), (.ref a)]))) (fun _ k => XS.iloadN X158.here hx rfl (hb hby own_d_prog_19_method_10_code_69) rfl k) ?_
            obtain ⟨T162, h166, X163, e164, W167, st165⟩ := putF X158 hx hZ hown (host := "") (Or.inl (hw _ (List.mem_of_getElem? (i := 46) rfl))) Via.refl e159 Fa E (Or.inl (hw _ (List.mem_of_getElem? (i := 47) rfl))) (hw _ (List.mem_of_getElem? (i := 4) rfl)) (ty := .int) (by decide) rfl rfl (g := mkF m 70 #[.val (.ref a), .val (.int few), .val (.int most), .val (.int (2 : Int32)), .val (.int (1 : Int32))] [(.int (2 : Int32)), (.ref a)]) rfl rfl (hb hby own_d_prog_19_method_10_code_70)
            have N168 := Fr.snoc X163 N150 ab
            have Z169 : n0 ≤ h166.size := Nat.le_trans Z0 (Keep.of_wr W167).1
            have K170 : Keep h0 h166 [a] := (Keep.refl h0 [a]).wr W167 (Or.inl (by simp))
            have F171 := St.wr W167
            have F172 := E.wr W167
            have F173 := hS.exa.wr W167
            have F174 := Fn.other W167 (Or.inr (slot_ne (a0 := a0) (C := "com/example/deadlock_to_diagnosis/deadlocktodiagnosis/reader/LineScanner") (t := (.object "java/lang/String")) (t' := .int) (Or.inr (hw _ (List.mem_of_getElem? (i := 40) rfl))) (Or.inl (hw _ (List.mem_of_getElem? (i := 47) rfl))) (by decide) (by decide) (by decide)))
            have F175 := Fa.same W167
            refine OGoal.mp (S' := (T162.setTop (mkF m 73 #[.val (.ref a), .val (.int few), .val (.int most), .val (.int (2 : Int32)), .val (.int (1 : Int32))] []))) (fun _ k => st165 _ k) ?_
            refine OGoal.mp (S' := (T162.setTop (mkF m 75 #[.val (.ref a), .val (.int few), .val (.int most), .val (.int (2 : Int32)), .val (.int (1 : Int32))] [(.int (1 : Int32))]))) (fun _ k => XS.iload X163.here hx rfl (hb hby own_d_prog_19_method_10_code_73) rfl k) ?_
            refine oRetZ X163 hx hlk hret (Or.inr rfl) (hb hby own_d_prog_19_method_10_code_75) ?_ (by decide) (by decide)
            have hr : own_run f (4 - (0 : Int32).toInt.toNat) (0 : Int32).toInt.toNat = 2 := by
              show own_run f 4 0 = 2
              have e0 : own_run f 4 0 = own_run f 3 1 + 1 := if_neg hc37
              have e1 : own_run f 3 1 = own_run f 2 2 + 1 := if_neg hc94
              have e2 : own_run f 2 2 = 0 := if_pos hc151
              rw [e0, e1, e2]
            have hs : own_res (Int32.ofNat 2) few most = (1 : Int32) := by show own_res (2 : Int32) few most = _; unfold own_res; rw [if_neg hc156, if_neg hc161]
            refine ⟨?_, N168, ?_, ?_⟩
            · rw [hr, hs]
            · rw [e164]; exact K170
            · rw [hr, e164]; unfold own_at; rw [hs]; exact F175
      · refine OGoal.mp (S' := (T144.setTop (mkF m 30 #[.val (.ref a), .val (.int few), .val (.int most), .val (.int (2 : Int32)), .unset] []))) (fun _ k => XS.ifNo X146.here hx rfl (hb hby own_d_prog_19_method_10_code_27) rfl (XT.i0_eq_f hc151) k) ?_
        refine OGoal.mp (S' := (T144.setTop (mkF m 33 #[.val (.ref a), .val (.int few), .val (.int most), .val (.int ((2 : Int32) + (1 : Int32))), .unset] []))) (fun _ k => XT.iincV X146.here hx rfl (1 : Int32) (hb hby own_d_prog_19_method_10_code_30) rfl rfl (l' := #[.val (.ref a), .val (.int few), .val (.int most), .val (.int ((2 : Int32) + (1 : Int32))), .unset]) rfl k) ?_
        rw [show ((2 : Int32) + (1 : Int32)) = (3 : Int32) by decide]
        show OGoal p e below s _ _ _ (T144.setTop (mkF m 33 #[.val (.ref a), .val (.int few), .val (.int most), .val (.int (3 : Int32)), .unset] []))
        refine OGoal.mp (S' := (T144.setTop (mkF m 5 #[.val (.ref a), .val (.int few), .val (.int most), .val (.int (3 : Int32)), .unset] []))) (fun _ k => XS.goto X146.here hx rfl (pc0 := 33) (pc' := 5) rfl (hb hby own_d_prog_19_method_10_code_33) (by decide) (by decide) k) ?_
        refine OGoal.mp (S' := (T144.setTop (mkF m 6 #[.val (.ref a), .val (.int few), .val (.int most), .val (.int (3 : Int32)), .unset] [(.int (3 : Int32))]))) (fun _ k => XS.iloadN X146.here hx rfl (hb hby own_d_prog_19_method_10_code_5) rfl k) ?_
        refine OGoal.mp (S' := (T144.setTop (mkF m 7 #[.val (.ref a), .val (.int few), .val (.int most), .val (.int (3 : Int32)), .unset] [(.ref a), (.int (3 : Int32))]))) (fun _ k => XS.aloadN X146.here hx rfl (hb hby own_d_prog_19_method_10_code_6) rfl rfl k) ?_
        obtain ⟨T176, X177, e178, st179⟩ := getF X146 hx hZ hown (host := "") (Or.inl (hw _ (List.mem_of_getElem? (i := 39) rfl))) Via.refl e149 Fn (g := mkF m 7 #[.val (.ref a), .val (.int few), .val (.int most), .val (.int (3 : Int32)), .unset] [(.ref a), (.int (3 : Int32))]) rfl rfl (hb hby own_d_prog_19_method_10_code_7)
        refine OGoal.mp (S' := (T176.setTop (mkF m 10 #[.val (.ref a), .val (.int few), .val (.int most), .val (.int (3 : Int32)), .unset] [(.ref b), (.int (3 : Int32))]))) (fun _ k => st179 _ k) ?_
        refine oCallV (y := (⟨"java/lang/String", "length", "()I"⟩ : MethodName)) (z := (⟨"java/lang/String", "length", "()I"⟩ : MethodName)) X177 hx hZ hown (hw _ (List.mem_of_getElem? (i := 53) rfl)) (hw _ (List.mem_of_getElem? (i := 54) rfl)) (hw _ (List.mem_of_getElem? (i := 56) rfl)) (hw _ (List.mem_of_getElem? (i := 55) rfl)) (hw _ (List.mem_of_getElem? (i := 8) rfl)) (hw _ (List.mem_of_getElem? (i := 57) rfl)) (by decide) (rmLn l Z a0 hw b h0 n0 Z0 cs fm hcs hfm St f hS) e178 hS.exa [] [(.int (3 : Int32))] rfl rfl (by rw [hml]; rfl) (notFace_of_selects (args := #[]) (mvT hZ (hw _ (List.mem_of_getElem? (i := 56) rfl)))) (lenOf own_pd___I rfl) 1 (Nat.le_of_eq rfl) (by decide) (by decide) (by decide) (by decide) (hb hby own_d_prog_19_method_10_code_10) ?_
        intro v180 T181 L182 X183 q184
        obtain ⟨rfl, N185, e186⟩ := q184
        have N187 := Fr.app N150 N185
        show OGoal p e below s _ _ _ (T181.setTop (mkF m 13 #[.val (.ref a), .val (.int few), .val (.int most), .val (.int (3 : Int32)), .unset] [(.int (4 : Int32)), (.int (3 : Int32))]))
        refine OGoal.mp (S' := (T181.setTop (mkF m 16 #[.val (.ref a), .val (.int few), .val (.int most), .val (.int (3 : Int32)), .unset] []))) (fun _ k => XS.icmpNo X183.here hx rfl (hb hby own_d_prog_19_method_10_code_13) rfl (XT.ii_ge_f (by decide)) k) ?_
        refine OGoal.mp (S' := (T181.setTop (mkF m 17 #[.val (.ref a), .val (.int few), .val (.int most), .val (.int (3 : Int32)), .unset] [(.ref a)]))) (fun _ k => XS.aloadN X183.here hx rfl (hb hby own_d_prog_19_method_10_code_16) rfl rfl k) ?_
        obtain ⟨T188, X189, e190, st191⟩ := getF X183 hx hZ hown (host := "") (Or.inl (hw _ (List.mem_of_getElem? (i := 39) rfl))) Via.refl e186 Fn (g := mkF m 17 #[.val (.ref a), .val (.int few), .val (.int most), .val (.int (3 : Int32)), .unset] [(.ref a)]) rfl rfl (hb hby own_d_prog_19_method_10_code_17)
        refine OGoal.mp (S' := (T188.setTop (mkF m 20 #[.val (.ref a), .val (.int few), .val (.int most), .val (.int (3 : Int32)), .unset] [(.ref b)]))) (fun _ k => st191 _ k) ?_
        refine OGoal.mp (S' := (T188.setTop (mkF m 21 #[.val (.ref a), .val (.int few), .val (.int most), .val (.int (3 : Int32)), .unset] [(.int (3 : Int32)), (.ref b)]))) (fun _ k => XS.iloadN X189.here hx rfl (hb hby own_d_prog_19_method_10_code_20) rfl k) ?_
        refine oCallV (y := (⟨"java/lang/String", "charAt", "(I)C"⟩ : MethodName)) (z := (⟨"java/lang/String", "charAt", "(I)C"⟩ : MethodName)) X189 hx hZ hown (hw _ (List.mem_of_getElem? (i := 63) rfl)) (hw _ (List.mem_of_getElem? (i := 64) rfl)) (hw _ (List.mem_of_getElem? (i := 66) rfl)) (hw _ (List.mem_of_getElem? (i := 65) rfl)) (hw _ (List.mem_of_getElem? (i := 8) rfl)) (hw _ (List.mem_of_getElem? (i := 67) rfl)) (by decide) (rmCA l Z a0 hw b (3 : Int32) h0 n0 Z0 cs fm hcs hfm St f hC hS (by decide) (by decide)) e190 hS.exa [(.int (3 : Int32))] [] rfl rfl (by rw [hml]; rfl) (notFace_of_selects (args := #[]) (mvT hZ (hw _ (List.mem_of_getElem? (i := 66) rfl)))) (lenOf own_pd__I_C rfl) 0 (Nat.le_of_eq rfl) (by decide) (by decide) (by decide) (by decide) (hb hby own_d_prog_19_method_10_code_21) ?_
        intro v192 T193 L194 X195 q196
        obtain ⟨rfl, N197, e198⟩ := q196
        have N199 := Fr.app N187 N197
        show OGoal p e below s _ _ _ (T193.setTop (mkF m 24 #[.val (.ref a), .val (.int few), .val (.int most), .val (.int (3 : Int32)), .unset] [(.int (f (3 : Int32).toInt.toNat))]))
        refine oCallS (y := (⟨"com/example/deadlock_to_diagnosis/deadlocktodiagnosis/reader/LineScanner", "isDigit", "(C)Z"⟩ : MethodName)) X195 hx hZ hown (hw _ (List.mem_of_getElem? (i := 85) rfl)) (hw _ (List.mem_of_getElem? (i := 86) rfl)) (hw _ (List.mem_of_getElem? (i := 5) rfl)) (hw _ (List.mem_of_getElem? (i := 87) rfl)) (by decide) (rmDi l Z a0 hw (f (3 : Int32).toInt.toNat) h0 n0 Z0) e198 [(.int (f (3 : Int32).toInt.toNat))] [] rfl rfl (by rw [hml]; rfl) (lenOf own_pd__C_Z rfl) 0 (Nat.le_of_eq rfl) (by decide) (by decide) (by decide) (by decide) (hb hby own_d_prog_19_method_10_code_24) ?_
        intro v200 T201 L202 X203 q204
        obtain ⟨rfl, N205, e206⟩ := q204
        have N207 := Fr.app N199 N205
        show OGoal p e below s _ _ _ (T201.setTop (mkF m 27 #[.val (.ref a), .val (.int few), .val (.int most), .val (.int (3 : Int32)), .unset] [(.int (own_dg (f (3 : Int32).toInt.toNat)))]))
        by_cases hc208 : (own_dg (f (3 : Int32).toInt.toNat)) = 0
        · refine OGoal.mp (S' := (T201.setTop (mkF m 36 #[.val (.ref a), .val (.int few), .val (.int most), .val (.int (3 : Int32)), .unset] []))) (fun _ k => XS.ifYes X203.here hx rfl (pc0 := 27) (pc' := 36) rfl (hb hby own_d_prog_19_method_10_code_27) rfl (XT.i0_eq_t hc208) (by decide) (by decide) k) ?_
          refine OGoal.mp (S' := (T201.setTop (mkF m 37 #[.val (.ref a), .val (.int few), .val (.int most), .val (.int (3 : Int32)), .unset] [(.int (3 : Int32))]))) (fun _ k => XS.iloadN X203.here hx rfl (hb hby own_d_prog_19_method_10_code_36) rfl k) ?_
          refine OGoal.mp (S' := (T201.setTop (mkF m 38 #[.val (.ref a), .val (.int few), .val (.int most), .val (.int (3 : Int32)), .unset] [(.ref a), (.int (3 : Int32))]))) (fun _ k => XS.aloadN X203.here hx rfl (hb hby own_d_prog_19_method_10_code_37) rfl rfl k) ?_
          obtain ⟨T209, X210, e211, st212⟩ := getF X203 hx hZ hown (host := "") (Or.inl (hw _ (List.mem_of_getElem? (i := 46) rfl))) Via.refl e206 Fa (g := mkF m 38 #[.val (.ref a), .val (.int few), .val (.int most), .val (.int (3 : Int32)), .unset] [(.ref a), (.int (3 : Int32))]) rfl rfl (hb hby own_d_prog_19_method_10_code_38)
          refine OGoal.mp (S' := (T209.setTop (mkF m 41 #[.val (.ref a), .val (.int few), .val (.int most), .val (.int (3 : Int32)), .unset] [(.int (0 : Int32)), (.int (3 : Int32))]))) (fun _ k => st212 _ k) ?_
          refine OGoal.mp (S' := (T209.setTop (mkF m 42 #[.val (.ref a), .val (.int few), .val (.int most), .val (.int (3 : Int32)), .unset] [(.int ((3 : Int32) - (0 : Int32)))]))) (fun _ k => XS.isub X210.here hx rfl (hb hby own_d_prog_19_method_10_code_41) rfl k) ?_
          rw [show ((3 : Int32) - (0 : Int32)) = (3 : Int32) by decide]
          show OGoal p e below s _ _ _ (T209.setTop (mkF m 42 #[.val (.ref a), .val (.int few), .val (.int most), .val (.int (3 : Int32)), .unset] [(.int (3 : Int32))]))
          refine OGoal.mp (S' := (T209.setTop (mkF m 43 #[.val (.ref a), .val (.int few), .val (.int most), .val (.int (3 : Int32)), .unset] [(.int few), (.int (3 : Int32))]))) (fun _ k => XS.iloadN X210.here hx rfl (hb hby own_d_prog_19_method_10_code_42) rfl k) ?_
          by_cases hc213 : (3 : Int32) < few
          · refine OGoal.mp (S' := (T209.setTop (mkF m 60 #[.val (.ref a), .val (.int few), .val (.int most), .val (.int (3 : Int32)), .unset] []))) (fun _ k => XS.icmpYes X210.here hx rfl (pc0 := 43) (pc' := 60) rfl (hb hby own_d_prog_19_method_10_code_43) rfl (XT.ii_lt_t hc213) (by decide) (by decide) k) ?_
            refine OGoal.mp (S' := (T209.setTop (mkF m 61 #[.val (.ref a), .val (.int few), .val (.int most), .val (.int (3 : Int32)), .unset] [(.int (0 : Int32))]))) (fun _ k => XS.iconst X210.here hx rfl (hb hby own_d_prog_19_method_10_code_60) k) ?_
            refine OGoal.mp (S' := (T209.setTop (mkF m 63 #[.val (.ref a), .val (.int few), .val (.int most), .val (.int (3 : Int32)), .val (.int (0 : Int32))] []))) (fun _ k => XS.istore X210.here hx rfl (hb hby own_d_prog_19_method_10_code_61) rfl (l' := #[.val (.ref a), .val (.int few), .val (.int most), .val (.int (3 : Int32)), .val (.int (0 : Int32))]) rfl k) ?_
            refine OGoal.mp (S' := (T209.setTop (mkF m 65 #[.val (.ref a), .val (.int few), .val (.int most), .val (.int (3 : Int32)), .val (.int (0 : Int32))] [(.int (0 : Int32))]))) (fun _ k => XS.iload X210.here hx rfl (hb hby own_d_prog_19_method_10_code_63) rfl k) ?_
            refine OGoal.mp (S' := (T209.setTop (mkF m 73 #[.val (.ref a), .val (.int few), .val (.int most), .val (.int (3 : Int32)), .val (.int (0 : Int32))] []))) (fun _ k => XS.ifYes X210.here hx rfl (pc0 := 65) (pc' := 73) rfl (hb hby own_d_prog_19_method_10_code_65) rfl (XT.i0_eq_t (by decide)) (by decide) (by decide) k) ?_
            refine OGoal.mp (S' := (T209.setTop (mkF m 75 #[.val (.ref a), .val (.int few), .val (.int most), .val (.int (3 : Int32)), .val (.int (0 : Int32))] [(.int (0 : Int32))]))) (fun _ k => XS.iload X210.here hx rfl (hb hby own_d_prog_19_method_10_code_73) rfl k) ?_
            refine oRetZ X210 hx hlk hret (Or.inl rfl) (hb hby own_d_prog_19_method_10_code_75) ?_ (by decide) (by decide)
            have hr : own_run f (4 - (0 : Int32).toInt.toNat) (0 : Int32).toInt.toNat = 3 := by
              show own_run f 4 0 = 3
              have e0 : own_run f 4 0 = own_run f 3 1 + 1 := if_neg hc37
              have e1 : own_run f 3 1 = own_run f 2 2 + 1 := if_neg hc94
              have e2 : own_run f 2 2 = own_run f 1 3 + 1 := if_neg hc151
              have e3 : own_run f 1 3 = 0 := if_pos hc208
              rw [e0, e1, e2, e3]
            have hs : own_res (Int32.ofNat 3) few most = (0 : Int32) := by show own_res (3 : Int32) few most = _; unfold own_res; rw [if_pos hc213]
            refine ⟨?_, N207, ?_, ?_⟩
            · rw [hr, hs]
            · rw [e211]; exact (Keep.refl h0 [a])
            · rw [hr, e211]; unfold own_at; rw [hs]; exact Fa
          · refine OGoal.mp (S' := (T209.setTop (mkF m 46 #[.val (.ref a), .val (.int few), .val (.int most), .val (.int (3 : Int32)), .unset] []))) (fun _ k => XS.icmpNo X210.here hx rfl (hb hby own_d_prog_19_method_10_code_43) rfl (XT.ii_lt_f hc213) k) ?_
            refine OGoal.mp (S' := (T209.setTop (mkF m 47 #[.val (.ref a), .val (.int few), .val (.int most), .val (.int (3 : Int32)), .unset] [(.int (3 : Int32))]))) (fun _ k => XS.iloadN X210.here hx rfl (hb hby own_d_prog_19_method_10_code_46) rfl k) ?_
            refine OGoal.mp (S' := (T209.setTop (mkF m 48 #[.val (.ref a), .val (.int few), .val (.int most), .val (.int (3 : Int32)), .unset] [(.ref a), (.int (3 : Int32))]))) (fun _ k => XS.aloadN X210.here hx rfl (hb hby own_d_prog_19_method_10_code_47) rfl rfl k) ?_
            obtain ⟨T214, X215, e216, st217⟩ := getF X210 hx hZ hown (host := "") (Or.inl (hw _ (List.mem_of_getElem? (i := 46) rfl))) Via.refl e211 Fa (g := mkF m 48 #[.val (.ref a), .val (.int few), .val (.int most), .val (.int (3 : Int32)), .unset] [(.ref a), (.int (3 : Int32))]) rfl rfl (hb hby own_d_prog_19_method_10_code_48)
            refine OGoal.mp (S' := (T214.setTop (mkF m 51 #[.val (.ref a), .val (.int few), .val (.int most), .val (.int (3 : Int32)), .unset] [(.int (0 : Int32)), (.int (3 : Int32))]))) (fun _ k => st217 _ k) ?_
            refine OGoal.mp (S' := (T214.setTop (mkF m 52 #[.val (.ref a), .val (.int few), .val (.int most), .val (.int (3 : Int32)), .unset] [(.int ((3 : Int32) - (0 : Int32)))]))) (fun _ k => XS.isub X215.here hx rfl (hb hby own_d_prog_19_method_10_code_51) rfl k) ?_
            rw [show ((3 : Int32) - (0 : Int32)) = (3 : Int32) by decide]
            show OGoal p e below s _ _ _ (T214.setTop (mkF m 52 #[.val (.ref a), .val (.int few), .val (.int most), .val (.int (3 : Int32)), .unset] [(.int (3 : Int32))]))
            refine OGoal.mp (S' := (T214.setTop (mkF m 53 #[.val (.ref a), .val (.int few), .val (.int most), .val (.int (3 : Int32)), .unset] [(.int most), (.int (3 : Int32))]))) (fun _ k => XS.iloadN X215.here hx rfl (hb hby own_d_prog_19_method_10_code_52) rfl k) ?_
            by_cases hc218 : most < (3 : Int32)
            · refine OGoal.mp (S' := (T214.setTop (mkF m 60 #[.val (.ref a), .val (.int few), .val (.int most), .val (.int (3 : Int32)), .unset] []))) (fun _ k => XS.icmpYes X215.here hx rfl (pc0 := 53) (pc' := 60) rfl (hb hby own_d_prog_19_method_10_code_53) rfl (XT.ii_gt_t hc218) (by decide) (by decide) k) ?_
              refine OGoal.mp (S' := (T214.setTop (mkF m 61 #[.val (.ref a), .val (.int few), .val (.int most), .val (.int (3 : Int32)), .unset] [(.int (0 : Int32))]))) (fun _ k => XS.iconst X215.here hx rfl (hb hby own_d_prog_19_method_10_code_60) k) ?_
              refine OGoal.mp (S' := (T214.setTop (mkF m 63 #[.val (.ref a), .val (.int few), .val (.int most), .val (.int (3 : Int32)), .val (.int (0 : Int32))] []))) (fun _ k => XS.istore X215.here hx rfl (hb hby own_d_prog_19_method_10_code_61) rfl (l' := #[.val (.ref a), .val (.int few), .val (.int most), .val (.int (3 : Int32)), .val (.int (0 : Int32))]) rfl k) ?_
              refine OGoal.mp (S' := (T214.setTop (mkF m 65 #[.val (.ref a), .val (.int few), .val (.int most), .val (.int (3 : Int32)), .val (.int (0 : Int32))] [(.int (0 : Int32))]))) (fun _ k => XS.iload X215.here hx rfl (hb hby own_d_prog_19_method_10_code_63) rfl k) ?_
              refine OGoal.mp (S' := (T214.setTop (mkF m 73 #[.val (.ref a), .val (.int few), .val (.int most), .val (.int (3 : Int32)), .val (.int (0 : Int32))] []))) (fun _ k => XS.ifYes X215.here hx rfl (pc0 := 65) (pc' := 73) rfl (hb hby own_d_prog_19_method_10_code_65) rfl (XT.i0_eq_t (by decide)) (by decide) (by decide) k) ?_
              refine OGoal.mp (S' := (T214.setTop (mkF m 75 #[.val (.ref a), .val (.int few), .val (.int most), .val (.int (3 : Int32)), .val (.int (0 : Int32))] [(.int (0 : Int32))]))) (fun _ k => XS.iload X215.here hx rfl (hb hby own_d_prog_19_method_10_code_73) rfl k) ?_
              refine oRetZ X215 hx hlk hret (Or.inl rfl) (hb hby own_d_prog_19_method_10_code_75) ?_ (by decide) (by decide)
              have hr : own_run f (4 - (0 : Int32).toInt.toNat) (0 : Int32).toInt.toNat = 3 := by
                show own_run f 4 0 = 3
                have e0 : own_run f 4 0 = own_run f 3 1 + 1 := if_neg hc37
                have e1 : own_run f 3 1 = own_run f 2 2 + 1 := if_neg hc94
                have e2 : own_run f 2 2 = own_run f 1 3 + 1 := if_neg hc151
                have e3 : own_run f 1 3 = 0 := if_pos hc208
                rw [e0, e1, e2, e3]
              have hs : own_res (Int32.ofNat 3) few most = (0 : Int32) := by show own_res (3 : Int32) few most = _; unfold own_res; rw [if_neg hc213, if_pos hc218]
              refine ⟨?_, N207, ?_, ?_⟩
              · rw [hr, hs]
              · rw [e216]; exact (Keep.refl h0 [a])
              · rw [hr, e216]; unfold own_at; rw [hs]; exact Fa
            · refine OGoal.mp (S' := (T214.setTop (mkF m 56 #[.val (.ref a), .val (.int few), .val (.int most), .val (.int (3 : Int32)), .unset] []))) (fun _ k => XS.icmpNo X215.here hx rfl (hb hby own_d_prog_19_method_10_code_53) rfl (XT.ii_gt_f hc218) k) ?_
              refine OGoal.mp (S' := (T214.setTop (mkF m 57 #[.val (.ref a), .val (.int few), .val (.int most), .val (.int (3 : Int32)), .unset] [(.int (1 : Int32))]))) (fun _ k => XS.iconst X215.here hx rfl (hb hby own_d_prog_19_method_10_code_56) k) ?_
              refine OGoal.mp (S' := (T214.setTop (mkF m 61 #[.val (.ref a), .val (.int few), .val (.int most), .val (.int (3 : Int32)), .unset] [(.int (1 : Int32))]))) (fun _ k => XS.goto X215.here hx rfl (pc0 := 57) (pc' := 61) rfl (hb hby own_d_prog_19_method_10_code_57) (by decide) (by decide) k) ?_
              refine OGoal.mp (S' := (T214.setTop (mkF m 63 #[.val (.ref a), .val (.int few), .val (.int most), .val (.int (3 : Int32)), .val (.int (1 : Int32))] []))) (fun _ k => XS.istore X215.here hx rfl (hb hby own_d_prog_19_method_10_code_61) rfl (l' := #[.val (.ref a), .val (.int few), .val (.int most), .val (.int (3 : Int32)), .val (.int (1 : Int32))]) rfl k) ?_
              refine OGoal.mp (S' := (T214.setTop (mkF m 65 #[.val (.ref a), .val (.int few), .val (.int most), .val (.int (3 : Int32)), .val (.int (1 : Int32))] [(.int (1 : Int32))]))) (fun _ k => XS.iload X215.here hx rfl (hb hby own_d_prog_19_method_10_code_63) rfl k) ?_
              refine OGoal.mp (S' := (T214.setTop (mkF m 68 #[.val (.ref a), .val (.int few), .val (.int most), .val (.int (3 : Int32)), .val (.int (1 : Int32))] []))) (fun _ k => XS.ifNo X215.here hx rfl (hb hby own_d_prog_19_method_10_code_65) rfl (XT.i0_eq_f (by decide)) k) ?_
              refine OGoal.mp (S' := (T214.setTop (mkF m 69 #[.val (.ref a), .val (.int few), .val (.int most), .val (.int (3 : Int32)), .val (.int (1 : Int32))] [(.ref a)]))) (fun _ k => XS.aloadN X215.here hx rfl (hb hby own_d_prog_19_method_10_code_68) rfl rfl k) ?_
              refine OGoal.mp (S' := (T214.setTop (mkF m 70 #[.val (.ref a), .val (.int few), .val (.int most), .val (.int (3 : Int32)), .val (.int (1 : Int32))] [(.int (3 : Int32)), (.ref a)]))) (fun _ k => XS.iloadN X215.here hx rfl (hb hby own_d_prog_19_method_10_code_69) rfl k) ?_
              obtain ⟨T219, h223, X220, e221, W224, st222⟩ := putF X215 hx hZ hown (host := "") (Or.inl (hw _ (List.mem_of_getElem? (i := 46) rfl))) Via.refl e216 Fa E (Or.inl (hw _ (List.mem_of_getElem? (i := 47) rfl))) (hw _ (List.mem_of_getElem? (i := 4) rfl)) (ty := .int) (by decide) rfl rfl (g := mkF m 70 #[.val (.ref a), .val (.int few), .val (.int most), .val (.int (3 : Int32)), .val (.int (1 : Int32))] [(.int (3 : Int32)), (.ref a)]) rfl rfl (hb hby own_d_prog_19_method_10_code_70)
              have N225 := Fr.snoc X220 N207 ab
              have Z226 : n0 ≤ h223.size := Nat.le_trans Z0 (Keep.of_wr W224).1
              have K227 : Keep h0 h223 [a] := (Keep.refl h0 [a]).wr W224 (Or.inl (by simp))
              have F228 := St.wr W224
              have F229 := E.wr W224
              have F230 := hS.exa.wr W224
              have F231 := Fn.other W224 (Or.inr (slot_ne (a0 := a0) (C := "com/example/deadlock_to_diagnosis/deadlocktodiagnosis/reader/LineScanner") (t := (.object "java/lang/String")) (t' := .int) (Or.inr (hw _ (List.mem_of_getElem? (i := 40) rfl))) (Or.inl (hw _ (List.mem_of_getElem? (i := 47) rfl))) (by decide) (by decide) (by decide)))
              have F232 := Fa.same W224
              refine OGoal.mp (S' := (T219.setTop (mkF m 73 #[.val (.ref a), .val (.int few), .val (.int most), .val (.int (3 : Int32)), .val (.int (1 : Int32))] []))) (fun _ k => st222 _ k) ?_
              refine OGoal.mp (S' := (T219.setTop (mkF m 75 #[.val (.ref a), .val (.int few), .val (.int most), .val (.int (3 : Int32)), .val (.int (1 : Int32))] [(.int (1 : Int32))]))) (fun _ k => XS.iload X220.here hx rfl (hb hby own_d_prog_19_method_10_code_73) rfl k) ?_
              refine oRetZ X220 hx hlk hret (Or.inr rfl) (hb hby own_d_prog_19_method_10_code_75) ?_ (by decide) (by decide)
              have hr : own_run f (4 - (0 : Int32).toInt.toNat) (0 : Int32).toInt.toNat = 3 := by
                show own_run f 4 0 = 3
                have e0 : own_run f 4 0 = own_run f 3 1 + 1 := if_neg hc37
                have e1 : own_run f 3 1 = own_run f 2 2 + 1 := if_neg hc94
                have e2 : own_run f 2 2 = own_run f 1 3 + 1 := if_neg hc151
                have e3 : own_run f 1 3 = 0 := if_pos hc208
                rw [e0, e1, e2, e3]
              have hs : own_res (Int32.ofNat 3) few most = (1 : Int32) := by show own_res (3 : Int32) few most = _; unfold own_res; rw [if_neg hc213, if_neg hc218]
              refine ⟨?_, N225, ?_, ?_⟩
              · rw [hr, hs]
              · rw [e221]; exact K227
              · rw [hr, e221]; unfold own_at; rw [hs]; exact F232
        · refine OGoal.mp (S' := (T201.setTop (mkF m 30 #[.val (.ref a), .val (.int few), .val (.int most), .val (.int (3 : Int32)), .unset] []))) (fun _ k => XS.ifNo X203.here hx rfl (hb hby own_d_prog_19_method_10_code_27) rfl (XT.i0_eq_f hc208) k) ?_
          refine OGoal.mp (S' := (T201.setTop (mkF m 33 #[.val (.ref a), .val (.int few), .val (.int most), .val (.int ((3 : Int32) + (1 : Int32))), .unset] []))) (fun _ k => XT.iincV X203.here hx rfl (1 : Int32) (hb hby own_d_prog_19_method_10_code_30) rfl rfl (l' := #[.val (.ref a), .val (.int few), .val (.int most), .val (.int ((3 : Int32) + (1 : Int32))), .unset]) rfl k) ?_
          rw [show ((3 : Int32) + (1 : Int32)) = (4 : Int32) by decide]
          show OGoal p e below s _ _ _ (T201.setTop (mkF m 33 #[.val (.ref a), .val (.int few), .val (.int most), .val (.int (4 : Int32)), .unset] []))
          refine OGoal.mp (S' := (T201.setTop (mkF m 5 #[.val (.ref a), .val (.int few), .val (.int most), .val (.int (4 : Int32)), .unset] []))) (fun _ k => XS.goto X203.here hx rfl (pc0 := 33) (pc' := 5) rfl (hb hby own_d_prog_19_method_10_code_33) (by decide) (by decide) k) ?_
          refine OGoal.mp (S' := (T201.setTop (mkF m 6 #[.val (.ref a), .val (.int few), .val (.int most), .val (.int (4 : Int32)), .unset] [(.int (4 : Int32))]))) (fun _ k => XS.iloadN X203.here hx rfl (hb hby own_d_prog_19_method_10_code_5) rfl k) ?_
          refine OGoal.mp (S' := (T201.setTop (mkF m 7 #[.val (.ref a), .val (.int few), .val (.int most), .val (.int (4 : Int32)), .unset] [(.ref a), (.int (4 : Int32))]))) (fun _ k => XS.aloadN X203.here hx rfl (hb hby own_d_prog_19_method_10_code_6) rfl rfl k) ?_
          obtain ⟨T233, X234, e235, st236⟩ := getF X203 hx hZ hown (host := "") (Or.inl (hw _ (List.mem_of_getElem? (i := 39) rfl))) Via.refl e206 Fn (g := mkF m 7 #[.val (.ref a), .val (.int few), .val (.int most), .val (.int (4 : Int32)), .unset] [(.ref a), (.int (4 : Int32))]) rfl rfl (hb hby own_d_prog_19_method_10_code_7)
          refine OGoal.mp (S' := (T233.setTop (mkF m 10 #[.val (.ref a), .val (.int few), .val (.int most), .val (.int (4 : Int32)), .unset] [(.ref b), (.int (4 : Int32))]))) (fun _ k => st236 _ k) ?_
          refine oCallV (y := (⟨"java/lang/String", "length", "()I"⟩ : MethodName)) (z := (⟨"java/lang/String", "length", "()I"⟩ : MethodName)) X234 hx hZ hown (hw _ (List.mem_of_getElem? (i := 53) rfl)) (hw _ (List.mem_of_getElem? (i := 54) rfl)) (hw _ (List.mem_of_getElem? (i := 56) rfl)) (hw _ (List.mem_of_getElem? (i := 55) rfl)) (hw _ (List.mem_of_getElem? (i := 8) rfl)) (hw _ (List.mem_of_getElem? (i := 57) rfl)) (by decide) (rmLn l Z a0 hw b h0 n0 Z0 cs fm hcs hfm St f hS) e235 hS.exa [] [(.int (4 : Int32))] rfl rfl (by rw [hml]; rfl) (notFace_of_selects (args := #[]) (mvT hZ (hw _ (List.mem_of_getElem? (i := 56) rfl)))) (lenOf own_pd___I rfl) 1 (Nat.le_of_eq rfl) (by decide) (by decide) (by decide) (by decide) (hb hby own_d_prog_19_method_10_code_10) ?_
          intro v237 T238 L239 X240 q241
          obtain ⟨rfl, N242, e243⟩ := q241
          have N244 := Fr.app N207 N242
          show OGoal p e below s _ _ _ (T238.setTop (mkF m 13 #[.val (.ref a), .val (.int few), .val (.int most), .val (.int (4 : Int32)), .unset] [(.int (4 : Int32)), (.int (4 : Int32))]))
          refine OGoal.mp (S' := (T238.setTop (mkF m 36 #[.val (.ref a), .val (.int few), .val (.int most), .val (.int (4 : Int32)), .unset] []))) (fun _ k => XS.icmpYes X240.here hx rfl (pc0 := 13) (pc' := 36) rfl (hb hby own_d_prog_19_method_10_code_13) rfl (XT.ii_ge_t (by decide)) (by decide) (by decide) k) ?_
          refine OGoal.mp (S' := (T238.setTop (mkF m 37 #[.val (.ref a), .val (.int few), .val (.int most), .val (.int (4 : Int32)), .unset] [(.int (4 : Int32))]))) (fun _ k => XS.iloadN X240.here hx rfl (hb hby own_d_prog_19_method_10_code_36) rfl k) ?_
          refine OGoal.mp (S' := (T238.setTop (mkF m 38 #[.val (.ref a), .val (.int few), .val (.int most), .val (.int (4 : Int32)), .unset] [(.ref a), (.int (4 : Int32))]))) (fun _ k => XS.aloadN X240.here hx rfl (hb hby own_d_prog_19_method_10_code_37) rfl rfl k) ?_
          obtain ⟨T245, X246, e247, st248⟩ := getF X240 hx hZ hown (host := "") (Or.inl (hw _ (List.mem_of_getElem? (i := 46) rfl))) Via.refl e243 Fa (g := mkF m 38 #[.val (.ref a), .val (.int few), .val (.int most), .val (.int (4 : Int32)), .unset] [(.ref a), (.int (4 : Int32))]) rfl rfl (hb hby own_d_prog_19_method_10_code_38)
          refine OGoal.mp (S' := (T245.setTop (mkF m 41 #[.val (.ref a), .val (.int few), .val (.int most), .val (.int (4 : Int32)), .unset] [(.int (0 : Int32)), (.int (4 : Int32))]))) (fun _ k => st248 _ k) ?_
          refine OGoal.mp (S' := (T245.setTop (mkF m 42 #[.val (.ref a), .val (.int few), .val (.int most), .val (.int (4 : Int32)), .unset] [(.int ((4 : Int32) - (0 : Int32)))]))) (fun _ k => XS.isub X246.here hx rfl (hb hby own_d_prog_19_method_10_code_41) rfl k) ?_
          rw [show ((4 : Int32) - (0 : Int32)) = (4 : Int32) by decide]
          show OGoal p e below s _ _ _ (T245.setTop (mkF m 42 #[.val (.ref a), .val (.int few), .val (.int most), .val (.int (4 : Int32)), .unset] [(.int (4 : Int32))]))
          refine OGoal.mp (S' := (T245.setTop (mkF m 43 #[.val (.ref a), .val (.int few), .val (.int most), .val (.int (4 : Int32)), .unset] [(.int few), (.int (4 : Int32))]))) (fun _ k => XS.iloadN X246.here hx rfl (hb hby own_d_prog_19_method_10_code_42) rfl k) ?_
          by_cases hc249 : (4 : Int32) < few
          · refine OGoal.mp (S' := (T245.setTop (mkF m 60 #[.val (.ref a), .val (.int few), .val (.int most), .val (.int (4 : Int32)), .unset] []))) (fun _ k => XS.icmpYes X246.here hx rfl (pc0 := 43) (pc' := 60) rfl (hb hby own_d_prog_19_method_10_code_43) rfl (XT.ii_lt_t hc249) (by decide) (by decide) k) ?_
            refine OGoal.mp (S' := (T245.setTop (mkF m 61 #[.val (.ref a), .val (.int few), .val (.int most), .val (.int (4 : Int32)), .unset] [(.int (0 : Int32))]))) (fun _ k => XS.iconst X246.here hx rfl (hb hby own_d_prog_19_method_10_code_60) k) ?_
            refine OGoal.mp (S' := (T245.setTop (mkF m 63 #[.val (.ref a), .val (.int few), .val (.int most), .val (.int (4 : Int32)), .val (.int (0 : Int32))] []))) (fun _ k => XS.istore X246.here hx rfl (hb hby own_d_prog_19_method_10_code_61) rfl (l' := #[.val (.ref a), .val (.int few), .val (.int most), .val (.int (4 : Int32)), .val (.int (0 : Int32))]) rfl k) ?_
            refine OGoal.mp (S' := (T245.setTop (mkF m 65 #[.val (.ref a), .val (.int few), .val (.int most), .val (.int (4 : Int32)), .val (.int (0 : Int32))] [(.int (0 : Int32))]))) (fun _ k => XS.iload X246.here hx rfl (hb hby own_d_prog_19_method_10_code_63) rfl k) ?_
            refine OGoal.mp (S' := (T245.setTop (mkF m 73 #[.val (.ref a), .val (.int few), .val (.int most), .val (.int (4 : Int32)), .val (.int (0 : Int32))] []))) (fun _ k => XS.ifYes X246.here hx rfl (pc0 := 65) (pc' := 73) rfl (hb hby own_d_prog_19_method_10_code_65) rfl (XT.i0_eq_t (by decide)) (by decide) (by decide) k) ?_
            refine OGoal.mp (S' := (T245.setTop (mkF m 75 #[.val (.ref a), .val (.int few), .val (.int most), .val (.int (4 : Int32)), .val (.int (0 : Int32))] [(.int (0 : Int32))]))) (fun _ k => XS.iload X246.here hx rfl (hb hby own_d_prog_19_method_10_code_73) rfl k) ?_
            refine oRetZ X246 hx hlk hret (Or.inl rfl) (hb hby own_d_prog_19_method_10_code_75) ?_ (by decide) (by decide)
            have hr : own_run f (4 - (0 : Int32).toInt.toNat) (0 : Int32).toInt.toNat = 4 := by
              show own_run f 4 0 = 4
              have e0 : own_run f 4 0 = own_run f 3 1 + 1 := if_neg hc37
              have e1 : own_run f 3 1 = own_run f 2 2 + 1 := if_neg hc94
              have e2 : own_run f 2 2 = own_run f 1 3 + 1 := if_neg hc151
              have e3 : own_run f 1 3 = own_run f 0 4 + 1 := if_neg hc208
              rw [e0, e1, e2, e3]
              first | done | rfl
            have hs : own_res (Int32.ofNat 4) few most = (0 : Int32) := by show own_res (4 : Int32) few most = _; unfold own_res; rw [if_pos hc249]
            refine ⟨?_, N244, ?_, ?_⟩
            · rw [hr, hs]
            · rw [e247]; exact (Keep.refl h0 [a])
            · rw [hr, e247]; unfold own_at; rw [hs]; exact Fa
          · refine OGoal.mp (S' := (T245.setTop (mkF m 46 #[.val (.ref a), .val (.int few), .val (.int most), .val (.int (4 : Int32)), .unset] []))) (fun _ k => XS.icmpNo X246.here hx rfl (hb hby own_d_prog_19_method_10_code_43) rfl (XT.ii_lt_f hc249) k) ?_
            refine OGoal.mp (S' := (T245.setTop (mkF m 47 #[.val (.ref a), .val (.int few), .val (.int most), .val (.int (4 : Int32)), .unset] [(.int (4 : Int32))]))) (fun _ k => XS.iloadN X246.here hx rfl (hb hby own_d_prog_19_method_10_code_46) rfl k) ?_
            refine OGoal.mp (S' := (T245.setTop (mkF m 48 #[.val (.ref a), .val (.int few), .val (.int most), .val (.int (4 : Int32)), .unset] [(.ref a), (.int (4 : Int32))]))) (fun _ k => XS.aloadN X246.here hx rfl (hb hby own_d_prog_19_method_10_code_47) rfl rfl k) ?_
            obtain ⟨T250, X251, e252, st253⟩ := getF X246 hx hZ hown (host := "") (Or.inl (hw _ (List.mem_of_getElem? (i := 46) rfl))) Via.refl e247 Fa (g := mkF m 48 #[.val (.ref a), .val (.int few), .val (.int most), .val (.int (4 : Int32)), .unset] [(.ref a), (.int (4 : Int32))]) rfl rfl (hb hby own_d_prog_19_method_10_code_48)
            refine OGoal.mp (S' := (T250.setTop (mkF m 51 #[.val (.ref a), .val (.int few), .val (.int most), .val (.int (4 : Int32)), .unset] [(.int (0 : Int32)), (.int (4 : Int32))]))) (fun _ k => st253 _ k) ?_
            refine OGoal.mp (S' := (T250.setTop (mkF m 52 #[.val (.ref a), .val (.int few), .val (.int most), .val (.int (4 : Int32)), .unset] [(.int ((4 : Int32) - (0 : Int32)))]))) (fun _ k => XS.isub X251.here hx rfl (hb hby own_d_prog_19_method_10_code_51) rfl k) ?_
            rw [show ((4 : Int32) - (0 : Int32)) = (4 : Int32) by decide]
            show OGoal p e below s _ _ _ (T250.setTop (mkF m 52 #[.val (.ref a), .val (.int few), .val (.int most), .val (.int (4 : Int32)), .unset] [(.int (4 : Int32))]))
            refine OGoal.mp (S' := (T250.setTop (mkF m 53 #[.val (.ref a), .val (.int few), .val (.int most), .val (.int (4 : Int32)), .unset] [(.int most), (.int (4 : Int32))]))) (fun _ k => XS.iloadN X251.here hx rfl (hb hby own_d_prog_19_method_10_code_52) rfl k) ?_
            by_cases hc254 : most < (4 : Int32)
            · refine OGoal.mp (S' := (T250.setTop (mkF m 60 #[.val (.ref a), .val (.int few), .val (.int most), .val (.int (4 : Int32)), .unset] []))) (fun _ k => XS.icmpYes X251.here hx rfl (pc0 := 53) (pc' := 60) rfl (hb hby own_d_prog_19_method_10_code_53) rfl (XT.ii_gt_t hc254) (by decide) (by decide) k) ?_
              refine OGoal.mp (S' := (T250.setTop (mkF m 61 #[.val (.ref a), .val (.int few), .val (.int most), .val (.int (4 : Int32)), .unset] [(.int (0 : Int32))]))) (fun _ k => XS.iconst X251.here hx rfl (hb hby own_d_prog_19_method_10_code_60) k) ?_
              refine OGoal.mp (S' := (T250.setTop (mkF m 63 #[.val (.ref a), .val (.int few), .val (.int most), .val (.int (4 : Int32)), .val (.int (0 : Int32))] []))) (fun _ k => XS.istore X251.here hx rfl (hb hby own_d_prog_19_method_10_code_61) rfl (l' := #[.val (.ref a), .val (.int few), .val (.int most), .val (.int (4 : Int32)), .val (.int (0 : Int32))]) rfl k) ?_
              refine OGoal.mp (S' := (T250.setTop (mkF m 65 #[.val (.ref a), .val (.int few), .val (.int most), .val (.int (4 : Int32)), .val (.int (0 : Int32))] [(.int (0 : Int32))]))) (fun _ k => XS.iload X251.here hx rfl (hb hby own_d_prog_19_method_10_code_63) rfl k) ?_
              refine OGoal.mp (S' := (T250.setTop (mkF m 73 #[.val (.ref a), .val (.int few), .val (.int most), .val (.int (4 : Int32)), .val (.int (0 : Int32))] []))) (fun _ k => XS.ifYes X251.here hx rfl (pc0 := 65) (pc' := 73) rfl (hb hby own_d_prog_19_method_10_code_65) rfl (XT.i0_eq_t (by decide)) (by decide) (by decide) k) ?_
              refine OGoal.mp (S' := (T250.setTop (mkF m 75 #[.val (.ref a), .val (.int few), .val (.int most), .val (.int (4 : Int32)), .val (.int (0 : Int32))] [(.int (0 : Int32))]))) (fun _ k => XS.iload X251.here hx rfl (hb hby own_d_prog_19_method_10_code_73) rfl k) ?_
              refine oRetZ X251 hx hlk hret (Or.inl rfl) (hb hby own_d_prog_19_method_10_code_75) ?_ (by decide) (by decide)
              have hr : own_run f (4 - (0 : Int32).toInt.toNat) (0 : Int32).toInt.toNat = 4 := by
                show own_run f 4 0 = 4
                have e0 : own_run f 4 0 = own_run f 3 1 + 1 := if_neg hc37
                have e1 : own_run f 3 1 = own_run f 2 2 + 1 := if_neg hc94
                have e2 : own_run f 2 2 = own_run f 1 3 + 1 := if_neg hc151
                have e3 : own_run f 1 3 = own_run f 0 4 + 1 := if_neg hc208
                rw [e0, e1, e2, e3]
                first | done | rfl
              have hs : own_res (Int32.ofNat 4) few most = (0 : Int32) := by show own_res (4 : Int32) few most = _; unfold own_res; rw [if_neg hc249, if_pos hc254]
              refine ⟨?_, N244, ?_, ?_⟩
              · rw [hr, hs]
              · rw [e252]; exact (Keep.refl h0 [a])
              · rw [hr, e252]; unfold own_at; rw [hs]; exact Fa
            · refine OGoal.mp (S' := (T250.setTop (mkF m 56 #[.val (.ref a), .val (.int few), .val (.int most), .val (.int (4 : Int32)), .unset] []))) (fun _ k => XS.icmpNo X251.here hx rfl (hb hby own_d_prog_19_method_10_code_53) rfl (XT.ii_gt_f hc254) k) ?_
              refine OGoal.mp (S' := (T250.setTop (mkF m 57 #[.val (.ref a), .val (.int few), .val (.int most), .val (.int (4 : Int32)), .unset] [(.int (1 : Int32))]))) (fun _ k => XS.iconst X251.here hx rfl (hb hby own_d_prog_19_method_10_code_56) k) ?_
              refine OGoal.mp (S' := (T250.setTop (mkF m 61 #[.val (.ref a), .val (.int few), .val (.int most), .val (.int (4 : Int32)), .unset] [(.int (1 : Int32))]))) (fun _ k => XS.goto X251.here hx rfl (pc0 := 57) (pc' := 61) rfl (hb hby own_d_prog_19_method_10_code_57) (by decide) (by decide) k) ?_
              refine OGoal.mp (S' := (T250.setTop (mkF m 63 #[.val (.ref a), .val (.int few), .val (.int most), .val (.int (4 : Int32)), .val (.int (1 : Int32))] []))) (fun _ k => XS.istore X251.here hx rfl (hb hby own_d_prog_19_method_10_code_61) rfl (l' := #[.val (.ref a), .val (.int few), .val (.int most), .val (.int (4 : Int32)), .val (.int (1 : Int32))]) rfl k) ?_
              refine OGoal.mp (S' := (T250.setTop (mkF m 65 #[.val (.ref a), .val (.int few), .val (.int most), .val (.int (4 : Int32)), .val (.int (1 : Int32))] [(.int (1 : Int32))]))) (fun _ k => XS.iload X251.here hx rfl (hb hby own_d_prog_19_method_10_code_63) rfl k) ?_
              refine OGoal.mp (S' := (T250.setTop (mkF m 68 #[.val (.ref a), .val (.int few), .val (.int most), .val (.int (4 : Int32)), .val (.int (1 : Int32))] []))) (fun _ k => XS.ifNo X251.here hx rfl (hb hby own_d_prog_19_method_10_code_65) rfl (XT.i0_eq_f (by decide)) k) ?_
              refine OGoal.mp (S' := (T250.setTop (mkF m 69 #[.val (.ref a), .val (.int few), .val (.int most), .val (.int (4 : Int32)), .val (.int (1 : Int32))] [(.ref a)]))) (fun _ k => XS.aloadN X251.here hx rfl (hb hby own_d_prog_19_method_10_code_68) rfl rfl k) ?_
              refine OGoal.mp (S' := (T250.setTop (mkF m 70 #[.val (.ref a), .val (.int few), .val (.int most), .val (.int (4 : Int32)), .val (.int (1 : Int32))] [(.int (4 : Int32)), (.ref a)]))) (fun _ k => XS.iloadN X251.here hx rfl (hb hby own_d_prog_19_method_10_code_69) rfl k) ?_
              obtain ⟨T255, h259, X256, e257, W260, st258⟩ := putF X251 hx hZ hown (host := "") (Or.inl (hw _ (List.mem_of_getElem? (i := 46) rfl))) Via.refl e252 Fa E (Or.inl (hw _ (List.mem_of_getElem? (i := 47) rfl))) (hw _ (List.mem_of_getElem? (i := 4) rfl)) (ty := .int) (by decide) rfl rfl (g := mkF m 70 #[.val (.ref a), .val (.int few), .val (.int most), .val (.int (4 : Int32)), .val (.int (1 : Int32))] [(.int (4 : Int32)), (.ref a)]) rfl rfl (hb hby own_d_prog_19_method_10_code_70)
              have N261 := Fr.snoc X256 N244 ab
              have Z262 : n0 ≤ h259.size := Nat.le_trans Z0 (Keep.of_wr W260).1
              have K263 : Keep h0 h259 [a] := (Keep.refl h0 [a]).wr W260 (Or.inl (by simp))
              have F264 := St.wr W260
              have F265 := E.wr W260
              have F266 := hS.exa.wr W260
              have F267 := Fn.other W260 (Or.inr (slot_ne (a0 := a0) (C := "com/example/deadlock_to_diagnosis/deadlocktodiagnosis/reader/LineScanner") (t := (.object "java/lang/String")) (t' := .int) (Or.inr (hw _ (List.mem_of_getElem? (i := 40) rfl))) (Or.inl (hw _ (List.mem_of_getElem? (i := 47) rfl))) (by decide) (by decide) (by decide)))
              have F268 := Fa.same W260
              refine OGoal.mp (S' := (T255.setTop (mkF m 73 #[.val (.ref a), .val (.int few), .val (.int most), .val (.int (4 : Int32)), .val (.int (1 : Int32))] []))) (fun _ k => st258 _ k) ?_
              refine OGoal.mp (S' := (T255.setTop (mkF m 75 #[.val (.ref a), .val (.int few), .val (.int most), .val (.int (4 : Int32)), .val (.int (1 : Int32))] [(.int (1 : Int32))]))) (fun _ k => XS.iload X256.here hx rfl (hb hby own_d_prog_19_method_10_code_73) rfl k) ?_
              refine oRetZ X256 hx hlk hret (Or.inr rfl) (hb hby own_d_prog_19_method_10_code_75) ?_ (by decide) (by decide)
              have hr : own_run f (4 - (0 : Int32).toInt.toNat) (0 : Int32).toInt.toNat = 4 := by
                show own_run f 4 0 = 4
                have e0 : own_run f 4 0 = own_run f 3 1 + 1 := if_neg hc37
                have e1 : own_run f 3 1 = own_run f 2 2 + 1 := if_neg hc94
                have e2 : own_run f 2 2 = own_run f 1 3 + 1 := if_neg hc151
                have e3 : own_run f 1 3 = own_run f 0 4 + 1 := if_neg hc208
                rw [e0, e1, e2, e3]
                first | done | rfl
              have hs : own_res (Int32.ofNat 4) few most = (1 : Int32) := by show own_res (4 : Int32) few most = _; unfold own_res; rw [if_neg hc249, if_neg hc254]
              refine ⟨?_, N261, ?_, ?_⟩
              · rw [hr, hs]
              · rw [e257]; exact K263
              · rw [hr, e257]; unfold own_at; rw [hs]; exact F268
theorem own_ef_rmDg1 (x0 : Addr) (x1 : Int32) (x2 : Int32) (m : MethodId) : entryFrame m #[(.ref x0), (.int x1), (.int x2)] 5 = mkF m 0 #[.val (.ref x0), .val (.int x1), .val (.int x2), .unset, .unset] [] := by first | (simp [entryFrame, mkF, argsToLocals, Value.category]; done) | rfl
set_option maxRecDepth 65536 in
set_option maxHeartbeats 40000000 in
theorem rmDg1 (l : Launch) (Z : State) (a0 : Array Value) (hw : ∀ d ∈ tables_1, d.before a0 Z = true) (a : Addr) (few most : Int32) (h0 : Heap) (n0 : Nat) (Z0 : n0 ≤ h0.size) (cs : Int32) (fm : Value) (hcs : ¬ cs = 0) (hfm : fm.isRef = true) (St : Stt Z h0 cs fm) (b : Addr) (f : Nat → Int32) (hC : Ch f) (hS : Str4 Z h0 b f) (E : Exa Z h0 a "com/example/deadlock_to_diagnosis/deadlocktodiagnosis/reader/LineScanner") (Fn : Fld Z h0 a "com/example/deadlock_to_diagnosis/deadlocktodiagnosis/reader/LineScanner" "line" "Ljava/lang/String;" (.ref b)) (Fa : Fld Z h0 a "com/example/deadlock_to_diagnosis/deadlocktodiagnosis/reader/LineScanner" "at" "I" (.int (1 : Int32))) (ab : n0 ≤ a) :
    OCon l Z (⟨"com/example/deadlock_to_diagnosis/deadlocktodiagnosis/reader/LineScanner", "digits", "(II)Z"⟩ : MethodName) prog_19_method_10_code 5 (some .boolean) ({ frames := 8, cells := 0, slots := 0, locals := 150 } : Room) #[(.ref a), (.int few), (.int most)] h0 (Q_dg Z f a (1 : Int32) few most h0 n0) := by
  refine OConK.intro (y := (⟨"com/example/deadlock_to_diagnosis/deadlocktodiagnosis/reader/LineScanner", "digits", "(II)Z"⟩ : MethodName)) (plainFor_of_name own_pn_com_example_deadlock_to_diagnosis_deadlocktodiagnosis_reader_LineScanner) (own_ef_rmDg1 a few most) ?_
  intro p e s m below meth c s₁ hx hby hml hown hnm hret hlk hZ X0 e0
  show OGoal p e below s _ _ _ (s₁.setTop (mkF m 0 #[.val (.ref a), .val (.int few), .val (.int most), .unset, .unset] []))
  refine OGoal.mp (S' := (s₁.setTop (mkF m 1 #[.val (.ref a), .val (.int few), .val (.int most), .unset, .unset] [(.ref a)]))) (fun _ k => XS.aloadN X0.here hx rfl (hb hby own_d_prog_19_method_10_code_0) rfl rfl k) ?_
  obtain ⟨T1, X2, e3, st4⟩ := getF X0 hx hZ hown (host := "") (Or.inl (hw _ (List.mem_of_getElem? (i := 46) rfl))) Via.refl e0 Fa (g := mkF m 1 #[.val (.ref a), .val (.int few), .val (.int most), .unset, .unset] [(.ref a)]) rfl rfl (hb hby own_d_prog_19_method_10_code_1)
  refine OGoal.mp (S' := (T1.setTop (mkF m 4 #[.val (.ref a), .val (.int few), .val (.int most), .unset, .unset] [(.int (1 : Int32))]))) (fun _ k => st4 _ k) ?_
  refine OGoal.mp (S' := (T1.setTop (mkF m 5 #[.val (.ref a), .val (.int few), .val (.int most), .val (.int (1 : Int32)), .unset] []))) (fun _ k => XS.istoreN X2.here hx rfl (hb hby own_d_prog_19_method_10_code_4) rfl (l' := #[.val (.ref a), .val (.int few), .val (.int most), .val (.int (1 : Int32)), .unset]) rfl k) ?_
  refine OGoal.mp (S' := (T1.setTop (mkF m 6 #[.val (.ref a), .val (.int few), .val (.int most), .val (.int (1 : Int32)), .unset] [(.int (1 : Int32))]))) (fun _ k => XS.iloadN X2.here hx rfl (hb hby own_d_prog_19_method_10_code_5) rfl k) ?_
  refine OGoal.mp (S' := (T1.setTop (mkF m 7 #[.val (.ref a), .val (.int few), .val (.int most), .val (.int (1 : Int32)), .unset] [(.ref a), (.int (1 : Int32))]))) (fun _ k => XS.aloadN X2.here hx rfl (hb hby own_d_prog_19_method_10_code_6) rfl rfl k) ?_
  obtain ⟨T5, X6, e7, st8⟩ := getF X2 hx hZ hown (host := "") (Or.inl (hw _ (List.mem_of_getElem? (i := 39) rfl))) Via.refl e3 Fn (g := mkF m 7 #[.val (.ref a), .val (.int few), .val (.int most), .val (.int (1 : Int32)), .unset] [(.ref a), (.int (1 : Int32))]) rfl rfl (hb hby own_d_prog_19_method_10_code_7)
  refine OGoal.mp (S' := (T5.setTop (mkF m 10 #[.val (.ref a), .val (.int few), .val (.int most), .val (.int (1 : Int32)), .unset] [(.ref b), (.int (1 : Int32))]))) (fun _ k => st8 _ k) ?_
  refine oCallV (y := (⟨"java/lang/String", "length", "()I"⟩ : MethodName)) (z := (⟨"java/lang/String", "length", "()I"⟩ : MethodName)) X6 hx hZ hown (hw _ (List.mem_of_getElem? (i := 53) rfl)) (hw _ (List.mem_of_getElem? (i := 54) rfl)) (hw _ (List.mem_of_getElem? (i := 56) rfl)) (hw _ (List.mem_of_getElem? (i := 55) rfl)) (hw _ (List.mem_of_getElem? (i := 8) rfl)) (hw _ (List.mem_of_getElem? (i := 57) rfl)) (by decide) (rmLn l Z a0 hw b h0 n0 Z0 cs fm hcs hfm St f hS) e7 hS.exa [] [(.int (1 : Int32))] rfl rfl (by rw [hml]; rfl) (notFace_of_selects (args := #[]) (mvT hZ (hw _ (List.mem_of_getElem? (i := 56) rfl)))) (lenOf own_pd___I rfl) 1 (Nat.le_of_eq rfl) (by decide) (by decide) (by decide) (by decide) (hb hby own_d_prog_19_method_10_code_10) ?_
  intro v9 T10 L11 X12 q13
  obtain ⟨rfl, N14, e15⟩ := q13
  have N16 := Fr.app (Fr.nil n0) N14
  show OGoal p e below s _ _ _ (T10.setTop (mkF m 13 #[.val (.ref a), .val (.int few), .val (.int most), .val (.int (1 : Int32)), .unset] [(.int (4 : Int32)), (.int (1 : Int32))]))
  refine OGoal.mp (S' := (T10.setTop (mkF m 16 #[.val (.ref a), .val (.int few), .val (.int most), .val (.int (1 : Int32)), .unset] []))) (fun _ k => XS.icmpNo X12.here hx rfl (hb hby own_d_prog_19_method_10_code_13) rfl (XT.ii_ge_f (by decide)) k) ?_
  refine OGoal.mp (S' := (T10.setTop (mkF m 17 #[.val (.ref a), .val (.int few), .val (.int most), .val (.int (1 : Int32)), .unset] [(.ref a)]))) (fun _ k => XS.aloadN X12.here hx rfl (hb hby own_d_prog_19_method_10_code_16) rfl rfl k) ?_
  obtain ⟨T17, X18, e19, st20⟩ := getF X12 hx hZ hown (host := "") (Or.inl (hw _ (List.mem_of_getElem? (i := 39) rfl))) Via.refl e15 Fn (g := mkF m 17 #[.val (.ref a), .val (.int few), .val (.int most), .val (.int (1 : Int32)), .unset] [(.ref a)]) rfl rfl (hb hby own_d_prog_19_method_10_code_17)
  refine OGoal.mp (S' := (T17.setTop (mkF m 20 #[.val (.ref a), .val (.int few), .val (.int most), .val (.int (1 : Int32)), .unset] [(.ref b)]))) (fun _ k => st20 _ k) ?_
  refine OGoal.mp (S' := (T17.setTop (mkF m 21 #[.val (.ref a), .val (.int few), .val (.int most), .val (.int (1 : Int32)), .unset] [(.int (1 : Int32)), (.ref b)]))) (fun _ k => XS.iloadN X18.here hx rfl (hb hby own_d_prog_19_method_10_code_20) rfl k) ?_
  refine oCallV (y := (⟨"java/lang/String", "charAt", "(I)C"⟩ : MethodName)) (z := (⟨"java/lang/String", "charAt", "(I)C"⟩ : MethodName)) X18 hx hZ hown (hw _ (List.mem_of_getElem? (i := 63) rfl)) (hw _ (List.mem_of_getElem? (i := 64) rfl)) (hw _ (List.mem_of_getElem? (i := 66) rfl)) (hw _ (List.mem_of_getElem? (i := 65) rfl)) (hw _ (List.mem_of_getElem? (i := 8) rfl)) (hw _ (List.mem_of_getElem? (i := 67) rfl)) (by decide) (rmCA l Z a0 hw b (1 : Int32) h0 n0 Z0 cs fm hcs hfm St f hC hS (by decide) (by decide)) e19 hS.exa [(.int (1 : Int32))] [] rfl rfl (by rw [hml]; rfl) (notFace_of_selects (args := #[]) (mvT hZ (hw _ (List.mem_of_getElem? (i := 66) rfl)))) (lenOf own_pd__I_C rfl) 0 (Nat.le_of_eq rfl) (by decide) (by decide) (by decide) (by decide) (hb hby own_d_prog_19_method_10_code_21) ?_
  intro v21 T22 L23 X24 q25
  obtain ⟨rfl, N26, e27⟩ := q25
  have N28 := Fr.app N16 N26
  show OGoal p e below s _ _ _ (T22.setTop (mkF m 24 #[.val (.ref a), .val (.int few), .val (.int most), .val (.int (1 : Int32)), .unset] [(.int (f (1 : Int32).toInt.toNat))]))
  refine oCallS (y := (⟨"com/example/deadlock_to_diagnosis/deadlocktodiagnosis/reader/LineScanner", "isDigit", "(C)Z"⟩ : MethodName)) X24 hx hZ hown (hw _ (List.mem_of_getElem? (i := 85) rfl)) (hw _ (List.mem_of_getElem? (i := 86) rfl)) (hw _ (List.mem_of_getElem? (i := 5) rfl)) (hw _ (List.mem_of_getElem? (i := 87) rfl)) (by decide) (rmDi l Z a0 hw (f (1 : Int32).toInt.toNat) h0 n0 Z0) e27 [(.int (f (1 : Int32).toInt.toNat))] [] rfl rfl (by rw [hml]; rfl) (lenOf own_pd__C_Z rfl) 0 (Nat.le_of_eq rfl) (by decide) (by decide) (by decide) (by decide) (hb hby own_d_prog_19_method_10_code_24) ?_
  intro v29 T30 L31 X32 q33
  obtain ⟨rfl, N34, e35⟩ := q33
  have N36 := Fr.app N28 N34
  show OGoal p e below s _ _ _ (T30.setTop (mkF m 27 #[.val (.ref a), .val (.int few), .val (.int most), .val (.int (1 : Int32)), .unset] [(.int (own_dg (f (1 : Int32).toInt.toNat)))]))
  by_cases hc37 : (own_dg (f (1 : Int32).toInt.toNat)) = 0
  · refine OGoal.mp (S' := (T30.setTop (mkF m 36 #[.val (.ref a), .val (.int few), .val (.int most), .val (.int (1 : Int32)), .unset] []))) (fun _ k => XS.ifYes X32.here hx rfl (pc0 := 27) (pc' := 36) rfl (hb hby own_d_prog_19_method_10_code_27) rfl (XT.i0_eq_t hc37) (by decide) (by decide) k) ?_
    refine OGoal.mp (S' := (T30.setTop (mkF m 37 #[.val (.ref a), .val (.int few), .val (.int most), .val (.int (1 : Int32)), .unset] [(.int (1 : Int32))]))) (fun _ k => XS.iloadN X32.here hx rfl (hb hby own_d_prog_19_method_10_code_36) rfl k) ?_
    refine OGoal.mp (S' := (T30.setTop (mkF m 38 #[.val (.ref a), .val (.int few), .val (.int most), .val (.int (1 : Int32)), .unset] [(.ref a), (.int (1 : Int32))]))) (fun _ k => XS.aloadN X32.here hx rfl (hb hby own_d_prog_19_method_10_code_37) rfl rfl k) ?_
    obtain ⟨T38, X39, e40, st41⟩ := getF X32 hx hZ hown (host := "") (Or.inl (hw _ (List.mem_of_getElem? (i := 46) rfl))) Via.refl e35 Fa (g := mkF m 38 #[.val (.ref a), .val (.int few), .val (.int most), .val (.int (1 : Int32)), .unset] [(.ref a), (.int (1 : Int32))]) rfl rfl (hb hby own_d_prog_19_method_10_code_38)
    refine OGoal.mp (S' := (T38.setTop (mkF m 41 #[.val (.ref a), .val (.int few), .val (.int most), .val (.int (1 : Int32)), .unset] [(.int (1 : Int32)), (.int (1 : Int32))]))) (fun _ k => st41 _ k) ?_
    refine OGoal.mp (S' := (T38.setTop (mkF m 42 #[.val (.ref a), .val (.int few), .val (.int most), .val (.int (1 : Int32)), .unset] [(.int ((1 : Int32) - (1 : Int32)))]))) (fun _ k => XS.isub X39.here hx rfl (hb hby own_d_prog_19_method_10_code_41) rfl k) ?_
    rw [show ((1 : Int32) - (1 : Int32)) = (0 : Int32) by decide]
    show OGoal p e below s _ _ _ (T38.setTop (mkF m 42 #[.val (.ref a), .val (.int few), .val (.int most), .val (.int (1 : Int32)), .unset] [(.int (0 : Int32))]))
    refine OGoal.mp (S' := (T38.setTop (mkF m 43 #[.val (.ref a), .val (.int few), .val (.int most), .val (.int (1 : Int32)), .unset] [(.int few), (.int (0 : Int32))]))) (fun _ k => XS.iloadN X39.here hx rfl (hb hby own_d_prog_19_method_10_code_42) rfl k) ?_
    by_cases hc42 : (0 : Int32) < few
    · refine OGoal.mp (S' := (T38.setTop (mkF m 60 #[.val (.ref a), .val (.int few), .val (.int most), .val (.int (1 : Int32)), .unset] []))) (fun _ k => XS.icmpYes X39.here hx rfl (pc0 := 43) (pc' := 60) rfl (hb hby own_d_prog_19_method_10_code_43) rfl (XT.ii_lt_t hc42) (by decide) (by decide) k) ?_
      refine OGoal.mp (S' := (T38.setTop (mkF m 61 #[.val (.ref a), .val (.int few), .val (.int most), .val (.int (1 : Int32)), .unset] [(.int (0 : Int32))]))) (fun _ k => XS.iconst X39.here hx rfl (hb hby own_d_prog_19_method_10_code_60) k) ?_
      refine OGoal.mp (S' := (T38.setTop (mkF m 63 #[.val (.ref a), .val (.int few), .val (.int most), .val (.int (1 : Int32)), .val (.int (0 : Int32))] []))) (fun _ k => XS.istore X39.here hx rfl (hb hby own_d_prog_19_method_10_code_61) rfl (l' := #[.val (.ref a), .val (.int few), .val (.int most), .val (.int (1 : Int32)), .val (.int (0 : Int32))]) rfl k) ?_
      refine OGoal.mp (S' := (T38.setTop (mkF m 65 #[.val (.ref a), .val (.int few), .val (.int most), .val (.int (1 : Int32)), .val (.int (0 : Int32))] [(.int (0 : Int32))]))) (fun _ k => XS.iload X39.here hx rfl (hb hby own_d_prog_19_method_10_code_63) rfl k) ?_
      refine OGoal.mp (S' := (T38.setTop (mkF m 73 #[.val (.ref a), .val (.int few), .val (.int most), .val (.int (1 : Int32)), .val (.int (0 : Int32))] []))) (fun _ k => XS.ifYes X39.here hx rfl (pc0 := 65) (pc' := 73) rfl (hb hby own_d_prog_19_method_10_code_65) rfl (XT.i0_eq_t (by decide)) (by decide) (by decide) k) ?_
      refine OGoal.mp (S' := (T38.setTop (mkF m 75 #[.val (.ref a), .val (.int few), .val (.int most), .val (.int (1 : Int32)), .val (.int (0 : Int32))] [(.int (0 : Int32))]))) (fun _ k => XS.iload X39.here hx rfl (hb hby own_d_prog_19_method_10_code_73) rfl k) ?_
      refine oRetZ X39 hx hlk hret (Or.inl rfl) (hb hby own_d_prog_19_method_10_code_75) ?_ (by decide) (by decide)
      have hr : own_run f (4 - (1 : Int32).toInt.toNat) (1 : Int32).toInt.toNat = 0 := by
        show own_run f 3 1 = 0
        have e0 : own_run f 3 1 = 0 := if_pos hc37
        rw [e0]
      have hs : own_res (Int32.ofNat 0) few most = (0 : Int32) := by show own_res (0 : Int32) few most = _; unfold own_res; rw [if_pos hc42]
      refine ⟨?_, N36, ?_, ?_⟩
      · rw [hr, hs]
      · rw [e40]; exact (Keep.refl h0 [a])
      · rw [hr, e40]; unfold own_at; rw [hs]; exact Fa
    · refine OGoal.mp (S' := (T38.setTop (mkF m 46 #[.val (.ref a), .val (.int few), .val (.int most), .val (.int (1 : Int32)), .unset] []))) (fun _ k => XS.icmpNo X39.here hx rfl (hb hby own_d_prog_19_method_10_code_43) rfl (XT.ii_lt_f hc42) k) ?_
      refine OGoal.mp (S' := (T38.setTop (mkF m 47 #[.val (.ref a), .val (.int few), .val (.int most), .val (.int (1 : Int32)), .unset] [(.int (1 : Int32))]))) (fun _ k => XS.iloadN X39.here hx rfl (hb hby own_d_prog_19_method_10_code_46) rfl k) ?_
      refine OGoal.mp (S' := (T38.setTop (mkF m 48 #[.val (.ref a), .val (.int few), .val (.int most), .val (.int (1 : Int32)), .unset] [(.ref a), (.int (1 : Int32))]))) (fun _ k => XS.aloadN X39.here hx rfl (hb hby own_d_prog_19_method_10_code_47) rfl rfl k) ?_
      obtain ⟨T43, X44, e45, st46⟩ := getF X39 hx hZ hown (host := "") (Or.inl (hw _ (List.mem_of_getElem? (i := 46) rfl))) Via.refl e40 Fa (g := mkF m 48 #[.val (.ref a), .val (.int few), .val (.int most), .val (.int (1 : Int32)), .unset] [(.ref a), (.int (1 : Int32))]) rfl rfl (hb hby own_d_prog_19_method_10_code_48)
      refine OGoal.mp (S' := (T43.setTop (mkF m 51 #[.val (.ref a), .val (.int few), .val (.int most), .val (.int (1 : Int32)), .unset] [(.int (1 : Int32)), (.int (1 : Int32))]))) (fun _ k => st46 _ k) ?_
      refine OGoal.mp (S' := (T43.setTop (mkF m 52 #[.val (.ref a), .val (.int few), .val (.int most), .val (.int (1 : Int32)), .unset] [(.int ((1 : Int32) - (1 : Int32)))]))) (fun _ k => XS.isub X44.here hx rfl (hb hby own_d_prog_19_method_10_code_51) rfl k) ?_
      rw [show ((1 : Int32) - (1 : Int32)) = (0 : Int32) by decide]
      show OGoal p e below s _ _ _ (T43.setTop (mkF m 52 #[.val (.ref a), .val (.int few), .val (.int most), .val (.int (1 : Int32)), .unset] [(.int (0 : Int32))]))
      refine OGoal.mp (S' := (T43.setTop (mkF m 53 #[.val (.ref a), .val (.int few), .val (.int most), .val (.int (1 : Int32)), .unset] [(.int most), (.int (0 : Int32))]))) (fun _ k => XS.iloadN X44.here hx rfl (hb hby own_d_prog_19_method_10_code_52) rfl k) ?_
      by_cases hc47 : most < (0 : Int32)
      · refine OGoal.mp (S' := (T43.setTop (mkF m 60 #[.val (.ref a), .val (.int few), .val (.int most), .val (.int (1 : Int32)), .unset] []))) (fun _ k => XS.icmpYes X44.here hx rfl (pc0 := 53) (pc' := 60) rfl (hb hby own_d_prog_19_method_10_code_53) rfl (XT.ii_gt_t hc47) (by decide) (by decide) k) ?_
        refine OGoal.mp (S' := (T43.setTop (mkF m 61 #[.val (.ref a), .val (.int few), .val (.int most), .val (.int (1 : Int32)), .unset] [(.int (0 : Int32))]))) (fun _ k => XS.iconst X44.here hx rfl (hb hby own_d_prog_19_method_10_code_60) k) ?_
        refine OGoal.mp (S' := (T43.setTop (mkF m 63 #[.val (.ref a), .val (.int few), .val (.int most), .val (.int (1 : Int32)), .val (.int (0 : Int32))] []))) (fun _ k => XS.istore X44.here hx rfl (hb hby own_d_prog_19_method_10_code_61) rfl (l' := #[.val (.ref a), .val (.int few), .val (.int most), .val (.int (1 : Int32)), .val (.int (0 : Int32))]) rfl k) ?_
        refine OGoal.mp (S' := (T43.setTop (mkF m 65 #[.val (.ref a), .val (.int few), .val (.int most), .val (.int (1 : Int32)), .val (.int (0 : Int32))] [(.int (0 : Int32))]))) (fun _ k => XS.iload X44.here hx rfl (hb hby own_d_prog_19_method_10_code_63) rfl k) ?_
        refine OGoal.mp (S' := (T43.setTop (mkF m 73 #[.val (.ref a), .val (.int few), .val (.int most), .val (.int (1 : Int32)), .val (.int (0 : Int32))] []))) (fun _ k => XS.ifYes X44.here hx rfl (pc0 := 65) (pc' := 73) rfl (hb hby own_d_prog_19_method_10_code_65) rfl (XT.i0_eq_t (by decide)) (by decide) (by decide) k) ?_
        refine OGoal.mp (S' := (T43.setTop (mkF m 75 #[.val (.ref a), .val (.int few), .val (.int most), .val (.int (1 : Int32)), .val (.int (0 : Int32))] [(.int (0 : Int32))]))) (fun _ k => XS.iload X44.here hx rfl (hb hby own_d_prog_19_method_10_code_73) rfl k) ?_
        refine oRetZ X44 hx hlk hret (Or.inl rfl) (hb hby own_d_prog_19_method_10_code_75) ?_ (by decide) (by decide)
        have hr : own_run f (4 - (1 : Int32).toInt.toNat) (1 : Int32).toInt.toNat = 0 := by
          show own_run f 3 1 = 0
          have e0 : own_run f 3 1 = 0 := if_pos hc37
          rw [e0]
        have hs : own_res (Int32.ofNat 0) few most = (0 : Int32) := by show own_res (0 : Int32) few most = _; unfold own_res; rw [if_neg hc42, if_pos hc47]
        refine ⟨?_, N36, ?_, ?_⟩
        · rw [hr, hs]
        · rw [e45]; exact (Keep.refl h0 [a])
        · rw [hr, e45]; unfold own_at; rw [hs]; exact Fa
      · refine OGoal.mp (S' := (T43.setTop (mkF m 56 #[.val (.ref a), .val (.int few), .val (.int most), .val (.int (1 : Int32)), .unset] []))) (fun _ k => XS.icmpNo X44.here hx rfl (hb hby own_d_prog_19_method_10_code_53) rfl (XT.ii_gt_f hc47) k) ?_
        refine OGoal.mp (S' := (T43.setTop (mkF m 57 #[.val (.ref a), .val (.int few), .val (.int most), .val (.int (1 : Int32)), .unset] [(.int (1 : Int32))]))) (fun _ k => XS.iconst X44.here hx rfl (hb hby own_d_prog_19_method_10_code_56) k) ?_
        refine OGoal.mp (S' := (T43.setTop (mkF m 61 #[.val (.ref a), .val (.int few), .val (.int most), .val (.int (1 : Int32)), .unset] [(.int (1 : Int32))]))) (fun _ k => XS.goto X44.here hx rfl (pc0 := 57) (pc' := 61) rfl (hb hby own_d_prog_19_method_10_code_57) (by decide) (by decide) k) ?_
        refine OGoal.mp (S' := (T43.setTop (mkF m 63 #[.val (.ref a), .val (.int few), .val (.int most), .val (.int (1 : Int32)), .val (.int (1 : Int32))] []))) (fun _ k => XS.istore X44.here hx rfl (hb hby own_d_prog_19_method_10_code_61) rfl (l' := #[.val (.ref a), .val (.int few), .val (.int most), .val (.int (1 : Int32)), .val (.int (1 : Int32))]) rfl k) ?_
        refine OGoal.mp (S' := (T43.setTop (mkF m 65 #[.val (.ref a), .val (.int few), .val (.int most), .val (.int (1 : Int32)), .val (.int (1 : Int32))] [(.int (1 : Int32))]))) (fun _ k => XS.iload X44.here hx rfl (hb hby own_d_prog_19_method_10_code_63) rfl k) ?_
        refine OGoal.mp (S' := (T43.setTop (mkF m 68 #[.val (.ref a), .val (.int few), .val (.int most), .val (.int (1 : Int32)), .val (.int (1 : Int32))] []))) (fun _ k => XS.ifNo X44.here hx rfl (hb hby own_d_prog_19_method_10_code_65) rfl (XT.i0_eq_f (by decide)) k) ?_
        refine OGoal.mp (S' := (T43.setTop (mkF m 69 #[.val (.ref a), .val (.int few), .val (.int most), .val (.int (1 : Int32)), .val (.int (1 : Int32))] [(.ref a)]))) (fun _ k => XS.aloadN X44.here hx rfl (hb hby own_d_prog_19_method_10_code_68) rfl rfl k) ?_
        refine OGoal.mp (S' := (T43.setTop (mkF m 70 #[.val (.ref a), .val (.int few), .val (.int most), .val (.int (1 : Int32)), .val (.int (1 : Int32))] [(.int (1 : Int32)), (.ref a)]))) (fun _ k => XS.iloadN X44.here hx rfl (hb hby own_d_prog_19_method_10_code_69) rfl k) ?_
        obtain ⟨T48, h52, X49, e50, W53, st51⟩ := putF X44 hx hZ hown (host := "") (Or.inl (hw _ (List.mem_of_getElem? (i := 46) rfl))) Via.refl e45 Fa E (Or.inl (hw _ (List.mem_of_getElem? (i := 47) rfl))) (hw _ (List.mem_of_getElem? (i := 4) rfl)) (ty := .int) (by decide) rfl rfl (g := mkF m 70 #[.val (.ref a), .val (.int few), .val (.int most), .val (.int (1 : Int32)), .val (.int (1 : Int32))] [(.int (1 : Int32)), (.ref a)]) rfl rfl (hb hby own_d_prog_19_method_10_code_70)
        have N54 := Fr.snoc X49 N36 ab
        have Z55 : n0 ≤ h52.size := Nat.le_trans Z0 (Keep.of_wr W53).1
        have K56 : Keep h0 h52 [a] := (Keep.refl h0 [a]).wr W53 (Or.inl (by simp))
        have F57 := St.wr W53
        have F58 := E.wr W53
        have F59 := hS.exa.wr W53
        have F60 := Fn.other W53 (Or.inr (slot_ne (a0 := a0) (C := "com/example/deadlock_to_diagnosis/deadlocktodiagnosis/reader/LineScanner") (t := (.object "java/lang/String")) (t' := .int) (Or.inr (hw _ (List.mem_of_getElem? (i := 40) rfl))) (Or.inl (hw _ (List.mem_of_getElem? (i := 47) rfl))) (by decide) (by decide) (by decide)))
        have F61 := Fa.same W53
        refine OGoal.mp (S' := (T48.setTop (mkF m 73 #[.val (.ref a), .val (.int few), .val (.int most), .val (.int (1 : Int32)), .val (.int (1 : Int32))] []))) (fun _ k => st51 _ k) ?_
        refine OGoal.mp (S' := (T48.setTop (mkF m 75 #[.val (.ref a), .val (.int few), .val (.int most), .val (.int (1 : Int32)), .val (.int (1 : Int32))] [(.int (1 : Int32))]))) (fun _ k => XS.iload X49.here hx rfl (hb hby own_d_prog_19_method_10_code_73) rfl k) ?_
        refine oRetZ X49 hx hlk hret (Or.inr rfl) (hb hby own_d_prog_19_method_10_code_75) ?_ (by decide) (by decide)
        have hr : own_run f (4 - (1 : Int32).toInt.toNat) (1 : Int32).toInt.toNat = 0 := by
          show own_run f 3 1 = 0
          have e0 : own_run f 3 1 = 0 := if_pos hc37
          rw [e0]
        have hs : own_res (Int32.ofNat 0) few most = (1 : Int32) := by show own_res (0 : Int32) few most = _; unfold own_res; rw [if_neg hc42, if_neg hc47]
        refine ⟨?_, N54, ?_, ?_⟩
        · rw [hr, hs]
        · rw [e50]; exact K56
        · rw [hr, e50]; unfold own_at; rw [hs]; exact F61
  · refine OGoal.mp (S' := (T30.setTop (mkF m 30 #[.val (.ref a), .val (.int few), .val (.int most), .val (.int (1 : Int32)), .unset] []))) (fun _ k => XS.ifNo X32.here hx rfl (hb hby own_d_prog_19_method_10_code_27) rfl (XT.i0_eq_f hc37) k) ?_
    refine OGoal.mp (S' := (T30.setTop (mkF m 33 #[.val (.ref a), .val (.int few), .val (.int most), .val (.int ((1 : Int32) + (1 : Int32))), .unset] []))) (fun _ k => XT.iincV X32.here hx rfl (1 : Int32) (hb hby own_d_prog_19_method_10_code_30) rfl rfl (l' := #[.val (.ref a), .val (.int few), .val (.int most), .val (.int ((1 : Int32) + (1 : Int32))), .unset]) rfl k) ?_
    rw [show ((1 : Int32) + (1 : Int32)) = (2 : Int32) by decide]
    show OGoal p e below s _ _ _ (T30.setTop (mkF m 33 #[.val (.ref a), .val (.int few), .val (.int most), .val (.int (2 : Int32)), .unset] []))
    refine OGoal.mp (S' := (T30.setTop (mkF m 5 #[.val (.ref a), .val (.int few), .val (.int most), .val (.int (2 : Int32)), .unset] []))) (fun _ k => XS.goto X32.here hx rfl (pc0 := 33) (pc' := 5) rfl (hb hby own_d_prog_19_method_10_code_33) (by decide) (by decide) k) ?_
    refine OGoal.mp (S' := (T30.setTop (mkF m 6 #[.val (.ref a), .val (.int few), .val (.int most), .val (.int (2 : Int32)), .unset] [(.int (2 : Int32))]))) (fun _ k => XS.iloadN X32.here hx rfl (hb hby own_d_prog_19_method_10_code_5) rfl k) ?_
    refine OGoal.mp (S' := (T30.setTop (mkF m 7 #[.val (.ref a), .val (.int few), .val (.int most), .val (.int (2 : Int32)), .unset] [(.ref a), (.int (2 : Int32))]))) (fun _ k => XS.aloadN X32.here hx rfl (hb hby own_d_prog_19_method_10_code_6) rfl rfl k) ?_
    obtain ⟨T62, X63, e64, st65⟩ := getF X32 hx hZ hown (host := "") (Or.inl (hw _ (List.mem_of_getElem? (i := 39) rfl))) Via.refl e35 Fn (g := mkF m 7 #[.val (.ref a), .val (.int few), .val (.int most), .val (.int (2 : Int32)), .unset] [(.ref a), (.int (2 : Int32))]) rfl rfl (hb hby own_d_prog_19_method_10_code_7)
    refine OGoal.mp (S' := (T62.setTop (mkF m 10 #[.val (.ref a), .val (.int few), .val (.int most), .val (.int (2 : Int32)), .unset] [(.ref b), (.int (2 : Int32))]))) (fun _ k => st65 _ k) ?_
    refine oCallV (y := (⟨"java/lang/String", "length", "()I"⟩ : MethodName)) (z := (⟨"java/lang/String", "length", "()I"⟩ : MethodName)) X63 hx hZ hown (hw _ (List.mem_of_getElem? (i := 53) rfl)) (hw _ (List.mem_of_getElem? (i := 54) rfl)) (hw _ (List.mem_of_getElem? (i := 56) rfl)) (hw _ (List.mem_of_getElem? (i := 55) rfl)) (hw _ (List.mem_of_getElem? (i := 8) rfl)) (hw _ (List.mem_of_getElem? (i := 57) rfl)) (by decide) (rmLn l Z a0 hw b h0 n0 Z0 cs fm hcs hfm St f hS) e64 hS.exa [] [(.int (2 : Int32))] rfl rfl (by rw [hml]; rfl) (notFace_of_selects (args := #[]) (mvT hZ (hw _ (List.mem_of_getElem? (i := 56) rfl)))) (lenOf own_pd___I rfl) 1 (Nat.le_of_eq rfl) (by decide) (by decide) (by decide) (by decide) (hb hby own_d_prog_19_method_10_code_10) ?_
    intro v66 T67 L68 X69 q70
    obtain ⟨rfl, N71, e72⟩ := q70
    have N73 := Fr.app N36 N71
    show OGoal p e below s _ _ _ (T67.setTop (mkF m 13 #[.val (.ref a), .val (.int few), .val (.int most), .val (.int (2 : Int32)), .unset] [(.int (4 : Int32)), (.int (2 : Int32))]))
    refine OGoal.mp (S' := (T67.setTop (mkF m 16 #[.val (.ref a), .val (.int few), .val (.int most), .val (.int (2 : Int32)), .unset] []))) (fun _ k => XS.icmpNo X69.here hx rfl (hb hby own_d_prog_19_method_10_code_13) rfl (XT.ii_ge_f (by decide)) k) ?_
    refine OGoal.mp (S' := (T67.setTop (mkF m 17 #[.val (.ref a), .val (.int few), .val (.int most), .val (.int (2 : Int32)), .unset] [(.ref a)]))) (fun _ k => XS.aloadN X69.here hx rfl (hb hby own_d_prog_19_method_10_code_16) rfl rfl k) ?_
    obtain ⟨T74, X75, e76, st77⟩ := getF X69 hx hZ hown (host := "") (Or.inl (hw _ (List.mem_of_getElem? (i := 39) rfl))) Via.refl e72 Fn (g := mkF m 17 #[.val (.ref a), .val (.int few), .val (.int most), .val (.int (2 : Int32)), .unset] [(.ref a)]) rfl rfl (hb hby own_d_prog_19_method_10_code_17)
    refine OGoal.mp (S' := (T74.setTop (mkF m 20 #[.val (.ref a), .val (.int few), .val (.int most), .val (.int (2 : Int32)), .unset] [(.ref b)]))) (fun _ k => st77 _ k) ?_
    refine OGoal.mp (S' := (T74.setTop (mkF m 21 #[.val (.ref a), .val (.int few), .val (.int most), .val (.int (2 : Int32)), .unset] [(.int (2 : Int32)), (.ref b)]))) (fun _ k => XS.iloadN X75.here hx rfl (hb hby own_d_prog_19_method_10_code_20) rfl k) ?_
    refine oCallV (y := (⟨"java/lang/String", "charAt", "(I)C"⟩ : MethodName)) (z := (⟨"java/lang/String", "charAt", "(I)C"⟩ : MethodName)) X75 hx hZ hown (hw _ (List.mem_of_getElem? (i := 63) rfl)) (hw _ (List.mem_of_getElem? (i := 64) rfl)) (hw _ (List.mem_of_getElem? (i := 66) rfl)) (hw _ (List.mem_of_getElem? (i := 65) rfl)) (hw _ (List.mem_of_getElem? (i := 8) rfl)) (hw _ (List.mem_of_getElem? (i := 67) rfl)) (by decide) (rmCA l Z a0 hw b (2 : Int32) h0 n0 Z0 cs fm hcs hfm St f hC hS (by decide) (by decide)) e76 hS.exa [(.int (2 : Int32))] [] rfl rfl (by rw [hml]; rfl) (notFace_of_selects (args := #[]) (mvT hZ (hw _ (List.mem_of_getElem? (i := 66) rfl)))) (lenOf own_pd__I_C rfl) 0 (Nat.le_of_eq rfl) (by decide) (by decide) (by decide) (by decide) (hb hby own_d_prog_19_method_10_code_21) ?_
    intro v78 T79 L80 X81 q82
    obtain ⟨rfl, N83, e84⟩ := q82
    have N85 := Fr.app N73 N83
    show OGoal p e below s _ _ _ (T79.setTop (mkF m 24 #[.val (.ref a), .val (.int few), .val (.int most), .val (.int (2 : Int32)), .unset] [(.int (f (2 : Int32).toInt.toNat))]))
    refine oCallS (y := (⟨"com/example/deadlock_to_diagnosis/deadlocktodiagnosis/reader/LineScanner", "isDigit", "(C)Z"⟩ : MethodName)) X81 hx hZ hown (hw _ (List.mem_of_getElem? (i := 85) rfl)) (hw _ (List.mem_of_getElem? (i := 86) rfl)) (hw _ (List.mem_of_getElem? (i := 5) rfl)) (hw _ (List.mem_of_getElem? (i := 87) rfl)) (by decide) (rmDi l Z a0 hw (f (2 : Int32).toInt.toNat) h0 n0 Z0) e84 [(.int (f (2 : Int32).toInt.toNat))] [] rfl rfl (by rw [hml]; rfl) (lenOf own_pd__C_Z rfl) 0 (Nat.le_of_eq rfl) (by decide) (by decide) (by decide) (by decide) (hb hby own_d_prog_19_method_10_code_24) ?_
    intro v86 T87 L88 X89 q90
    obtain ⟨rfl, N91, e92⟩ := q90
    have N93 := Fr.app N85 N91
    show OGoal p e below s _ _ _ (T87.setTop (mkF m 27 #[.val (.ref a), .val (.int few), .val (.int most), .val (.int (2 : Int32)), .unset] [(.int (own_dg (f (2 : Int32).toInt.toNat)))]))
    by_cases hc94 : (own_dg (f (2 : Int32).toInt.toNat)) = 0
    · refine OGoal.mp (S' := (T87.setTop (mkF m 36 #[.val (.ref a), .val (.int few), .val (.int most), .val (.int (2 : Int32)), .unset] []))) (fun _ k => XS.ifYes X89.here hx rfl (pc0 := 27) (pc' := 36) rfl (hb hby own_d_prog_19_method_10_code_27) rfl (XT.i0_eq_t hc94) (by decide) (by decide) k) ?_
      refine OGoal.mp (S' := (T87.setTop (mkF m 37 #[.val (.ref a), .val (.int few), .val (.int most), .val (.int (2 : Int32)), .unset] [(.int (2 : Int32))]))) (fun _ k => XS.iloadN X89.here hx rfl (hb hby own_d_prog_19_method_10_code_36) rfl k) ?_
      refine OGoal.mp (S' := (T87.setTop (mkF m 38 #[.val (.ref a), .val (.int few), .val (.int most), .val (.int (2 : Int32)), .unset] [(.ref a), (.int (2 : Int32))]))) (fun _ k => XS.aloadN X89.here hx rfl (hb hby own_d_prog_19_method_10_code_37) rfl rfl k) ?_
      obtain ⟨T95, X96, e97, st98⟩ := getF X89 hx hZ hown (host := "") (Or.inl (hw _ (List.mem_of_getElem? (i := 46) rfl))) Via.refl e92 Fa (g := mkF m 38 #[.val (.ref a), .val (.int few), .val (.int most), .val (.int (2 : Int32)), .unset] [(.ref a), (.int (2 : Int32))]) rfl rfl (hb hby own_d_prog_19_method_10_code_38)
      refine OGoal.mp (S' := (T95.setTop (mkF m 41 #[.val (.ref a), .val (.int few), .val (.int most), .val (.int (2 : Int32)), .unset] [(.int (1 : Int32)), (.int (2 : Int32))]))) (fun _ k => st98 _ k) ?_
      refine OGoal.mp (S' := (T95.setTop (mkF m 42 #[.val (.ref a), .val (.int few), .val (.int most), .val (.int (2 : Int32)), .unset] [(.int ((2 : Int32) - (1 : Int32)))]))) (fun _ k => XS.isub X96.here hx rfl (hb hby own_d_prog_19_method_10_code_41) rfl k) ?_
      rw [show ((2 : Int32) - (1 : Int32)) = (1 : Int32) by decide]
      show OGoal p e below s _ _ _ (T95.setTop (mkF m 42 #[.val (.ref a), .val (.int few), .val (.int most), .val (.int (2 : Int32)), .unset] [(.int (1 : Int32))]))
      refine OGoal.mp (S' := (T95.setTop (mkF m 43 #[.val (.ref a), .val (.int few), .val (.int most), .val (.int (2 : Int32)), .unset] [(.int few), (.int (1 : Int32))]))) (fun _ k => XS.iloadN X96.here hx rfl (hb hby own_d_prog_19_method_10_code_42) rfl k) ?_
      by_cases hc99 : (1 : Int32) < few
      · refine OGoal.mp (S' := (T95.setTop (mkF m 60 #[.val (.ref a), .val (.int few), .val (.int most), .val (.int (2 : Int32)), .unset] []))) (fun _ k => XS.icmpYes X96.here hx rfl (pc0 := 43) (pc' := 60) rfl (hb hby own_d_prog_19_method_10_code_43) rfl (XT.ii_lt_t hc99) (by decide) (by decide) k) ?_
        refine OGoal.mp (S' := (T95.setTop (mkF m 61 #[.val (.ref a), .val (.int few), .val (.int most), .val (.int (2 : Int32)), .unset] [(.int (0 : Int32))]))) (fun _ k => XS.iconst X96.here hx rfl (hb hby own_d_prog_19_method_10_code_60) k) ?_
        refine OGoal.mp (S' := (T95.setTop (mkF m 63 #[.val (.ref a), .val (.int few), .val (.int most), .val (.int (2 : Int32)), .val (.int (0 : Int32))] []))) (fun _ k => XS.istore X96.here hx rfl (hb hby own_d_prog_19_method_10_code_61) rfl (l' := #[.val (.ref a), .val (.int few), .val (.int most), .val (.int (2 : Int32)), .val (.int (0 : Int32))]) rfl k) ?_
        refine OGoal.mp (S' := (T95.setTop (mkF m 65 #[.val (.ref a), .val (.int few), .val (.int most), .val (.int (2 : Int32)), .val (.int (0 : Int32))] [(.int (0 : Int32))]))) (fun _ k => XS.iload X96.here hx rfl (hb hby own_d_prog_19_method_10_code_63) rfl k) ?_
        refine OGoal.mp (S' := (T95.setTop (mkF m 73 #[.val (.ref a), .val (.int few), .val (.int most), .val (.int (2 : Int32)), .val (.int (0 : Int32))] []))) (fun _ k => XS.ifYes X96.here hx rfl (pc0 := 65) (pc' := 73) rfl (hb hby own_d_prog_19_method_10_code_65) rfl (XT.i0_eq_t (by decide)) (by decide) (by decide) k) ?_
        refine OGoal.mp (S' := (T95.setTop (mkF m 75 #[.val (.ref a), .val (.int few), .val (.int most), .val (.int (2 : Int32)), .val (.int (0 : Int32))] [(.int (0 : Int32))]))) (fun _ k => XS.iload X96.here hx rfl (hb hby own_d_prog_19_method_10_code_73) rfl k) ?_
        refine oRetZ X96 hx hlk hret (Or.inl rfl) (hb hby own_d_prog_19_method_10_code_75) ?_ (by decide) (by decide)
        have hr : own_run f (4 - (1 : Int32).toInt.toNat) (1 : Int32).toInt.toNat = 1 := by
          show own_run f 3 1 = 1
          have e0 : own_run f 3 1 = own_run f 2 2 + 1 := if_neg hc37
          have e1 : own_run f 2 2 = 0 := if_pos hc94
          rw [e0, e1]
        have hs : own_res (Int32.ofNat 1) few most = (0 : Int32) := by show own_res (1 : Int32) few most = _; unfold own_res; rw [if_pos hc99]
        refine ⟨?_, N93, ?_, ?_⟩
        · rw [hr, hs]
        · rw [e97]; exact (Keep.refl h0 [a])
        · rw [hr, e97]; unfold own_at; rw [hs]; exact Fa
      · refine OGoal.mp (S' := (T95.setTop (mkF m 46 #[.val (.ref a), .val (.int few), .val (.int most), .val (.int (2 : Int32)), .unset] []))) (fun _ k => XS.icmpNo X96.here hx rfl (hb hby own_d_prog_19_method_10_code_43) rfl (XT.ii_lt_f hc99) k) ?_
        refine OGoal.mp (S' := (T95.setTop (mkF m 47 #[.val (.ref a), .val (.int few), .val (.int most), .val (.int (2 : Int32)), .unset] [(.int (2 : Int32))]))) (fun _ k => XS.iloadN X96.here hx rfl (hb hby own_d_prog_19_method_10_code_46) rfl k) ?_
        refine OGoal.mp (S' := (T95.setTop (mkF m 48 #[.val (.ref a), .val (.int few), .val (.int most), .val (.int (2 : Int32)), .unset] [(.ref a), (.int (2 : Int32))]))) (fun _ k => XS.aloadN X96.here hx rfl (hb hby own_d_prog_19_method_10_code_47) rfl rfl k) ?_
        obtain ⟨T100, X101, e102, st103⟩ := getF X96 hx hZ hown (host := "") (Or.inl (hw _ (List.mem_of_getElem? (i := 46) rfl))) Via.refl e97 Fa (g := mkF m 48 #[.val (.ref a), .val (.int few), .val (.int most), .val (.int (2 : Int32)), .unset] [(.ref a), (.int (2 : Int32))]) rfl rfl (hb hby own_d_prog_19_method_10_code_48)
        refine OGoal.mp (S' := (T100.setTop (mkF m 51 #[.val (.ref a), .val (.int few), .val (.int most), .val (.int (2 : Int32)), .unset] [(.int (1 : Int32)), (.int (2 : Int32))]))) (fun _ k => st103 _ k) ?_
        refine OGoal.mp (S' := (T100.setTop (mkF m 52 #[.val (.ref a), .val (.int few), .val (.int most), .val (.int (2 : Int32)), .unset] [(.int ((2 : Int32) - (1 : Int32)))]))) (fun _ k => XS.isub X101.here hx rfl (hb hby own_d_prog_19_method_10_code_51) rfl k) ?_
        rw [show ((2 : Int32) - (1 : Int32)) = (1 : Int32) by decide]
        show OGoal p e below s _ _ _ (T100.setTop (mkF m 52 #[.val (.ref a), .val (.int few), .val (.int most), .val (.int (2 : Int32)), .unset] [(.int (1 : Int32))]))
        refine OGoal.mp (S' := (T100.setTop (mkF m 53 #[.val (.ref a), .val (.int few), .val (.int most), .val (.int (2 : Int32)), .unset] [(.int most), (.int (1 : Int32))]))) (fun _ k => XS.iloadN X101.here hx rfl (hb hby own_d_prog_19_method_10_code_52) rfl k) ?_
        by_cases hc104 : most < (1 : Int32)
        · refine OGoal.mp (S' := (T100.setTop (mkF m 60 #[.val (.ref a), .val (.int few), .val (.int most), .val (.int (2 : Int32)), .unset] []))) (fun _ k => XS.icmpYes X101.here hx rfl (pc0 := 53) (pc' := 60) rfl (hb hby own_d_prog_19_method_10_code_53) rfl (XT.ii_gt_t hc104) (by decide) (by decide) k) ?_
          refine OGoal.mp (S' := (T100.setTop (mkF m 61 #[.val (.ref a), .val (.int few), .val (.int most), .val (.int (2 : Int32)), .unset] [(.int (0 : Int32))]))) (fun _ k => XS.iconst X101.here hx rfl (hb hby own_d_prog_19_method_10_code_60) k) ?_
          refine OGoal.mp (S' := (T100.setTop (mkF m 63 #[.val (.ref a), .val (.int few), .val (.int most), .val (.int (2 : Int32)), .val (.int (0 : Int32))] []))) (fun _ k => XS.istore X101.here hx rfl (hb hby own_d_prog_19_method_10_code_61) rfl (l' := #[.val (.ref a), .val (.int few), .val (.int most), .val (.int (2 : Int32)), .val (.int (0 : Int32))]) rfl k) ?_
          refine OGoal.mp (S' := (T100.setTop (mkF m 65 #[.val (.ref a), .val (.int few), .val (.int most), .val (.int (2 : Int32)), .val (.int (0 : Int32))] [(.int (0 : Int32))]))) (fun _ k => XS.iload X101.here hx rfl (hb hby own_d_prog_19_method_10_code_63) rfl k) ?_
          refine OGoal.mp (S' := (T100.setTop (mkF m 73 #[.val (.ref a), .val (.int few), .val (.int most), .val (.int (2 : Int32)), .val (.int (0 : Int32))] []))) (fun _ k => XS.ifYes X101.here hx rfl (pc0 := 65) (pc' := 73) rfl (hb hby own_d_prog_19_method_10_code_65) rfl (XT.i0_eq_t (by decide)) (by decide) (by decide) k) ?_
          refine OGoal.mp (S' := (T100.setTop (mkF m 75 #[.val (.ref a), .val (.int few), .val (.int most), .val (.int (2 : Int32)), .val (.int (0 : Int32))] [(.int (0 : Int32))]))) (fun _ k => XS.iload X101.here hx rfl (hb hby own_d_prog_19_method_10_code_73) rfl k) ?_
          refine oRetZ X101 hx hlk hret (Or.inl rfl) (hb hby own_d_prog_19_method_10_code_75) ?_ (by decide) (by decide)
          have hr : own_run f (4 - (1 : Int32).toInt.toNat) (1 : Int32).toInt.toNat = 1 := by
            show own_run f 3 1 = 1
            have e0 : own_run f 3 1 = own_run f 2 2 + 1 := if_neg hc37
            have e1 : own_run f 2 2 = 0 := if_pos hc94
            rw [e0, e1]
          have hs : own_res (Int32.ofNat 1) few most = (0 : Int32) := by show own_res (1 : Int32) few most = _; unfold own_res; rw [if_neg hc99, if_pos hc104]
          refine ⟨?_, N93, ?_, ?_⟩
          · rw [hr, hs]
          · rw [e102]; exact (Keep.refl h0 [a])
          · rw [hr, e102]; unfold own_at; rw [hs]; exact Fa
        · refine OGoal.mp (S' := (T100.setTop (mkF m 56 #[.val (.ref a), .val (.int few), .val (.int most), .val (.int (2 : Int32)), .unset] []))) (fun _ k => XS.icmpNo X101.here hx rfl (hb hby own_d_prog_19_method_10_code_53) rfl (XT.ii_gt_f hc104) k) ?_
          refine OGoal.mp (S' := (T100.setTop (mkF m 57 #[.val (.ref a), .val (.int few), .val (.int most), .val (.int (2 : Int32)), .unset] [(.int (1 : Int32))]))) (fun _ k => XS.iconst X101.here hx rfl (hb hby own_d_prog_19_method_10_code_56) k) ?_
          refine OGoal.mp (S' := (T100.setTop (mkF m 61 #[.val (.ref a), .val (.int few), .val (.int most), .val (.int (2 : Int32)), .unset] [(.int (1 : Int32))]))) (fun _ k => XS.goto X101.here hx rfl (pc0 := 57) (pc' := 61) rfl (hb hby own_d_prog_19_method_10_code_57) (by decide) (by decide) k) ?_
          refine OGoal.mp (S' := (T100.setTop (mkF m 63 #[.val (.ref a), .val (.int few), .val (.int most), .val (.int (2 : Int32)), .val (.int (1 : Int32))] []))) (fun _ k => XS.istore X101.here hx rfl (hb hby own_d_prog_19_method_10_code_61) rfl (l' := #[.val (.ref a), .val (.int few), .val (.int most), .val (.int (2 : Int32)), .val (.int (1 : Int32))]) rfl k) ?_
          refine OGoal.mp (S' := (T100.setTop (mkF m 65 #[.val (.ref a), .val (.int few), .val (.int most), .val (.int (2 : Int32)), .val (.int (1 : Int32))] [(.int (1 : Int32))]))) (fun _ k => XS.iload X101.here hx rfl (hb hby own_d_prog_19_method_10_code_63) rfl k) ?_
          refine OGoal.mp (S' := (T100.setTop (mkF m 68 #[.val (.ref a), .val (.int few), .val (.int most), .val (.int (2 : Int32)), .val (.int (1 : Int32))] []))) (fun _ k => XS.ifNo X101.here hx rfl (hb hby own_d_prog_19_method_10_code_65) rfl (XT.i0_eq_f (by decide)) k) ?_
          refine OGoal.mp (S' := (T100.setTop (mkF m 69 #[.val (.ref a), .val (.int few), .val (.int most), .val (.int (2 : Int32)), .val (.int (1 : Int32))] [(.ref a)]))) (fun _ k => XS.aloadN X101.here hx rfl (hb hby own_d_prog_19_method_10_code_68) rfl rfl k) ?_
          refine OGoal.mp (S' := (T100.setTop (mkF m 70 #[.val (.ref a), .val (.int few), .val (.int most), .val (.int (2 : Int32)), .val (.int (1 : Int32))] [(.int (2 : Int32)), (.ref a)]))) (fun _ k => XS.iloadN X101.here hx rfl (hb hby own_d_prog_19_method_10_code_69) rfl k) ?_
          obtain ⟨T105, h109, X106, e107, W110, st108⟩ := putF X101 hx hZ hown (host := "") (Or.inl (hw _ (List.mem_of_getElem? (i := 46) rfl))) Via.refl e102 Fa E (Or.inl (hw _ (List.mem_of_getElem? (i := 47) rfl))) (hw _ (List.mem_of_getElem? (i := 4) rfl)) (ty := .int) (by decide) rfl rfl (g := mkF m 70 #[.val (.ref a), .val (.int few), .val (.int most), .val (.int (2 : Int32)), .val (.int (1 : Int32))] [(.int (2 : Int32)), (.ref a)]) rfl rfl (hb hby own_d_prog_19_method_10_code_70)
          have N111 := Fr.snoc X106 N93 ab
          have Z112 : n0 ≤ h109.size := Nat.le_trans Z0 (Keep.of_wr W110).1
          have K113 : Keep h0 h109 [a] := (Keep.refl h0 [a]).wr W110 (Or.inl (by simp))
          have F114 := St.wr W110
          have F115 := E.wr W110
          have F116 := hS.exa.wr W110
          have F117 := Fn.other W110 (Or.inr (slot_ne (a0 := a0) (C := "com/example/deadlock_to_diagnosis/deadlocktodiagnosis/reader/LineScanner") (t := (.object "java/lang/String")) (t' := .int) (Or.inr (hw _ (List.mem_of_getElem? (i := 40) rfl))) (Or.inl (hw _ (List.mem_of_getElem? (i := 47) rfl))) (by decide) (by decide) (by decide)))
          have F118 := Fa.same W110
          refine OGoal.mp (S' := (T105.setTop (mkF m 73 #[.val (.ref a), .val (.int few), .val (.int most), .val (.int (2 : Int32)), .val (.int (1 : Int32))] []))) (fun _ k => st108 _ k) ?_
          refine OGoal.mp (S' := (T105.setTop (mkF m 75 #[.val (.ref a), .val (.int few), .val (.int most), .val (.int (2 : Int32)), .val (.int (1 : Int32))] [(.int (1 : Int32))]))) (fun _ k => XS.iload X106.here hx rfl (hb hby own_d_prog_19_method_10_code_73) rfl k) ?_
          refine oRetZ X106 hx hlk hret (Or.inr rfl) (hb hby own_d_prog_19_method_10_code_75) ?_ (by decide) (by decide)
          have hr : own_run f (4 - (1 : Int32).toInt.toNat) (1 : Int32).toInt.toNat = 1 := by
            show own_run f 3 1 = 1
            have e0 : own_run f 3 1 = own_run f 2 2 + 1 := if_neg hc37
            have e1 : own_run f 2 2 = 0 := if_pos hc94
            rw [e0, e1]
          have hs : own_res (Int32.ofNat 1) few most = (1 : Int32) := by show own_res (1 : Int32) few most = _; unfold own_res; rw [if_neg hc99, if_neg hc104]
          refine ⟨?_, N111, ?_, ?_⟩
          · rw [hr, hs]
          · rw [e107]; exact K113
          · rw [hr, e107]; unfold own_at; rw [hs]; exact F118
    · refine OGoal.mp (S' := (T87.setTop (mkF m 30 #[.val (.ref a), .val (.int few), .val (.int most), .val (.int (2 : Int32)), .unset] []))) (fun _ k => XS.ifNo X89.here hx rfl (hb hby own_d_prog_19_method_10_code_27) rfl (XT.i0_eq_f hc94) k) ?_
      refine OGoal.mp (S' := (T87.setTop (mkF m 33 #[.val (.ref a), .val (.int few), .val (.int most), .val (.int ((2 : Int32) + (1 : Int32))), .unset] []))) (fun _ k => XT.iincV X89.here hx rfl (1 : Int32) (hb hby own_d_prog_19_method_10_code_30) rfl rfl (l' := #[.val (.ref a), .val (.int few), .val (.int most), .val (.int ((2 : Int32) + (1 : Int32))), .unset]) rfl k) ?_
      rw [show ((2 : Int32) + (1 : Int32)) = (3 : Int32) by decide]
      show OGoal p e below s _ _ _ (T87.setTop (mkF m 33 #[.val (.ref a), .val (.int few), .val (.int most), .val (.int (3 : Int32)), .unset] []))
      refine OGoal.mp (S' := (T87.setTop (mkF m 5 #[.val (.ref a), .val (.int few), .val (.int most), .val (.int (3 : Int32)), .unset] []))) (fun _ k => XS.goto X89.here hx rfl (pc0 := 33) (pc' := 5) rfl (hb hby own_d_prog_19_method_10_code_33) (by decide) (by decide) k) ?_
      refine OGoal.mp (S' := (T87.setTop (mkF m 6 #[.val (.ref a), .val (.int few), .val (.int most), .val (.int (3 : Int32)), .unset] [(.int (3 : Int32))]))) (fun _ k => XS.iloadN X89.here hx rfl (hb hby own_d_prog_19_method_10_code_5) rfl k) ?_
      refine OGoal.mp (S' := (T87.setTop (mkF m 7 #[.val (.ref a), .val (.int few), .val (.int most), .val (.int (3 : Int32)), .unset] [(.ref a), (.int (3 : Int32))]))) (fun _ k => XS.aloadN X89.here hx rfl (hb hby own_d_prog_19_method_10_code_6) rfl rfl k) ?_
      obtain ⟨T119, X120, e121, st122⟩ := getF X89 hx hZ hown (host := "") (Or.inl (hw _ (List.mem_of_getElem? (i := 39) rfl))) Via.refl e92 Fn (g := mkF m 7 #[.val (.ref a), .val (.int few), .val (.int most), .val (.int (3 : Int32)), .unset] [(.ref a), (.int (3 : Int32))]) rfl rfl (hb hby own_d_prog_19_method_10_code_7)
      refine OGoal.mp (S' := (T119.setTop (mkF m 10 #[.val (.ref a), .val (.int few), .val (.int most), .val (.int (3 : Int32)), .unset] [(.ref b), (.int (3 : Int32))]))) (fun _ k => st122 _ k) ?_
      refine oCallV (y := (⟨"java/lang/String", "length", "()I"⟩ : MethodName)) (z := (⟨"java/lang/String", "length", "()I"⟩ : MethodName)) X120 hx hZ hown (hw _ (List.mem_of_getElem? (i := 53) rfl)) (hw _ (List.mem_of_getElem? (i := 54) rfl)) (hw _ (List.mem_of_getElem? (i := 56) rfl)) (hw _ (List.mem_of_getElem? (i := 55) rfl)) (hw _ (List.mem_of_getElem? (i := 8) rfl)) (hw _ (List.mem_of_getElem? (i := 57) rfl)) (by decide) (rmLn l Z a0 hw b h0 n0 Z0 cs fm hcs hfm St f hS) e121 hS.exa [] [(.int (3 : Int32))] rfl rfl (by rw [hml]; rfl) (notFace_of_selects (args := #[]) (mvT hZ (hw _ (List.mem_of_getElem? (i := 56) rfl)))) (lenOf own_pd___I rfl) 1 (Nat.le_of_eq rfl) (by decide) (by decide) (by decide) (by decide) (hb hby own_d_prog_19_method_10_code_10) ?_
      intro v123 T124 L125 X126 q127
      obtain ⟨rfl, N128, e129⟩ := q127
      have N130 := Fr.app N93 N128
      show OGoal p e below s _ _ _ (T124.setTop (mkF m 13 #[.val (.ref a), .val (.int few), .val (.int most), .val (.int (3 : Int32)), .unset] [(.int (4 : Int32)), (.int (3 : Int32))]))
      refine OGoal.mp (S' := (T124.setTop (mkF m 16 #[.val (.ref a), .val (.int few), .val (.int most), .val (.int (3 : Int32)), .unset] []))) (fun _ k => XS.icmpNo X126.here hx rfl (hb hby own_d_prog_19_method_10_code_13) rfl (XT.ii_ge_f (by decide)) k) ?_
      refine OGoal.mp (S' := (T124.setTop (mkF m 17 #[.val (.ref a), .val (.int few), .val (.int most), .val (.int (3 : Int32)), .unset] [(.ref a)]))) (fun _ k => XS.aloadN X126.here hx rfl (hb hby own_d_prog_19_method_10_code_16) rfl rfl k) ?_
      obtain ⟨T131, X132, e133, st134⟩ := getF X126 hx hZ hown (host := "") (Or.inl (hw _ (List.mem_of_getElem? (i := 39) rfl))) Via.refl e129 Fn (g := mkF m 17 #[.val (.ref a), .val (.int few), .val (.int most), .val (.int (3 : Int32)), .unset] [(.ref a)]) rfl rfl (hb hby own_d_prog_19_method_10_code_17)
      refine OGoal.mp (S' := (T131.setTop (mkF m 20 #[.val (.ref a), .val (.int few), .val (.int most), .val (.int (3 : Int32)), .unset] [(.ref b)]))) (fun _ k => st134 _ k) ?_
      refine OGoal.mp (S' := (T131.setTop (mkF m 21 #[.val (.ref a), .val (.int few), .val (.int most), .val (.int (3 : Int32)), .unset] [(.int (3 : Int32)), (.ref b)]))) (fun _ k => XS.iloadN X132.here hx rfl (hb hby own_d_prog_19_method_10_code_20) rfl k) ?_
      refine oCallV (y := (⟨"java/lang/String", "charAt", "(I)C"⟩ : MethodName)) (z := (⟨"java/lang/String", "charAt", "(I)C"⟩ : MethodName)) X132 hx hZ hown (hw _ (List.mem_of_getElem? (i := 63) rfl)) (hw _ (List.mem_of_getElem? (i := 64) rfl)) (hw _ (List.mem_of_getElem? (i := 66) rfl)) (hw _ (List.mem_of_getElem? (i := 65) rfl)) (hw _ (List.mem_of_getElem? (i := 8) rfl)) (hw _ (List.mem_of_getElem? (i := 67) rfl)) (by decide) (rmCA l Z a0 hw b (3 : Int32) h0 n0 Z0 cs fm hcs hfm St f hC hS (by decide) (by decide)) e133 hS.exa [(.int (3 : Int32))] [] rfl rfl (by rw [hml]; rfl) (notFace_of_selects (args := #[]) (mvT hZ (hw _ (List.mem_of_getElem? (i := 66) rfl)))) (lenOf own_pd__I_C rfl) 0 (Nat.le_of_eq rfl) (by decide) (by decide) (by decide) (by decide) (hb hby own_d_prog_19_method_10_code_21) ?_
      intro v135 T136 L137 X138 q139
      obtain ⟨rfl, N140, e141⟩ := q139
      have N142 := Fr.app N130 N140
      show OGoal p e below s _ _ _ (T136.setTop (mkF m 24 #[.val (.ref a), .val (.int few), .val (.int most), .val (.int (3 : Int32)), .unset] [(.int (f (3 : Int32).toInt.toNat))]))
      refine oCallS (y := (⟨"com/example/deadlock_to_diagnosis/deadlocktodiagnosis/reader/LineScanner", "isDigit", "(C)Z"⟩ : MethodName)) X138 hx hZ hown (hw _ (List.mem_of_getElem? (i := 85) rfl)) (hw _ (List.mem_of_getElem? (i := 86) rfl)) (hw _ (List.mem_of_getElem? (i := 5) rfl)) (hw _ (List.mem_of_getElem? (i := 87) rfl)) (by decide) (rmDi l Z a0 hw (f (3 : Int32).toInt.toNat) h0 n0 Z0) e141 [(.int (f (3 : Int32).toInt.toNat))] [] rfl rfl (by rw [hml]; rfl) (lenOf own_pd__C_Z rfl) 0 (Nat.le_of_eq rfl) (by decide) (by decide) (by decide) (by decide) (hb hby own_d_prog_19_method_10_code_24) ?_
      intro v143 T144 L145 X146 q147
      obtain ⟨rfl, N148, e149⟩ := q147
      have N150 := Fr.app N142 N148
      show OGoal p e below s _ _ _ (T144.setTop (mkF m 27 #[.val (.ref a), .val (.int few), .val (.int most), .val (.int (3 : Int32)), .unset] [(.int (own_dg (f (3 : Int32).toInt.toNat)))]))
      by_cases hc151 : (own_dg (f (3 : Int32).toInt.toNat)) = 0
      · refine OGoal.mp (S' := (T144.setTop (mkF m 36 #[.val (.ref a), .val (.int few), .val (.int most), .val (.int (3 : Int32)), .unset] []))) (fun _ k => XS.ifYes X146.here hx rfl (pc0 := 27) (pc' := 36) rfl (hb hby own_d_prog_19_method_10_code_27) rfl (XT.i0_eq_t hc151) (by decide) (by decide) k) ?_
        refine OGoal.mp (S' := (T144.setTop (mkF m 37 #[.val (.ref a), .val (.int few), .val (.int most), .val (.int (3 : Int32)), .unset] [(.int (3 : Int32))]))) (fun _ k => XS.iloadN X146.here hx rfl (hb hby own_d_prog_19_method_10_code_36) rfl k) ?_
        refine OGoal.mp (S' := (T144.setTop (mkF m 38 #[.val (.ref a), .val (.int few), .val (.int most), .val (.int (3 : Int32)), .unset] [(.ref a), (.int (3 : Int32))]))) (fun _ k => XS.aloadN X146.here hx rfl (hb hby own_d_prog_19_method_10_code_37) rfl rfl k) ?_
        obtain ⟨T152, X153, e154, st155⟩ := getF X146 hx hZ hown (host := "") (Or.inl (hw _ (List.mem_of_getElem? (i := 46) rfl))) Via.refl e149 Fa (g := mkF m 38 #[.val (.ref a), .val (.int few), .val (.int most), .val (.int (3 : Int32)), .unset] [(.ref a), (.int (3 : Int32))]) rfl rfl (hb hby own_d_prog_19_method_10_code_38)
        refine OGoal.mp (S' := (T152.setTop (mkF m 41 #[.val (.ref a), .val (.int few), .val (.int most), .val (.int (3 : Int32)), .unset] [(.int (1 : Int32)), (.int (3 : Int32))]))) (fun _ k => st155 _ k) ?_
        refine OGoal.mp (S' := (T152.setTop (mkF m 42 #[.val (.ref a), .val (.int few), .val (.int most), .val (.int (3 : Int32)), .unset] [(.int ((3 : Int32) - (1 : Int32)))]))) (fun _ k => XS.isub X153.here hx rfl (hb hby own_d_prog_19_method_10_code_41) rfl k) ?_
        rw [show ((3 : Int32) - (1 : Int32)) = (2 : Int32) by decide]
        show OGoal p e below s _ _ _ (T152.setTop (mkF m 42 #[.val (.ref a), .val (.int few), .val (.int most), .val (.int (3 : Int32)), .unset] [(.int (2 : Int32))]))
        refine OGoal.mp (S' := (T152.setTop (mkF m 43 #[.val (.ref a), .val (.int few), .val (.int most), .val (.int (3 : Int32)), .unset] [(.int few), (.int (2 : Int32))]))) (fun _ k => XS.iloadN X153.here hx rfl (hb hby own_d_prog_19_method_10_code_42) rfl k) ?_
        by_cases hc156 : (2 : Int32) < few
        · refine OGoal.mp (S' := (T152.setTop (mkF m 60 #[.val (.ref a), .val (.int few), .val (.int most), .val (.int (3 : Int32)), .unset] []))) (fun _ k => XS.icmpYes X153.here hx rfl (pc0 := 43) (pc' := 60) rfl (hb hby own_d_prog_19_method_10_code_43) rfl (XT.ii_lt_t hc156) (by decide) (by decide) k) ?_
          refine OGoal.mp (S' := (T152.setTop (mkF m 61 #[.val (.ref a), .val (.int few), .val (.int most), .val (.int (3 : Int32)), .unset] [(.int (0 : Int32))]))) (fun _ k => XS.iconst X153.here hx rfl (hb hby own_d_prog_19_method_10_code_60) k) ?_
          refine OGoal.mp (S' := (T152.setTop (mkF m 63 #[.val (.ref a), .val (.int few), .val (.int most), .val (.int (3 : Int32)), .val (.int (0 : Int32))] []))) (fun _ k => XS.istore X153.here hx rfl (hb hby own_d_prog_19_method_10_code_61) rfl (l' := #[.val (.ref a), .val (.int few), .val (.int most), .val (.int (3 : Int32)), .val (.int (0 : Int32))]) rfl k) ?_
          refine OGoal.mp (S' := (T152.setTop (mkF m 65 #[.val (.ref a), .val (.int few), .val (.int most), .val (.int (3 : Int32)), .val (.int (0 : Int32))] [(.int (0 : Int32))]))) (fun _ k => XS.iload X153.here hx rfl (hb hby own_d_prog_19_method_10_code_63) rfl k) ?_
          refine OGoal.mp (S' := (T152.setTop (mkF m 73 #[.val (.ref a), .val (.int few), .val (.int most), .val (.int (3 : Int32)), .val (.int (0 : Int32))] []))) (fun _ k => XS.ifYes X153.here hx rfl (pc0 := 65) (pc' := 73) rfl (hb hby own_d_prog_19_method_10_code_65) rfl (XT.i0_eq_t (by decide)) (by decide) (by decide) k) ?_
          refine OGoal.mp (S' := (T152.setTop (mkF m 75 #[.val (.ref a), .val (.int few), .val (.int most), .val (.int (3 : Int32)), .val (.int (0 : Int32))] [(.int (0 : Int32))]))) (fun _ k => XS.iload X153.here hx rfl (hb hby own_d_prog_19_method_10_code_73) rfl k) ?_
          refine oRetZ X153 hx hlk hret (Or.inl rfl) (hb hby own_d_prog_19_method_10_code_75) ?_ (by decide) (by decide)
          have hr : own_run f (4 - (1 : Int32).toInt.toNat) (1 : Int32).toInt.toNat = 2 := by
            show own_run f 3 1 = 2
            have e0 : own_run f 3 1 = own_run f 2 2 + 1 := if_neg hc37
            have e1 : own_run f 2 2 = own_run f 1 3 + 1 := if_neg hc94
            have e2 : own_run f 1 3 = 0 := if_pos hc151
            rw [e0, e1, e2]
          have hs : own_res (Int32.ofNat 2) few most = (0 : Int32) := by show own_res (2 : Int32) few most = _; unfold own_res; rw [if_pos hc156]
          refine ⟨?_, N150, ?_, ?_⟩
          · rw [hr, hs]
          · rw [e154]; exact (Keep.refl h0 [a])
          · rw [hr, e154]; unfold own_at; rw [hs]; exact Fa
        · refine OGoal.mp (S' := (T152.setTop (mkF m 46 #[.val (.ref a), .val (.int few), .val (.int most), .val (.int (3 : Int32)), .unset] []))) (fun _ k => XS.icmpNo X153.here hx rfl (hb hby own_d_prog_19_method_10_code_43) rfl (XT.ii_lt_f hc156) k) ?_
          refine OGoal.mp (S' := (T152.setTop (mkF m 47 #[.val (.ref a), .val (.int few), .val (.int most), .val (.int (3 : Int32)), .unset] [(.int (3 : Int32))]))) (fun _ k => XS.iloadN X153.here hx rfl (hb hby own_d_prog_19_method_10_code_46) rfl k) ?_
          refine OGoal.mp (S' := (T152.setTop (mkF m 48 #[.val (.ref a), .val (.int few), .val (.int most), .val (.int (3 : Int32)), .unset] [(.ref a), (.int (3 : Int32))]))) (fun _ k => XS.aloadN X153.here hx rfl (hb hby own_d_prog_19_method_10_code_47) rfl rfl k) ?_
          obtain ⟨T157, X158, e159, st160⟩ := getF X153 hx hZ hown (host := "") (Or.inl (hw _ (List.mem_of_getElem? (i := 46) rfl))) Via.refl e154 Fa (g := mkF m 48 #[.val (.ref a), .val (.int few), .val (.int most), .val (.int (3 : Int32)), .unset] [(.ref a), (.int (3 : Int32))]) rfl rfl (hb hby own_d_prog_19_method_10_code_48)
          refine OGoal.mp (S' := (T157.setTop (mkF m 51 #[.val (.ref a), .val (.int few), .val (.int most), .val (.int (3 : Int32)), .unset] [(.int (1 : Int32)), (.int (3 : Int32))]))) (fun _ k => st160 _ k) ?_
          refine OGoal.mp (S' := (T157.setTop (mkF m 52 #[.val (.ref a), .val (.int few), .val (.int most), .val (.int (3 : Int32)), .unset] [(.int ((3 : Int32) - (1 : Int32)))]))) (fun _ k => XS.isub X158.here hx rfl (hb hby own_d_prog_19_method_10_code_51) rfl k) ?_
          rw [show ((3 : Int32) - (1 : Int32)) = (2 : Int32) by decide]
          show OGoal p e below s _ _ _ (T157.setTop (mkF m 52 #[.val (.ref a), .val (.int few), .val (.int most), .val (.int (3 : Int32)), .unset] [(.int (2 : Int32))]))
          refine OGoal.mp (S' := (T157.setTop (mkF m 53 #[.val (.ref a), .val (.int few), .val (.int most), .val (.int (3 : Int32)), .unset] [(.int most), (.int (2 : Int32))]))) (fun _ k => XS.iloadN X158.here hx rfl (hb hby own_d_prog_19_method_10_code_52) rfl k) ?_
          by_cases hc161 : most < (2 : Int32)
          · refine OGoal.mp (S' := (T157.setTop (mkF m 60 #[.val (.ref a), .val (.int few), .val (.int most), .val (.int (3 : Int32)), .unset] []))) (fun _ k => XS.icmpYes X158.here hx rfl (pc0 := 53) (pc' := 60) rfl (hb hby own_d_prog_19_method_10_code_53) rfl (XT.ii_gt_t hc161) (by decide) (by decide) k) ?_
            refine OGoal.mp (S' := (T157.setTop (mkF m 61 #[.val (.ref a), .val (.int few), .val (.int most), .val (.int (3 : Int32)), .unset] [(.int (0 : Int32))]))) (fun _ k => XS.iconst X158.here hx rfl (hb hby own_d_prog_19_method_10_code_60) k) ?_
            refine OGoal.mp (S' := (T157.setTop (mkF m 63 #[.val (.ref a), .val (.int few), .val (.int most), .val (.int (3 : Int32)), .val (.int (0 : Int32))] []))) (fun _ k => XS.istore X158.here hx rfl (hb hby own_d_prog_19_method_10_code_61) rfl (l' := #[.val (.ref a), .val (.int few), .val (.int most), .val (.int (3 : Int32)), .val (.int (0 : Int32))]) rfl k) ?_
            refine OGoal.mp (S' := (T157.setTop (mkF m 65 #[.val (.ref a), .val (.int few), .val (.int most), .val (.int (3 : Int32)), .val (.int (0 : Int32))] [(.int (0 : Int32))]))) (fun _ k => XS.iload X158.here hx rfl (hb hby own_d_prog_19_method_10_code_63) rfl k) ?_
            refine OGoal.mp (S' := (T157.setTop (mkF m 73 #[.val (.ref a), .val (.int few), .val (.int most), .val (.int (3 : Int32)), .val (.int (0 : Int32))] []))) (fun _ k => XS.ifYes X158.here hx rfl (pc0 := 65) (pc' := 73) rfl (hb hby own_d_prog_19_method_10_code_65) rfl (XT.i0_eq_t (by decide)) (by decide) (by decide) k) ?_
            refine OGoal.mp (S' := (T157.setTop (mkF m 75 #[.val (.ref a), .val (.int few), .val (.int most), .val (.int (3 : Int32)), .val (.int (0 : Int32))] [(.int (0 : Int32))]))) (fun _ k => XS.iload X158.here hx rfl (hb hby own_d_prog_19_method_10_code_73) rfl k) ?_
            refine oRetZ X158 hx hlk hret (Or.inl rfl) (hb hby own_d_prog_19_method_10_code_75) ?_ (by decide) (by decide)
            have hr : own_run f (4 - (1 : Int32).toInt.toNat) (1 : Int32).toInt.toNat = 2 := by
              show own_run f 3 1 = 2
              have e0 : own_run f 3 1 = own_run f 2 2 + 1 := if_neg hc37
              have e1 : own_run f 2 2 = own_run f 1 3 + 1 := if_neg hc94
              have e2 : own_run f 1 3 = 0 := if_pos hc151
              rw [e0, e1, e2]
            have hs : own_res (Int32.ofNat 2) few most = (0 : Int32) := by show own_res (2 : Int32) few most = _; unfold own_res; rw [if_neg hc156, if_pos hc161]
            refine ⟨?_, N150, ?_, ?_⟩
            · rw [hr, hs]
            · rw [e159]; exact (Keep.refl h0 [a])
            · rw [hr, e159]; unfold own_at; rw [hs]; exact Fa
          · refine OGoal.mp (S' := (T157.setTop (mkF m 56 #[.val (.ref a), .val (.int few), .val (.int most), .val (.int (3 : Int32)), .unset] []))) (fun _ k => XS.icmpNo X158.here hx rfl (hb hby own_d_prog_19_method_10_code_53) rfl (XT.ii_gt_f hc161) k) ?_
            refine OGoal.mp (S' := (T157.setTop (mkF m 57 #[.val (.ref a), .val (.int few), .val (.int most), .val (.int (3 : Int32)), .unset] [(.int (1 : Int32))]))) (fun _ k => XS.iconst X158.here hx rfl (hb hby own_d_prog_19_method_10_code_56) k) ?_
            refine OGoal.mp (S' := (T157.setTop (mkF m 61 #[.val (.ref a), .val (.int few), .val (.int most), .val (.int (3 : Int32)), .unset] [(.int (1 : Int32))]))) (fun _ k => XS.goto X158.here hx rfl (pc0 := 57) (pc' := 61) rfl (hb hby own_d_prog_19_method_10_code_57) (by decide) (by decide) k) ?_
            refine OGoal.mp (S' := (T157.setTop (mkF m 63 #[.val (.ref a), .val (.int few), .val (.int most), .val (.int (3 : Int32)), .val (.int (1 : Int32))] []))) (fun _ k => XS.istore X158.here hx rfl (hb hby own_d_prog_19_method_10_code_61) rfl (l' := #[.val (.ref a), .val (.int few), .val (.int most), .val (.int (3 : Int32)), .val (.int (1 : Int32))]) rfl k) ?_
            refine OGoal.mp (S' := (T157.setTop (mkF m 65 #[.val (.ref a), .val (.int few), .val (.int most), .val (.int (3 : Int32)), .val (.int (1 : Int32))] [(.int (1 : Int32))]))) (fun _ k => XS.iload X158.here hx rfl (hb hby own_d_prog_19_method_10_code_63) rfl k) ?_
            refine OGoal.mp (S' := (T157.setTop (mkF m 68 #[.val (.ref a), .val (.int few), .val (.int most), .val (.int (3 : Int32)), .val (.int (1 : Int32))] []))) (fun _ k => XS.ifNo X158.here hx rfl (hb hby own_d_prog_19_method_10_code_65) rfl (XT.i0_eq_f (by decide)) k) ?_
            refine OGoal.mp (S' := (T157.setTop (mkF m 69 #[.val (.ref a), .val (.int few), .val (.int most), .val (.int (3 : Int32)), .val (.int (1 : Int32))] [(.ref a)]))) (fun _ k => XS.aloadN X158.here hx rfl (hb hby own_d_prog_19_method_10_code_68) rfl rfl k) ?_
            refine OGoal.mp (S' := (T157.setTop (mkF m 70 #[.val (.ref a), .val (.int few), .val (.int most), .val (.int (3 : Int32)), .val (.int (1 : Int32))] [(.int (3 : Int32)), (.ref a)]))) (fun _ k => XS.iloadN X158.here hx rfl (hb hby own_d_prog_19_method_10_code_69) rfl k) ?_
            obtain ⟨T162, h166, X163, e164, W167, st165⟩ := putF X158 hx hZ hown (host := "") (Or.inl (hw _ (List.mem_of_getElem? (i := 46) rfl))) Via.refl e159 Fa E (Or.inl (hw _ (List.mem_of_getElem? (i := 47) rfl))) (hw _ (List.mem_of_getElem? (i := 4) rfl)) (ty := .int) (by decide) rfl rfl (g := mkF m 70 #[.val (.ref a), .val (.int few), .val (.int most), .val (.int (3 : Int32)), .val (.int (1 : Int32))] [(.int (3 : Int32)), (.ref a)]) rfl rfl (hb hby own_d_prog_19_method_10_code_70)
            have N168 := Fr.snoc X163 N150 ab
            have Z169 : n0 ≤ h166.size := Nat.le_trans Z0 (Keep.of_wr W167).1
            have K170 : Keep h0 h166 [a] := (Keep.refl h0 [a]).wr W167 (Or.inl (by simp))
            have F171 := St.wr W167
            have F172 := E.wr W167
            have F173 := hS.exa.wr W167
            have F174 := Fn.other W167 (Or.inr (slot_ne (a0 := a0) (C := "com/example/deadlock_to_diagnosis/deadlocktodiagnosis/reader/LineScanner") (t := (.object "java/lang/String")) (t' := .int) (Or.inr (hw _ (List.mem_of_getElem? (i := 40) rfl))) (Or.inl (hw _ (List.mem_of_getElem? (i := 47) rfl))) (by decide) (by decide) (by decide)))
            have F175 := Fa.same W167
            refine OGoal.mp (S' := (T162.setTop (mkF m 73 #[.val (.ref a), .val (.int few), .val (.int most), .val (.int (3 : Int32)), .val (.int (1 : Int32))] []))) (fun _ k => st165 _ k) ?_
            refine OGoal.mp (S' := (T162.setTop (mkF m 75 #[.val (.ref a), .val (.int few), .val (.int most), .val (.int (3 : Int32)), .val (.int (1 : Int32))] [(.int (1 : Int32))]))) (fun _ k => XS.iload X163.here hx rfl (hb hby own_d_prog_19_method_10_code_73) rfl k) ?_
            refine oRetZ X163 hx hlk hret (Or.inr rfl) (hb hby own_d_prog_19_method_10_code_75) ?_ (by decide) (by decide)
            have hr : own_run f (4 - (1 : Int32).toInt.toNat) (1 : Int32).toInt.toNat = 2 := by
              show own_run f 3 1 = 2
              have e0 : own_run f 3 1 = own_run f 2 2 + 1 := if_neg hc37
              have e1 : own_run f 2 2 = own_run f 1 3 + 1 := if_neg hc94
              have e2 : own_run f 1 3 = 0 := if_pos hc151
              rw [e0, e1, e2]
            have hs : own_res (Int32.ofNat 2) few most = (1 : Int32) := by show own_res (2 : Int32) few most = _; unfold own_res; rw [if_neg hc156, if_neg hc161]
            refine ⟨?_, N168, ?_, ?_⟩
            · rw [hr, hs]
            · rw [e164]; exact K170
            · rw [hr, e164]; unfold own_at; rw [hs]; exact F175
      · refine OGoal.mp (S' := (T144.setTop (mkF m 30 #[.val (.ref a), .val (.int few), .val (.int most), .val (.int (3 : Int32)), .unset] []))) (fun _ k => XS.ifNo X146.here hx rfl (hb hby own_d_prog_19_method_10_code_27) rfl (XT.i0_eq_f hc151) k) ?_
        refine OGoal.mp (S' := (T144.setTop (mkF m 33 #[.val (.ref a), .val (.int few), .val (.int most), .val (.int ((3 : Int32) + (1 : Int32))), .unset] []))) (fun _ k => XT.iincV X146.here hx rfl (1 : Int32) (hb hby own_d_prog_19_method_10_code_30) rfl rfl (l' := #[.val (.ref a), .val (.int few), .val (.int most), .val (.int ((3 : Int32) + (1 : Int32))), .unset]) rfl k) ?_
        rw [show ((3 : Int32) + (1 : Int32)) = (4 : Int32) by decide]
        show OGoal p e below s _ _ _ (T144.setTop (mkF m 33 #[.val (.ref a), .val (.int few), .val (.int most), .val (.int (4 : Int32)), .unset] []))
        refine OGoal.mp (S' := (T144.setTop (mkF m 5 #[.val (.ref a), .val (.int few), .val (.int most), .val (.int (4 : Int32)), .unset] []))) (fun _ k => XS.goto X146.here hx rfl (pc0 := 33) (pc' := 5) rfl (hb hby own_d_prog_19_method_10_code_33) (by decide) (by decide) k) ?_
        refine OGoal.mp (S' := (T144.setTop (mkF m 6 #[.val (.ref a), .val (.int few), .val (.int most), .val (.int (4 : Int32)), .unset] [(.int (4 : Int32))]))) (fun _ k => XS.iloadN X146.here hx rfl (hb hby own_d_prog_19_method_10_code_5) rfl k) ?_
        refine OGoal.mp (S' := (T144.setTop (mkF m 7 #[.val (.ref a), .val (.int few), .val (.int most), .val (.int (4 : Int32)), .unset] [(.ref a), (.int (4 : Int32))]))) (fun _ k => XS.aloadN X146.here hx rfl (hb hby own_d_prog_19_method_10_code_6) rfl rfl k) ?_
        obtain ⟨T176, X177, e178, st179⟩ := getF X146 hx hZ hown (host := "") (Or.inl (hw _ (List.mem_of_getElem? (i := 39) rfl))) Via.refl e149 Fn (g := mkF m 7 #[.val (.ref a), .val (.int few), .val (.int most), .val (.int (4 : Int32)), .unset] [(.ref a), (.int (4 : Int32))]) rfl rfl (hb hby own_d_prog_19_method_10_code_7)
        refine OGoal.mp (S' := (T176.setTop (mkF m 10 #[.val (.ref a), .val (.int few), .val (.int most), .val (.int (4 : Int32)), .unset] [(.ref b), (.int (4 : Int32))]))) (fun _ k => st179 _ k) ?_
        refine oCallV (y := (⟨"java/lang/String", "length", "()I"⟩ : MethodName)) (z := (⟨"java/lang/String", "length", "()I"⟩ : MethodName)) X177 hx hZ hown (hw _ (List.mem_of_getElem? (i := 53) rfl)) (hw _ (List.mem_of_getElem? (i := 54) rfl)) (hw _ (List.mem_of_getElem? (i := 56) rfl)) (hw _ (List.mem_of_getElem? (i := 55) rfl)) (hw _ (List.mem_of_getElem? (i := 8) rfl)) (hw _ (List.mem_of_getElem? (i := 57) rfl)) (by decide) (rmLn l Z a0 hw b h0 n0 Z0 cs fm hcs hfm St f hS) e178 hS.exa [] [(.int (4 : Int32))] rfl rfl (by rw [hml]; rfl) (notFace_of_selects (args := #[]) (mvT hZ (hw _ (List.mem_of_getElem? (i := 56) rfl)))) (lenOf own_pd___I rfl) 1 (Nat.le_of_eq rfl) (by decide) (by decide) (by decide) (by decide) (hb hby own_d_prog_19_method_10_code_10) ?_
        intro v180 T181 L182 X183 q184
        obtain ⟨rfl, N185, e186⟩ := q184
        have N187 := Fr.app N150 N185
        show OGoal p e below s _ _ _ (T181.setTop (mkF m 13 #[.val (.ref a), .val (.int few), .val (.int most), .val (.int (4 : Int32)), .unset] [(.int (4 : Int32)), (.int (4 : Int32))]))
        refine OGoal.mp (S' := (T181.setTop (mkF m 36 #[.val (.ref a), .val (.int few), .val (.int most), .val (.int (4 : Int32)), .unset] []))) (fun _ k => XS.icmpYes X183.here hx rfl (pc0 := 13) (pc' := 36) rfl (hb hby own_d_prog_19_method_10_code_13) rfl (XT.ii_ge_t (by decide)) (by decide) (by decide) k) ?_
        refine OGoal.mp (S' := (T181.setTop (mkF m 37 #[.val (.ref a), .val (.int few), .val (.int most), .val (.int (4 : Int32)), .unset] [(.int (4 : Int32))]))) (fun _ k => XS.iloadN X183.here hx rfl (hb hby own_d_prog_19_method_10_code_36) rfl k) ?_
        refine OGoal.mp (S' := (T181.setTop (mkF m 38 #[.val (.ref a), .val (.int few), .val (.int most), .val (.int (4 : Int32)), .unset] [(.ref a), (.int (4 : Int32))]))) (fun _ k => XS.aloadN X183.here hx rfl (hb hby own_d_prog_19_method_10_code_37) rfl rfl k) ?_
        obtain ⟨T188, X189, e190, st191⟩ := getF X183 hx hZ hown (host := "") (Or.inl (hw _ (List.mem_of_getElem? (i := 46) rfl))) Via.refl e186 Fa (g := mkF m 38 #[.val (.ref a), .val (.int few), .val (.int most), .val (.int (4 : Int32)), .unset] [(.ref a), (.int (4 : Int32))]) rfl rfl (hb hby own_d_prog_19_method_10_code_38)
        refine OGoal.mp (S' := (T188.setTop (mkF m 41 #[.val (.ref a), .val (.int few), .val (.int most), .val (.int (4 : Int32)), .unset] [(.int (1 : Int32)), (.int (4 : Int32))]))) (fun _ k => st191 _ k) ?_
        refine OGoal.mp (S' := (T188.setTop (mkF m 42 #[.val (.ref a), .val (.int few), .val (.int most), .val (.int (4 : Int32)), .unset] [(.int ((4 : Int32) - (1 : Int32)))]))) (fun _ k => XS.isub X189.here hx rfl (hb hby own_d_prog_19_method_10_code_41) rfl k) ?_
        rw [show ((4 : Int32) - (1 : Int32)) = (3 : Int32) by decide]
        show OGoal p e below s _ _ _ (T188.setTop (mkF m 42 #[.val (.ref a), .val (.int few), .val (.int most), .val (.int (4 : Int32)), .unset] [(.int (3 : Int32))]))
        refine OGoal.mp (S' := (T188.setTop (mkF m 43 #[.val (.ref a), .val (.int few), .val (.int most), .val (.int (4 : Int32)), .unset] [(.int few), (.int (3 : Int32))]))) (fun _ k => XS.iloadN X189.here hx rfl (hb hby own_d_prog_19_method_10_code_42) rfl k) ?_
        by_cases hc192 : (3 : Int32) < few
        · refine OGoal.mp (S' := (T188.setTop (mkF m 60 #[.val (.ref a), .val (.int few), .val (.int most), .val (.int (4 : Int32)), .unset] []))) (fun _ k => XS.icmpYes X189.here hx rfl (pc0 := 43) (pc' := 60) rfl (hb hby own_d_prog_19_method_10_code_43) rfl (XT.ii_lt_t hc192) (by decide) (by decide) k) ?_
          refine OGoal.mp (S' := (T188.setTop (mkF m 61 #[.val (.ref a), .val (.int few), .val (.int most), .val (.int (4 : Int32)), .unset] [(.int (0 : Int32))]))) (fun _ k => XS.iconst X189.here hx rfl (hb hby own_d_prog_19_method_10_code_60) k) ?_
          refine OGoal.mp (S' := (T188.setTop (mkF m 63 #[.val (.ref a), .val (.int few), .val (.int most), .val (.int (4 : Int32)), .val (.int (0 : Int32))] []))) (fun _ k => XS.istore X189.here hx rfl (hb hby own_d_prog_19_method_10_code_61) rfl (l' := #[.val (.ref a), .val (.int few), .val (.int most), .val (.int (4 : Int32)), .val (.int (0 : Int32))]) rfl k) ?_
          refine OGoal.mp (S' := (T188.setTop (mkF m 65 #[.val (.ref a), .val (.int few), .val (.int most), .val (.int (4 : Int32)), .val (.int (0 : Int32))] [(.int (0 : Int32))]))) (fun _ k => XS.iload X189.here hx rfl (hb hby own_d_prog_19_method_10_code_63) rfl k) ?_
          refine OGoal.mp (S' := (T188.setTop (mkF m 73 #[.val (.ref a), .val (.int few), .val (.int most), .val (.int (4 : Int32)), .val (.int (0 : Int32))] []))) (fun _ k => XS.ifYes X189.here hx rfl (pc0 := 65) (pc' := 73) rfl (hb hby own_d_prog_19_method_10_code_65) rfl (XT.i0_eq_t (by decide)) (by decide) (by decide) k) ?_
          refine OGoal.mp (S' := (T188.setTop (mkF m 75 #[.val (.ref a), .val (.int few), .val (.int most), .val (.int (4 : Int32)), .val (.int (0 : Int32))] [(.int (0 : Int32))]))) (fun _ k => XS.iload X189.here hx rfl (hb hby own_d_prog_19_method_10_code_73) rfl k) ?_
          refine oRetZ X189 hx hlk hret (Or.inl rfl) (hb hby own_d_prog_19_method_10_code_75) ?_ (by decide) (by decide)
          have hr : own_run f (4 - (1 : Int32).toInt.toNat) (1 : Int32).toInt.toNat = 3 := by
            show own_run f 3 1 = 3
            have e0 : own_run f 3 1 = own_run f 2 2 + 1 := if_neg hc37
            have e1 : own_run f 2 2 = own_run f 1 3 + 1 := if_neg hc94
            have e2 : own_run f 1 3 = own_run f 0 4 + 1 := if_neg hc151
            rw [e0, e1, e2]
            first | done | rfl
          have hs : own_res (Int32.ofNat 3) few most = (0 : Int32) := by show own_res (3 : Int32) few most = _; unfold own_res; rw [if_pos hc192]
          refine ⟨?_, N187, ?_, ?_⟩
          · rw [hr, hs]
          · rw [e190]; exact (Keep.refl h0 [a])
          · rw [hr, e190]; unfold own_at; rw [hs]; exact Fa
        · refine OGoal.mp (S' := (T188.setTop (mkF m 46 #[.val (.ref a), .val (.int few), .val (.int most), .val (.int (4 : Int32)), .unset] []))) (fun _ k => XS.icmpNo X189.here hx rfl (hb hby own_d_prog_19_method_10_code_43) rfl (XT.ii_lt_f hc192) k) ?_
          refine OGoal.mp (S' := (T188.setTop (mkF m 47 #[.val (.ref a), .val (.int few), .val (.int most), .val (.int (4 : Int32)), .unset] [(.int (4 : Int32))]))) (fun _ k => XS.iloadN X189.here hx rfl (hb hby own_d_prog_19_method_10_code_46) rfl k) ?_
          refine OGoal.mp (S' := (T188.setTop (mkF m 48 #[.val (.ref a), .val (.int few), .val (.int most), .val (.int (4 : Int32)), .unset] [(.ref a), (.int (4 : Int32))]))) (fun _ k => XS.aloadN X189.here hx rfl (hb hby own_d_prog_19_method_10_code_47) rfl rfl k) ?_
          obtain ⟨T193, X194, e195, st196⟩ := getF X189 hx hZ hown (host := "") (Or.inl (hw _ (List.mem_of_getElem? (i := 46) rfl))) Via.refl e190 Fa (g := mkF m 48 #[.val (.ref a), .val (.int few), .val (.int most), .val (.int (4 : Int32)), .unset] [(.ref a), (.int (4 : Int32))]) rfl rfl (hb hby own_d_prog_19_method_10_code_48)
          refine OGoal.mp (S' := (T193.setTop (mkF m 51 #[.val (.ref a), .val (.int few), .val (.int most), .val (.int (4 : Int32)), .unset] [(.int (1 : Int32)), (.int (4 : Int32))]))) (fun _ k => st196 _ k) ?_
          refine OGoal.mp (S' := (T193.setTop (mkF m 52 #[.val (.ref a), .val (.int few), .val (.int most), .val (.int (4 : Int32)), .unset] [(.int ((4 : Int32) - (1 : Int32)))]))) (fun _ k => XS.isub X194.here hx rfl (hb hby own_d_prog_19_method_10_code_51) rfl k) ?_
          rw [show ((4 : Int32) - (1 : Int32)) = (3 : Int32) by decide]
          show OGoal p e below s _ _ _ (T193.setTop (mkF m 52 #[.val (.ref a), .val (.int few), .val (.int most), .val (.int (4 : Int32)), .unset] [(.int (3 : Int32))]))
          refine OGoal.mp (S' := (T193.setTop (mkF m 53 #[.val (.ref a), .val (.int few), .val (.int most), .val (.int (4 : Int32)), .unset] [(.int most), (.int (3 : Int32))]))) (fun _ k => XS.iloadN X194.here hx rfl (hb hby own_d_prog_19_method_10_code_52) rfl k) ?_
          by_cases hc197 : most < (3 : Int32)
          · refine OGoal.mp (S' := (T193.setTop (mkF m 60 #[.val (.ref a), .val (.int few), .val (.int most), .val (.int (4 : Int32)), .unset] []))) (fun _ k => XS.icmpYes X194.here hx rfl (pc0 := 53) (pc' := 60) rfl (hb hby own_d_prog_19_method_10_code_53) rfl (XT.ii_gt_t hc197) (by decide) (by decide) k) ?_
            refine OGoal.mp (S' := (T193.setTop (mkF m 61 #[.val (.ref a), .val (.int few), .val (.int most), .val (.int (4 : Int32)), .unset] [(.int (0 : Int32))]))) (fun _ k => XS.iconst X194.here hx rfl (hb hby own_d_prog_19_method_10_code_60) k) ?_
            refine OGoal.mp (S' := (T193.setTop (mkF m 63 #[.val (.ref a), .val (.int few), .val (.int most), .val (.int (4 : Int32)), .val (.int (0 : Int32))] []))) (fun _ k => XS.istore X194.here hx rfl (hb hby own_d_prog_19_method_10_code_61) rfl (l' := #[.val (.ref a), .val (.int few), .val (.int most), .val (.int (4 : Int32)), .val (.int (0 : Int32))]) rfl k) ?_
            refine OGoal.mp (S' := (T193.setTop (mkF m 65 #[.val (.ref a), .val (.int few), .val (.int most), .val (.int (4 : Int32)), .val (.int (0 : Int32))] [(.int (0 : Int32))]))) (fun _ k => XS.iload X194.here hx rfl (hb hby own_d_prog_19_method_10_code_63) rfl k) ?_
            refine OGoal.mp (S' := (T193.setTop (mkF m 73 #[.val (.ref a), .val (.int few), .val (.int most), .val (.int (4 : Int32)), .val (.int (0 : Int32))] []))) (fun _ k => XS.ifYes X194.here hx rfl (pc0 := 65) (pc' := 73) rfl (hb hby own_d_prog_19_method_10_code_65) rfl (XT.i0_eq_t (by decide)) (by decide) (by decide) k) ?_
            refine OGoal.mp (S' := (T193.setTop (mkF m 75 #[.val (.ref a), .val (.int few), .val (.int most), .val (.int (4 : Int32)), .val (.int (0 : Int32))] [(.int (0 : Int32))]))) (fun _ k => XS.iload X194.here hx rfl (hb hby own_d_prog_19_method_10_code_73) rfl k) ?_
            refine oRetZ X194 hx hlk hret (Or.inl rfl) (hb hby own_d_prog_19_method_10_code_75) ?_ (by decide) (by decide)
            have hr : own_run f (4 - (1 : Int32).toInt.toNat) (1 : Int32).toInt.toNat = 3 := by
              show own_run f 3 1 = 3
              have e0 : own_run f 3 1 = own_run f 2 2 + 1 := if_neg hc37
              have e1 : own_run f 2 2 = own_run f 1 3 + 1 := if_neg hc94
              have e2 : own_run f 1 3 = own_run f 0 4 + 1 := if_neg hc151
              rw [e0, e1, e2]
              first | done | rfl
            have hs : own_res (Int32.ofNat 3) few most = (0 : Int32) := by show own_res (3 : Int32) few most = _; unfold own_res; rw [if_neg hc192, if_pos hc197]
            refine ⟨?_, N187, ?_, ?_⟩
            · rw [hr, hs]
            · rw [e195]; exact (Keep.refl h0 [a])
            · rw [hr, e195]; unfold own_at; rw [hs]; exact Fa
          · refine OGoal.mp (S' := (T193.setTop (mkF m 56 #[.val (.ref a), .val (.int few), .val (.int most), .val (.int (4 : Int32)), .unset] []))) (fun _ k => XS.icmpNo X194.here hx rfl (hb hby own_d_prog_19_method_10_code_53) rfl (XT.ii_gt_f hc197) k) ?_
            refine OGoal.mp (S' := (T193.setTop (mkF m 57 #[.val (.ref a), .val (.int few), .val (.int most), .val (.int (4 : Int32)), .unset] [(.int (1 : Int32))]))) (fun _ k => XS.iconst X194.here hx rfl (hb hby own_d_prog_19_method_10_code_56) k) ?_
            refine OGoal.mp (S' := (T193.setTop (mkF m 61 #[.val (.ref a), .val (.int few), .val (.int most), .val (.int (4 : Int32)), .unset] [(.int (1 : Int32))]))) (fun _ k => XS.goto X194.here hx rfl (pc0 := 57) (pc' := 61) rfl (hb hby own_d_prog_19_method_10_code_57) (by decide) (by decide) k) ?_
            refine OGoal.mp (S' := (T193.setTop (mkF m 63 #[.val (.ref a), .val (.int few), .val (.int most), .val (.int (4 : Int32)), .val (.int (1 : Int32))] []))) (fun _ k => XS.istore X194.here hx rfl (hb hby own_d_prog_19_method_10_code_61) rfl (l' := #[.val (.ref a), .val (.int few), .val (.int most), .val (.int (4 : Int32)), .val (.int (1 : Int32))]) rfl k) ?_
            refine OGoal.mp (S' := (T193.setTop (mkF m 65 #[.val (.ref a), .val (.int few), .val (.int most), .val (.int (4 : Int32)), .val (.int (1 : Int32))] [(.int (1 : Int32))]))) (fun _ k => XS.iload X194.here hx rfl (hb hby own_d_prog_19_method_10_code_63) rfl k) ?_
            refine OGoal.mp (S' := (T193.setTop (mkF m 68 #[.val (.ref a), .val (.int few), .val (.int most), .val (.int (4 : Int32)), .val (.int (1 : Int32))] []))) (fun _ k => XS.ifNo X194.here hx rfl (hb hby own_d_prog_19_method_10_code_65) rfl (XT.i0_eq_f (by decide)) k) ?_
            refine OGoal.mp (S' := (T193.setTop (mkF m 69 #[.val (.ref a), .val (.int few), .val (.int most), .val (.int (4 : Int32)), .val (.int (1 : Int32))] [(.ref a)]))) (fun _ k => XS.aloadN X194.here hx rfl (hb hby own_d_prog_19_method_10_code_68) rfl rfl k) ?_
            refine OGoal.mp (S' := (T193.setTop (mkF m 70 #[.val (.ref a), .val (.int few), .val (.int most), .val (.int (4 : Int32)), .val (.int (1 : Int32))] [(.int (4 : Int32)), (.ref a)]))) (fun _ k => XS.iloadN X194.here hx rfl (hb hby own_d_prog_19_method_10_code_69) rfl k) ?_
            obtain ⟨T198, h202, X199, e200, W203, st201⟩ := putF X194 hx hZ hown (host := "") (Or.inl (hw _ (List.mem_of_getElem? (i := 46) rfl))) Via.refl e195 Fa E (Or.inl (hw _ (List.mem_of_getElem? (i := 47) rfl))) (hw _ (List.mem_of_getElem? (i := 4) rfl)) (ty := .int) (by decide) rfl rfl (g := mkF m 70 #[.val (.ref a), .val (.int few), .val (.int most), .val (.int (4 : Int32)), .val (.int (1 : Int32))] [(.int (4 : Int32)), (.ref a)]) rfl rfl (hb hby own_d_prog_19_method_10_code_70)
            have N204 := Fr.snoc X199 N187 ab
            have Z205 : n0 ≤ h202.size := Nat.le_trans Z0 (Keep.of_wr W203).1
            have K206 : Keep h0 h202 [a] := (Keep.refl h0 [a]).wr W203 (Or.inl (by simp))
            have F207 := St.wr W203
            have F208 := E.wr W203
            have F209 := hS.exa.wr W203
            have F210 := Fn.other W203 (Or.inr (slot_ne (a0 := a0) (C := "com/example/deadlock_to_diagnosis/deadlocktodiagnosis/reader/LineScanner") (t := (.object "java/lang/String")) (t' := .int) (Or.inr (hw _ (List.mem_of_getElem? (i := 40) rfl))) (Or.inl (hw _ (List.mem_of_getElem? (i := 47) rfl))) (by decide) (by decide) (by decide)))
            have F211 := Fa.same W203
            refine OGoal.mp (S' := (T198.setTop (mkF m 73 #[.val (.ref a), .val (.int few), .val (.int most), .val (.int (4 : Int32)), .val (.int (1 : Int32))] []))) (fun _ k => st201 _ k) ?_
            refine OGoal.mp (S' := (T198.setTop (mkF m 75 #[.val (.ref a), .val (.int few), .val (.int most), .val (.int (4 : Int32)), .val (.int (1 : Int32))] [(.int (1 : Int32))]))) (fun _ k => XS.iload X199.here hx rfl (hb hby own_d_prog_19_method_10_code_73) rfl k) ?_
            refine oRetZ X199 hx hlk hret (Or.inr rfl) (hb hby own_d_prog_19_method_10_code_75) ?_ (by decide) (by decide)
            have hr : own_run f (4 - (1 : Int32).toInt.toNat) (1 : Int32).toInt.toNat = 3 := by
              show own_run f 3 1 = 3
              have e0 : own_run f 3 1 = own_run f 2 2 + 1 := if_neg hc37
              have e1 : own_run f 2 2 = own_run f 1 3 + 1 := if_neg hc94
              have e2 : own_run f 1 3 = own_run f 0 4 + 1 := if_neg hc151
              rw [e0, e1, e2]
              first | done | rfl
            have hs : own_res (Int32.ofNat 3) few most = (1 : Int32) := by show own_res (3 : Int32) few most = _; unfold own_res; rw [if_neg hc192, if_neg hc197]
            refine ⟨?_, N204, ?_, ?_⟩
            · rw [hr, hs]
            · rw [e200]; exact K206
            · rw [hr, e200]; unfold own_at; rw [hs]; exact F211
theorem own_ef_rmDg2 (x0 : Addr) (x1 : Int32) (x2 : Int32) (m : MethodId) : entryFrame m #[(.ref x0), (.int x1), (.int x2)] 5 = mkF m 0 #[.val (.ref x0), .val (.int x1), .val (.int x2), .unset, .unset] [] := by first | (simp [entryFrame, mkF, argsToLocals, Value.category]; done) | rfl
set_option maxRecDepth 65536 in
set_option maxHeartbeats 40000000 in
theorem rmDg2 (l : Launch) (Z : State) (a0 : Array Value) (hw : ∀ d ∈ tables_1, d.before a0 Z = true) (a : Addr) (few most : Int32) (h0 : Heap) (n0 : Nat) (Z0 : n0 ≤ h0.size) (cs : Int32) (fm : Value) (hcs : ¬ cs = 0) (hfm : fm.isRef = true) (St : Stt Z h0 cs fm) (b : Addr) (f : Nat → Int32) (hC : Ch f) (hS : Str4 Z h0 b f) (E : Exa Z h0 a "com/example/deadlock_to_diagnosis/deadlocktodiagnosis/reader/LineScanner") (Fn : Fld Z h0 a "com/example/deadlock_to_diagnosis/deadlocktodiagnosis/reader/LineScanner" "line" "Ljava/lang/String;" (.ref b)) (Fa : Fld Z h0 a "com/example/deadlock_to_diagnosis/deadlocktodiagnosis/reader/LineScanner" "at" "I" (.int (2 : Int32))) (ab : n0 ≤ a) :
    OCon l Z (⟨"com/example/deadlock_to_diagnosis/deadlocktodiagnosis/reader/LineScanner", "digits", "(II)Z"⟩ : MethodName) prog_19_method_10_code 5 (some .boolean) ({ frames := 8, cells := 0, slots := 0, locals := 150 } : Room) #[(.ref a), (.int few), (.int most)] h0 (Q_dg Z f a (2 : Int32) few most h0 n0) := by
  refine OConK.intro (y := (⟨"com/example/deadlock_to_diagnosis/deadlocktodiagnosis/reader/LineScanner", "digits", "(II)Z"⟩ : MethodName)) (plainFor_of_name own_pn_com_example_deadlock_to_diagnosis_deadlocktodiagnosis_reader_LineScanner) (own_ef_rmDg2 a few most) ?_
  intro p e s m below meth c s₁ hx hby hml hown hnm hret hlk hZ X0 e0
  show OGoal p e below s _ _ _ (s₁.setTop (mkF m 0 #[.val (.ref a), .val (.int few), .val (.int most), .unset, .unset] []))
  refine OGoal.mp (S' := (s₁.setTop (mkF m 1 #[.val (.ref a), .val (.int few), .val (.int most), .unset, .unset] [(.ref a)]))) (fun _ k => XS.aloadN X0.here hx rfl (hb hby own_d_prog_19_method_10_code_0) rfl rfl k) ?_
  obtain ⟨T1, X2, e3, st4⟩ := getF X0 hx hZ hown (host := "") (Or.inl (hw _ (List.mem_of_getElem? (i := 46) rfl))) Via.refl e0 Fa (g := mkF m 1 #[.val (.ref a), .val (.int few), .val (.int most), .unset, .unset] [(.ref a)]) rfl rfl (hb hby own_d_prog_19_method_10_code_1)
  refine OGoal.mp (S' := (T1.setTop (mkF m 4 #[.val (.ref a), .val (.int few), .val (.int most), .unset, .unset] [(.int (2 : Int32))]))) (fun _ k => st4 _ k) ?_
  refine OGoal.mp (S' := (T1.setTop (mkF m 5 #[.val (.ref a), .val (.int few), .val (.int most), .val (.int (2 : Int32)), .unset] []))) (fun _ k => XS.istoreN X2.here hx rfl (hb hby own_d_prog_19_method_10_code_4) rfl (l' := #[.val (.ref a), .val (.int few), .val (.int most), .val (.int (2 : Int32)), .unset]) rfl k) ?_
  refine OGoal.mp (S' := (T1.setTop (mkF m 6 #[.val (.ref a), .val (.int few), .val (.int most), .val (.int (2 : Int32)), .unset] [(.int (2 : Int32))]))) (fun _ k => XS.iloadN X2.here hx rfl (hb hby own_d_prog_19_method_10_code_5) rfl k) ?_
  refine OGoal.mp (S' := (T1.setTop (mkF m 7 #[.val (.ref a), .val (.int few), .val (.int most), .val (.int (2 : Int32)), .unset] [(.ref a), (.int (2 : Int32))]))) (fun _ k => XS.aloadN X2.here hx rfl (hb hby own_d_prog_19_method_10_code_6) rfl rfl k) ?_
  obtain ⟨T5, X6, e7, st8⟩ := getF X2 hx hZ hown (host := "") (Or.inl (hw _ (List.mem_of_getElem? (i := 39) rfl))) Via.refl e3 Fn (g := mkF m 7 #[.val (.ref a), .val (.int few), .val (.int most), .val (.int (2 : Int32)), .unset] [(.ref a), (.int (2 : Int32))]) rfl rfl (hb hby own_d_prog_19_method_10_code_7)
  refine OGoal.mp (S' := (T5.setTop (mkF m 10 #[.val (.ref a), .val (.int few), .val (.int most), .val (.int (2 : Int32)), .unset] [(.ref b), (.int (2 : Int32))]))) (fun _ k => st8 _ k) ?_
  refine oCallV (y := (⟨"java/lang/String", "length", "()I"⟩ : MethodName)) (z := (⟨"java/lang/String", "length", "()I"⟩ : MethodName)) X6 hx hZ hown (hw _ (List.mem_of_getElem? (i := 53) rfl)) (hw _ (List.mem_of_getElem? (i := 54) rfl)) (hw _ (List.mem_of_getElem? (i := 56) rfl)) (hw _ (List.mem_of_getElem? (i := 55) rfl)) (hw _ (List.mem_of_getElem? (i := 8) rfl)) (hw _ (List.mem_of_getElem? (i := 57) rfl)) (by decide) (rmLn l Z a0 hw b h0 n0 Z0 cs fm hcs hfm St f hS) e7 hS.exa [] [(.int (2 : Int32))] rfl rfl (by rw [hml]; rfl) (notFace_of_selects (args := #[]) (mvT hZ (hw _ (List.mem_of_getElem? (i := 56) rfl)))) (lenOf own_pd___I rfl) 1 (Nat.le_of_eq rfl) (by decide) (by decide) (by decide) (by decide) (hb hby own_d_prog_19_method_10_code_10) ?_
  intro v9 T10 L11 X12 q13
  obtain ⟨rfl, N14, e15⟩ := q13
  have N16 := Fr.app (Fr.nil n0) N14
  show OGoal p e below s _ _ _ (T10.setTop (mkF m 13 #[.val (.ref a), .val (.int few), .val (.int most), .val (.int (2 : Int32)), .unset] [(.int (4 : Int32)), (.int (2 : Int32))]))
  refine OGoal.mp (S' := (T10.setTop (mkF m 16 #[.val (.ref a), .val (.int few), .val (.int most), .val (.int (2 : Int32)), .unset] []))) (fun _ k => XS.icmpNo X12.here hx rfl (hb hby own_d_prog_19_method_10_code_13) rfl (XT.ii_ge_f (by decide)) k) ?_
  refine OGoal.mp (S' := (T10.setTop (mkF m 17 #[.val (.ref a), .val (.int few), .val (.int most), .val (.int (2 : Int32)), .unset] [(.ref a)]))) (fun _ k => XS.aloadN X12.here hx rfl (hb hby own_d_prog_19_method_10_code_16) rfl rfl k) ?_
  obtain ⟨T17, X18, e19, st20⟩ := getF X12 hx hZ hown (host := "") (Or.inl (hw _ (List.mem_of_getElem? (i := 39) rfl))) Via.refl e15 Fn (g := mkF m 17 #[.val (.ref a), .val (.int few), .val (.int most), .val (.int (2 : Int32)), .unset] [(.ref a)]) rfl rfl (hb hby own_d_prog_19_method_10_code_17)
  refine OGoal.mp (S' := (T17.setTop (mkF m 20 #[.val (.ref a), .val (.int few), .val (.int most), .val (.int (2 : Int32)), .unset] [(.ref b)]))) (fun _ k => st20 _ k) ?_
  refine OGoal.mp (S' := (T17.setTop (mkF m 21 #[.val (.ref a), .val (.int few), .val (.int most), .val (.int (2 : Int32)), .unset] [(.int (2 : Int32)), (.ref b)]))) (fun _ k => XS.iloadN X18.here hx rfl (hb hby own_d_prog_19_method_10_code_20) rfl k) ?_
  refine oCallV (y := (⟨"java/lang/String", "charAt", "(I)C"⟩ : MethodName)) (z := (⟨"java/lang/String", "charAt", "(I)C"⟩ : MethodName)) X18 hx hZ hown (hw _ (List.mem_of_getElem? (i := 63) rfl)) (hw _ (List.mem_of_getElem? (i := 64) rfl)) (hw _ (List.mem_of_getElem? (i := 66) rfl)) (hw _ (List.mem_of_getElem? (i := 65) rfl)) (hw _ (List.mem_of_getElem? (i := 8) rfl)) (hw _ (List.mem_of_getElem? (i := 67) rfl)) (by decide) (rmCA l Z a0 hw b (2 : Int32) h0 n0 Z0 cs fm hcs hfm St f hC hS (by decide) (by decide)) e19 hS.exa [(.int (2 : Int32))] [] rfl rfl (by rw [hml]; rfl) (notFace_of_selects (args := #[]) (mvT hZ (hw _ (List.mem_of_getElem? (i := 66) rfl)))) (lenOf own_pd__I_C rfl) 0 (Nat.le_of_eq rfl) (by decide) (by decide) (by decide) (by decide) (hb hby own_d_prog_19_method_10_code_21) ?_
  intro v21 T22 L23 X24 q25
  obtain ⟨rfl, N26, e27⟩ := q25
  have N28 := Fr.app N16 N26
  show OGoal p e below s _ _ _ (T22.setTop (mkF m 24 #[.val (.ref a), .val (.int few), .val (.int most), .val (.int (2 : Int32)), .unset] [(.int (f (2 : Int32).toInt.toNat))]))
  refine oCallS (y := (⟨"com/example/deadlock_to_diagnosis/deadlocktodiagnosis/reader/LineScanner", "isDigit", "(C)Z"⟩ : MethodName)) X24 hx hZ hown (hw _ (List.mem_of_getElem? (i := 85) rfl)) (hw _ (List.mem_of_getElem? (i := 86) rfl)) (hw _ (List.mem_of_getElem? (i := 5) rfl)) (hw _ (List.mem_of_getElem? (i := 87) rfl)) (by decide) (rmDi l Z a0 hw (f (2 : Int32).toInt.toNat) h0 n0 Z0) e27 [(.int (f (2 : Int32).toInt.toNat))] [] rfl rfl (by rw [hml]; rfl) (lenOf own_pd__C_Z rfl) 0 (Nat.le_of_eq rfl) (by decide) (by decide) (by decide) (by decide) (hb hby own_d_prog_19_method_10_code_24) ?_
  intro v29 T30 L31 X32 q33
  obtain ⟨rfl, N34, e35⟩ := q33
  have N36 := Fr.app N28 N34
  show OGoal p e below s _ _ _ (T30.setTop (mkF m 27 #[.val (.ref a), .val (.int few), .val (.int most), .val (.int (2 : Int32)), .unset] [(.int (own_dg (f (2 : Int32).toInt.toNat)))]))
  by_cases hc37 : (own_dg (f (2 : Int32).toInt.toNat)) = 0
  · refine OGoal.mp (S' := (T30.setTop (mkF m 36 #[.val (.ref a), .val (.int few), .val (.int most), .val (.int (2 : Int32)), .unset] []))) (fun _ k => XS.ifYes X32.here hx rfl (pc0 := 27) (pc' := 36) rfl (hb hby own_d_prog_19_method_10_code_27) rfl (XT.i0_eq_t hc37) (by decide) (by decide) k) ?_
    refine OGoal.mp (S' := (T30.setTop (mkF m 37 #[.val (.ref a), .val (.int few), .val (.int most), .val (.int (2 : Int32)), .unset] [(.int (2 : Int32))]))) (fun _ k => XS.iloadN X32.here hx rfl (hb hby own_d_prog_19_method_10_code_36) rfl k) ?_
    refine OGoal.mp (S' := (T30.setTop (mkF m 38 #[.val (.ref a), .val (.int few), .val (.int most), .val (.int (2 : Int32)), .unset] [(.ref a), (.int (2 : Int32))]))) (fun _ k => XS.aloadN X32.here hx rfl (hb hby own_d_prog_19_method_10_code_37) rfl rfl k) ?_
    obtain ⟨T38, X39, e40, st41⟩ := getF X32 hx hZ hown (host := "") (Or.inl (hw _ (List.mem_of_getElem? (i := 46) rfl))) Via.refl e35 Fa (g := mkF m 38 #[.val (.ref a), .val (.int few), .val (.int most), .val (.int (2 : Int32)), .unset] [(.ref a), (.int (2 : Int32))]) rfl rfl (hb hby own_d_prog_19_method_10_code_38)
    refine OGoal.mp (S' := (T38.setTop (mkF m 41 #[.val (.ref a), .val (.int few), .val (.int most), .val (.int (2 : Int32)), .unset] [(.int (2 : Int32)), (.int (2 : Int32))]))) (fun _ k => st41 _ k) ?_
    refine OGoal.mp (S' := (T38.setTop (mkF m 42 #[.val (.ref a), .val (.int few), .val (.int most), .val (.int (2 : Int32)), .unset] [(.int ((2 : Int32) - (2 : Int32)))]))) (fun _ k => XS.isub X39.here hx rfl (hb hby own_d_prog_19_method_10_code_41) rfl k) ?_
    rw [show ((2 : Int32) - (2 : Int32)) = (0 : Int32) by decide]
    show OGoal p e below s _ _ _ (T38.setTop (mkF m 42 #[.val (.ref a), .val (.int few), .val (.int most), .val (.int (2 : Int32)), .unset] [(.int (0 : Int32))]))
    refine OGoal.mp (S' := (T38.setTop (mkF m 43 #[.val (.ref a), .val (.int few), .val (.int most), .val (.int (2 : Int32)), .unset] [(.int few), (.int (0 : Int32))]))) (fun _ k => XS.iloadN X39.here hx rfl (hb hby own_d_prog_19_method_10_code_42) rfl k) ?_
    by_cases hc42 : (0 : Int32) < few
    · refine OGoal.mp (S' := (T38.setTop (mkF m 60 #[.val (.ref a), .val (.int few), .val (.int most), .val (.int (2 : Int32)), .unset] []))) (fun _ k => XS.icmpYes X39.here hx rfl (pc0 := 43) (pc' := 60) rfl (hb hby own_d_prog_19_method_10_code_43) rfl (XT.ii_lt_t hc42) (by decide) (by decide) k) ?_
      refine OGoal.mp (S' := (T38.setTop (mkF m 61 #[.val (.ref a), .val (.int few), .val (.int most), .val (.int (2 : Int32)), .unset] [(.int (0 : Int32))]))) (fun _ k => XS.iconst X39.here hx rfl (hb hby own_d_prog_19_method_10_code_60) k) ?_
      refine OGoal.mp (S' := (T38.setTop (mkF m 63 #[.val (.ref a), .val (.int few), .val (.int most), .val (.int (2 : Int32)), .val (.int (0 : Int32))] []))) (fun _ k => XS.istore X39.here hx rfl (hb hby own_d_prog_19_method_10_code_61) rfl (l' := #[.val (.ref a), .val (.int few), .val (.int most), .val (.int (2 : Int32)), .val (.int (0 : Int32))]) rfl k) ?_
      refine OGoal.mp (S' := (T38.setTop (mkF m 65 #[.val (.ref a), .val (.int few), .val (.int most), .val (.int (2 : Int32)), .val (.int (0 : Int32))] [(.int (0 : Int32))]))) (fun _ k => XS.iload X39.here hx rfl (hb hby own_d_prog_19_method_10_code_63) rfl k) ?_
      refine OGoal.mp (S' := (T38.setTop (mkF m 73 #[.val (.ref a), .val (.int few), .val (.int most), .val (.int (2 : Int32)), .val (.int (0 : Int32))] []))) (fun _ k => XS.ifYes X39.here hx rfl (pc0 := 65) (pc' := 73) rfl (hb hby own_d_prog_19_method_10_code_65) rfl (XT.i0_eq_t (by decide)) (by decide) (by decide) k) ?_
      refine OGoal.mp (S' := (T38.setTop (mkF m 75 #[.val (.ref a), .val (.int few), .val (.int most), .val (.int (2 : Int32)), .val (.int (0 : Int32))] [(.int (0 : Int32))]))) (fun _ k => XS.iload X39.here hx rfl (hb hby own_d_prog_19_method_10_code_73) rfl k) ?_
      refine oRetZ X39 hx hlk hret (Or.inl rfl) (hb hby own_d_prog_19_method_10_code_75) ?_ (by decide) (by decide)
      have hr : own_run f (4 - (2 : Int32).toInt.toNat) (2 : Int32).toInt.toNat = 0 := by
        show own_run f 2 2 = 0
        have e0 : own_run f 2 2 = 0 := if_pos hc37
        rw [e0]
      have hs : own_res (Int32.ofNat 0) few most = (0 : Int32) := by show own_res (0 : Int32) few most = _; unfold own_res; rw [if_pos hc42]
      refine ⟨?_, N36, ?_, ?_⟩
      · rw [hr, hs]
      · rw [e40]; exact (Keep.refl h0 [a])
      · rw [hr, e40]; unfold own_at; rw [hs]; exact Fa
    · refine OGoal.mp (S' := (T38.setTop (mkF m 46 #[.val (.ref a), .val (.int few), .val (.int most), .val (.int (2 : Int32)), .unset] []))) (fun _ k => XS.icmpNo X39.here hx rfl (hb hby own_d_prog_19_method_10_code_43) rfl (XT.ii_lt_f hc42) k) ?_
      refine OGoal.mp (S' := (T38.setTop (mkF m 47 #[.val (.ref a), .val (.int few), .val (.int most), .val (.int (2 : Int32)), .unset] [(.int (2 : Int32))]))) (fun _ k => XS.iloadN X39.here hx rfl (hb hby own_d_prog_19_method_10_code_46) rfl k) ?_
      refine OGoal.mp (S' := (T38.setTop (mkF m 48 #[.val (.ref a), .val (.int few), .val (.int most), .val (.int (2 : Int32)), .unset] [(.ref a), (.int (2 : Int32))]))) (fun _ k => XS.aloadN X39.here hx rfl (hb hby own_d_prog_19_method_10_code_47) rfl rfl k) ?_
      obtain ⟨T43, X44, e45, st46⟩ := getF X39 hx hZ hown (host := "") (Or.inl (hw _ (List.mem_of_getElem? (i := 46) rfl))) Via.refl e40 Fa (g := mkF m 48 #[.val (.ref a), .val (.int few), .val (.int most), .val (.int (2 : Int32)), .unset] [(.ref a), (.int (2 : Int32))]) rfl rfl (hb hby own_d_prog_19_method_10_code_48)
      refine OGoal.mp (S' := (T43.setTop (mkF m 51 #[.val (.ref a), .val (.int few), .val (.int most), .val (.int (2 : Int32)), .unset] [(.int (2 : Int32)), (.int (2 : Int32))]))) (fun _ k => st46 _ k) ?_
      refine OGoal.mp (S' := (T43.setTop (mkF m 52 #[.val (.ref a), .val (.int few), .val (.int most), .val (.int (2 : Int32)), .unset] [(.int ((2 : Int32) - (2 : Int32)))]))) (fun _ k => XS.isub X44.here hx rfl (hb hby own_d_prog_19_method_10_code_51) rfl k) ?_
      rw [show ((2 : Int32) - (2 : Int32)) = (0 : Int32) by decide]
      show OGoal p e below s _ _ _ (T43.setTop (mkF m 52 #[.val (.ref a), .val (.int few), .val (.int most), .val (.int (2 : Int32)), .unset] [(.int (0 : Int32))]))
      refine OGoal.mp (S' := (T43.setTop (mkF m 53 #[.val (.ref a), .val (.int few), .val (.int most), .val (.int (2 : Int32)), .unset] [(.int most), (.int (0 : Int32))]))) (fun _ k => XS.iloadN X44.here hx rfl (hb hby own_d_prog_19_method_10_code_52) rfl k) ?_
      by_cases hc47 : most < (0 : Int32)
      · refine OGoal.mp (S' := (T43.setTop (mkF m 60 #[.val (.ref a), .val (.int few), .val (.int most), .val (.int (2 : Int32)), .unset] []))) (fun _ k => XS.icmpYes X44.here hx rfl (pc0 := 53) (pc' := 60) rfl (hb hby own_d_prog_19_method_10_code_53) rfl (XT.ii_gt_t hc47) (by decide) (by decide) k) ?_
        refine OGoal.mp (S' := (T43.setTop (mkF m 61 #[.val (.ref a), .val (.int few), .val (.int most), .val (.int (2 : Int32)), .unset] [(.int (0 : Int32))]))) (fun _ k => XS.iconst X44.here hx rfl (hb hby own_d_prog_19_method_10_code_60) k) ?_
        refine OGoal.mp (S' := (T43.setTop (mkF m 63 #[.val (.ref a), .val (.int few), .val (.int most), .val (.int (2 : Int32)), .val (.int (0 : Int32))] []))) (fun _ k => XS.istore X44.here hx rfl (hb hby own_d_prog_19_method_10_code_61) rfl (l' := #[.val (.ref a), .val (.int few), .val (.int most), .val (.int (2 : Int32)), .val (.int (0 : Int32))]) rfl k) ?_
        refine OGoal.mp (S' := (T43.setTop (mkF m 65 #[.val (.ref a), .val (.int few), .val (.int most), .val (.int (2 : Int32)), .val (.int (0 : Int32))] [(.int (0 : Int32))]))) (fun _ k => XS.iload X44.here hx rfl (hb hby own_d_prog_19_method_10_code_63) rfl k) ?_
        refine OGoal.mp (S' := (T43.setTop (mkF m 73 #[.val (.ref a), .val (.int few), .val (.int most), .val (.int (2 : Int32)), .val (.int (0 : Int32))] []))) (fun _ k => XS.ifYes X44.here hx rfl (pc0 := 65) (pc' := 73) rfl (hb hby own_d_prog_19_method_10_code_65) rfl (XT.i0_eq_t (by decide)) (by decide) (by decide) k) ?_
        refine OGoal.mp (S' := (T43.setTop (mkF m 75 #[.val (.ref a), .val (.int few), .val (.int most), .val (.int (2 : Int32)), .val (.int (0 : Int32))] [(.int (0 : Int32))]))) (fun _ k => XS.iload X44.here hx rfl (hb hby own_d_prog_19_method_10_code_73) rfl k) ?_
        refine oRetZ X44 hx hlk hret (Or.inl rfl) (hb hby own_d_prog_19_method_10_code_75) ?_ (by decide) (by decide)
        have hr : own_run f (4 - (2 : Int32).toInt.toNat) (2 : Int32).toInt.toNat = 0 := by
          show own_run f 2 2 = 0
          have e0 : own_run f 2 2 = 0 := if_pos hc37
          rw [e0]
        have hs : own_res (Int32.ofNat 0) few most = (0 : Int32) := by show own_res (0 : Int32) few most = _; unfold own_res; rw [if_neg hc42, if_pos hc47]
        refine ⟨?_, N36, ?_, ?_⟩
        · rw [hr, hs]
        · rw [e45]; exact (Keep.refl h0 [a])
        · rw [hr, e45]; unfold own_at; rw [hs]; exact Fa
      · refine OGoal.mp (S' := (T43.setTop (mkF m 56 #[.val (.ref a), .val (.int few), .val (.int most), .val (.int (2 : Int32)), .unset] []))) (fun _ k => XS.icmpNo X44.here hx rfl (hb hby own_d_prog_19_method_10_code_53) rfl (XT.ii_gt_f hc47) k) ?_
        refine OGoal.mp (S' := (T43.setTop (mkF m 57 #[.val (.ref a), .val (.int few), .val (.int most), .val (.int (2 : Int32)), .unset] [(.int (1 : Int32))]))) (fun _ k => XS.iconst X44.here hx rfl (hb hby own_d_prog_19_method_10_code_56) k) ?_
        refine OGoal.mp (S' := (T43.setTop (mkF m 61 #[.val (.ref a), .val (.int few), .val (.int most), .val (.int (2 : Int32)), .unset] [(.int (1 : Int32))]))) (fun _ k => XS.goto X44.here hx rfl (pc0 := 57) (pc' := 61) rfl (hb hby own_d_prog_19_method_10_code_57) (by decide) (by decide) k) ?_
        refine OGoal.mp (S' := (T43.setTop (mkF m 63 #[.val (.ref a), .val (.int few), .val (.int most), .val (.int (2 : Int32)), .val (.int (1 : Int32))] []))) (fun _ k => XS.istore X44.here hx rfl (hb hby own_d_prog_19_method_10_code_61) rfl (l' := #[.val (.ref a), .val (.int few), .val (.int most), .val (.int (2 : Int32)), .val (.int (1 : Int32))]) rfl k) ?_
        refine OGoal.mp (S' := (T43.setTop (mkF m 65 #[.val (.ref a), .val (.int few), .val (.int most), .val (.int (2 : Int32)), .val (.int (1 : Int32))] [(.int (1 : Int32))]))) (fun _ k => XS.iload X44.here hx rfl (hb hby own_d_prog_19_method_10_code_63) rfl k) ?_
        refine OGoal.mp (S' := (T43.setTop (mkF m 68 #[.val (.ref a), .val (.int few), .val (.int most), .val (.int (2 : Int32)), .val (.int (1 : Int32))] []))) (fun _ k => XS.ifNo X44.here hx rfl (hb hby own_d_prog_19_method_10_code_65) rfl (XT.i0_eq_f (by decide)) k) ?_
        refine OGoal.mp (S' := (T43.setTop (mkF m 69 #[.val (.ref a), .val (.int few), .val (.int most), .val (.int (2 : Int32)), .val (.int (1 : Int32))] [(.ref a)]))) (fun _ k => XS.aloadN X44.here hx rfl (hb hby own_d_prog_19_method_10_code_68) rfl rfl k) ?_
        refine OGoal.mp (S' := (T43.setTop (mkF m 70 #[.val (.ref a), .val (.int few), .val (.int most), .val (.int (2 : Int32)), .val (.int (1 : Int32))] [(.int (2 : Int32)), (.ref a)]))) (fun _ k => XS.iloadN X44.here hx rfl (hb hby own_d_prog_19_method_10_code_69) rfl k) ?_
        obtain ⟨T48, h52, X49, e50, W53, st51⟩ := putF X44 hx hZ hown (host := "") (Or.inl (hw _ (List.mem_of_getElem? (i := 46) rfl))) Via.refl e45 Fa E (Or.inl (hw _ (List.mem_of_getElem? (i := 47) rfl))) (hw _ (List.mem_of_getElem? (i := 4) rfl)) (ty := .int) (by decide) rfl rfl (g := mkF m 70 #[.val (.ref a), .val (.int few), .val (.int most), .val (.int (2 : Int32)), .val (.int (1 : Int32))] [(.int (2 : Int32)), (.ref a)]) rfl rfl (hb hby own_d_prog_19_method_10_code_70)
        have N54 := Fr.snoc X49 N36 ab
        have Z55 : n0 ≤ h52.size := Nat.le_trans Z0 (Keep.of_wr W53).1
        have K56 : Keep h0 h52 [a] := (Keep.refl h0 [a]).wr W53 (Or.inl (by simp))
        have F57 := St.wr W53
        have F58 := E.wr W53
        have F59 := hS.exa.wr W53
        have F60 := Fn.other W53 (Or.inr (slot_ne (a0 := a0) (C := "com/example/deadlock_to_diagnosis/deadlocktodiagnosis/reader/LineScanner") (t := (.object "java/lang/String")) (t' := .int) (Or.inr (hw _ (List.mem_of_getElem? (i := 40) rfl))) (Or.inl (hw _ (List.mem_of_getElem? (i := 47) rfl))) (by decide) (by decide) (by decide)))
        have F61 := Fa.same W53
        refine OGoal.mp (S' := (T48.setTop (mkF m 73 #[.val (.ref a), .val (.int few), .val (.int most), .val (.int (2 : Int32)), .val (.int (1 : Int32))] []))) (fun _ k => st51 _ k) ?_
        refine OGoal.mp (S' := (T48.setTop (mkF m 75 #[.val (.ref a), .val (.int few), .val (.int most), .val (.int (2 : Int32)), .val (.int (1 : Int32))] [(.int (1 : Int32))]))) (fun _ k => XS.iload X49.here hx rfl (hb hby own_d_prog_19_method_10_code_73) rfl k) ?_
        refine oRetZ X49 hx hlk hret (Or.inr rfl) (hb hby own_d_prog_19_method_10_code_75) ?_ (by decide) (by decide)
        have hr : own_run f (4 - (2 : Int32).toInt.toNat) (2 : Int32).toInt.toNat = 0 := by
          show own_run f 2 2 = 0
          have e0 : own_run f 2 2 = 0 := if_pos hc37
          rw [e0]
        have hs : own_res (Int32.ofNat 0) few most = (1 : Int32) := by show own_res (0 : Int32) few most = _; unfold own_res; rw [if_neg hc42, if_neg hc47]
        refine ⟨?_, N54, ?_, ?_⟩
        · rw [hr, hs]
        · rw [e50]; exact K56
        · rw [hr, e50]; unfold own_at; rw [hs]; exact F61
  · refine OGoal.mp (S' := (T30.setTop (mkF m 30 #[.val (.ref a), .val (.int few), .val (.int most), .val (.int (2 : Int32)), .unset] []))) (fun _ k => XS.ifNo X32.here hx rfl (hb hby own_d_prog_19_method_10_code_27) rfl (XT.i0_eq_f hc37) k) ?_
    refine OGoal.mp (S' := (T30.setTop (mkF m 33 #[.val (.ref a), .val (.int few), .val (.int most), .val (.int ((2 : Int32) + (1 : Int32))), .unset] []))) (fun _ k => XT.iincV X32.here hx rfl (1 : Int32) (hb hby own_d_prog_19_method_10_code_30) rfl rfl (l' := #[.val (.ref a), .val (.int few), .val (.int most), .val (.int ((2 : Int32) + (1 : Int32))), .unset]) rfl k) ?_
    rw [show ((2 : Int32) + (1 : Int32)) = (3 : Int32) by decide]
    show OGoal p e below s _ _ _ (T30.setTop (mkF m 33 #[.val (.ref a), .val (.int few), .val (.int most), .val (.int (3 : Int32)), .unset] []))
    refine OGoal.mp (S' := (T30.setTop (mkF m 5 #[.val (.ref a), .val (.int few), .val (.int most), .val (.int (3 : Int32)), .unset] []))) (fun _ k => XS.goto X32.here hx rfl (pc0 := 33) (pc' := 5) rfl (hb hby own_d_prog_19_method_10_code_33) (by decide) (by decide) k) ?_
    refine OGoal.mp (S' := (T30.setTop (mkF m 6 #[.val (.ref a), .val (.int few), .val (.int most), .val (.int (3 : Int32)), .unset] [(.int (3 : Int32))]))) (fun _ k => XS.iloadN X32.here hx rfl (hb hby own_d_prog_19_method_10_code_5) rfl k) ?_
    refine OGoal.mp (S' := (T30.setTop (mkF m 7 #[.val (.ref a), .val (.int few), .val (.int most), .val (.int (3 : Int32)), .unset] [(.ref a), (.int (3 : Int32))]))) (fun _ k => XS.aloadN X32.here hx rfl (hb hby own_d_prog_19_method_10_code_6) rfl rfl k) ?_
    obtain ⟨T62, X63, e64, st65⟩ := getF X32 hx hZ hown (host := "") (Or.inl (hw _ (List.mem_of_getElem? (i := 39) rfl))) Via.refl e35 Fn (g := mkF m 7 #[.val (.ref a), .val (.int few), .val (.int most), .val (.int (3 : Int32)), .unset] [(.ref a), (.int (3 : Int32))]) rfl rfl (hb hby own_d_prog_19_method_10_code_7)
    refine OGoal.mp (S' := (T62.setTop (mkF m 10 #[.val (.ref a), .val (.int few), .val (.int most), .val (.int (3 : Int32)), .unset] [(.ref b), (.int (3 : Int32))]))) (fun _ k => st65 _ k) ?_
    refine oCallV (y := (⟨"java/lang/String", "length", "()I"⟩ : MethodName)) (z := (⟨"java/lang/String", "length", "()I"⟩ : MethodName)) X63 hx hZ hown (hw _ (List.mem_of_getElem? (i := 53) rfl)) (hw _ (List.mem_of_getElem? (i := 54) rfl)) (hw _ (List.mem_of_getElem? (i := 56) rfl)) (hw _ (List.mem_of_getElem? (i := 55) rfl)) (hw _ (List.mem_of_getElem? (i := 8) rfl)) (hw _ (List.mem_of_getElem? (i := 57) rfl)) (by decide) (rmLn l Z a0 hw b h0 n0 Z0 cs fm hcs hfm St f hS) e64 hS.exa [] [(.int (3 : Int32))] rfl rfl (by rw [hml]; rfl) (notFace_of_selects (args := #[]) (mvT hZ (hw _ (List.mem_of_getElem? (i := 56) rfl)))) (lenOf own_pd___I rfl) 1 (Nat.le_of_eq rfl) (by decide) (by decide) (by decide) (by decide) (hb hby own_d_prog_19_method_10_code_10) ?_
    intro v66 T67 L68 X69 q70
    obtain ⟨rfl, N71, e72⟩ := q70
    have N73 := Fr.app N36 N71
    show OGoal p e below s _ _ _ (T67.setTop (mkF m 13 #[.val (.ref a), .val (.int few), .val (.int most), .val (.int (3 : Int32)), .unset] [(.int (4 : Int32)), (.int (3 : Int32))]))
    refine OGoal.mp (S' := (T67.setTop (mkF m 16 #[.val (.ref a), .val (.int few), .val (.int most), .val (.int (3 : Int32)), .unset] []))) (fun _ k => XS.icmpNo X69.here hx rfl (hb hby own_d_prog_19_method_10_code_13) rfl (XT.ii_ge_f (by decide)) k) ?_
    refine OGoal.mp (S' := (T67.setTop (mkF m 17 #[.val (.ref a), .val (.int few), .val (.int most), .val (.int (3 : Int32)), .unset] [(.ref a)]))) (fun _ k => XS.aloadN X69.here hx rfl (hb hby own_d_prog_19_method_10_code_16) rfl rfl k) ?_
    obtain ⟨T74, X75, e76, st77⟩ := getF X69 hx hZ hown (host := "") (Or.inl (hw _ (List.mem_of_getElem? (i := 39) rfl))) Via.refl e72 Fn (g := mkF m 17 #[.val (.ref a), .val (.int few), .val (.int most), .val (.int (3 : Int32)), .unset] [(.ref a)]) rfl rfl (hb hby own_d_prog_19_method_10_code_17)
    refine OGoal.mp (S' := (T74.setTop (mkF m 20 #[.val (.ref a), .val (.int few), .val (.int most), .val (.int (3 : Int32)), .unset] [(.ref b)]))) (fun _ k => st77 _ k) ?_
    refine OGoal.mp (S' := (T74.setTop (mkF m 21 #[.val (.ref a), .val (.int few), .val (.int most), .val (.int (3 : Int32)), .unset] [(.int (3 : Int32)), (.ref b)]))) (fun _ k => XS.iloadN X75.here hx rfl (hb hby own_d_prog_19_method_10_code_20) rfl k) ?_
    refine oCallV (y := (⟨"java/lang/String", "charAt", "(I)C"⟩ : MethodName)) (z := (⟨"java/lang/String", "charAt", "(I)C"⟩ : MethodName)) X75 hx hZ hown (hw _ (List.mem_of_getElem? (i := 63) rfl)) (hw _ (List.mem_of_getElem? (i := 64) rfl)) (hw _ (List.mem_of_getElem? (i := 66) rfl)) (hw _ (List.mem_of_getElem? (i := 65) rfl)) (hw _ (List.mem_of_getElem? (i := 8) rfl)) (hw _ (List.mem_of_getElem? (i := 67) rfl)) (by decide) (rmCA l Z a0 hw b (3 : Int32) h0 n0 Z0 cs fm hcs hfm St f hC hS (by decide) (by decide)) e76 hS.exa [(.int (3 : Int32))] [] rfl rfl (by rw [hml]; rfl) (notFace_of_selects (args := #[]) (mvT hZ (hw _ (List.mem_of_getElem? (i := 66) rfl)))) (lenOf own_pd__I_C rfl) 0 (Nat.le_of_eq rfl) (by decide) (by decide) (by decide) (by decide) (hb hby own_d_prog_19_method_10_code_21) ?_
    intro v78 T79 L80 X81 q82
    obtain ⟨rfl, N83, e84⟩ := q82
    have N85 := Fr.app N73 N83
    show OGoal p e below s _ _ _ (T79.setTop (mkF m 24 #[.val (.ref a), .val (.int few), .val (.int most), .val (.int (3 : Int32)), .unset] [(.int (f (3 : Int32).toInt.toNat))]))
    refine oCallS (y := (⟨"com/example/deadlock_to_diagnosis/deadlocktodiagnosis/reader/LineScanner", "isDigit", "(C)Z"⟩ : MethodName)) X81 hx hZ hown (hw _ (List.mem_of_getElem? (i := 85) rfl)) (hw _ (List.mem_of_getElem? (i := 86) rfl)) (hw _ (List.mem_of_getElem? (i := 5) rfl)) (hw _ (List.mem_of_getElem? (i := 87) rfl)) (by decide) (rmDi l Z a0 hw (f (3 : Int32).toInt.toNat) h0 n0 Z0) e84 [(.int (f (3 : Int32).toInt.toNat))] [] rfl rfl (by rw [hml]; rfl) (lenOf own_pd__C_Z rfl) 0 (Nat.le_of_eq rfl) (by decide) (by decide) (by decide) (by decide) (hb hby own_d_prog_19_method_10_code_24) ?_
    intro v86 T87 L88 X89 q90
    obtain ⟨rfl, N91, e92⟩ := q90
    have N93 := Fr.app N85 N91
    show OGoal p e below s _ _ _ (T87.setTop (mkF m 27 #[.val (.ref a), .val (.int few), .val (.int most), .val (.int (3 : Int32)), .unset] [(.int (own_dg (f (3 : Int32).toInt.toNat)))]))
    by_cases hc94 : (own_dg (f (3 : Int32).toInt.toNat)) = 0
    · refine OGoal.mp (S' := (T87.setTop (mkF m 36 #[.val (.ref a), .val (.int few), .val (.int most), .val (.int (3 : Int32)), .unset] []))) (fun _ k => XS.ifYes X89.here hx rfl (pc0 := 27) (pc' := 36) rfl (hb hby own_d_prog_19_method_10_code_27) rfl (XT.i0_eq_t hc94) (by decide) (by decide) k) ?_
      refine OGoal.mp (S' := (T87.setTop (mkF m 37 #[.val (.ref a), .val (.int few), .val (.int most), .val (.int (3 : Int32)), .unset] [(.int (3 : Int32))]))) (fun _ k => XS.iloadN X89.here hx rfl (hb hby own_d_prog_19_method_10_code_36) rfl k) ?_
      refine OGoal.mp (S' := (T87.setTop (mkF m 38 #[.val (.ref a), .val (.int few), .val (.int most), .val (.int (3 : Int32)), .unset] [(.ref a), (.int (3 : Int32))]))) (fun _ k => XS.aloadN X89.here hx rfl (hb hby own_d_prog_19_method_10_code_37) rfl rfl k) ?_
      obtain ⟨T95, X96, e97, st98⟩ := getF X89 hx hZ hown (host := "") (Or.inl (hw _ (List.mem_of_getElem? (i := 46) rfl))) Via.refl e92 Fa (g := mkF m 38 #[.val (.ref a), .val (.int few), .val (.int most), .val (.int (3 : Int32)), .unset] [(.ref a), (.int (3 : Int32))]) rfl rfl (hb hby own_d_prog_19_method_10_code_38)
      refine OGoal.mp (S' := (T95.setTop (mkF m 41 #[.val (.ref a), .val (.int few), .val (.int most), .val (.int (3 : Int32)), .unset] [(.int (2 : Int32)), (.int (3 : Int32))]))) (fun _ k => st98 _ k) ?_
      refine OGoal.mp (S' := (T95.setTop (mkF m 42 #[.val (.ref a), .val (.int few), .val (.int most), .val (.int (3 : Int32)), .unset] [(.int ((3 : Int32) - (2 : Int32)))]))) (fun _ k => XS.isub X96.here hx rfl (hb hby own_d_prog_19_method_10_code_41) rfl k) ?_
      rw [show ((3 : Int32) - (2 : Int32)) = (1 : Int32) by decide]
      show OGoal p e below s _ _ _ (T95.setTop (mkF m 42 #[.val (.ref a), .val (.int few), .val (.int most), .val (.int (3 : Int32)), .unset] [(.int (1 : Int32))]))
      refine OGoal.mp (S' := (T95.setTop (mkF m 43 #[.val (.ref a), .val (.int few), .val (.int most), .val (.int (3 : Int32)), .unset] [(.int few), (.int (1 : Int32))]))) (fun _ k => XS.iloadN X96.here hx rfl (hb hby own_d_prog_19_method_10_code_42) rfl k) ?_
      by_cases hc99 : (1 : Int32) < few
      · refine OGoal.mp (S' := (T95.setTop (mkF m 60 #[.val (.ref a), .val (.int few), .val (.int most), .val (.int (3 : Int32)), .unset] []))) (fun _ k => XS.icmpYes X96.here hx rfl (pc0 := 43) (pc' := 60) rfl (hb hby own_d_prog_19_method_10_code_43) rfl (XT.ii_lt_t hc99) (by decide) (by decide) k) ?_
        refine OGoal.mp (S' := (T95.setTop (mkF m 61 #[.val (.ref a), .val (.int few), .val (.int most), .val (.int (3 : Int32)), .unset] [(.int (0 : Int32))]))) (fun _ k => XS.iconst X96.here hx rfl (hb hby own_d_prog_19_method_10_code_60) k) ?_
        refine OGoal.mp (S' := (T95.setTop (mkF m 63 #[.val (.ref a), .val (.int few), .val (.int most), .val (.int (3 : Int32)), .val (.int (0 : Int32))] []))) (fun _ k => XS.istore X96.here hx rfl (hb hby own_d_prog_19_method_10_code_61) rfl (l' := #[.val (.ref a), .val (.int few), .val (.int most), .val (.int (3 : Int32)), .val (.int (0 : Int32))]) rfl k) ?_
        refine OGoal.mp (S' := (T95.setTop (mkF m 65 #[.val (.ref a), .val (.int few), .val (.int most), .val (.int (3 : Int32)), .val (.int (0 : Int32))] [(.int (0 : Int32))]))) (fun _ k => XS.iload X96.here hx rfl (hb hby own_d_prog_19_method_10_code_63) rfl k) ?_
        refine OGoal.mp (S' := (T95.setTop (mkF m 73 #[.val (.ref a), .val (.int few), .val (.int most), .val (.int (3 : Int32)), .val (.int (0 : Int32))] []))) (fun _ k => XS.ifYes X96.here hx rfl (pc0 := 65) (pc' := 73) rfl (hb hby own_d_prog_19_method_10_code_65) rfl (XT.i0_eq_t (by decide)) (by decide) (by decide) k) ?_
        refine OGoal.mp (S' := (T95.setTop (mkF m 75 #[.val (.ref a), .val (.int few), .val (.int most), .val (.int (3 : Int32)), .val (.int (0 : Int32))] [(.int (0 : Int32))]))) (fun _ k => XS.iload X96.here hx rfl (hb hby own_d_prog_19_method_10_code_73) rfl k) ?_
        refine oRetZ X96 hx hlk hret (Or.inl rfl) (hb hby own_d_prog_19_method_10_code_75) ?_ (by decide) (by decide)
        have hr : own_run f (4 - (2 : Int32).toInt.toNat) (2 : Int32).toInt.toNat = 1 := by
          show own_run f 2 2 = 1
          have e0 : own_run f 2 2 = own_run f 1 3 + 1 := if_neg hc37
          have e1 : own_run f 1 3 = 0 := if_pos hc94
          rw [e0, e1]
        have hs : own_res (Int32.ofNat 1) few most = (0 : Int32) := by show own_res (1 : Int32) few most = _; unfold own_res; rw [if_pos hc99]
        refine ⟨?_, N93, ?_, ?_⟩
        · rw [hr, hs]
        · rw [e97]; exact (Keep.refl h0 [a])
        · rw [hr, e97]; unfold own_at; rw [hs]; exact Fa
      · refine OGoal.mp (S' := (T95.setTop (mkF m 46 #[.val (.ref a), .val (.int few), .val (.int most), .val (.int (3 : Int32)), .unset] []))) (fun _ k => XS.icmpNo X96.here hx rfl (hb hby own_d_prog_19_method_10_code_43) rfl (XT.ii_lt_f hc99) k) ?_
        refine OGoal.mp (S' := (T95.setTop (mkF m 47 #[.val (.ref a), .val (.int few), .val (.int most), .val (.int (3 : Int32)), .unset] [(.int (3 : Int32))]))) (fun _ k => XS.iloadN X96.here hx rfl (hb hby own_d_prog_19_method_10_code_46) rfl k) ?_
        refine OGoal.mp (S' := (T95.setTop (mkF m 48 #[.val (.ref a), .val (.int few), .val (.int most), .val (.int (3 : Int32)), .unset] [(.ref a), (.int (3 : Int32))]))) (fun _ k => XS.aloadN X96.here hx rfl (hb hby own_d_prog_19_method_10_code_47) rfl rfl k) ?_
        obtain ⟨T100, X101, e102, st103⟩ := getF X96 hx hZ hown (host := "") (Or.inl (hw _ (List.mem_of_getElem? (i := 46) rfl))) Via.refl e97 Fa (g := mkF m 48 #[.val (.ref a), .val (.int few), .val (.int most), .val (.int (3 : Int32)), .unset] [(.ref a), (.int (3 : Int32))]) rfl rfl (hb hby own_d_prog_19_method_10_code_48)
        refine OGoal.mp (S' := (T100.setTop (mkF m 51 #[.val (.ref a), .val (.int few), .val (.int most), .val (.int (3 : Int32)), .unset] [(.int (2 : Int32)), (.int (3 : Int32))]))) (fun _ k => st103 _ k) ?_
        refine OGoal.mp (S' := (T100.setTop (mkF m 52 #[.val (.ref a), .val (.int few), .val (.int most), .val (.int (3 : Int32)), .unset] [(.int ((3 : Int32) - (2 : Int32)))]))) (fun _ k => XS.isub X101.here hx rfl (hb hby own_d_prog_19_method_10_code_51) rfl k) ?_
        rw [show ((3 : Int32) - (2 : Int32)) = (1 : Int32) by decide]
        show OGoal p e below s _ _ _ (T100.setTop (mkF m 52 #[.val (.ref a), .val (.int few), .val (.int most), .val (.int (3 : Int32)), .unset] [(.int (1 : Int32))]))
        refine OGoal.mp (S' := (T100.setTop (mkF m 53 #[.val (.ref a), .val (.int few), .val (.int most), .val (.int (3 : Int32)), .unset] [(.int most), (.int (1 : Int32))]))) (fun _ k => XS.iloadN X101.here hx rfl (hb hby own_d_prog_19_method_10_code_52) rfl k) ?_
        by_cases hc104 : most < (1 : Int32)
        · refine OGoal.mp (S' := (T100.setTop (mkF m 60 #[.val (.ref a), .val (.int few), .val (.int most), .val (.int (3 : Int32)), .unset] []))) (fun _ k => XS.icmpYes X101.here hx rfl (pc0 := 53) (pc' := 60) rfl (hb hby own_d_prog_19_method_10_code_53) rfl (XT.ii_gt_t hc104) (by decide) (by decide) k) ?_
          refine OGoal.mp (S' := (T100.setTop (mkF m 61 #[.val (.ref a), .val (.int few), .val (.int most), .val (.int (3 : Int32)), .unset] [(.int (0 : Int32))]))) (fun _ k => XS.iconst X101.here hx rfl (hb hby own_d_prog_19_method_10_code_60) k) ?_
          refine OGoal.mp (S' := (T100.setTop (mkF m 63 #[.val (.ref a), .val (.int few), .val (.int most), .val (.int (3 : Int32)), .val (.int (0 : Int32))] []))) (fun _ k => XS.istore X101.here hx rfl (hb hby own_d_prog_19_method_10_code_61) rfl (l' := #[.val (.ref a), .val (.int few), .val (.int most), .val (.int (3 : Int32)), .val (.int (0 : Int32))]) rfl k) ?_
          refine OGoal.mp (S' := (T100.setTop (mkF m 65 #[.val (.ref a), .val (.int few), .val (.int most), .val (.int (3 : Int32)), .val (.int (0 : Int32))] [(.int (0 : Int32))]))) (fun _ k => XS.iload X101.here hx rfl (hb hby own_d_prog_19_method_10_code_63) rfl k) ?_
          refine OGoal.mp (S' := (T100.setTop (mkF m 73 #[.val (.ref a), .val (.int few), .val (.int most), .val (.int (3 : Int32)), .val (.int (0 : Int32))] []))) (fun _ k => XS.ifYes X101.here hx rfl (pc0 := 65) (pc' := 73) rfl (hb hby own_d_prog_19_method_10_code_65) rfl (XT.i0_eq_t (by decide)) (by decide) (by decide) k) ?_
          refine OGoal.mp (S' := (T100.setTop (mkF m 75 #[.val (.ref a), .val (.int few), .val (.int most), .val (.int (3 : Int32)), .val (.int (0 : Int32))] [(.int (0 : Int32))]))) (fun _ k => XS.iload X101.here hx rfl (hb hby own_d_prog_19_method_10_code_73) rfl k) ?_
          refine oRetZ X101 hx hlk hret (Or.inl rfl) (hb hby own_d_prog_19_method_10_code_75) ?_ (by decide) (by decide)
          have hr : own_run f (4 - (2 : Int32).toInt.toNat) (2 : Int32).toInt.toNat = 1 := by
            show own_run f 2 2 = 1
            have e0 : own_run f 2 2 = own_run f 1 3 + 1 := if_neg hc37
            have e1 : own_run f 1 3 = 0 := if_pos hc94
            rw [e0, e1]
          have hs : own_res (Int32.ofNat 1) few most = (0 : Int32) := by show own_res (1 : Int32) few most = _; unfold own_res; rw [if_neg hc99, if_pos hc104]
          refine ⟨?_, N93, ?_, ?_⟩
          · rw [hr, hs]
          · rw [e102]; exact (Keep.refl h0 [a])
          · rw [hr, e102]; unfold own_at; rw [hs]; exact Fa
        · refine OGoal.mp (S' := (T100.setTop (mkF m 56 #[.val (.ref a), .val (.int few), .val (.int most), .val (.int (3 : Int32)), .unset] []))) (fun _ k => XS.icmpNo X101.here hx rfl (hb hby own_d_prog_19_method_10_code_53) rfl (XT.ii_gt_f hc104) k) ?_
          refine OGoal.mp (S' := (T100.setTop (mkF m 57 #[.val (.ref a), .val (.int few), .val (.int most), .val (.int (3 : Int32)), .unset] [(.int (1 : Int32))]))) (fun _ k => XS.iconst X101.here hx rfl (hb hby own_d_prog_19_method_10_code_56) k) ?_
          refine OGoal.mp (S' := (T100.setTop (mkF m 61 #[.val (.ref a), .val (.int few), .val (.int most), .val (.int (3 : Int32)), .unset] [(.int (1 : Int32))]))) (fun _ k => XS.goto X101.here hx rfl (pc0 := 57) (pc' := 61) rfl (hb hby own_d_prog_19_method_10_code_57) (by decide) (by decide) k) ?_
          refine OGoal.mp (S' := (T100.setTop (mkF m 63 #[.val (.ref a), .val (.int few), .val (.int most), .val (.int (3 : Int32)), .val (.int (1 : Int32))] []))) (fun _ k => XS.istore X101.here hx rfl (hb hby own_d_prog_19_method_10_code_61) rfl (l' := #[.val (.ref a), .val (.int few), .val (.int most), .val (.int (3 : Int32)), .val (.int (1 : Int32))]) rfl k) ?_
          refine OGoal.mp (S' := (T100.setTop (mkF m 65 #[.val (.ref a), .val (.int few), .val (.int most), .val (.int (3 : Int32)), .val (.int (1 : Int32))] [(.int (1 : Int32))]))) (fun _ k => XS.iload X101.here hx rfl (hb hby own_d_prog_19_method_10_code_63) rfl k) ?_
          refine OGoal.mp (S' := (T100.setTop (mkF m 68 #[.val (.ref a), .val (.int few), .val (.int most), .val (.int (3 : Int32)), .val (.int (1 : Int32))] []))) (fun _ k => XS.ifNo X101.here hx rfl (hb hby own_d_prog_19_method_10_code_65) rfl (XT.i0_eq_f (by decide)) k) ?_
          refine OGoal.mp (S' := (T100.setTop (mkF m 69 #[.val (.ref a), .val (.int few), .val (.int most), .val (.int (3 : Int32)), .val (.int (1 : Int32))] [(.ref a)]))) (fun _ k => XS.aloadN X101.here hx rfl (hb hby own_d_prog_19_method_10_code_68) rfl rfl k) ?_
          refine OGoal.mp (S' := (T100.setTop (mkF m 70 #[.val (.ref a), .val (.int few), .val (.int most), .val (.int (3 : Int32)), .val (.int (1 : Int32))] [(.int (3 : Int32)), (.ref a)]))) (fun _ k => XS.iloadN X101.here hx rfl (hb hby own_d_prog_19_method_10_code_69) rfl k) ?_
          obtain ⟨T105, h109, X106, e107, W110, st108⟩ := putF X101 hx hZ hown (host := "") (Or.inl (hw _ (List.mem_of_getElem? (i := 46) rfl))) Via.refl e102 Fa E (Or.inl (hw _ (List.mem_of_getElem? (i := 47) rfl))) (hw _ (List.mem_of_getElem? (i := 4) rfl)) (ty := .int) (by decide) rfl rfl (g := mkF m 70 #[.val (.ref a), .val (.int few), .val (.int most), .val (.int (3 : Int32)), .val (.int (1 : Int32))] [(.int (3 : Int32)), (.ref a)]) rfl rfl (hb hby own_d_prog_19_method_10_code_70)
          have N111 := Fr.snoc X106 N93 ab
          have Z112 : n0 ≤ h109.size := Nat.le_trans Z0 (Keep.of_wr W110).1
          have K113 : Keep h0 h109 [a] := (Keep.refl h0 [a]).wr W110 (Or.inl (by simp))
          have F114 := St.wr W110
          have F115 := E.wr W110
          have F116 := hS.exa.wr W110
          have F117 := Fn.other W110 (Or.inr (slot_ne (a0 := a0) (C := "com/example/deadlock_to_diagnosis/deadlocktodiagnosis/reader/LineScanner") (t := (.object "java/lang/String")) (t' := .int) (Or.inr (hw _ (List.mem_of_getElem? (i := 40) rfl))) (Or.inl (hw _ (List.mem_of_getElem? (i := 47) rfl))) (by decide) (by decide) (by decide)))
          have F118 := Fa.same W110
          refine OGoal.mp (S' := (T105.setTop (mkF m 73 #[.val (.ref a), .val (.int few), .val (.int most), .val (.int (3 : Int32)), .val (.int (1 : Int32))] []))) (fun _ k => st108 _ k) ?_
          refine OGoal.mp (S' := (T105.setTop (mkF m 75 #[.val (.ref a), .val (.int few), .val (.int most), .val (.int (3 : Int32)), .val (.int (1 : Int32))] [(.int (1 : Int32))]))) (fun _ k => XS.iload X106.here hx rfl (hb hby own_d_prog_19_method_10_code_73) rfl k) ?_
          refine oRetZ X106 hx hlk hret (Or.inr rfl) (hb hby own_d_prog_19_method_10_code_75) ?_ (by decide) (by decide)
          have hr : own_run f (4 - (2 : Int32).toInt.toNat) (2 : Int32).toInt.toNat = 1 := by
            show own_run f 2 2 = 1
            have e0 : own_run f 2 2 = own_run f 1 3 + 1 := if_neg hc37
            have e1 : own_run f 1 3 = 0 := if_pos hc94
            rw [e0, e1]
          have hs : own_res (Int32.ofNat 1) few most = (1 : Int32) := by show own_res (1 : Int32) few most = _; unfold own_res; rw [if_neg hc99, if_neg hc104]
          refine ⟨?_, N111, ?_, ?_⟩
          · rw [hr, hs]
          · rw [e107]; exact K113
          · rw [hr, e107]; unfold own_at; rw [hs]; exact F118
    · refine OGoal.mp (S' := (T87.setTop (mkF m 30 #[.val (.ref a), .val (.int few), .val (.int most), .val (.int (3 : Int32)), .unset] []))) (fun _ k => XS.ifNo X89.here hx rfl (hb hby own_d_prog_19_method_10_code_27) rfl (XT.i0_eq_f hc94) k) ?_
      refine OGoal.mp (S' := (T87.setTop (mkF m 33 #[.val (.ref a), .val (.int few), .val (.int most), .val (.int ((3 : Int32) + (1 : Int32))), .unset] []))) (fun _ k => XT.iincV X89.here hx rfl (1 : Int32) (hb hby own_d_prog_19_method_10_code_30) rfl rfl (l' := #[.val (.ref a), .val (.int few), .val (.int most), .val (.int ((3 : Int32) + (1 : Int32))), .unset]) rfl k) ?_
      rw [show ((3 : Int32) + (1 : Int32)) = (4 : Int32) by decide]
      show OGoal p e below s _ _ _ (T87.setTop (mkF m 33 #[.val (.ref a), .val (.int few), .val (.int most), .val (.int (4 : Int32)), .unset] []))
      refine OGoal.mp (S' := (T87.setTop (mkF m 5 #[.val (.ref a), .val (.int few), .val (.int most), .val (.int (4 : Int32)), .unset] []))) (fun _ k => XS.goto X89.here hx rfl (pc0 := 33) (pc' := 5) rfl (hb hby own_d_prog_19_method_10_code_33) (by decide) (by decide) k) ?_
      refine OGoal.mp (S' := (T87.setTop (mkF m 6 #[.val (.ref a), .val (.int few), .val (.int most), .val (.int (4 : Int32)), .unset] [(.int (4 : Int32))]))) (fun _ k => XS.iloadN X89.here hx rfl (hb hby own_d_prog_19_method_10_code_5) rfl k) ?_
      refine OGoal.mp (S' := (T87.setTop (mkF m 7 #[.val (.ref a), .val (.int few), .val (.int most), .val (.int (4 : Int32)), .unset] [(.ref a), (.int (4 : Int32))]))) (fun _ k => XS.aloadN X89.here hx rfl (hb hby own_d_prog_19_method_10_code_6) rfl rfl k) ?_
      obtain ⟨T119, X120, e121, st122⟩ := getF X89 hx hZ hown (host := "") (Or.inl (hw _ (List.mem_of_getElem? (i := 39) rfl))) Via.refl e92 Fn (g := mkF m 7 #[.val (.ref a), .val (.int few), .val (.int most), .val (.int (4 : Int32)), .unset] [(.ref a), (.int (4 : Int32))]) rfl rfl (hb hby own_d_prog_19_method_10_code_7)
      refine OGoal.mp (S' := (T119.setTop (mkF m 10 #[.val (.ref a), .val (.int few), .val (.int most), .val (.int (4 : Int32)), .unset] [(.ref b), (.int (4 : Int32))]))) (fun _ k => st122 _ k) ?_
      refine oCallV (y := (⟨"java/lang/String", "length", "()I"⟩ : MethodName)) (z := (⟨"java/lang/String", "length", "()I"⟩ : MethodName)) X120 hx hZ hown (hw _ (List.mem_of_getElem? (i := 53) rfl)) (hw _ (List.mem_of_getElem? (i := 54) rfl)) (hw _ (List.mem_of_getElem? (i := 56) rfl)) (hw _ (List.mem_of_getElem? (i := 55) rfl)) (hw _ (List.mem_of_getElem? (i := 8) rfl)) (hw _ (List.mem_of_getElem? (i := 57) rfl)) (by decide) (rmLn l Z a0 hw b h0 n0 Z0 cs fm hcs hfm St f hS) e121 hS.exa [] [(.int (4 : Int32))] rfl rfl (by rw [hml]; rfl) (notFace_of_selects (args := #[]) (mvT hZ (hw _ (List.mem_of_getElem? (i := 56) rfl)))) (lenOf own_pd___I rfl) 1 (Nat.le_of_eq rfl) (by decide) (by decide) (by decide) (by decide) (hb hby own_d_prog_19_method_10_code_10) ?_
      intro v123 T124 L125 X126 q127
      obtain ⟨rfl, N128, e129⟩ := q127
      have N130 := Fr.app N93 N128
      show OGoal p e below s _ _ _ (T124.setTop (mkF m 13 #[.val (.ref a), .val (.int few), .val (.int most), .val (.int (4 : Int32)), .unset] [(.int (4 : Int32)), (.int (4 : Int32))]))
      refine OGoal.mp (S' := (T124.setTop (mkF m 36 #[.val (.ref a), .val (.int few), .val (.int most), .val (.int (4 : Int32)), .unset] []))) (fun _ k => XS.icmpYes X126.here hx rfl (pc0 := 13) (pc' := 36) rfl (hb hby own_d_prog_19_method_10_code_13) rfl (XT.ii_ge_t (by decide)) (by decide) (by decide) k) ?_
      refine OGoal.mp (S' := (T124.setTop (mkF m 37 #[.val (.ref a), .val (.int few), .val (.int most), .val (.int (4 : Int32)), .unset] [(.int (4 : Int32))]))) (fun _ k => XS.iloadN X126.here hx rfl (hb hby own_d_prog_19_method_10_code_36) rfl k) ?_
      refine OGoal.mp (S' := (T124.setTop (mkF m 38 #[.val (.ref a), .val (.int few), .val (.int most), .val (.int (4 : Int32)), .unset] [(.ref a), (.int (4 : Int32))]))) (fun _ k => XS.aloadN X126.here hx rfl (hb hby own_d_prog_19_method_10_code_37) rfl rfl k) ?_
      obtain ⟨T131, X132, e133, st134⟩ := getF X126 hx hZ hown (host := "") (Or.inl (hw _ (List.mem_of_getElem? (i := 46) rfl))) Via.refl e129 Fa (g := mkF m 38 #[.val (.ref a), .val (.int few), .val (.int most), .val (.int (4 : Int32)), .unset] [(.ref a), (.int (4 : Int32))]) rfl rfl (hb hby own_d_prog_19_method_10_code_38)
      refine OGoal.mp (S' := (T131.setTop (mkF m 41 #[.val (.ref a), .val (.int few), .val (.int most), .val (.int (4 : Int32)), .unset] [(.int (2 : Int32)), (.int (4 : Int32))]))) (fun _ k => st134 _ k) ?_
      refine OGoal.mp (S' := (T131.setTop (mkF m 42 #[.val (.ref a), .val (.int few), .val (.int most), .val (.int (4 : Int32)), .unset] [(.int ((4 : Int32) - (2 : Int32)))]))) (fun _ k => XS.isub X132.here hx rfl (hb hby own_d_prog_19_method_10_code_41) rfl k) ?_
      rw [show ((4 : Int32) - (2 : Int32)) = (2 : Int32) by decide]
      show OGoal p e below s _ _ _ (T131.setTop (mkF m 42 #[.val (.ref a), .val (.int few), .val (.int most), .val (.int (4 : Int32)), .unset] [(.int (2 : Int32))]))
      refine OGoal.mp (S' := (T131.setTop (mkF m 43 #[.val (.ref a), .val (.int few), .val (.int most), .val (.int (4 : Int32)), .unset] [(.int few), (.int (2 : Int32))]))) (fun _ k => XS.iloadN X132.here hx rfl (hb hby own_d_prog_19_method_10_code_42) rfl k) ?_
      by_cases hc135 : (2 : Int32) < few
      · refine OGoal.mp (S' := (T131.setTop (mkF m 60 #[.val (.ref a), .val (.int few), .val (.int most), .val (.int (4 : Int32)), .unset] []))) (fun _ k => XS.icmpYes X132.here hx rfl (pc0 := 43) (pc' := 60) rfl (hb hby own_d_prog_19_method_10_code_43) rfl (XT.ii_lt_t hc135) (by decide) (by decide) k) ?_
        refine OGoal.mp (S' := (T131.setTop (mkF m 61 #[.val (.ref a), .val (.int few), .val (.int most), .val (.int (4 : Int32)), .unset] [(.int (0 : Int32))]))) (fun _ k => XS.iconst X132.here hx rfl (hb hby own_d_prog_19_method_10_code_60) k) ?_
        refine OGoal.mp (S' := (T131.setTop (mkF m 63 #[.val (.ref a), .val (.int few), .val (.int most), .val (.int (4 : Int32)), .val (.int (0 : Int32))] []))) (fun _ k => XS.istore X132.here hx rfl (hb hby own_d_prog_19_method_10_code_61) rfl (l' := #[.val (.ref a), .val (.int few), .val (.int most), .val (.int (4 : Int32)), .val (.int (0 : Int32))]) rfl k) ?_
        refine OGoal.mp (S' := (T131.setTop (mkF m 65 #[.val (.ref a), .val (.int few), .val (.int most), .val (.int (4 : Int32)), .val (.int (0 : Int32))] [(.int (0 : Int32))]))) (fun _ k => XS.iload X132.here hx rfl (hb hby own_d_prog_19_method_10_code_63) rfl k) ?_
        refine OGoal.mp (S' := (T131.setTop (mkF m 73 #[.val (.ref a), .val (.int few), .val (.int most), .val (.int (4 : Int32)), .val (.int (0 : Int32))] []))) (fun _ k => XS.ifYes X132.here hx rfl (pc0 := 65) (pc' := 73) rfl (hb hby own_d_prog_19_method_10_code_65) rfl (XT.i0_eq_t (by decide)) (by decide) (by decide) k) ?_
        refine OGoal.mp (S' := (T131.setTop (mkF m 75 #[.val (.ref a), .val (.int few), .val (.int most), .val (.int (4 : Int32)), .val (.int (0 : Int32))] [(.int (0 : Int32))]))) (fun _ k => XS.iload X132.here hx rfl (hb hby own_d_prog_19_method_10_code_73) rfl k) ?_
        refine oRetZ X132 hx hlk hret (Or.inl rfl) (hb hby own_d_prog_19_method_10_code_75) ?_ (by decide) (by decide)
        have hr : own_run f (4 - (2 : Int32).toInt.toNat) (2 : Int32).toInt.toNat = 2 := by
          show own_run f 2 2 = 2
          have e0 : own_run f 2 2 = own_run f 1 3 + 1 := if_neg hc37
          have e1 : own_run f 1 3 = own_run f 0 4 + 1 := if_neg hc94
          rw [e0, e1]
          first | done | rfl
        have hs : own_res (Int32.ofNat 2) few most = (0 : Int32) := by show own_res (2 : Int32) few most = _; unfold own_res; rw [if_pos hc135]
        refine ⟨?_, N130, ?_, ?_⟩
        · rw [hr, hs]
        · rw [e133]; exact (Keep.refl h0 [a])
        · rw [hr, e133]; unfold own_at; rw [hs]; exact Fa
      · refine OGoal.mp (S' := (T131.setTop (mkF m 46 #[.val (.ref a), .val (.int few), .val (.int most), .val (.int (4 : Int32)), .unset] []))) (fun _ k => XS.icmpNo X132.here hx rfl (hb hby own_d_prog_19_method_10_code_43) rfl (XT.ii_lt_f hc135) k) ?_
        refine OGoal.mp (S' := (T131.setTop (mkF m 47 #[.val (.ref a), .val (.int few), .val (.int most), .val (.int (4 : Int32)), .unset] [(.int (4 : Int32))]))) (fun _ k => XS.iloadN X132.here hx rfl (hb hby own_d_prog_19_method_10_code_46) rfl k) ?_
        refine OGoal.mp (S' := (T131.setTop (mkF m 48 #[.val (.ref a), .val (.int few), .val (.int most), .val (.int (4 : Int32)), .unset] [(.ref a), (.int (4 : Int32))]))) (fun _ k => XS.aloadN X132.here hx rfl (hb hby own_d_prog_19_method_10_code_47) rfl rfl k) ?_
        obtain ⟨T136, X137, e138, st139⟩ := getF X132 hx hZ hown (host := "") (Or.inl (hw _ (List.mem_of_getElem? (i := 46) rfl))) Via.refl e133 Fa (g := mkF m 48 #[.val (.ref a), .val (.int few), .val (.int most), .val (.int (4 : Int32)), .unset] [(.ref a), (.int (4 : Int32))]) rfl rfl (hb hby own_d_prog_19_method_10_code_48)
        refine OGoal.mp (S' := (T136.setTop (mkF m 51 #[.val (.ref a), .val (.int few), .val (.int most), .val (.int (4 : Int32)), .unset] [(.int (2 : Int32)), (.int (4 : Int32))]))) (fun _ k => st139 _ k) ?_
        refine OGoal.mp (S' := (T136.setTop (mkF m 52 #[.val (.ref a), .val (.int few), .val (.int most), .val (.int (4 : Int32)), .unset] [(.int ((4 : Int32) - (2 : Int32)))]))) (fun _ k => XS.isub X137.here hx rfl (hb hby own_d_prog_19_method_10_code_51) rfl k) ?_
        rw [show ((4 : Int32) - (2 : Int32)) = (2 : Int32) by decide]
        show OGoal p e below s _ _ _ (T136.setTop (mkF m 52 #[.val (.ref a), .val (.int few), .val (.int most), .val (.int (4 : Int32)), .unset] [(.int (2 : Int32))]))
        refine OGoal.mp (S' := (T136.setTop (mkF m 53 #[.val (.ref a), .val (.int few), .val (.int most), .val (.int (4 : Int32)), .unset] [(.int most), (.int (2 : Int32))]))) (fun _ k => XS.iloadN X137.here hx rfl (hb hby own_d_prog_19_method_10_code_52) rfl k) ?_
        by_cases hc140 : most < (2 : Int32)
        · refine OGoal.mp (S' := (T136.setTop (mkF m 60 #[.val (.ref a), .val (.int few), .val (.int most), .val (.int (4 : Int32)), .unset] []))) (fun _ k => XS.icmpYes X137.here hx rfl (pc0 := 53) (pc' := 60) rfl (hb hby own_d_prog_19_method_10_code_53) rfl (XT.ii_gt_t hc140) (by decide) (by decide) k) ?_
          refine OGoal.mp (S' := (T136.setTop (mkF m 61 #[.val (.ref a), .val (.int few), .val (.int most), .val (.int (4 : Int32)), .unset] [(.int (0 : Int32))]))) (fun _ k => XS.iconst X137.here hx rfl (hb hby own_d_prog_19_method_10_code_60) k) ?_
          refine OGoal.mp (S' := (T136.setTop (mkF m 63 #[.val (.ref a), .val (.int few), .val (.int most), .val (.int (4 : Int32)), .val (.int (0 : Int32))] []))) (fun _ k => XS.istore X137.here hx rfl (hb hby own_d_prog_19_method_10_code_61) rfl (l' := #[.val (.ref a), .val (.int few), .val (.int most), .val (.int (4 : Int32)), .val (.int (0 : Int32))]) rfl k) ?_
          refine OGoal.mp (S' := (T136.setTop (mkF m 65 #[.val (.ref a), .val (.int few), .val (.int most), .val (.int (4 : Int32)), .val (.int (0 : Int32))] [(.int (0 : Int32))]))) (fun _ k => XS.iload X137.here hx rfl (hb hby own_d_prog_19_method_10_code_63) rfl k) ?_
          refine OGoal.mp (S' := (T136.setTop (mkF m 73 #[.val (.ref a), .val (.int few), .val (.int most), .val (.int (4 : Int32)), .val (.int (0 : Int32))] []))) (fun _ k => XS.ifYes X137.here hx rfl (pc0 := 65) (pc' := 73) rfl (hb hby own_d_prog_19_method_10_code_65) rfl (XT.i0_eq_t (by decide)) (by decide) (by decide) k) ?_
          refine OGoal.mp (S' := (T136.setTop (mkF m 75 #[.val (.ref a), .val (.int few), .val (.int most), .val (.int (4 : Int32)), .val (.int (0 : Int32))] [(.int (0 : Int32))]))) (fun _ k => XS.iload X137.here hx rfl (hb hby own_d_prog_19_method_10_code_73) rfl k) ?_
          refine oRetZ X137 hx hlk hret (Or.inl rfl) (hb hby own_d_prog_19_method_10_code_75) ?_ (by decide) (by decide)
          have hr : own_run f (4 - (2 : Int32).toInt.toNat) (2 : Int32).toInt.toNat = 2 := by
            show own_run f 2 2 = 2
            have e0 : own_run f 2 2 = own_run f 1 3 + 1 := if_neg hc37
            have e1 : own_run f 1 3 = own_run f 0 4 + 1 := if_neg hc94
            rw [e0, e1]
            first | done | rfl
          have hs : own_res (Int32.ofNat 2) few most = (0 : Int32) := by show own_res (2 : Int32) few most = _; unfold own_res; rw [if_neg hc135, if_pos hc140]
          refine ⟨?_, N130, ?_, ?_⟩
          · rw [hr, hs]
          · rw [e138]; exact (Keep.refl h0 [a])
          · rw [hr, e138]; unfold own_at; rw [hs]; exact Fa
        · refine OGoal.mp (S' := (T136.setTop (mkF m 56 #[.val (.ref a), .val (.int few), .val (.int most), .val (.int (4 : Int32)), .unset] []))) (fun _ k => XS.icmpNo X137.here hx rfl (hb hby own_d_prog_19_method_10_code_53) rfl (XT.ii_gt_f hc140) k) ?_
          refine OGoal.mp (S' := (T136.setTop (mkF m 57 #[.val (.ref a), .val (.int few), .val (.int most), .val (.int (4 : Int32)), .unset] [(.int (1 : Int32))]))) (fun _ k => XS.iconst X137.here hx rfl (hb hby own_d_prog_19_method_10_code_56) k) ?_
          refine OGoal.mp (S' := (T136.setTop (mkF m 61 #[.val (.ref a), .val (.int few), .val (.int most), .val (.int (4 : Int32)), .unset] [(.int (1 : Int32))]))) (fun _ k => XS.goto X137.here hx rfl (pc0 := 57) (pc' := 61) rfl (hb hby own_d_prog_19_method_10_code_57) (by decide) (by decide) k) ?_
          refine OGoal.mp (S' := (T136.setTop (mkF m 63 #[.val (.ref a), .val (.int few), .val (.int most), .val (.int (4 : Int32)), .val (.int (1 : Int32))] []))) (fun _ k => XS.istore X137.here hx rfl (hb hby own_d_prog_19_method_10_code_61) rfl (l' := #[.val (.ref a), .val (.int few), .val (.int most), .val (.int (4 : Int32)), .val (.int (1 : Int32))]) rfl k) ?_
          refine OGoal.mp (S' := (T136.setTop (mkF m 65 #[.val (.ref a), .val (.int few), .val (.int most), .val (.int (4 : Int32)), .val (.int (1 : Int32))] [(.int (1 : Int32))]))) (fun _ k => XS.iload X137.here hx rfl (hb hby own_d_prog_19_method_10_code_63) rfl k) ?_
          refine OGoal.mp (S' := (T136.setTop (mkF m 68 #[.val (.ref a), .val (.int few), .val (.int most), .val (.int (4 : Int32)), .val (.int (1 : Int32))] []))) (fun _ k => XS.ifNo X137.here hx rfl (hb hby own_d_prog_19_method_10_code_65) rfl (XT.i0_eq_f (by decide)) k) ?_
          refine OGoal.mp (S' := (T136.setTop (mkF m 69 #[.val (.ref a), .val (.int few), .val (.int most), .val (.int (4 : Int32)), .val (.int (1 : Int32))] [(.ref a)]))) (fun _ k => XS.aloadN X137.here hx rfl (hb hby own_d_prog_19_method_10_code_68) rfl rfl k) ?_
          refine OGoal.mp (S' := (T136.setTop (mkF m 70 #[.val (.ref a), .val (.int few), .val (.int most), .val (.int (4 : Int32)), .val (.int (1 : Int32))] [(.int (4 : Int32)), (.ref a)]))) (fun _ k => XS.iloadN X137.here hx rfl (hb hby own_d_prog_19_method_10_code_69) rfl k) ?_
          obtain ⟨T141, h145, X142, e143, W146, st144⟩ := putF X137 hx hZ hown (host := "") (Or.inl (hw _ (List.mem_of_getElem? (i := 46) rfl))) Via.refl e138 Fa E (Or.inl (hw _ (List.mem_of_getElem? (i := 47) rfl))) (hw _ (List.mem_of_getElem? (i := 4) rfl)) (ty := .int) (by decide) rfl rfl (g := mkF m 70 #[.val (.ref a), .val (.int few), .val (.int most), .val (.int (4 : Int32)), .val (.int (1 : Int32))] [(.int (4 : Int32)), (.ref a)]) rfl rfl (hb hby own_d_prog_19_method_10_code_70)
          have N147 := Fr.snoc X142 N130 ab
          have Z148 : n0 ≤ h145.size := Nat.le_trans Z0 (Keep.of_wr W146).1
          have K149 : Keep h0 h145 [a] := (Keep.refl h0 [a]).wr W146 (Or.inl (by simp))
          have F150 := St.wr W146
          have F151 := E.wr W146
          have F152 := hS.exa.wr W146
          have F153 := Fn.other W146 (Or.inr (slot_ne (a0 := a0) (C := "com/example/deadlock_to_diagnosis/deadlocktodiagnosis/reader/LineScanner") (t := (.object "java/lang/String")) (t' := .int) (Or.inr (hw _ (List.mem_of_getElem? (i := 40) rfl))) (Or.inl (hw _ (List.mem_of_getElem? (i := 47) rfl))) (by decide) (by decide) (by decide)))
          have F154 := Fa.same W146
          refine OGoal.mp (S' := (T141.setTop (mkF m 73 #[.val (.ref a), .val (.int few), .val (.int most), .val (.int (4 : Int32)), .val (.int (1 : Int32))] []))) (fun _ k => st144 _ k) ?_
          refine OGoal.mp (S' := (T141.setTop (mkF m 75 #[.val (.ref a), .val (.int few), .val (.int most), .val (.int (4 : Int32)), .val (.int (1 : Int32))] [(.int (1 : Int32))]))) (fun _ k => XS.iload X142.here hx rfl (hb hby own_d_prog_19_method_10_code_73) rfl k) ?_
          refine oRetZ X142 hx hlk hret (Or.inr rfl) (hb hby own_d_prog_19_method_10_code_75) ?_ (by decide) (by decide)
          have hr : own_run f (4 - (2 : Int32).toInt.toNat) (2 : Int32).toInt.toNat = 2 := by
            show own_run f 2 2 = 2
            have e0 : own_run f 2 2 = own_run f 1 3 + 1 := if_neg hc37
            have e1 : own_run f 1 3 = own_run f 0 4 + 1 := if_neg hc94
            rw [e0, e1]
            first | done | rfl
          have hs : own_res (Int32.ofNat 2) few most = (1 : Int32) := by show own_res (2 : Int32) few most = _; unfold own_res; rw [if_neg hc135, if_neg hc140]
          refine ⟨?_, N147, ?_, ?_⟩
          · rw [hr, hs]
          · rw [e143]; exact K149
          · rw [hr, e143]; unfold own_at; rw [hs]; exact F154
theorem own_ef_rmDg3 (x0 : Addr) (x1 : Int32) (x2 : Int32) (m : MethodId) : entryFrame m #[(.ref x0), (.int x1), (.int x2)] 5 = mkF m 0 #[.val (.ref x0), .val (.int x1), .val (.int x2), .unset, .unset] [] := by first | (simp [entryFrame, mkF, argsToLocals, Value.category]; done) | rfl
set_option maxRecDepth 65536 in
set_option maxHeartbeats 40000000 in
theorem rmDg3 (l : Launch) (Z : State) (a0 : Array Value) (hw : ∀ d ∈ tables_1, d.before a0 Z = true) (a : Addr) (few most : Int32) (h0 : Heap) (n0 : Nat) (Z0 : n0 ≤ h0.size) (cs : Int32) (fm : Value) (hcs : ¬ cs = 0) (hfm : fm.isRef = true) (St : Stt Z h0 cs fm) (b : Addr) (f : Nat → Int32) (hC : Ch f) (hS : Str4 Z h0 b f) (E : Exa Z h0 a "com/example/deadlock_to_diagnosis/deadlocktodiagnosis/reader/LineScanner") (Fn : Fld Z h0 a "com/example/deadlock_to_diagnosis/deadlocktodiagnosis/reader/LineScanner" "line" "Ljava/lang/String;" (.ref b)) (Fa : Fld Z h0 a "com/example/deadlock_to_diagnosis/deadlocktodiagnosis/reader/LineScanner" "at" "I" (.int (3 : Int32))) (ab : n0 ≤ a) :
    OCon l Z (⟨"com/example/deadlock_to_diagnosis/deadlocktodiagnosis/reader/LineScanner", "digits", "(II)Z"⟩ : MethodName) prog_19_method_10_code 5 (some .boolean) ({ frames := 8, cells := 0, slots := 0, locals := 150 } : Room) #[(.ref a), (.int few), (.int most)] h0 (Q_dg Z f a (3 : Int32) few most h0 n0) := by
  refine OConK.intro (y := (⟨"com/example/deadlock_to_diagnosis/deadlocktodiagnosis/reader/LineScanner", "digits", "(II)Z"⟩ : MethodName)) (plainFor_of_name own_pn_com_example_deadlock_to_diagnosis_deadlocktodiagnosis_reader_LineScanner) (own_ef_rmDg3 a few most) ?_
  intro p e s m below meth c s₁ hx hby hml hown hnm hret hlk hZ X0 e0
  show OGoal p e below s _ _ _ (s₁.setTop (mkF m 0 #[.val (.ref a), .val (.int few), .val (.int most), .unset, .unset] []))
  refine OGoal.mp (S' := (s₁.setTop (mkF m 1 #[.val (.ref a), .val (.int few), .val (.int most), .unset, .unset] [(.ref a)]))) (fun _ k => XS.aloadN X0.here hx rfl (hb hby own_d_prog_19_method_10_code_0) rfl rfl k) ?_
  obtain ⟨T1, X2, e3, st4⟩ := getF X0 hx hZ hown (host := "") (Or.inl (hw _ (List.mem_of_getElem? (i := 46) rfl))) Via.refl e0 Fa (g := mkF m 1 #[.val (.ref a), .val (.int few), .val (.int most), .unset, .unset] [(.ref a)]) rfl rfl (hb hby own_d_prog_19_method_10_code_1)
  refine OGoal.mp (S' := (T1.setTop (mkF m 4 #[.val (.ref a), .val (.int few), .val (.int most), .unset, .unset] [(.int (3 : Int32))]))) (fun _ k => st4 _ k) ?_
  refine OGoal.mp (S' := (T1.setTop (mkF m 5 #[.val (.ref a), .val (.int few), .val (.int most), .val (.int (3 : Int32)), .unset] []))) (fun _ k => XS.istoreN X2.here hx rfl (hb hby own_d_prog_19_method_10_code_4) rfl (l' := #[.val (.ref a), .val (.int few), .val (.int most), .val (.int (3 : Int32)), .unset]) rfl k) ?_
  refine OGoal.mp (S' := (T1.setTop (mkF m 6 #[.val (.ref a), .val (.int few), .val (.int most), .val (.int (3 : Int32)), .unset] [(.int (3 : Int32))]))) (fun _ k => XS.iloadN X2.here hx rfl (hb hby own_d_prog_19_method_10_code_5) rfl k) ?_
  refine OGoal.mp (S' := (T1.setTop (mkF m 7 #[.val (.ref a), .val (.int few), .val (.int most), .val (.int (3 : Int32)), .unset] [(.ref a), (.int (3 : Int32))]))) (fun _ k => XS.aloadN X2.here hx rfl (hb hby own_d_prog_19_method_10_code_6) rfl rfl k) ?_
  obtain ⟨T5, X6, e7, st8⟩ := getF X2 hx hZ hown (host := "") (Or.inl (hw _ (List.mem_of_getElem? (i := 39) rfl))) Via.refl e3 Fn (g := mkF m 7 #[.val (.ref a), .val (.int few), .val (.int most), .val (.int (3 : Int32)), .unset] [(.ref a), (.int (3 : Int32))]) rfl rfl (hb hby own_d_prog_19_method_10_code_7)
  refine OGoal.mp (S' := (T5.setTop (mkF m 10 #[.val (.ref a), .val (.int few), .val (.int most), .val (.int (3 : Int32)), .unset] [(.ref b), (.int (3 : Int32))]))) (fun _ k => st8 _ k) ?_
  refine oCallV (y := (⟨"java/lang/String", "length", "()I"⟩ : MethodName)) (z := (⟨"java/lang/String", "length", "()I"⟩ : MethodName)) X6 hx hZ hown (hw _ (List.mem_of_getElem? (i := 53) rfl)) (hw _ (List.mem_of_getElem? (i := 54) rfl)) (hw _ (List.mem_of_getElem? (i := 56) rfl)) (hw _ (List.mem_of_getElem? (i := 55) rfl)) (hw _ (List.mem_of_getElem? (i := 8) rfl)) (hw _ (List.mem_of_getElem? (i := 57) rfl)) (by decide) (rmLn l Z a0 hw b h0 n0 Z0 cs fm hcs hfm St f hS) e7 hS.exa [] [(.int (3 : Int32))] rfl rfl (by rw [hml]; rfl) (notFace_of_selects (args := #[]) (mvT hZ (hw _ (List.mem_of_getElem? (i := 56) rfl)))) (lenOf own_pd___I rfl) 1 (Nat.le_of_eq rfl) (by decide) (by decide) (by decide) (by decide) (hb hby own_d_prog_19_method_10_code_10) ?_
  intro v9 T10 L11 X12 q13
  obtain ⟨rfl, N14, e15⟩ := q13
  have N16 := Fr.app (Fr.nil n0) N14
  show OGoal p e below s _ _ _ (T10.setTop (mkF m 13 #[.val (.ref a), .val (.int few), .val (.int most), .val (.int (3 : Int32)), .unset] [(.int (4 : Int32)), (.int (3 : Int32))]))
  refine OGoal.mp (S' := (T10.setTop (mkF m 16 #[.val (.ref a), .val (.int few), .val (.int most), .val (.int (3 : Int32)), .unset] []))) (fun _ k => XS.icmpNo X12.here hx rfl (hb hby own_d_prog_19_method_10_code_13) rfl (XT.ii_ge_f (by decide)) k) ?_
  refine OGoal.mp (S' := (T10.setTop (mkF m 17 #[.val (.ref a), .val (.int few), .val (.int most), .val (.int (3 : Int32)), .unset] [(.ref a)]))) (fun _ k => XS.aloadN X12.here hx rfl (hb hby own_d_prog_19_method_10_code_16) rfl rfl k) ?_
  obtain ⟨T17, X18, e19, st20⟩ := getF X12 hx hZ hown (host := "") (Or.inl (hw _ (List.mem_of_getElem? (i := 39) rfl))) Via.refl e15 Fn (g := mkF m 17 #[.val (.ref a), .val (.int few), .val (.int most), .val (.int (3 : Int32)), .unset] [(.ref a)]) rfl rfl (hb hby own_d_prog_19_method_10_code_17)
  refine OGoal.mp (S' := (T17.setTop (mkF m 20 #[.val (.ref a), .val (.int few), .val (.int most), .val (.int (3 : Int32)), .unset] [(.ref b)]))) (fun _ k => st20 _ k) ?_
  refine OGoal.mp (S' := (T17.setTop (mkF m 21 #[.val (.ref a), .val (.int few), .val (.int most), .val (.int (3 : Int32)), .unset] [(.int (3 : Int32)), (.ref b)]))) (fun _ k => XS.iloadN X18.here hx rfl (hb hby own_d_prog_19_method_10_code_20) rfl k) ?_
  refine oCallV (y := (⟨"java/lang/String", "charAt", "(I)C"⟩ : MethodName)) (z := (⟨"java/lang/String", "charAt", "(I)C"⟩ : MethodName)) X18 hx hZ hown (hw _ (List.mem_of_getElem? (i := 63) rfl)) (hw _ (List.mem_of_getElem? (i := 64) rfl)) (hw _ (List.mem_of_getElem? (i := 66) rfl)) (hw _ (List.mem_of_getElem? (i := 65) rfl)) (hw _ (List.mem_of_getElem? (i := 8) rfl)) (hw _ (List.mem_of_getElem? (i := 67) rfl)) (by decide) (rmCA l Z a0 hw b (3 : Int32) h0 n0 Z0 cs fm hcs hfm St f hC hS (by decide) (by decide)) e19 hS.exa [(.int (3 : Int32))] [] rfl rfl (by rw [hml]; rfl) (notFace_of_selects (args := #[]) (mvT hZ (hw _ (List.mem_of_getElem? (i := 66) rfl)))) (lenOf own_pd__I_C rfl) 0 (Nat.le_of_eq rfl) (by decide) (by decide) (by decide) (by decide) (hb hby own_d_prog_19_method_10_code_21) ?_
  intro v21 T22 L23 X24 q25
  obtain ⟨rfl, N26, e27⟩ := q25
  have N28 := Fr.app N16 N26
  show OGoal p e below s _ _ _ (T22.setTop (mkF m 24 #[.val (.ref a), .val (.int few), .val (.int most), .val (.int (3 : Int32)), .unset] [(.int (f (3 : Int32).toInt.toNat))]))
  refine oCallS (y := (⟨"com/example/deadlock_to_diagnosis/deadlocktodiagnosis/reader/LineScanner", "isDigit", "(C)Z"⟩ : MethodName)) X24 hx hZ hown (hw _ (List.mem_of_getElem? (i := 85) rfl)) (hw _ (List.mem_of_getElem? (i := 86) rfl)) (hw _ (List.mem_of_getElem? (i := 5) rfl)) (hw _ (List.mem_of_getElem? (i := 87) rfl)) (by decide) (rmDi l Z a0 hw (f (3 : Int32).toInt.toNat) h0 n0 Z0) e27 [(.int (f (3 : Int32).toInt.toNat))] [] rfl rfl (by rw [hml]; rfl) (lenOf own_pd__C_Z rfl) 0 (Nat.le_of_eq rfl) (by decide) (by decide) (by decide) (by decide) (hb hby own_d_prog_19_method_10_code_24) ?_
  intro v29 T30 L31 X32 q33
  obtain ⟨rfl, N34, e35⟩ := q33
  have N36 := Fr.app N28 N34
  show OGoal p e below s _ _ _ (T30.setTop (mkF m 27 #[.val (.ref a), .val (.int few), .val (.int most), .val (.int (3 : Int32)), .unset] [(.int (own_dg (f (3 : Int32).toInt.toNat)))]))
  by_cases hc37 : (own_dg (f (3 : Int32).toInt.toNat)) = 0
  · refine OGoal.mp (S' := (T30.setTop (mkF m 36 #[.val (.ref a), .val (.int few), .val (.int most), .val (.int (3 : Int32)), .unset] []))) (fun _ k => XS.ifYes X32.here hx rfl (pc0 := 27) (pc' := 36) rfl (hb hby own_d_prog_19_method_10_code_27) rfl (XT.i0_eq_t hc37) (by decide) (by decide) k) ?_
    refine OGoal.mp (S' := (T30.setTop (mkF m 37 #[.val (.ref a), .val (.int few), .val (.int most), .val (.int (3 : Int32)), .unset] [(.int (3 : Int32))]))) (fun _ k => XS.iloadN X32.here hx rfl (hb hby own_d_prog_19_method_10_code_36) rfl k) ?_
    refine OGoal.mp (S' := (T30.setTop (mkF m 38 #[.val (.ref a), .val (.int few), .val (.int most), .val (.int (3 : Int32)), .unset] [(.ref a), (.int (3 : Int32))]))) (fun _ k => XS.aloadN X32.here hx rfl (hb hby own_d_prog_19_method_10_code_37) rfl rfl k) ?_
    obtain ⟨T38, X39, e40, st41⟩ := getF X32 hx hZ hown (host := "") (Or.inl (hw _ (List.mem_of_getElem? (i := 46) rfl))) Via.refl e35 Fa (g := mkF m 38 #[.val (.ref a), .val (.int few), .val (.int most), .val (.int (3 : Int32)), .unset] [(.ref a), (.int (3 : Int32))]) rfl rfl (hb hby own_d_prog_19_method_10_code_38)
    refine OGoal.mp (S' := (T38.setTop (mkF m 41 #[.val (.ref a), .val (.int few), .val (.int most), .val (.int (3 : Int32)), .unset] [(.int (3 : Int32)), (.int (3 : Int32))]))) (fun _ k => st41 _ k) ?_
    refine OGoal.mp (S' := (T38.setTop (mkF m 42 #[.val (.ref a), .val (.int few), .val (.int most), .val (.int (3 : Int32)), .unset] [(.int ((3 : Int32) - (3 : Int32)))]))) (fun _ k => XS.isub X39.here hx rfl (hb hby own_d_prog_19_method_10_code_41) rfl k) ?_
    rw [show ((3 : Int32) - (3 : Int32)) = (0 : Int32) by decide]
    show OGoal p e below s _ _ _ (T38.setTop (mkF m 42 #[.val (.ref a), .val (.int few), .val (.int most), .val (.int (3 : Int32)), .unset] [(.int (0 : Int32))]))
    refine OGoal.mp (S' := (T38.setTop (mkF m 43 #[.val (.ref a), .val (.int few), .val (.int most), .val (.int (3 : Int32)), .unset] [(.int few), (.int (0 : Int32))]))) (fun _ k => XS.iloadN X39.here hx rfl (hb hby own_d_prog_19_method_10_code_42) rfl k) ?_
    by_cases hc42 : (0 : Int32) < few
    · refine OGoal.mp (S' := (T38.setTop (mkF m 60 #[.val (.ref a), .val (.int few), .val (.int most), .val (.int (3 : Int32)), .unset] []))) (fun _ k => XS.icmpYes X39.here hx rfl (pc0 := 43) (pc' := 60) rfl (hb hby own_d_prog_19_method_10_code_43) rfl (XT.ii_lt_t hc42) (by decide) (by decide) k) ?_
      refine OGoal.mp (S' := (T38.setTop (mkF m 61 #[.val (.ref a), .val (.int few), .val (.int most), .val (.int (3 : Int32)), .unset] [(.int (0 : Int32))]))) (fun _ k => XS.iconst X39.here hx rfl (hb hby own_d_prog_19_method_10_code_60) k) ?_
      refine OGoal.mp (S' := (T38.setTop (mkF m 63 #[.val (.ref a), .val (.int few), .val (.int most), .val (.int (3 : Int32)), .val (.int (0 : Int32))] []))) (fun _ k => XS.istore X39.here hx rfl (hb hby own_d_prog_19_method_10_code_61) rfl (l' := #[.val (.ref a), .val (.int few), .val (.int most), .val (.int (3 : Int32)), .val (.int (0 : Int32))]) rfl k) ?_
      refine OGoal.mp (S' := (T38.setTop (mkF m 65 #[.val (.ref a), .val (.int few), .val (.int most), .val (.int (3 : Int32)), .val (.int (0 : Int32))] [(.int (0 : Int32))]))) (fun _ k => XS.iload X39.here hx rfl (hb hby own_d_prog_19_method_10_code_63) rfl k) ?_
      refine OGoal.mp (S' := (T38.setTop (mkF m 73 #[.val (.ref a), .val (.int few), .val (.int most), .val (.int (3 : Int32)), .val (.int (0 : Int32))] []))) (fun _ k => XS.ifYes X39.here hx rfl (pc0 := 65) (pc' := 73) rfl (hb hby own_d_prog_19_method_10_code_65) rfl (XT.i0_eq_t (by decide)) (by decide) (by decide) k) ?_
      refine OGoal.mp (S' := (T38.setTop (mkF m 75 #[.val (.ref a), .val (.int few), .val (.int most), .val (.int (3 : Int32)), .val (.int (0 : Int32))] [(.int (0 : Int32))]))) (fun _ k => XS.iload X39.here hx rfl (hb hby own_d_prog_19_method_10_code_73) rfl k) ?_
      refine oRetZ X39 hx hlk hret (Or.inl rfl) (hb hby own_d_prog_19_method_10_code_75) ?_ (by decide) (by decide)
      have hr : own_run f (4 - (3 : Int32).toInt.toNat) (3 : Int32).toInt.toNat = 0 := by
        show own_run f 1 3 = 0
        have e0 : own_run f 1 3 = 0 := if_pos hc37
        rw [e0]
      have hs : own_res (Int32.ofNat 0) few most = (0 : Int32) := by show own_res (0 : Int32) few most = _; unfold own_res; rw [if_pos hc42]
      refine ⟨?_, N36, ?_, ?_⟩
      · rw [hr, hs]
      · rw [e40]; exact (Keep.refl h0 [a])
      · rw [hr, e40]; unfold own_at; rw [hs]; exact Fa
    · refine OGoal.mp (S' := (T38.setTop (mkF m 46 #[.val (.ref a), .val (.int few), .val (.int most), .val (.int (3 : Int32)), .unset] []))) (fun _ k => XS.icmpNo X39.here hx rfl (hb hby own_d_prog_19_method_10_code_43) rfl (XT.ii_lt_f hc42) k) ?_
      refine OGoal.mp (S' := (T38.setTop (mkF m 47 #[.val (.ref a), .val (.int few), .val (.int most), .val (.int (3 : Int32)), .unset] [(.int (3 : Int32))]))) (fun _ k => XS.iloadN X39.here hx rfl (hb hby own_d_prog_19_method_10_code_46) rfl k) ?_
      refine OGoal.mp (S' := (T38.setTop (mkF m 48 #[.val (.ref a), .val (.int few), .val (.int most), .val (.int (3 : Int32)), .unset] [(.ref a), (.int (3 : Int32))]))) (fun _ k => XS.aloadN X39.here hx rfl (hb hby own_d_prog_19_method_10_code_47) rfl rfl k) ?_
      obtain ⟨T43, X44, e45, st46⟩ := getF X39 hx hZ hown (host := "") (Or.inl (hw _ (List.mem_of_getElem? (i := 46) rfl))) Via.refl e40 Fa (g := mkF m 48 #[.val (.ref a), .val (.int few), .val (.int most), .val (.int (3 : Int32)), .unset] [(.ref a), (.int (3 : Int32))]) rfl rfl (hb hby own_d_prog_19_method_10_code_48)
      refine OGoal.mp (S' := (T43.setTop (mkF m 51 #[.val (.ref a), .val (.int few), .val (.int most), .val (.int (3 : Int32)), .unset] [(.int (3 : Int32)), (.int (3 : Int32))]))) (fun _ k => st46 _ k) ?_
      refine OGoal.mp (S' := (T43.setTop (mkF m 52 #[.val (.ref a), .val (.int few), .val (.int most), .val (.int (3 : Int32)), .unset] [(.int ((3 : Int32) - (3 : Int32)))]))) (fun _ k => XS.isub X44.here hx rfl (hb hby own_d_prog_19_method_10_code_51) rfl k) ?_
      rw [show ((3 : Int32) - (3 : Int32)) = (0 : Int32) by decide]
      show OGoal p e below s _ _ _ (T43.setTop (mkF m 52 #[.val (.ref a), .val (.int few), .val (.int most), .val (.int (3 : Int32)), .unset] [(.int (0 : Int32))]))
      refine OGoal.mp (S' := (T43.setTop (mkF m 53 #[.val (.ref a), .val (.int few), .val (.int most), .val (.int (3 : Int32)), .unset] [(.int most), (.int (0 : Int32))]))) (fun _ k => XS.iloadN X44.here hx rfl (hb hby own_d_prog_19_method_10_code_52) rfl k) ?_
      by_cases hc47 : most < (0 : Int32)
      · refine OGoal.mp (S' := (T43.setTop (mkF m 60 #[.val (.ref a), .val (.int few), .val (.int most), .val (.int (3 : Int32)), .unset] []))) (fun _ k => XS.icmpYes X44.here hx rfl (pc0 := 53) (pc' := 60) rfl (hb hby own_d_prog_19_method_10_code_53) rfl (XT.ii_gt_t hc47) (by decide) (by decide) k) ?_
        refine OGoal.mp (S' := (T43.setTop (mkF m 61 #[.val (.ref a), .val (.int few), .val (.int most), .val (.int (3 : Int32)), .unset] [(.int (0 : Int32))]))) (fun _ k => XS.iconst X44.here hx rfl (hb hby own_d_prog_19_method_10_code_60) k) ?_
        refine OGoal.mp (S' := (T43.setTop (mkF m 63 #[.val (.ref a), .val (.int few), .val (.int most), .val (.int (3 : Int32)), .val (.int (0 : Int32))] []))) (fun _ k => XS.istore X44.here hx rfl (hb hby own_d_prog_19_method_10_code_61) rfl (l' := #[.val (.ref a), .val (.int few), .val (.int most), .val (.int (3 : Int32)), .val (.int (0 : Int32))]) rfl k) ?_
        refine OGoal.mp (S' := (T43.setTop (mkF m 65 #[.val (.ref a), .val (.int few), .val (.int most), .val (.int (3 : Int32)), .val (.int (0 : Int32))] [(.int (0 : Int32))]))) (fun _ k => XS.iload X44.here hx rfl (hb hby own_d_prog_19_method_10_code_63) rfl k) ?_
        refine OGoal.mp (S' := (T43.setTop (mkF m 73 #[.val (.ref a), .val (.int few), .val (.int most), .val (.int (3 : Int32)), .val (.int (0 : Int32))] []))) (fun _ k => XS.ifYes X44.here hx rfl (pc0 := 65) (pc' := 73) rfl (hb hby own_d_prog_19_method_10_code_65) rfl (XT.i0_eq_t (by decide)) (by decide) (by decide) k) ?_
        refine OGoal.mp (S' := (T43.setTop (mkF m 75 #[.val (.ref a), .val (.int few), .val (.int most), .val (.int (3 : Int32)), .val (.int (0 : Int32))] [(.int (0 : Int32))]))) (fun _ k => XS.iload X44.here hx rfl (hb hby own_d_prog_19_method_10_code_73) rfl k) ?_
        refine oRetZ X44 hx hlk hret (Or.inl rfl) (hb hby own_d_prog_19_method_10_code_75) ?_ (by decide) (by decide)
        have hr : own_run f (4 - (3 : Int32).toInt.toNat) (3 : Int32).toInt.toNat = 0 := by
          show own_run f 1 3 = 0
          have e0 : own_run f 1 3 = 0 := if_pos hc37
          rw [e0]
        have hs : own_res (Int32.ofNat 0) few most = (0 : Int32) := by show own_res (0 : Int32) few most = _; unfold own_res; rw [if_neg hc42, if_pos hc47]
        refine ⟨?_, N36, ?_, ?_⟩
        · rw [hr, hs]
        · rw [e45]; exact (Keep.refl h0 [a])
        · rw [hr, e45]; unfold own_at; rw [hs]; exact Fa
      · refine OGoal.mp (S' := (T43.setTop (mkF m 56 #[.val (.ref a), .val (.int few), .val (.int most), .val (.int (3 : Int32)), .unset] []))) (fun _ k => XS.icmpNo X44.here hx rfl (hb hby own_d_prog_19_method_10_code_53) rfl (XT.ii_gt_f hc47) k) ?_
        refine OGoal.mp (S' := (T43.setTop (mkF m 57 #[.val (.ref a), .val (.int few), .val (.int most), .val (.int (3 : Int32)), .unset] [(.int (1 : Int32))]))) (fun _ k => XS.iconst X44.here hx rfl (hb hby own_d_prog_19_method_10_code_56) k) ?_
        refine OGoal.mp (S' := (T43.setTop (mkF m 61 #[.val (.ref a), .val (.int few), .val (.int most), .val (.int (3 : Int32)), .unset] [(.int (1 : Int32))]))) (fun _ k => XS.goto X44.here hx rfl (pc0 := 57) (pc' := 61) rfl (hb hby own_d_prog_19_method_10_code_57) (by decide) (by decide) k) ?_
        refine OGoal.mp (S' := (T43.setTop (mkF m 63 #[.val (.ref a), .val (.int few), .val (.int most), .val (.int (3 : Int32)), .val (.int (1 : Int32))] []))) (fun _ k => XS.istore X44.here hx rfl (hb hby own_d_prog_19_method_10_code_61) rfl (l' := #[.val (.ref a), .val (.int few), .val (.int most), .val (.int (3 : Int32)), .val (.int (1 : Int32))]) rfl k) ?_
        refine OGoal.mp (S' := (T43.setTop (mkF m 65 #[.val (.ref a), .val (.int few), .val (.int most), .val (.int (3 : Int32)), .val (.int (1 : Int32))] [(.int (1 : Int32))]))) (fun _ k => XS.iload X44.here hx rfl (hb hby own_d_prog_19_method_10_code_63) rfl k) ?_
        refine OGoal.mp (S' := (T43.setTop (mkF m 68 #[.val (.ref a), .val (.int few), .val (.int most), .val (.int (3 : Int32)), .val (.int (1 : Int32))] []))) (fun _ k => XS.ifNo X44.here hx rfl (hb hby own_d_prog_19_method_10_code_65) rfl (XT.i0_eq_f (by decide)) k) ?_
        refine OGoal.mp (S' := (T43.setTop (mkF m 69 #[.val (.ref a), .val (.int few), .val (.int most), .val (.int (3 : Int32)), .val (.int (1 : Int32))] [(.ref a)]))) (fun _ k => XS.aloadN X44.here hx rfl (hb hby own_d_prog_19_method_10_code_68) rfl rfl k) ?_
        refine OGoal.mp (S' := (T43.setTop (mkF m 70 #[.val (.ref a), .val (.int few), .val (.int most), .val (.int (3 : Int32)), .val (.int (1 : Int32))] [(.int (3 : Int32)), (.ref a)]))) (fun _ k => XS.iloadN X44.here hx rfl (hb hby own_d_prog_19_method_10_code_69) rfl k) ?_
        obtain ⟨T48, h52, X49, e50, W53, st51⟩ := putF X44 hx hZ hown (host := "") (Or.inl (hw _ (List.mem_of_getElem? (i := 46) rfl))) Via.refl e45 Fa E (Or.inl (hw _ (List.mem_of_getElem? (i := 47) rfl))) (hw _ (List.mem_of_getElem? (i := 4) rfl)) (ty := .int) (by decide) rfl rfl (g := mkF m 70 #[.val (.ref a), .val (.int few), .val (.int most), .val (.int (3 : Int32)), .val (.int (1 : Int32))] [(.int (3 : Int32)), (.ref a)]) rfl rfl (hb hby own_d_prog_19_method_10_code_70)
        have N54 := Fr.snoc X49 N36 ab
        have Z55 : n0 ≤ h52.size := Nat.le_trans Z0 (Keep.of_wr W53).1
        have K56 : Keep h0 h52 [a] := (Keep.refl h0 [a]).wr W53 (Or.inl (by simp))
        have F57 := St.wr W53
        have F58 := E.wr W53
        have F59 := hS.exa.wr W53
        have F60 := Fn.other W53 (Or.inr (slot_ne (a0 := a0) (C := "com/example/deadlock_to_diagnosis/deadlocktodiagnosis/reader/LineScanner") (t := (.object "java/lang/String")) (t' := .int) (Or.inr (hw _ (List.mem_of_getElem? (i := 40) rfl))) (Or.inl (hw _ (List.mem_of_getElem? (i := 47) rfl))) (by decide) (by decide) (by decide)))
        have F61 := Fa.same W53
        refine OGoal.mp (S' := (T48.setTop (mkF m 73 #[.val (.ref a), .val (.int few), .val (.int most), .val (.int (3 : Int32)), .val (.int (1 : Int32))] []))) (fun _ k => st51 _ k) ?_
        refine OGoal.mp (S' := (T48.setTop (mkF m 75 #[.val (.ref a), .val (.int few), .val (.int most), .val (.int (3 : Int32)), .val (.int (1 : Int32))] [(.int (1 : Int32))]))) (fun _ k => XS.iload X49.here hx rfl (hb hby own_d_prog_19_method_10_code_73) rfl k) ?_
        refine oRetZ X49 hx hlk hret (Or.inr rfl) (hb hby own_d_prog_19_method_10_code_75) ?_ (by decide) (by decide)
        have hr : own_run f (4 - (3 : Int32).toInt.toNat) (3 : Int32).toInt.toNat = 0 := by
          show own_run f 1 3 = 0
          have e0 : own_run f 1 3 = 0 := if_pos hc37
          rw [e0]
        have hs : own_res (Int32.ofNat 0) few most = (1 : Int32) := by show own_res (0 : Int32) few most = _; unfold own_res; rw [if_neg hc42, if_neg hc47]
        refine ⟨?_, N54, ?_, ?_⟩
        · rw [hr, hs]
        · rw [e50]; exact K56
        · rw [hr, e50]; unfold own_at; rw [hs]; exact F61
  · refine OGoal.mp (S' := (T30.setTop (mkF m 30 #[.val (.ref a), .val (.int few), .val (.int most), .val (.int (3 : Int32)), .unset] []))) (fun _ k => XS.ifNo X32.here hx rfl (hb hby own_d_prog_19_method_10_code_27) rfl (XT.i0_eq_f hc37) k) ?_
    refine OGoal.mp (S' := (T30.setTop (mkF m 33 #[.val (.ref a), .val (.int few), .val (.int most), .val (.int ((3 : Int32) + (1 : Int32))), .unset] []))) (fun _ k => XT.iincV X32.here hx rfl (1 : Int32) (hb hby own_d_prog_19_method_10_code_30) rfl rfl (l' := #[.val (.ref a), .val (.int few), .val (.int most), .val (.int ((3 : Int32) + (1 : Int32))), .unset]) rfl k) ?_
    rw [show ((3 : Int32) + (1 : Int32)) = (4 : Int32) by decide]
    show OGoal p e below s _ _ _ (T30.setTop (mkF m 33 #[.val (.ref a), .val (.int few), .val (.int most), .val (.int (4 : Int32)), .unset] []))
    refine OGoal.mp (S' := (T30.setTop (mkF m 5 #[.val (.ref a), .val (.int few), .val (.int most), .val (.int (4 : Int32)), .unset] []))) (fun _ k => XS.goto X32.here hx rfl (pc0 := 33) (pc' := 5) rfl (hb hby own_d_prog_19_method_10_code_33) (by decide) (by decide) k) ?_
    refine OGoal.mp (S' := (T30.setTop (mkF m 6 #[.val (.ref a), .val (.int few), .val (.int most), .val (.int (4 : Int32)), .unset] [(.int (4 : Int32))]))) (fun _ k => XS.iloadN X32.here hx rfl (hb hby own_d_prog_19_method_10_code_5) rfl k) ?_
    refine OGoal.mp (S' := (T30.setTop (mkF m 7 #[.val (.ref a), .val (.int few), .val (.int most), .val (.int (4 : Int32)), .unset] [(.ref a), (.int (4 : Int32))]))) (fun _ k => XS.aloadN X32.here hx rfl (hb hby own_d_prog_19_method_10_code_6) rfl rfl k) ?_
    obtain ⟨T62, X63, e64, st65⟩ := getF X32 hx hZ hown (host := "") (Or.inl (hw _ (List.mem_of_getElem? (i := 39) rfl))) Via.refl e35 Fn (g := mkF m 7 #[.val (.ref a), .val (.int few), .val (.int most), .val (.int (4 : Int32)), .unset] [(.ref a), (.int (4 : Int32))]) rfl rfl (hb hby own_d_prog_19_method_10_code_7)
    refine OGoal.mp (S' := (T62.setTop (mkF m 10 #[.val (.ref a), .val (.int few), .val (.int most), .val (.int (4 : Int32)), .unset] [(.ref b), (.int (4 : Int32))]))) (fun _ k => st65 _ k) ?_
    refine oCallV (y := (⟨"java/lang/String", "length", "()I"⟩ : MethodName)) (z := (⟨"java/lang/String", "length", "()I"⟩ : MethodName)) X63 hx hZ hown (hw _ (List.mem_of_getElem? (i := 53) rfl)) (hw _ (List.mem_of_getElem? (i := 54) rfl)) (hw _ (List.mem_of_getElem? (i := 56) rfl)) (hw _ (List.mem_of_getElem? (i := 55) rfl)) (hw _ (List.mem_of_getElem? (i := 8) rfl)) (hw _ (List.mem_of_getElem? (i := 57) rfl)) (by decide) (rmLn l Z a0 hw b h0 n0 Z0 cs fm hcs hfm St f hS) e64 hS.exa [] [(.int (4 : Int32))] rfl rfl (by rw [hml]; rfl) (notFace_of_selects (args := #[]) (mvT hZ (hw _ (List.mem_of_getElem? (i := 56) rfl)))) (lenOf own_pd___I rfl) 1 (Nat.le_of_eq rfl) (by decide) (by decide) (by decide) (by decide) (hb hby own_d_prog_19_method_10_code_10) ?_
    intro v66 T67 L68 X69 q70
    obtain ⟨rfl, N71, e72⟩ := q70
    have N73 := Fr.app N36 N71
    show OGoal p e below s _ _ _ (T67.setTop (mkF m 13 #[.val (.ref a), .val (.int few), .val (.int most), .val (.int (4 : Int32)), .unset] [(.int (4 : Int32)), (.int (4 : Int32))]))
    refine OGoal.mp (S' := (T67.setTop (mkF m 36 #[.val (.ref a), .val (.int few), .val (.int most), .val (.int (4 : Int32)), .unset] []))) (fun _ k => XS.icmpYes X69.here hx rfl (pc0 := 13) (pc' := 36) rfl (hb hby own_d_prog_19_method_10_code_13) rfl (XT.ii_ge_t (by decide)) (by decide) (by decide) k) ?_
    refine OGoal.mp (S' := (T67.setTop (mkF m 37 #[.val (.ref a), .val (.int few), .val (.int most), .val (.int (4 : Int32)), .unset] [(.int (4 : Int32))]))) (fun _ k => XS.iloadN X69.here hx rfl (hb hby own_d_prog_19_method_10_code_36) rfl k) ?_
    refine OGoal.mp (S' := (T67.setTop (mkF m 38 #[.val (.ref a), .val (.int few), .val (.int most), .val (.int (4 : Int32)), .unset] [(.ref a), (.int (4 : Int32))]))) (fun _ k => XS.aloadN X69.here hx rfl (hb hby own_d_prog_19_method_10_code_37) rfl rfl k) ?_
    obtain ⟨T74, X75, e76, st77⟩ := getF X69 hx hZ hown (host := "") (Or.inl (hw _ (List.mem_of_getElem? (i := 46) rfl))) Via.refl e72 Fa (g := mkF m 38 #[.val (.ref a), .val (.int few), .val (.int most), .val (.int (4 : Int32)), .unset] [(.ref a), (.int (4 : Int32))]) rfl rfl (hb hby own_d_prog_19_method_10_code_38)
    refine OGoal.mp (S' := (T74.setTop (mkF m 41 #[.val (.ref a), .val (.int few), .val (.int most), .val (.int (4 : Int32)), .unset] [(.int (3 : Int32)), (.int (4 : Int32))]))) (fun _ k => st77 _ k) ?_
    refine OGoal.mp (S' := (T74.setTop (mkF m 42 #[.val (.ref a), .val (.int few), .val (.int most), .val (.int (4 : Int32)), .unset] [(.int ((4 : Int32) - (3 : Int32)))]))) (fun _ k => XS.isub X75.here hx rfl (hb hby own_d_prog_19_method_10_code_41) rfl k) ?_
    rw [show ((4 : Int32) - (3 : Int32)) = (1 : Int32) by decide]
    show OGoal p e below s _ _ _ (T74.setTop (mkF m 42 #[.val (.ref a), .val (.int few), .val (.int most), .val (.int (4 : Int32)), .unset] [(.int (1 : Int32))]))
    refine OGoal.mp (S' := (T74.setTop (mkF m 43 #[.val (.ref a), .val (.int few), .val (.int most), .val (.int (4 : Int32)), .unset] [(.int few), (.int (1 : Int32))]))) (fun _ k => XS.iloadN X75.here hx rfl (hb hby own_d_prog_19_method_10_code_42) rfl k) ?_
    by_cases hc78 : (1 : Int32) < few
    · refine OGoal.mp (S' := (T74.setTop (mkF m 60 #[.val (.ref a), .val (.int few), .val (.int most), .val (.int (4 : Int32)), .unset] []))) (fun _ k => XS.icmpYes X75.here hx rfl (pc0 := 43) (pc' := 60) rfl (hb hby own_d_prog_19_method_10_code_43) rfl (XT.ii_lt_t hc78) (by decide) (by decide) k) ?_
      refine OGoal.mp (S' := (T74.setTop (mkF m 61 #[.val (.ref a), .val (.int few), .val (.int most), .val (.int (4 : Int32)), .unset] [(.int (0 : Int32))]))) (fun _ k => XS.iconst X75.here hx rfl (hb hby own_d_prog_19_method_10_code_60) k) ?_
      refine OGoal.mp (S' := (T74.setTop (mkF m 63 #[.val (.ref a), .val (.int few), .val (.int most), .val (.int (4 : Int32)), .val (.int (0 : Int32))] []))) (fun _ k => XS.istore X75.here hx rfl (hb hby own_d_prog_19_method_10_code_61) rfl (l' := #[.val (.ref a), .val (.int few), .val (.int most), .val (.int (4 : Int32)), .val (.int (0 : Int32))]) rfl k) ?_
      refine OGoal.mp (S' := (T74.setTop (mkF m 65 #[.val (.ref a), .val (.int few), .val (.int most), .val (.int (4 : Int32)), .val (.int (0 : Int32))] [(.int (0 : Int32))]))) (fun _ k => XS.iload X75.here hx rfl (hb hby own_d_prog_19_method_10_code_63) rfl k) ?_
      refine OGoal.mp (S' := (T74.setTop (mkF m 73 #[.val (.ref a), .val (.int few), .val (.int most), .val (.int (4 : Int32)), .val (.int (0 : Int32))] []))) (fun _ k => XS.ifYes X75.here hx rfl (pc0 := 65) (pc' := 73) rfl (hb hby own_d_prog_19_method_10_code_65) rfl (XT.i0_eq_t (by decide)) (by decide) (by decide) k) ?_
      refine OGoal.mp (S' := (T74.setTop (mkF m 75 #[.val (.ref a), .val (.int few), .val (.int most), .val (.int (4 : Int32)), .val (.int (0 : Int32))] [(.int (0 : Int32))]))) (fun _ k => XS.iload X75.here hx rfl (hb hby own_d_prog_19_method_10_code_73) rfl k) ?_
      refine oRetZ X75 hx hlk hret (Or.inl rfl) (hb hby own_d_prog_19_method_10_code_75) ?_ (by decide) (by decide)
      have hr : own_run f (4 - (3 : Int32).toInt.toNat) (3 : Int32).toInt.toNat = 1 := by
        show own_run f 1 3 = 1
        have e0 : own_run f 1 3 = own_run f 0 4 + 1 := if_neg hc37
        rw [e0]
        first | done | rfl
      have hs : own_res (Int32.ofNat 1) few most = (0 : Int32) := by show own_res (1 : Int32) few most = _; unfold own_res; rw [if_pos hc78]
      refine ⟨?_, N73, ?_, ?_⟩
      · rw [hr, hs]
      · rw [e76]; exact (Keep.refl h0 [a])
      · rw [hr, e76]; unfold own_at; rw [hs]; exact Fa
    · refine OGoal.mp (S' := (T74.setTop (mkF m 46 #[.val (.ref a), .val (.int few), .val (.int most), .val (.int (4 : Int32)), .unset] []))) (fun _ k => XS.icmpNo X75.here hx rfl (hb hby own_d_prog_19_method_10_code_43) rfl (XT.ii_lt_f hc78) k) ?_
      refine OGoal.mp (S' := (T74.setTop (mkF m 47 #[.val (.ref a), .val (.int few), .val (.int most), .val (.int (4 : Int32)), .unset] [(.int (4 : Int32))]))) (fun _ k => XS.iloadN X75.here hx rfl (hb hby own_d_prog_19_method_10_code_46) rfl k) ?_
      refine OGoal.mp (S' := (T74.setTop (mkF m 48 #[.val (.ref a), .val (.int few), .val (.int most), .val (.int (4 : Int32)), .unset] [(.ref a), (.int (4 : Int32))]))) (fun _ k => XS.aloadN X75.here hx rfl (hb hby own_d_prog_19_method_10_code_47) rfl rfl k) ?_
      obtain ⟨T79, X80, e81, st82⟩ := getF X75 hx hZ hown (host := "") (Or.inl (hw _ (List.mem_of_getElem? (i := 46) rfl))) Via.refl e76 Fa (g := mkF m 48 #[.val (.ref a), .val (.int few), .val (.int most), .val (.int (4 : Int32)), .unset] [(.ref a), (.int (4 : Int32))]) rfl rfl (hb hby own_d_prog_19_method_10_code_48)
      refine OGoal.mp (S' := (T79.setTop (mkF m 51 #[.val (.ref a), .val (.int few), .val (.int most), .val (.int (4 : Int32)), .unset] [(.int (3 : Int32)), (.int (4 : Int32))]))) (fun _ k => st82 _ k) ?_
      refine OGoal.mp (S' := (T79.setTop (mkF m 52 #[.val (.ref a), .val (.int few), .val (.int most), .val (.int (4 : Int32)), .unset] [(.int ((4 : Int32) - (3 : Int32)))]))) (fun _ k => XS.isub X80.here hx rfl (hb hby own_d_prog_19_method_10_code_51) rfl k) ?_
      rw [show ((4 : Int32) - (3 : Int32)) = (1 : Int32) by decide]
      show OGoal p e below s _ _ _ (T79.setTop (mkF m 52 #[.val (.ref a), .val (.int few), .val (.int most), .val (.int (4 : Int32)), .unset] [(.int (1 : Int32))]))
      refine OGoal.mp (S' := (T79.setTop (mkF m 53 #[.val (.ref a), .val (.int few), .val (.int most), .val (.int (4 : Int32)), .unset] [(.int most), (.int (1 : Int32))]))) (fun _ k => XS.iloadN X80.here hx rfl (hb hby own_d_prog_19_method_10_code_52) rfl k) ?_
      by_cases hc83 : most < (1 : Int32)
      · refine OGoal.mp (S' := (T79.setTop (mkF m 60 #[.val (.ref a), .val (.int few), .val (.int most), .val (.int (4 : Int32)), .unset] []))) (fun _ k => XS.icmpYes X80.here hx rfl (pc0 := 53) (pc' := 60) rfl (hb hby own_d_prog_19_method_10_code_53) rfl (XT.ii_gt_t hc83) (by decide) (by decide) k) ?_
        refine OGoal.mp (S' := (T79.setTop (mkF m 61 #[.val (.ref a), .val (.int few), .val (.int most), .val (.int (4 : Int32)), .unset] [(.int (0 : Int32))]))) (fun _ k => XS.iconst X80.here hx rfl (hb hby own_d_prog_19_method_10_code_60) k) ?_
        refine OGoal.mp (S' := (T79.setTop (mkF m 63 #[.val (.ref a), .val (.int few), .val (.int most), .val (.int (4 : Int32)), .val (.int (0 : Int32))] []))) (fun _ k => XS.istore X80.here hx rfl (hb hby own_d_prog_19_method_10_code_61) rfl (l' := #[.val (.ref a), .val (.int few), .val (.int most), .val (.int (4 : Int32)), .val (.int (0 : Int32))]) rfl k) ?_
        refine OGoal.mp (S' := (T79.setTop (mkF m 65 #[.val (.ref a), .val (.int few), .val (.int most), .val (.int (4 : Int32)), .val (.int (0 : Int32))] [(.int (0 : Int32))]))) (fun _ k => XS.iload X80.here hx rfl (hb hby own_d_prog_19_method_10_code_63) rfl k) ?_
        refine OGoal.mp (S' := (T79.setTop (mkF m 73 #[.val (.ref a), .val (.int few), .val (.int most), .val (.int (4 : Int32)), .val (.int (0 : Int32))] []))) (fun _ k => XS.ifYes X80.here hx rfl (pc0 := 65) (pc' := 73) rfl (hb hby own_d_prog_19_method_10_code_65) rfl (XT.i0_eq_t (by decide)) (by decide) (by decide) k) ?_
        refine OGoal.mp (S' := (T79.setTop (mkF m 75 #[.val (.ref a), .val (.int few), .val (.int most), .val (.int (4 : Int32)), .val (.int (0 : Int32))] [(.int (0 : Int32))]))) (fun _ k => XS.iload X80.here hx rfl (hb hby own_d_prog_19_method_10_code_73) rfl k) ?_
        refine oRetZ X80 hx hlk hret (Or.inl rfl) (hb hby own_d_prog_19_method_10_code_75) ?_ (by decide) (by decide)
        have hr : own_run f (4 - (3 : Int32).toInt.toNat) (3 : Int32).toInt.toNat = 1 := by
          show own_run f 1 3 = 1
          have e0 : own_run f 1 3 = own_run f 0 4 + 1 := if_neg hc37
          rw [e0]
          first | done | rfl
        have hs : own_res (Int32.ofNat 1) few most = (0 : Int32) := by show own_res (1 : Int32) few most = _; unfold own_res; rw [if_neg hc78, if_pos hc83]
        refine ⟨?_, N73, ?_, ?_⟩
        · rw [hr, hs]
        · rw [e81]; exact (Keep.refl h0 [a])
        · rw [hr, e81]; unfold own_at; rw [hs]; exact Fa
      · refine OGoal.mp (S' := (T79.setTop (mkF m 56 #[.val (.ref a), .val (.int few), .val (.int most), .val (.int (4 : Int32)), .unset] []))) (fun _ k => XS.icmpNo X80.here hx rfl (hb hby own_d_prog_19_method_10_code_53) rfl (XT.ii_gt_f hc83) k) ?_
        refine OGoal.mp (S' := (T79.setTop (mkF m 57 #[.val (.ref a), .val (.int few), .val (.int most), .val (.int (4 : Int32)), .unset] [(.int (1 : Int32))]))) (fun _ k => XS.iconst X80.here hx rfl (hb hby own_d_prog_19_method_10_code_56) k) ?_
        refine OGoal.mp (S' := (T79.setTop (mkF m 61 #[.val (.ref a), .val (.int few), .val (.int most), .val (.int (4 : Int32)), .unset] [(.int (1 : Int32))]))) (fun _ k => XS.goto X80.here hx rfl (pc0 := 57) (pc' := 61) rfl (hb hby own_d_prog_19_method_10_code_57) (by decide) (by decide) k) ?_
        refine OGoal.mp (S' := (T79.setTop (mkF m 63 #[.val (.ref a), .val (.int few), .val (.int most), .val (.int (4 : Int32)), .val (.int (1 : Int32))] []))) (fun _ k => XS.istore X80.here hx rfl (hb hby own_d_prog_19_method_10_code_61) rfl (l' := #[.val (.ref a), .val (.int few), .val (.int most), .val (.int (4 : Int32)), .val (.int (1 : Int32))]) rfl k) ?_
        refine OGoal.mp (S' := (T79.setTop (mkF m 65 #[.val (.ref a), .val (.int few), .val (.int most), .val (.int (4 : Int32)), .val (.int (1 : Int32))] [(.int (1 : Int32))]))) (fun _ k => XS.iload X80.here hx rfl (hb hby own_d_prog_19_method_10_code_63) rfl k) ?_
        refine OGoal.mp (S' := (T79.setTop (mkF m 68 #[.val (.ref a), .val (.int few), .val (.int most), .val (.int (4 : Int32)), .val (.int (1 : Int32))] []))) (fun _ k => XS.ifNo X80.here hx rfl (hb hby own_d_prog_19_method_10_code_65) rfl (XT.i0_eq_f (by decide)) k) ?_
        refine OGoal.mp (S' := (T79.setTop (mkF m 69 #[.val (.ref a), .val (.int few), .val (.int most), .val (.int (4 : Int32)), .val (.int (1 : Int32))] [(.ref a)]))) (fun _ k => XS.aloadN X80.here hx rfl (hb hby own_d_prog_19_method_10_code_68) rfl rfl k) ?_
        refine OGoal.mp (S' := (T79.setTop (mkF m 70 #[.val (.ref a), .val (.int few), .val (.int most), .val (.int (4 : Int32)), .val (.int (1 : Int32))] [(.int (4 : Int32)), (.ref a)]))) (fun _ k => XS.iloadN X80.here hx rfl (hb hby own_d_prog_19_method_10_code_69) rfl k) ?_
        obtain ⟨T84, h88, X85, e86, W89, st87⟩ := putF X80 hx hZ hown (host := "") (Or.inl (hw _ (List.mem_of_getElem? (i := 46) rfl))) Via.refl e81 Fa E (Or.inl (hw _ (List.mem_of_getElem? (i := 47) rfl))) (hw _ (List.mem_of_getElem? (i := 4) rfl)) (ty := .int) (by decide) rfl rfl (g := mkF m 70 #[.val (.ref a), .val (.int few), .val (.int most), .val (.int (4 : Int32)), .val (.int (1 : Int32))] [(.int (4 : Int32)), (.ref a)]) rfl rfl (hb hby own_d_prog_19_method_10_code_70)
        have N90 := Fr.snoc X85 N73 ab
        have Z91 : n0 ≤ h88.size := Nat.le_trans Z0 (Keep.of_wr W89).1
        have K92 : Keep h0 h88 [a] := (Keep.refl h0 [a]).wr W89 (Or.inl (by simp))
        have F93 := St.wr W89
        have F94 := E.wr W89
        have F95 := hS.exa.wr W89
        have F96 := Fn.other W89 (Or.inr (slot_ne (a0 := a0) (C := "com/example/deadlock_to_diagnosis/deadlocktodiagnosis/reader/LineScanner") (t := (.object "java/lang/String")) (t' := .int) (Or.inr (hw _ (List.mem_of_getElem? (i := 40) rfl))) (Or.inl (hw _ (List.mem_of_getElem? (i := 47) rfl))) (by decide) (by decide) (by decide)))
        have F97 := Fa.same W89
        refine OGoal.mp (S' := (T84.setTop (mkF m 73 #[.val (.ref a), .val (.int few), .val (.int most), .val (.int (4 : Int32)), .val (.int (1 : Int32))] []))) (fun _ k => st87 _ k) ?_
        refine OGoal.mp (S' := (T84.setTop (mkF m 75 #[.val (.ref a), .val (.int few), .val (.int most), .val (.int (4 : Int32)), .val (.int (1 : Int32))] [(.int (1 : Int32))]))) (fun _ k => XS.iload X85.here hx rfl (hb hby own_d_prog_19_method_10_code_73) rfl k) ?_
        refine oRetZ X85 hx hlk hret (Or.inr rfl) (hb hby own_d_prog_19_method_10_code_75) ?_ (by decide) (by decide)
        have hr : own_run f (4 - (3 : Int32).toInt.toNat) (3 : Int32).toInt.toNat = 1 := by
          show own_run f 1 3 = 1
          have e0 : own_run f 1 3 = own_run f 0 4 + 1 := if_neg hc37
          rw [e0]
          first | done | rfl
        have hs : own_res (Int32.ofNat 1) few most = (1 : Int32) := by show own_res (1 : Int32) few most = _; unfold own_res; rw [if_neg hc78, if_neg hc83]
        refine ⟨?_, N90, ?_, ?_⟩
        · rw [hr, hs]
        · rw [e86]; exact K92
        · rw [hr, e86]; unfold own_at; rw [hs]; exact F97
theorem own_ef_rmDg4 (x0 : Addr) (x1 : Int32) (x2 : Int32) (m : MethodId) : entryFrame m #[(.ref x0), (.int x1), (.int x2)] 5 = mkF m 0 #[.val (.ref x0), .val (.int x1), .val (.int x2), .unset, .unset] [] := by first | (simp [entryFrame, mkF, argsToLocals, Value.category]; done) | rfl
set_option maxRecDepth 65536 in
set_option maxHeartbeats 40000000 in
theorem rmDg4 (l : Launch) (Z : State) (a0 : Array Value) (hw : ∀ d ∈ tables_1, d.before a0 Z = true) (a : Addr) (few most : Int32) (h0 : Heap) (n0 : Nat) (Z0 : n0 ≤ h0.size) (cs : Int32) (fm : Value) (hcs : ¬ cs = 0) (hfm : fm.isRef = true) (St : Stt Z h0 cs fm) (b : Addr) (f : Nat → Int32) (hC : Ch f) (hS : Str4 Z h0 b f) (E : Exa Z h0 a "com/example/deadlock_to_diagnosis/deadlocktodiagnosis/reader/LineScanner") (Fn : Fld Z h0 a "com/example/deadlock_to_diagnosis/deadlocktodiagnosis/reader/LineScanner" "line" "Ljava/lang/String;" (.ref b)) (Fa : Fld Z h0 a "com/example/deadlock_to_diagnosis/deadlocktodiagnosis/reader/LineScanner" "at" "I" (.int (4 : Int32))) (ab : n0 ≤ a) :
    OCon l Z (⟨"com/example/deadlock_to_diagnosis/deadlocktodiagnosis/reader/LineScanner", "digits", "(II)Z"⟩ : MethodName) prog_19_method_10_code 5 (some .boolean) ({ frames := 8, cells := 0, slots := 0, locals := 150 } : Room) #[(.ref a), (.int few), (.int most)] h0 (Q_dg Z f a (4 : Int32) few most h0 n0) := by
  refine OConK.intro (y := (⟨"com/example/deadlock_to_diagnosis/deadlocktodiagnosis/reader/LineScanner", "digits", "(II)Z"⟩ : MethodName)) (plainFor_of_name own_pn_com_example_deadlock_to_diagnosis_deadlocktodiagnosis_reader_LineScanner) (own_ef_rmDg4 a few most) ?_
  intro p e s m below meth c s₁ hx hby hml hown hnm hret hlk hZ X0 e0
  show OGoal p e below s _ _ _ (s₁.setTop (mkF m 0 #[.val (.ref a), .val (.int few), .val (.int most), .unset, .unset] []))
  refine OGoal.mp (S' := (s₁.setTop (mkF m 1 #[.val (.ref a), .val (.int few), .val (.int most), .unset, .unset] [(.ref a)]))) (fun _ k => XS.aloadN X0.here hx rfl (hb hby own_d_prog_19_method_10_code_0) rfl rfl k) ?_
  obtain ⟨T1, X2, e3, st4⟩ := getF X0 hx hZ hown (host := "") (Or.inl (hw _ (List.mem_of_getElem? (i := 46) rfl))) Via.refl e0 Fa (g := mkF m 1 #[.val (.ref a), .val (.int few), .val (.int most), .unset, .unset] [(.ref a)]) rfl rfl (hb hby own_d_prog_19_method_10_code_1)
  refine OGoal.mp (S' := (T1.setTop (mkF m 4 #[.val (.ref a), .val (.int few), .val (.int most), .unset, .unset] [(.int (4 : Int32))]))) (fun _ k => st4 _ k) ?_
  refine OGoal.mp (S' := (T1.setTop (mkF m 5 #[.val (.ref a), .val (.int few), .val (.int most), .val (.int (4 : Int32)), .unset] []))) (fun _ k => XS.istoreN X2.here hx rfl (hb hby own_d_prog_19_method_10_code_4) rfl (l' := #[.val (.ref a), .val (.int few), .val (.int most), .val (.int (4 : Int32)), .unset]) rfl k) ?_
  refine OGoal.mp (S' := (T1.setTop (mkF m 6 #[.val (.ref a), .val (.int few), .val (.int most), .val (.int (4 : Int32)), .unset] [(.int (4 : Int32))]))) (fun _ k => XS.iloadN X2.here hx rfl (hb hby own_d_prog_19_method_10_code_5) rfl k) ?_
  refine OGoal.mp (S' := (T1.setTop (mkF m 7 #[.val (.ref a), .val (.int few), .val (.int most), .val (.int (4 : Int32)), .unset] [(.ref a), (.int (4 : Int32))]))) (fun _ k => XS.aloadN X2.here hx rfl (hb hby own_d_prog_19_method_10_code_6) rfl rfl k) ?_
  obtain ⟨T5, X6, e7, st8⟩ := getF X2 hx hZ hown (host := "") (Or.inl (hw _ (List.mem_of_getElem? (i := 39) rfl))) Via.refl e3 Fn (g := mkF m 7 #[.val (.ref a), .val (.int few), .val (.int most), .val (.int (4 : Int32)), .unset] [(.ref a), (.int (4 : Int32))]) rfl rfl (hb hby own_d_prog_19_method_10_code_7)
  refine OGoal.mp (S' := (T5.setTop (mkF m 10 #[.val (.ref a), .val (.int few), .val (.int most), .val (.int (4 : Int32)), .unset] [(.ref b), (.int (4 : Int32))]))) (fun _ k => st8 _ k) ?_
  refine oCallV (y := (⟨"java/lang/String", "length", "()I"⟩ : MethodName)) (z := (⟨"java/lang/String", "length", "()I"⟩ : MethodName)) X6 hx hZ hown (hw _ (List.mem_of_getElem? (i := 53) rfl)) (hw _ (List.mem_of_getElem? (i := 54) rfl)) (hw _ (List.mem_of_getElem? (i := 56) rfl)) (hw _ (List.mem_of_getElem? (i := 55) rfl)) (hw _ (List.mem_of_getElem? (i := 8) rfl)) (hw _ (List.mem_of_getElem? (i := 57) rfl)) (by decide) (rmLn l Z a0 hw b h0 n0 Z0 cs fm hcs hfm St f hS) e7 hS.exa [] [(.int (4 : Int32))] rfl rfl (by rw [hml]; rfl) (notFace_of_selects (args := #[]) (mvT hZ (hw _ (List.mem_of_getElem? (i := 56) rfl)))) (lenOf own_pd___I rfl) 1 (Nat.le_of_eq rfl) (by decide) (by decide) (by decide) (by decide) (hb hby own_d_prog_19_method_10_code_10) ?_
  intro v9 T10 L11 X12 q13
  obtain ⟨rfl, N14, e15⟩ := q13
  have N16 := Fr.app (Fr.nil n0) N14
  show OGoal p e below s _ _ _ (T10.setTop (mkF m 13 #[.val (.ref a), .val (.int few), .val (.int most), .val (.int (4 : Int32)), .unset] [(.int (4 : Int32)), (.int (4 : Int32))]))
  refine OGoal.mp (S' := (T10.setTop (mkF m 36 #[.val (.ref a), .val (.int few), .val (.int most), .val (.int (4 : Int32)), .unset] []))) (fun _ k => XS.icmpYes X12.here hx rfl (pc0 := 13) (pc' := 36) rfl (hb hby own_d_prog_19_method_10_code_13) rfl (XT.ii_ge_t (by decide)) (by decide) (by decide) k) ?_
  refine OGoal.mp (S' := (T10.setTop (mkF m 37 #[.val (.ref a), .val (.int few), .val (.int most), .val (.int (4 : Int32)), .unset] [(.int (4 : Int32))]))) (fun _ k => XS.iloadN X12.here hx rfl (hb hby own_d_prog_19_method_10_code_36) rfl k) ?_
  refine OGoal.mp (S' := (T10.setTop (mkF m 38 #[.val (.ref a), .val (.int few), .val (.int most), .val (.int (4 : Int32)), .unset] [(.ref a), (.int (4 : Int32))]))) (fun _ k => XS.aloadN X12.here hx rfl (hb hby own_d_prog_19_method_10_code_37) rfl rfl k) ?_
  obtain ⟨T17, X18, e19, st20⟩ := getF X12 hx hZ hown (host := "") (Or.inl (hw _ (List.mem_of_getElem? (i := 46) rfl))) Via.refl e15 Fa (g := mkF m 38 #[.val (.ref a), .val (.int few), .val (.int most), .val (.int (4 : Int32)), .unset] [(.ref a), (.int (4 : Int32))]) rfl rfl (hb hby own_d_prog_19_method_10_code_38)
  refine OGoal.mp (S' := (T17.setTop (mkF m 41 #[.val (.ref a), .val (.int few), .val (.int most), .val (.int (4 : Int32)), .unset] [(.int (4 : Int32)), (.int (4 : Int32))]))) (fun _ k => st20 _ k) ?_
  refine OGoal.mp (S' := (T17.setTop (mkF m 42 #[.val (.ref a), .val (.int few), .val (.int most), .val (.int (4 : Int32)), .unset] [(.int ((4 : Int32) - (4 : Int32)))]))) (fun _ k => XS.isub X18.here hx rfl (hb hby own_d_prog_19_method_10_code_41) rfl k) ?_
  rw [show ((4 : Int32) - (4 : Int32)) = (0 : Int32) by decide]
  show OGoal p e below s _ _ _ (T17.setTop (mkF m 42 #[.val (.ref a), .val (.int few), .val (.int most), .val (.int (4 : Int32)), .unset] [(.int (0 : Int32))]))
  refine OGoal.mp (S' := (T17.setTop (mkF m 43 #[.val (.ref a), .val (.int few), .val (.int most), .val (.int (4 : Int32)), .unset] [(.int few), (.int (0 : Int32))]))) (fun _ k => XS.iloadN X18.here hx rfl (hb hby own_d_prog_19_method_10_code_42) rfl k) ?_
  by_cases hc21 : (0 : Int32) < few
  · refine OGoal.mp (S' := (T17.setTop (mkF m 60 #[.val (.ref a), .val (.int few), .val (.int most), .val (.int (4 : Int32)), .unset] []))) (fun _ k => XS.icmpYes X18.here hx rfl (pc0 := 43) (pc' := 60) rfl (hb hby own_d_prog_19_method_10_code_43) rfl (XT.ii_lt_t hc21) (by decide) (by decide) k) ?_
    refine OGoal.mp (S' := (T17.setTop (mkF m 61 #[.val (.ref a), .val (.int few), .val (.int most), .val (.int (4 : Int32)), .unset] [(.int (0 : Int32))]))) (fun _ k => XS.iconst X18.here hx rfl (hb hby own_d_prog_19_method_10_code_60) k) ?_
    refine OGoal.mp (S' := (T17.setTop (mkF m 63 #[.val (.ref a), .val (.int few), .val (.int most), .val (.int (4 : Int32)), .val (.int (0 : Int32))] []))) (fun _ k => XS.istore X18.here hx rfl (hb hby own_d_prog_19_method_10_code_61) rfl (l' := #[.val (.ref a), .val (.int few), .val (.int most), .val (.int (4 : Int32)), .val (.int (0 : Int32))]) rfl k) ?_
    refine OGoal.mp (S' := (T17.setTop (mkF m 65 #[.val (.ref a), .val (.int few), .val (.int most), .val (.int (4 : Int32)), .val (.int (0 : Int32))] [(.int (0 : Int32))]))) (fun _ k => XS.iload X18.here hx rfl (hb hby own_d_prog_19_method_10_code_63) rfl k) ?_
    refine OGoal.mp (S' := (T17.setTop (mkF m 73 #[.val (.ref a), .val (.int few), .val (.int most), .val (.int (4 : Int32)), .val (.int (0 : Int32))] []))) (fun _ k => XS.ifYes X18.here hx rfl (pc0 := 65) (pc' := 73) rfl (hb hby own_d_prog_19_method_10_code_65) rfl (XT.i0_eq_t (by decide)) (by decide) (by decide) k) ?_
    refine OGoal.mp (S' := (T17.setTop (mkF m 75 #[.val (.ref a), .val (.int few), .val (.int most), .val (.int (4 : Int32)), .val (.int (0 : Int32))] [(.int (0 : Int32))]))) (fun _ k => XS.iload X18.here hx rfl (hb hby own_d_prog_19_method_10_code_73) rfl k) ?_
    refine oRetZ X18 hx hlk hret (Or.inl rfl) (hb hby own_d_prog_19_method_10_code_75) ?_ (by decide) (by decide)
    have hr : own_run f (4 - (4 : Int32).toInt.toNat) (4 : Int32).toInt.toNat = 0 := by
      show own_run f 0 4 = 0
      rfl
    have hs : own_res (Int32.ofNat 0) few most = (0 : Int32) := by show own_res (0 : Int32) few most = _; unfold own_res; rw [if_pos hc21]
    refine ⟨?_, N16, ?_, ?_⟩
    · rw [hr, hs]
    · rw [e19]; exact (Keep.refl h0 [a])
    · rw [hr, e19]; unfold own_at; rw [hs]; exact Fa
  · refine OGoal.mp (S' := (T17.setTop (mkF m 46 #[.val (.ref a), .val (.int few), .val (.int most), .val (.int (4 : Int32)), .unset] []))) (fun _ k => XS.icmpNo X18.here hx rfl (hb hby own_d_prog_19_method_10_code_43) rfl (XT.ii_lt_f hc21) k) ?_
    refine OGoal.mp (S' := (T17.setTop (mkF m 47 #[.val (.ref a), .val (.int few), .val (.int most), .val (.int (4 : Int32)), .unset] [(.int (4 : Int32))]))) (fun _ k => XS.iloadN X18.here hx rfl (hb hby own_d_prog_19_method_10_code_46) rfl k) ?_
    refine OGoal.mp (S' := (T17.setTop (mkF m 48 #[.val (.ref a), .val (.int few), .val (.int most), .val (.int (4 : Int32)), .unset] [(.ref a), (.int (4 : Int32))]))) (fun _ k => XS.aloadN X18.here hx rfl (hb hby own_d_prog_19_method_10_code_47) rfl rfl k) ?_
    obtain ⟨T22, X23, e24, st25⟩ := getF X18 hx hZ hown (host := "") (Or.inl (hw _ (List.mem_of_getElem? (i := 46) rfl))) Via.refl e19 Fa (g := mkF m 48 #[.val (.ref a), .val (.int few), .val (.int most), .val (.int (4 : Int32)), .unset] [(.ref a), (.int (4 : Int32))]) rfl rfl (hb hby own_d_prog_19_method_10_code_48)
    refine OGoal.mp (S' := (T22.setTop (mkF m 51 #[.val (.ref a), .val (.int few), .val (.int most), .val (.int (4 : Int32)), .unset] [(.int (4 : Int32)), (.int (4 : Int32))]))) (fun _ k => st25 _ k) ?_
    refine OGoal.mp (S' := (T22.setTop (mkF m 52 #[.val (.ref a), .val (.int few), .val (.int most), .val (.int (4 : Int32)), .unset] [(.int ((4 : Int32) - (4 : Int32)))]))) (fun _ k => XS.isub X23.here hx rfl (hb hby own_d_prog_19_method_10_code_51) rfl k) ?_
    rw [show ((4 : Int32) - (4 : Int32)) = (0 : Int32) by decide]
    show OGoal p e below s _ _ _ (T22.setTop (mkF m 52 #[.val (.ref a), .val (.int few), .val (.int most), .val (.int (4 : Int32)), .unset] [(.int (0 : Int32))]))
    refine OGoal.mp (S' := (T22.setTop (mkF m 53 #[.val (.ref a), .val (.int few), .val (.int most), .val (.int (4 : Int32)), .unset] [(.int most), (.int (0 : Int32))]))) (fun _ k => XS.iloadN X23.here hx rfl (hb hby own_d_prog_19_method_10_code_52) rfl k) ?_
    by_cases hc26 : most < (0 : Int32)
    · refine OGoal.mp (S' := (T22.setTop (mkF m 60 #[.val (.ref a), .val (.int few), .val (.int most), .val (.int (4 : Int32)), .unset] []))) (fun _ k => XS.icmpYes X23.here hx rfl (pc0 := 53) (pc' := 60) rfl (hb hby own_d_prog_19_method_10_code_53) rfl (XT.ii_gt_t hc26) (by decide) (by decide) k) ?_
      refine OGoal.mp (S' := (T22.setTop (mkF m 61 #[.val (.ref a), .val (.int few), .val (.int most), .val (.int (4 : Int32)), .unset] [(.int (0 : Int32))]))) (fun _ k => XS.iconst X23.here hx rfl (hb hby own_d_prog_19_method_10_code_60) k) ?_
      refine OGoal.mp (S' := (T22.setTop (mkF m 63 #[.val (.ref a), .val (.int few), .val (.int most), .val (.int (4 : Int32)), .val (.int (0 : Int32))] []))) (fun _ k => XS.istore X23.here hx rfl (hb hby own_d_prog_19_method_10_code_61) rfl (l' := #[.val (.ref a), .val (.int few), .val (.int most), .val (.int (4 : Int32)), .val (.int (0 : Int32))]) rfl k) ?_
      refine OGoal.mp (S' := (T22.setTop (mkF m 65 #[.val (.ref a), .val (.int few), .val (.int most), .val (.int (4 : Int32)), .val (.int (0 : Int32))] [(.int (0 : Int32))]))) (fun _ k => XS.iload X23.here hx rfl (hb hby own_d_prog_19_method_10_code_63) rfl k) ?_
      refine OGoal.mp (S' := (T22.setTop (mkF m 73 #[.val (.ref a), .val (.int few), .val (.int most), .val (.int (4 : Int32)), .val (.int (0 : Int32))] []))) (fun _ k => XS.ifYes X23.here hx rfl (pc0 := 65) (pc' := 73) rfl (hb hby own_d_prog_19_method_10_code_65) rfl (XT.i0_eq_t (by decide)) (by decide) (by decide) k) ?_
      refine OGoal.mp (S' := (T22.setTop (mkF m 75 #[.val (.ref a), .val (.int few), .val (.int most), .val (.int (4 : Int32)), .val (.int (0 : Int32))] [(.int (0 : Int32))]))) (fun _ k => XS.iload X23.here hx rfl (hb hby own_d_prog_19_method_10_code_73) rfl k) ?_
      refine oRetZ X23 hx hlk hret (Or.inl rfl) (hb hby own_d_prog_19_method_10_code_75) ?_ (by decide) (by decide)
      have hr : own_run f (4 - (4 : Int32).toInt.toNat) (4 : Int32).toInt.toNat = 0 := by
        show own_run f 0 4 = 0
        rfl
      have hs : own_res (Int32.ofNat 0) few most = (0 : Int32) := by show own_res (0 : Int32) few most = _; unfold own_res; rw [if_neg hc21, if_pos hc26]
      refine ⟨?_, N16, ?_, ?_⟩
      · rw [hr, hs]
      · rw [e24]; exact (Keep.refl h0 [a])
      · rw [hr, e24]; unfold own_at; rw [hs]; exact Fa
    · refine OGoal.mp (S' := (T22.setTop (mkF m 56 #[.val (.ref a), .val (.int few), .val (.int most), .val (.int (4 : Int32)), .unset] []))) (fun _ k => XS.icmpNo X23.here hx rfl (hb hby own_d_prog_19_method_10_code_53) rfl (XT.ii_gt_f hc26) k) ?_
      refine OGoal.mp (S' := (T22.setTop (mkF m 57 #[.val (.ref a), .val (.int few), .val (.int most), .val (.int (4 : Int32)), .unset] [(.int (1 : Int32))]))) (fun _ k => XS.iconst X23.here hx rfl (hb hby own_d_prog_19_method_10_code_56) k) ?_
      refine OGoal.mp (S' := (T22.setTop (mkF m 61 #[.val (.ref a), .val (.int few), .val (.int most), .val (.int (4 : Int32)), .unset] [(.int (1 : Int32))]))) (fun _ k => XS.goto X23.here hx rfl (pc0 := 57) (pc' := 61) rfl (hb hby own_d_prog_19_method_10_code_57) (by decide) (by decide) k) ?_
      refine OGoal.mp (S' := (T22.setTop (mkF m 63 #[.val (.ref a), .val (.int few), .val (.int most), .val (.int (4 : Int32)), .val (.int (1 : Int32))] []))) (fun _ k => XS.istore X23.here hx rfl (hb hby own_d_prog_19_method_10_code_61) rfl (l' := #[.val (.ref a), .val (.int few), .val (.int most), .val (.int (4 : Int32)), .val (.int (1 : Int32))]) rfl k) ?_
      refine OGoal.mp (S' := (T22.setTop (mkF m 65 #[.val (.ref a), .val (.int few), .val (.int most), .val (.int (4 : Int32)), .val (.int (1 : Int32))] [(.int (1 : Int32))]))) (fun _ k => XS.iload X23.here hx rfl (hb hby own_d_prog_19_method_10_code_63) rfl k) ?_
      refine OGoal.mp (S' := (T22.setTop (mkF m 68 #[.val (.ref a), .val (.int few), .val (.int most), .val (.int (4 : Int32)), .val (.int (1 : Int32))] []))) (fun _ k => XS.ifNo X23.here hx rfl (hb hby own_d_prog_19_method_10_code_65) rfl (XT.i0_eq_f (by decide)) k) ?_
      refine OGoal.mp (S' := (T22.setTop (mkF m 69 #[.val (.ref a), .val (.int few), .val (.int most), .val (.int (4 : Int32)), .val (.int (1 : Int32))] [(.ref a)]))) (fun _ k => XS.aloadN X23.here hx rfl (hb hby own_d_prog_19_method_10_code_68) rfl rfl k) ?_
      refine OGoal.mp (S' := (T22.setTop (mkF m 70 #[.val (.ref a), .val (.int few), .val (.int most), .val (.int (4 : Int32)), .val (.int (1 : Int32))] [(.int (4 : Int32)), (.ref a)]))) (fun _ k => XS.iloadN X23.here hx rfl (hb hby own_d_prog_19_method_10_code_69) rfl k) ?_
      obtain ⟨T27, h31, X28, e29, W32, st30⟩ := putF X23 hx hZ hown (host := "") (Or.inl (hw _ (List.mem_of_getElem? (i := 46) rfl))) Via.refl e24 Fa E (Or.inl (hw _ (List.mem_of_getElem? (i := 47) rfl))) (hw _ (List.mem_of_getElem? (i := 4) rfl)) (ty := .int) (by decide) rfl rfl (g := mkF m 70 #[.val (.ref a), .val (.int few), .val (.int most), .val (.int (4 : Int32)), .val (.int (1 : Int32))] [(.int (4 : Int32)), (.ref a)]) rfl rfl (hb hby own_d_prog_19_method_10_code_70)
      have N33 := Fr.snoc X28 N16 ab
      have Z34 : n0 ≤ h31.size := Nat.le_trans Z0 (Keep.of_wr W32).1
      have K35 : Keep h0 h31 [a] := (Keep.refl h0 [a]).wr W32 (Or.inl (by simp))
      have F36 := St.wr W32
      have F37 := E.wr W32
      have F38 := hS.exa.wr W32
      have F39 := Fn.other W32 (Or.inr (slot_ne (a0 := a0) (C := "com/example/deadlock_to_diagnosis/deadlocktodiagnosis/reader/LineScanner") (t := (.object "java/lang/String")) (t' := .int) (Or.inr (hw _ (List.mem_of_getElem? (i := 40) rfl))) (Or.inl (hw _ (List.mem_of_getElem? (i := 47) rfl))) (by decide) (by decide) (by decide)))
      have F40 := Fa.same W32
      refine OGoal.mp (S' := (T27.setTop (mkF m 73 #[.val (.ref a), .val (.int few), .val (.int most), .val (.int (4 : Int32)), .val (.int (1 : Int32))] []))) (fun _ k => st30 _ k) ?_
      refine OGoal.mp (S' := (T27.setTop (mkF m 75 #[.val (.ref a), .val (.int few), .val (.int most), .val (.int (4 : Int32)), .val (.int (1 : Int32))] [(.int (1 : Int32))]))) (fun _ k => XS.iload X28.here hx rfl (hb hby own_d_prog_19_method_10_code_73) rfl k) ?_
      refine oRetZ X28 hx hlk hret (Or.inr rfl) (hb hby own_d_prog_19_method_10_code_75) ?_ (by decide) (by decide)
      have hr : own_run f (4 - (4 : Int32).toInt.toNat) (4 : Int32).toInt.toNat = 0 := by
        show own_run f 0 4 = 0
        rfl
      have hs : own_res (Int32.ofNat 0) few most = (1 : Int32) := by show own_res (0 : Int32) few most = _; unfold own_res; rw [if_neg hc21, if_neg hc26]
      refine ⟨?_, N33, ?_, ?_⟩
      · rw [hr, hs]
      · rw [e29]; exact K35
      · rw [hr, e29]; unfold own_at; rw [hs]; exact F40
theorem own_5 (x : Int32) (h0 : 0 ≤ x.toInt) (h1 : x.toInt < 5) : x = 0 ∨ x = 1 ∨ x = 2 ∨ x = 3 ∨ x = 4 := by
  have e : ∀ k : Int32, x.toInt = k.toInt → x = k := fun k q => Int32.toInt_inj.mp q
  have l0 : (0 : Int32).toInt = 0 := by decide
  have l1 : (1 : Int32).toInt = 1 := by decide
  have l2 : (2 : Int32).toInt = 2 := by decide
  have l3 : (3 : Int32).toInt = 3 := by decide
  have l4 : (4 : Int32).toInt = 4 := by decide
  rcases (by omega : x.toInt = 0 ∨ x.toInt = 1 ∨ x.toInt = 2 ∨ x.toInt = 3 ∨ x.toInt = 4) with q | q | q | q | q
  · exact Or.inl (e _ (by omega))
  · exact Or.inr (Or.inl (e _ (by omega)))
  · exact Or.inr (Or.inr (Or.inl (e _ (by omega))))
  · exact Or.inr (Or.inr (Or.inr (Or.inl (e _ (by omega)))))
  · exact Or.inr (Or.inr (Or.inr (Or.inr (e _ (by omega)))))
set_option maxRecDepth 65536 in
set_option maxHeartbeats 40000000 in
theorem rmDg (l : Launch) (Z : State) (a0 : Array Value) (hw : ∀ d ∈ tables_1, d.before a0 Z = true) (a : Addr) (few most : Int32) (h0 : Heap) (n0 : Nat) (Z0 : n0 ≤ h0.size) (cs : Int32) (fm : Value) (hcs : ¬ cs = 0) (hfm : fm.isRef = true) (St : Stt Z h0 cs fm) (q : Int32) (hq0 : 0 ≤ q.toInt) (hq1 : q.toInt < 5) (b : Addr) (f : Nat → Int32) (hC : Ch f) (hS : Str4 Z h0 b f) (E : Exa Z h0 a "com/example/deadlock_to_diagnosis/deadlocktodiagnosis/reader/LineScanner") (Fn : Fld Z h0 a "com/example/deadlock_to_diagnosis/deadlocktodiagnosis/reader/LineScanner" "line" "Ljava/lang/String;" (.ref b)) (Fa : Fld Z h0 a "com/example/deadlock_to_diagnosis/deadlocktodiagnosis/reader/LineScanner" "at" "I" (.int q)) (ab : n0 ≤ a) :
    OCon l Z (⟨"com/example/deadlock_to_diagnosis/deadlocktodiagnosis/reader/LineScanner", "digits", "(II)Z"⟩ : MethodName) prog_19_method_10_code 5 (some .boolean) ({ frames := 8, cells := 0, slots := 0, locals := 150 } : Room) #[(.ref a), (.int few), (.int most)] h0 (Q_dg Z f a q few most h0 n0) := by
  rcases own_5 q hq0 hq1 with rfl | rfl | rfl | rfl | rfl
  · exact rmDg0 l Z a0 hw a few most h0 n0 Z0 cs fm hcs hfm St b f hC hS E Fn Fa ab
  · exact rmDg1 l Z a0 hw a few most h0 n0 Z0 cs fm hcs hfm St b f hC hS E Fn Fa ab
  · exact rmDg2 l Z a0 hw a few most h0 n0 Z0 cs fm hcs hfm St b f hC hS E Fn Fa ab
  · exact rmDg3 l Z a0 hw a few most h0 n0 Z0 cs fm hcs hfm St b f hC hS E Fn Fa ab
  · exact rmDg4 l Z a0 hw a few most h0 n0 Z0 cs fm hcs hfm St b f hC hS E Fn Fa ab
theorem own_d_method_4_code_0 : decode method_4_code 0 = .ok (.iload_n 1, 1) := by decide +kernel
theorem own_d_method_4_code_1 : decode method_4_code 1 = .ok (.iconst 3, 1) := by decide +kernel
theorem own_d_method_4_code_2 : decode method_4_code 2 = .ok (.if_icmp .gt 9, 3) := by decide +kernel
theorem own_d_method_4_code_5 : decode method_4_code 5 = .ok (.aload_n 0, 1) := by decide +kernel
theorem own_d_method_4_code_6 : decode method_4_code 6 = .ok (.iload_n 1, 1) := by decide +kernel
theorem own_d_method_4_code_7 : decode method_4_code 7 = .ok (.baload, 1) := by decide +kernel
theorem own_d_method_4_code_8 : decode method_4_code 8 = .ok (.ifCond .ne 5, 3) := by decide +kernel
theorem own_d_method_4_code_11 : decode method_4_code 11 = .ok (.iconst 0, 1) := by decide +kernel
theorem own_d_method_4_code_12 : decode method_4_code 12 = .ok (.ireturn, 1) := by decide +kernel
theorem own_d_method_4_code_13 : decode method_4_code 13 = .ok (.iload_n 1, 1) := by decide +kernel
theorem own_d_method_4_code_14 : decode method_4_code 14 = .ok (.iconst 1, 1) := by decide +kernel
theorem own_d_method_4_code_15 : decode method_4_code 15 = .ok (.iadd, 1) := by decide +kernel
theorem own_d_method_4_code_16 : decode method_4_code 16 = .ok (.iconst 3, 1) := by decide +kernel
theorem own_d_method_4_code_17 : decode method_4_code 17 = .ok (.if_icmp .gt 11, 3) := by decide +kernel
theorem own_d_method_4_code_20 : decode method_4_code 20 = .ok (.aload_n 0, 1) := by decide +kernel
theorem own_d_method_4_code_21 : decode method_4_code 21 = .ok (.iload_n 1, 1) := by decide +kernel
theorem own_d_method_4_code_22 : decode method_4_code 22 = .ok (.iconst 1, 1) := by decide +kernel
theorem own_d_method_4_code_23 : decode method_4_code 23 = .ok (.iadd, 1) := by decide +kernel
theorem own_d_method_4_code_24 : decode method_4_code 24 = .ok (.baload, 1) := by decide +kernel
theorem own_d_method_4_code_25 : decode method_4_code 25 = .ok (.ifCond .ne 5, 3) := by decide +kernel
theorem own_d_method_4_code_28 : decode method_4_code 28 = .ok (.iconst 1, 1) := by decide +kernel
theorem own_d_method_4_code_29 : decode method_4_code 29 = .ok (.ireturn, 1) := by decide +kernel
theorem own_d_method_4_code_30 : decode method_4_code 30 = .ok (.iload_n 1, 1) := by decide +kernel
theorem own_d_method_4_code_31 : decode method_4_code 31 = .ok (.iconst 2, 1) := by decide +kernel
theorem own_d_method_4_code_32 : decode method_4_code 32 = .ok (.iadd, 1) := by decide +kernel
theorem own_d_method_4_code_33 : decode method_4_code 33 = .ok (.iconst 3, 1) := by decide +kernel
theorem own_d_method_4_code_34 : decode method_4_code 34 = .ok (.if_icmp .gt 11, 3) := by decide +kernel
theorem own_d_method_4_code_37 : decode method_4_code 37 = .ok (.aload_n 0, 1) := by decide +kernel
theorem own_d_method_4_code_38 : decode method_4_code 38 = .ok (.iload_n 1, 1) := by decide +kernel
theorem own_d_method_4_code_39 : decode method_4_code 39 = .ok (.iconst 2, 1) := by decide +kernel
theorem own_d_method_4_code_40 : decode method_4_code 40 = .ok (.iadd, 1) := by decide +kernel
theorem own_d_method_4_code_41 : decode method_4_code 41 = .ok (.baload, 1) := by decide +kernel
theorem own_d_method_4_code_42 : decode method_4_code 42 = .ok (.ifCond .ne 5, 3) := by decide +kernel
theorem own_d_method_4_code_45 : decode method_4_code 45 = .ok (.iconst 2, 1) := by decide +kernel
theorem own_d_method_4_code_46 : decode method_4_code 46 = .ok (.ireturn, 1) := by decide +kernel
theorem own_d_method_4_code_47 : decode method_4_code 47 = .ok (.iload_n 1, 1) := by decide +kernel
theorem own_d_method_4_code_48 : decode method_4_code 48 = .ok (.iconst 3, 1) := by decide +kernel
theorem own_d_method_4_code_49 : decode method_4_code 49 = .ok (.iadd, 1) := by decide +kernel
theorem own_d_method_4_code_50 : decode method_4_code 50 = .ok (.iconst 3, 1) := by decide +kernel
theorem own_d_method_4_code_51 : decode method_4_code 51 = .ok (.if_icmp .gt 11, 3) := by decide +kernel
theorem own_d_method_4_code_54 : decode method_4_code 54 = .ok (.aload_n 0, 1) := by decide +kernel
theorem own_d_method_4_code_55 : decode method_4_code 55 = .ok (.iload_n 1, 1) := by decide +kernel
theorem own_d_method_4_code_56 : decode method_4_code 56 = .ok (.iconst 3, 1) := by decide +kernel
theorem own_d_method_4_code_57 : decode method_4_code 57 = .ok (.iadd, 1) := by decide +kernel
theorem own_d_method_4_code_58 : decode method_4_code 58 = .ok (.baload, 1) := by decide +kernel
theorem own_d_method_4_code_59 : decode method_4_code 59 = .ok (.ifCond .ne 5, 3) := by decide +kernel
theorem own_d_method_4_code_62 : decode method_4_code 62 = .ok (.iconst 3, 1) := by decide +kernel
theorem own_d_method_4_code_63 : decode method_4_code 63 = .ok (.ireturn, 1) := by decide +kernel
theorem own_d_method_4_code_64 : decode method_4_code 64 = .ok (.iconst 4, 1) := by decide +kernel
theorem own_d_method_4_code_65 : decode method_4_code 65 = .ok (.ireturn, 1) := by decide +kernel
theorem own_ef_rmRF0 (x0 : Addr) (x1 : Int32) (m : MethodId) : entryFrame m #[(.ref x0), (.int x1)] 2 = mkF m 0 #[.val (.ref x0), .val (.int x1)] [] := by first | (simp [entryFrame, mkF, argsToLocals, Value.category]; done) | rfl
set_option maxRecDepth 65536 in
set_option maxHeartbeats 40000000 in
theorem rmRF0 (l : Launch) (Z : State) (a0 : Array Value) (hw : ∀ d ∈ tables_1, d.before a0 Z = true) (d : Addr) (h0 : Heap) (n0 : Nat) (Z0 : n0 ≤ h0.size) (f : Nat → Int32) (A : OArr Z h0 d .boolean 4 (fun k => .int (own_dg (f k)))) :
    OCon l Z (⟨"com/example/deadlock_to_diagnosis/deadlocktodiagnosis/reader/LineScannerDigitsPinLaw", "runFrom", "([ZI)I"⟩ : MethodName) method_4_code 2 (some .int) ({ frames := 0, cells := 0, slots := 0, locals := 0 } : Room) #[(.ref d), (.int (0 : Int32))] h0 (fun v h L => v = some (.int (Int32.ofNat (own_run f (4 - (0 : Int32).toInt.toNat) (0 : Int32).toInt.toNat))) ∧ Fr n0 L ∧ h = h0) := by
  refine OConK.intro (y := (⟨"com/example/deadlock_to_diagnosis/deadlocktodiagnosis/reader/LineScannerDigitsPinLaw", "runFrom", "([ZI)I"⟩ : MethodName)) (plainFor_of_name own_pn_com_example_deadlock_to_diagnosis_deadlocktodiagnosis_reader_LineScannerDigitsPinLaw) (own_ef_rmRF0 d (0 : Int32)) ?_
  intro p e s m below meth c s₁ hx hby hml hown hnm hret hlk hZ X0 e0
  show OGoal p e below s _ _ _ (s₁.setTop (mkF m 0 #[.val (.ref d), .val (.int (0 : Int32))] []))
  refine OGoal.mp (S' := (s₁.setTop (mkF m 1 #[.val (.ref d), .val (.int (0 : Int32))] [(.int (0 : Int32))]))) (fun _ k => XS.iloadN X0.here hx rfl (hb hby own_d_method_4_code_0) rfl k) ?_
  refine OGoal.mp (S' := (s₁.setTop (mkF m 2 #[.val (.ref d), .val (.int (0 : Int32))] [(.int (3 : Int32)), (.int (0 : Int32))]))) (fun _ k => XS.iconst X0.here hx rfl (hb hby own_d_method_4_code_1) k) ?_
  refine OGoal.mp (S' := (s₁.setTop (mkF m 5 #[.val (.ref d), .val (.int (0 : Int32))] []))) (fun _ k => XS.icmpNo X0.here hx rfl (hb hby own_d_method_4_code_2) rfl (XT.ii_gt_f (by decide)) k) ?_
  refine OGoal.mp (S' := (s₁.setTop (mkF m 6 #[.val (.ref d), .val (.int (0 : Int32))] [(.ref d)]))) (fun _ k => XS.aloadN X0.here hx rfl (hb hby own_d_method_4_code_5) rfl rfl k) ?_
  refine OGoal.mp (S' := (s₁.setTop (mkF m 7 #[.val (.ref d), .val (.int (0 : Int32))] [(.int (0 : Int32)), (.ref d)]))) (fun _ k => XS.iloadN X0.here hx rfl (hb hby own_d_method_4_code_6) rfl k) ?_
  refine OGoal.mp (S' := (s₁.setTop (mkF m 8 #[.val (.ref d), .val (.int (0 : Int32))] [(.int (own_dg (f 0)))]))) (fun _ k => oLdZ X0 hx hZ e0 A (by decide) (by decide) rfl (g := mkF m 7 #[.val (.ref d), .val (.int (0 : Int32))] [(.int (0 : Int32)), (.ref d)]) rfl rfl (hb hby own_d_method_4_code_7) k) ?_
  by_cases hc1 : (own_dg (f 0)) = 0
  · refine OGoal.mp (S' := (s₁.setTop (mkF m 11 #[.val (.ref d), .val (.int (0 : Int32))] []))) (fun _ k => XS.ifNo X0.here hx rfl (hb hby own_d_method_4_code_8) rfl (XT.i0_ne_f hc1) k) ?_
    refine OGoal.mp (S' := (s₁.setTop (mkF m 12 #[.val (.ref d), .val (.int (0 : Int32))] [(.int (0 : Int32))]))) (fun _ k => XS.iconst X0.here hx rfl (hb hby own_d_method_4_code_11) k) ?_
    refine oRetI X0 hx hlk hret (hb hby own_d_method_4_code_12) ?_ (by decide) (by decide)
    have hr : own_run f (4 - (0 : Int32).toInt.toNat) (0 : Int32).toInt.toNat = 0 := by
      show own_run f 4 0 = 0
      have e0 : own_run f 4 0 = 0 := if_pos hc1
      rw [e0]
    exact ⟨by rw [hr]; rfl, (Fr.nil n0), e0⟩
  · refine OGoal.mp (S' := (s₁.setTop (mkF m 13 #[.val (.ref d), .val (.int (0 : Int32))] []))) (fun _ k => XS.ifYes X0.here hx rfl (pc0 := 8) (pc' := 13) rfl (hb hby own_d_method_4_code_8) rfl (XT.i0_ne_t hc1) (by decide) (by decide) k) ?_
    refine OGoal.mp (S' := (s₁.setTop (mkF m 14 #[.val (.ref d), .val (.int (0 : Int32))] [(.int (0 : Int32))]))) (fun _ k => XS.iloadN X0.here hx rfl (hb hby own_d_method_4_code_13) rfl k) ?_
    refine OGoal.mp (S' := (s₁.setTop (mkF m 15 #[.val (.ref d), .val (.int (0 : Int32))] [(.int (1 : Int32)), (.int (0 : Int32))]))) (fun _ k => XS.iconst X0.here hx rfl (hb hby own_d_method_4_code_14) k) ?_
    refine OGoal.mp (S' := (s₁.setTop (mkF m 16 #[.val (.ref d), .val (.int (0 : Int32))] [(.int ((0 : Int32) + (1 : Int32)))]))) (fun _ k => XS.iadd X0.here hx rfl (hb hby own_d_method_4_code_15) rfl k) ?_
    rw [show ((0 : Int32) + (1 : Int32)) = (1 : Int32) by decide]
    show OGoal p e below s _ _ _ (s₁.setTop (mkF m 16 #[.val (.ref d), .val (.int (0 : Int32))] [(.int (1 : Int32))]))
    refine OGoal.mp (S' := (s₁.setTop (mkF m 17 #[.val (.ref d), .val (.int (0 : Int32))] [(.int (3 : Int32)), (.int (1 : Int32))]))) (fun _ k => XS.iconst X0.here hx rfl (hb hby own_d_method_4_code_16) k) ?_
    refine OGoal.mp (S' := (s₁.setTop (mkF m 20 #[.val (.ref d), .val (.int (0 : Int32))] []))) (fun _ k => XS.icmpNo X0.here hx rfl (hb hby own_d_method_4_code_17) rfl (XT.ii_gt_f (by decide)) k) ?_
    refine OGoal.mp (S' := (s₁.setTop (mkF m 21 #[.val (.ref d), .val (.int (0 : Int32))] [(.ref d)]))) (fun _ k => XS.aloadN X0.here hx rfl (hb hby own_d_method_4_code_20) rfl rfl k) ?_
    refine OGoal.mp (S' := (s₁.setTop (mkF m 22 #[.val (.ref d), .val (.int (0 : Int32))] [(.int (0 : Int32)), (.ref d)]))) (fun _ k => XS.iloadN X0.here hx rfl (hb hby own_d_method_4_code_21) rfl k) ?_
    refine OGoal.mp (S' := (s₁.setTop (mkF m 23 #[.val (.ref d), .val (.int (0 : Int32))] [(.int (1 : Int32)), (.int (0 : Int32)), (.ref d)]))) (fun _ k => XS.iconst X0.here hx rfl (hb hby own_d_method_4_code_22) k) ?_
    refine OGoal.mp (S' := (s₁.setTop (mkF m 24 #[.val (.ref d), .val (.int (0 : Int32))] [(.int ((0 : Int32) + (1 : Int32))), (.ref d)]))) (fun _ k => XS.iadd X0.here hx rfl (hb hby own_d_method_4_code_23) rfl k) ?_
    rw [show ((0 : Int32) + (1 : Int32)) = (1 : Int32) by decide]
    show OGoal p e below s _ _ _ (s₁.setTop (mkF m 24 #[.val (.ref d), .val (.int (0 : Int32))] [(.int (1 : Int32)), (.ref d)]))
    refine OGoal.mp (S' := (s₁.setTop (mkF m 25 #[.val (.ref d), .val (.int (0 : Int32))] [(.int (own_dg (f 1)))]))) (fun _ k => oLdZ X0 hx hZ e0 A (by decide) (by decide) rfl (g := mkF m 24 #[.val (.ref d), .val (.int (0 : Int32))] [(.int (1 : Int32)), (.ref d)]) rfl rfl (hb hby own_d_method_4_code_24) k) ?_
    by_cases hc2 : (own_dg (f 1)) = 0
    · refine OGoal.mp (S' := (s₁.setTop (mkF m 28 #[.val (.ref d), .val (.int (0 : Int32))] []))) (fun _ k => XS.ifNo X0.here hx rfl (hb hby own_d_method_4_code_25) rfl (XT.i0_ne_f hc2) k) ?_
      refine OGoal.mp (S' := (s₁.setTop (mkF m 29 #[.val (.ref d), .val (.int (0 : Int32))] [(.int (1 : Int32))]))) (fun _ k => XS.iconst X0.here hx rfl (hb hby own_d_method_4_code_28) k) ?_
      refine oRetI X0 hx hlk hret (hb hby own_d_method_4_code_29) ?_ (by decide) (by decide)
      have hr : own_run f (4 - (0 : Int32).toInt.toNat) (0 : Int32).toInt.toNat = 1 := by
        show own_run f 4 0 = 1
        have e0 : own_run f 4 0 = own_run f 3 1 + 1 := if_neg hc1
        have e1 : own_run f 3 1 = 0 := if_pos hc2
        rw [e0, e1]
      exact ⟨by rw [hr]; rfl, (Fr.nil n0), e0⟩
    · refine OGoal.mp (S' := (s₁.setTop (mkF m 30 #[.val (.ref d), .val (.int (0 : Int32))] []))) (fun _ k => XS.ifYes X0.here hx rfl (pc0 := 25) (pc' := 30) rfl (hb hby own_d_method_4_code_25) rfl (XT.i0_ne_t hc2) (by decide) (by decide) k) ?_
      refine OGoal.mp (S' := (s₁.setTop (mkF m 31 #[.val (.ref d), .val (.int (0 : Int32))] [(.int (0 : Int32))]))) (fun _ k => XS.iloadN X0.here hx rfl (hb hby own_d_method_4_code_30) rfl k) ?_
      refine OGoal.mp (S' := (s₁.setTop (mkF m 32 #[.val (.ref d), .val (.int (0 : Int32))] [(.int (2 : Int32)), (.int (0 : Int32))]))) (fun _ k => XS.iconst X0.here hx rfl (hb hby own_d_method_4_code_31) k) ?_
      refine OGoal.mp (S' := (s₁.setTop (mkF m 33 #[.val (.ref d), .val (.int (0 : Int32))] [(.int ((0 : Int32) + (2 : Int32)))]))) (fun _ k => XS.iadd X0.here hx rfl (hb hby own_d_method_4_code_32) rfl k) ?_
      rw [show ((0 : Int32) + (2 : Int32)) = (2 : Int32) by decide]
      show OGoal p e below s _ _ _ (s₁.setTop (mkF m 33 #[.val (.ref d), .val (.int (0 : Int32))] [(.int (2 : Int32))]))
      refine OGoal.mp (S' := (s₁.setTop (mkF m 34 #[.val (.ref d), .val (.int (0 : Int32))] [(.int (3 : Int32)), (.int (2 : Int32))]))) (fun _ k => XS.iconst X0.here hx rfl (hb hby own_d_method_4_code_33) k) ?_
      refine OGoal.mp (S' := (s₁.setTop (mkF m 37 #[.val (.ref d), .val (.int (0 : Int32))] []))) (fun _ k => XS.icmpNo X0.here hx rfl (hb hby own_d_method_4_code_34) rfl (XT.ii_gt_f (by decide)) k) ?_
      refine OGoal.mp (S' := (s₁.setTop (mkF m 38 #[.val (.ref d), .val (.int (0 : Int32))] [(.ref d)]))) (fun _ k => XS.aloadN X0.here hx rfl (hb hby own_d_method_4_code_37) rfl rfl k) ?_
      refine OGoal.mp (S' := (s₁.setTop (mkF m 39 #[.val (.ref d), .val (.int (0 : Int32))] [(.int (0 : Int32)), (.ref d)]))) (fun _ k => XS.iloadN X0.here hx rfl (hb hby own_d_method_4_code_38) rfl k) ?_
      refine OGoal.mp (S' := (s₁.setTop (mkF m 40 #[.val (.ref d), .val (.int (0 : Int32))] [(.int (2 : Int32)), (.int (0 : Int32)), (.ref d)]))) (fun _ k => XS.iconst X0.here hx rfl (hb hby own_d_method_4_code_39) k) ?_
      refine OGoal.mp (S' := (s₁.setTop (mkF m 41 #[.val (.ref d), .val (.int (0 : Int32))] [(.int ((0 : Int32) + (2 : Int32))), (.ref d)]))) (fun _ k => XS.iadd X0.here hx rfl (hb hby own_d_method_4_code_40) rfl k) ?_
      rw [show ((0 : Int32) + (2 : Int32)) = (2 : Int32) by decide]
      show OGoal p e below s _ _ _ (s₁.setTop (mkF m 41 #[.val (.ref d), .val (.int (0 : Int32))] [(.int (2 : Int32)), (.ref d)]))
      refine OGoal.mp (S' := (s₁.setTop (mkF m 42 #[.val (.ref d), .val (.int (0 : Int32))] [(.int (own_dg (f 2)))]))) (fun _ k => oLdZ X0 hx hZ e0 A (by decide) (by decide) rfl (g := mkF m 41 #[.val (.ref d), .val (.int (0 : Int32))] [(.int (2 : Int32)), (.ref d)]) rfl rfl (hb hby own_d_method_4_code_41) k) ?_
      by_cases hc3 : (own_dg (f 2)) = 0
      · refine OGoal.mp (S' := (s₁.setTop (mkF m 45 #[.val (.ref d), .val (.int (0 : Int32))] []))) (fun _ k => XS.ifNo X0.here hx rfl (hb hby own_d_method_4_code_42) rfl (XT.i0_ne_f hc3) k) ?_
        refine OGoal.mp (S' := (s₁.setTop (mkF m 46 #[.val (.ref d), .val (.int (0 : Int32))] [(.int (2 : Int32))]))) (fun _ k => XS.iconst X0.here hx rfl (hb hby own_d_method_4_code_45) k) ?_
        refine oRetI X0 hx hlk hret (hb hby own_d_method_4_code_46) ?_ (by decide) (by decide)
        have hr : own_run f (4 - (0 : Int32).toInt.toNat) (0 : Int32).toInt.toNat = 2 := by
          show own_run f 4 0 = 2
          have e0 : own_run f 4 0 = own_run f 3 1 + 1 := if_neg hc1
          have e1 : own_run f 3 1 = own_run f 2 2 + 1 := if_neg hc2
          have e2 : own_run f 2 2 = 0 := if_pos hc3
          rw [e0, e1, e2]
        exact ⟨by rw [hr]; rfl, (Fr.nil n0), e0⟩
      · refine OGoal.mp (S' := (s₁.setTop (mkF m 47 #[.val (.ref d), .val (.int (0 : Int32))] []))) (fun _ k => XS.ifYes X0.here hx rfl (pc0 := 42) (pc' := 47) rfl (hb hby own_d_method_4_code_42) rfl (XT.i0_ne_t hc3) (by decide) (by decide) k) ?_
        refine OGoal.mp (S' := (s₁.setTop (mkF m 48 #[.val (.ref d), .val (.int (0 : Int32))] [(.int (0 : Int32))]))) (fun _ k => XS.iloadN X0.here hx rfl (hb hby own_d_method_4_code_47) rfl k) ?_
        refine OGoal.mp (S' := (s₁.setTop (mkF m 49 #[.val (.ref d), .val (.int (0 : Int32))] [(.int (3 : Int32)), (.int (0 : Int32))]))) (fun _ k => XS.iconst X0.here hx rfl (hb hby own_d_method_4_code_48) k) ?_
        refine OGoal.mp (S' := (s₁.setTop (mkF m 50 #[.val (.ref d), .val (.int (0 : Int32))] [(.int ((0 : Int32) + (3 : Int32)))]))) (fun _ k => XS.iadd X0.here hx rfl (hb hby own_d_method_4_code_49) rfl k) ?_
        rw [show ((0 : Int32) + (3 : Int32)) = (3 : Int32) by decide]
        show OGoal p e below s _ _ _ (s₁.setTop (mkF m 50 #[.val (.ref d), .val (.int (0 : Int32))] [(.int (3 : Int32))]))
        refine OGoal.mp (S' := (s₁.setTop (mkF m 51 #[.val (.ref d), .val (.int (0 : Int32))] [(.int (3 : Int32)), (.int (3 : Int32))]))) (fun _ k => XS.iconst X0.here hx rfl (hb hby own_d_method_4_code_50) k) ?_
        refine OGoal.mp (S' := (s₁.setTop (mkF m 54 #[.val (.ref d), .val (.int (0 : Int32))] []))) (fun _ k => XS.icmpNo X0.here hx rfl (hb hby own_d_method_4_code_51) rfl (XT.ii_gt_f (by decide)) k) ?_
        refine OGoal.mp (S' := (s₁.setTop (mkF m 55 #[.val (.ref d), .val (.int (0 : Int32))] [(.ref d)]))) (fun _ k => XS.aloadN X0.here hx rfl (hb hby own_d_method_4_code_54) rfl rfl k) ?_
        refine OGoal.mp (S' := (s₁.setTop (mkF m 56 #[.val (.ref d), .val (.int (0 : Int32))] [(.int (0 : Int32)), (.ref d)]))) (fun _ k => XS.iloadN X0.here hx rfl (hb hby own_d_method_4_code_55) rfl k) ?_
        refine OGoal.mp (S' := (s₁.setTop (mkF m 57 #[.val (.ref d), .val (.int (0 : Int32))] [(.int (3 : Int32)), (.int (0 : Int32)), (.ref d)]))) (fun _ k => XS.iconst X0.here hx rfl (hb hby own_d_method_4_code_56) k) ?_
        refine OGoal.mp (S' := (s₁.setTop (mkF m 58 #[.val (.ref d), .val (.int (0 : Int32))] [(.int ((0 : Int32) + (3 : Int32))), (.ref d)]))) (fun _ k => XS.iadd X0.here hx rfl (hb hby own_d_method_4_code_57) rfl k) ?_
        rw [show ((0 : Int32) + (3 : Int32)) = (3 : Int32) by decide]
        show OGoal p e below s _ _ _ (s₁.setTop (mkF m 58 #[.val (.ref d), .val (.int (0 : Int32))] [(.int (3 : Int32)), (.ref d)]))
        refine OGoal.mp (S' := (s₁.setTop (mkF m 59 #[.val (.ref d), .val (.int (0 : Int32))] [(.int (own_dg (f 3)))]))) (fun _ k => oLdZ X0 hx hZ e0 A (by decide) (by decide) rfl (g := mkF m 58 #[.val (.ref d), .val (.int (0 : Int32))] [(.int (3 : Int32)), (.ref d)]) rfl rfl (hb hby own_d_method_4_code_58) k) ?_
        by_cases hc4 : (own_dg (f 3)) = 0
        · refine OGoal.mp (S' := (s₁.setTop (mkF m 62 #[.val (.ref d), .val (.int (0 : Int32))] []))) (fun _ k => XS.ifNo X0.here hx rfl (hb hby own_d_method_4_code_59) rfl (XT.i0_ne_f hc4) k) ?_
          refine OGoal.mp (S' := (s₁.setTop (mkF m 63 #[.val (.ref d), .val (.int (0 : Int32))] [(.int (3 : Int32))]))) (fun _ k => XS.iconst X0.here hx rfl (hb hby own_d_method_4_code_62) k) ?_
          refine oRetI X0 hx hlk hret (hb hby own_d_method_4_code_63) ?_ (by decide) (by decide)
          have hr : own_run f (4 - (0 : Int32).toInt.toNat) (0 : Int32).toInt.toNat = 3 := by
            show own_run f 4 0 = 3
            have e0 : own_run f 4 0 = own_run f 3 1 + 1 := if_neg hc1
            have e1 : own_run f 3 1 = own_run f 2 2 + 1 := if_neg hc2
            have e2 : own_run f 2 2 = own_run f 1 3 + 1 := if_neg hc3
            have e3 : own_run f 1 3 = 0 := if_pos hc4
            rw [e0, e1, e2, e3]
          exact ⟨by rw [hr]; rfl, (Fr.nil n0), e0⟩
        · refine OGoal.mp (S' := (s₁.setTop (mkF m 64 #[.val (.ref d), .val (.int (0 : Int32))] []))) (fun _ k => XS.ifYes X0.here hx rfl (pc0 := 59) (pc' := 64) rfl (hb hby own_d_method_4_code_59) rfl (XT.i0_ne_t hc4) (by decide) (by decide) k) ?_
          refine OGoal.mp (S' := (s₁.setTop (mkF m 65 #[.val (.ref d), .val (.int (0 : Int32))] [(.int (4 : Int32))]))) (fun _ k => XS.iconst X0.here hx rfl (hb hby own_d_method_4_code_64) k) ?_
          refine oRetI X0 hx hlk hret (hb hby own_d_method_4_code_65) ?_ (by decide) (by decide)
          have hr : own_run f (4 - (0 : Int32).toInt.toNat) (0 : Int32).toInt.toNat = 4 := by
            show own_run f 4 0 = 4
            have e0 : own_run f 4 0 = own_run f 3 1 + 1 := if_neg hc1
            have e1 : own_run f 3 1 = own_run f 2 2 + 1 := if_neg hc2
            have e2 : own_run f 2 2 = own_run f 1 3 + 1 := if_neg hc3
            have e3 : own_run f 1 3 = own_run f 0 4 + 1 := if_neg hc4
            rw [e0, e1, e2, e3]
            first | done | rfl
          exact ⟨by rw [hr]; rfl, (Fr.nil n0), e0⟩
theorem own_ef_rmRF1 (x0 : Addr) (x1 : Int32) (m : MethodId) : entryFrame m #[(.ref x0), (.int x1)] 2 = mkF m 0 #[.val (.ref x0), .val (.int x1)] [] := by first | (simp [entryFrame, mkF, argsToLocals, Value.category]; done) | rfl
set_option maxRecDepth 65536 in
set_option maxHeartbeats 40000000 in
theorem rmRF1 (l : Launch) (Z : State) (a0 : Array Value) (hw : ∀ d ∈ tables_1, d.before a0 Z = true) (d : Addr) (h0 : Heap) (n0 : Nat) (Z0 : n0 ≤ h0.size) (f : Nat → Int32) (A : OArr Z h0 d .boolean 4 (fun k => .int (own_dg (f k)))) :
    OCon l Z (⟨"com/example/deadlock_to_diagnosis/deadlocktodiagnosis/reader/LineScannerDigitsPinLaw", "runFrom", "([ZI)I"⟩ : MethodName) method_4_code 2 (some .int) ({ frames := 0, cells := 0, slots := 0, locals := 0 } : Room) #[(.ref d), (.int (1 : Int32))] h0 (fun v h L => v = some (.int (Int32.ofNat (own_run f (4 - (1 : Int32).toInt.toNat) (1 : Int32).toInt.toNat))) ∧ Fr n0 L ∧ h = h0) := by
  refine OConK.intro (y := (⟨"com/example/deadlock_to_diagnosis/deadlocktodiagnosis/reader/LineScannerDigitsPinLaw", "runFrom", "([ZI)I"⟩ : MethodName)) (plainFor_of_name own_pn_com_example_deadlock_to_diagnosis_deadlocktodiagnosis_reader_LineScannerDigitsPinLaw) (own_ef_rmRF1 d (1 : Int32)) ?_
  intro p e s m below meth c s₁ hx hby hml hown hnm hret hlk hZ X0 e0
  show OGoal p e below s _ _ _ (s₁.setTop (mkF m 0 #[.val (.ref d), .val (.int (1 : Int32))] []))
  refine OGoal.mp (S' := (s₁.setTop (mkF m 1 #[.val (.ref d), .val (.int (1 : Int32))] [(.int (1 : Int32))]))) (fun _ k => XS.iloadN X0.here hx rfl (hb hby own_d_method_4_code_0) rfl k) ?_
  refine OGoal.mp (S' := (s₁.setTop (mkF m 2 #[.val (.ref d), .val (.int (1 : Int32))] [(.int (3 : Int32)), (.int (1 : Int32))]))) (fun _ k => XS.iconst X0.here hx rfl (hb hby own_d_method_4_code_1) k) ?_
  refine OGoal.mp (S' := (s₁.setTop (mkF m 5 #[.val (.ref d), .val (.int (1 : Int32))] []))) (fun _ k => XS.icmpNo X0.here hx rfl (hb hby own_d_method_4_code_2) rfl (XT.ii_gt_f (by decide)) k) ?_
  refine OGoal.mp (S' := (s₁.setTop (mkF m 6 #[.val (.ref d), .val (.int (1 : Int32))] [(.ref d)]))) (fun _ k => XS.aloadN X0.here hx rfl (hb hby own_d_method_4_code_5) rfl rfl k) ?_
  refine OGoal.mp (S' := (s₁.setTop (mkF m 7 #[.val (.ref d), .val (.int (1 : Int32))] [(.int (1 : Int32)), (.ref d)]))) (fun _ k => XS.iloadN X0.here hx rfl (hb hby own_d_method_4_code_6) rfl k) ?_
  refine OGoal.mp (S' := (s₁.setTop (mkF m 8 #[.val (.ref d), .val (.int (1 : Int32))] [(.int (own_dg (f 1)))]))) (fun _ k => oLdZ X0 hx hZ e0 A (by decide) (by decide) rfl (g := mkF m 7 #[.val (.ref d), .val (.int (1 : Int32))] [(.int (1 : Int32)), (.ref d)]) rfl rfl (hb hby own_d_method_4_code_7) k) ?_
  by_cases hc1 : (own_dg (f 1)) = 0
  · refine OGoal.mp (S' := (s₁.setTop (mkF m 11 #[.val (.ref d), .val (.int (1 : Int32))] []))) (fun _ k => XS.ifNo X0.here hx rfl (hb hby own_d_method_4_code_8) rfl (XT.i0_ne_f hc1) k) ?_
    refine OGoal.mp (S' := (s₁.setTop (mkF m 12 #[.val (.ref d), .val (.int (1 : Int32))] [(.int (0 : Int32))]))) (fun _ k => XS.iconst X0.here hx rfl (hb hby own_d_method_4_code_11) k) ?_
    refine oRetI X0 hx hlk hret (hb hby own_d_method_4_code_12) ?_ (by decide) (by decide)
    have hr : own_run f (4 - (1 : Int32).toInt.toNat) (1 : Int32).toInt.toNat = 0 := by
      show own_run f 3 1 = 0
      have e0 : own_run f 3 1 = 0 := if_pos hc1
      rw [e0]
    exact ⟨by rw [hr]; rfl, (Fr.nil n0), e0⟩
  · refine OGoal.mp (S' := (s₁.setTop (mkF m 13 #[.val (.ref d), .val (.int (1 : Int32))] []))) (fun _ k => XS.ifYes X0.here hx rfl (pc0 := 8) (pc' := 13) rfl (hb hby own_d_method_4_code_8) rfl (XT.i0_ne_t hc1) (by decide) (by decide) k) ?_
    refine OGoal.mp (S' := (s₁.setTop (mkF m 14 #[.val (.ref d), .val (.int (1 : Int32))] [(.int (1 : Int32))]))) (fun _ k => XS.iloadN X0.here hx rfl (hb hby own_d_method_4_code_13) rfl k) ?_
    refine OGoal.mp (S' := (s₁.setTop (mkF m 15 #[.val (.ref d), .val (.int (1 : Int32))] [(.int (1 : Int32)), (.int (1 : Int32))]))) (fun _ k => XS.iconst X0.here hx rfl (hb hby own_d_method_4_code_14) k) ?_
    refine OGoal.mp (S' := (s₁.setTop (mkF m 16 #[.val (.ref d), .val (.int (1 : Int32))] [(.int ((1 : Int32) + (1 : Int32)))]))) (fun _ k => XS.iadd X0.here hx rfl (hb hby own_d_method_4_code_15) rfl k) ?_
    rw [show ((1 : Int32) + (1 : Int32)) = (2 : Int32) by decide]
    show OGoal p e below s _ _ _ (s₁.setTop (mkF m 16 #[.val (.ref d), .val (.int (1 : Int32))] [(.int (2 : Int32))]))
    refine OGoal.mp (S' := (s₁.setTop (mkF m 17 #[.val (.ref d), .val (.int (1 : Int32))] [(.int (3 : Int32)), (.int (2 : Int32))]))) (fun _ k => XS.iconst X0.here hx rfl (hb hby own_d_method_4_code_16) k) ?_
    refine OGoal.mp (S' := (s₁.setTop (mkF m 20 #[.val (.ref d), .val (.int (1 : Int32))] []))) (fun _ k => XS.icmpNo X0.here hx rfl (hb hby own_d_method_4_code_17) rfl (XT.ii_gt_f (by decide)) k) ?_
    refine OGoal.mp (S' := (s₁.setTop (mkF m 21 #[.val (.ref d), .val (.int (1 : Int32))] [(.ref d)]))) (fun _ k => XS.aloadN X0.here hx rfl (hb hby own_d_method_4_code_20) rfl rfl k) ?_
    refine OGoal.mp (S' := (s₁.setTop (mkF m 22 #[.val (.ref d), .val (.int (1 : Int32))] [(.int (1 : Int32)), (.ref d)]))) (fun _ k => XS.iloadN X0.here hx rfl (hb hby own_d_method_4_code_21) rfl k) ?_
    refine OGoal.mp (S' := (s₁.setTop (mkF m 23 #[.val (.ref d), .val (.int (1 : Int32))] [(.int (1 : Int32)), (.int (1 : Int32)), (.ref d)]))) (fun _ k => XS.iconst X0.here hx rfl (hb hby own_d_method_4_code_22) k) ?_
    refine OGoal.mp (S' := (s₁.setTop (mkF m 24 #[.val (.ref d), .val (.int (1 : Int32))] [(.int ((1 : Int32) + (1 : Int32))), (.ref d)]))) (fun _ k => XS.iadd X0.here hx rfl (hb hby own_d_method_4_code_23) rfl k) ?_
    rw [show ((1 : Int32) + (1 : Int32)) = (2 : Int32) by decide]
    show OGoal p e below s _ _ _ (s₁.setTop (mkF m 24 #[.val (.ref d), .val (.int (1 : Int32))] [(.int (2 : Int32)), (.ref d)]))
    refine OGoal.mp (S' := (s₁.setTop (mkF m 25 #[.val (.ref d), .val (.int (1 : Int32))] [(.int (own_dg (f 2)))]))) (fun _ k => oLdZ X0 hx hZ e0 A (by decide) (by decide) rfl (g := mkF m 24 #[.val (.ref d), .val (.int (1 : Int32))] [(.int (2 : Int32)), (.ref d)]) rfl rfl (hb hby own_d_method_4_code_24) k) ?_
    by_cases hc2 : (own_dg (f 2)) = 0
    · refine OGoal.mp (S' := (s₁.setTop (mkF m 28 #[.val (.ref d), .val (.int (1 : Int32))] []))) (fun _ k => XS.ifNo X0.here hx rfl (hb hby own_d_method_4_code_25) rfl (XT.i0_ne_f hc2) k) ?_
      refine OGoal.mp (S' := (s₁.setTop (mkF m 29 #[.val (.ref d), .val (.int (1 : Int32))] [(.int (1 : Int32))]))) (fun _ k => XS.iconst X0.here hx rfl (hb hby own_d_method_4_code_28) k) ?_
      refine oRetI X0 hx hlk hret (hb hby own_d_method_4_code_29) ?_ (by decide) (by decide)
      have hr : own_run f (4 - (1 : Int32).toInt.toNat) (1 : Int32).toInt.toNat = 1 := by
        show own_run f 3 1 = 1
        have e0 : own_run f 3 1 = own_run f 2 2 + 1 := if_neg hc1
        have e1 : own_run f 2 2 = 0 := if_pos hc2
        rw [e0, e1]
      exact ⟨by rw [hr]; rfl, (Fr.nil n0), e0⟩
    · refine OGoal.mp (S' := (s₁.setTop (mkF m 30 #[.val (.ref d), .val (.int (1 : Int32))] []))) (fun _ k => XS.ifYes X0.here hx rfl (pc0 := 25) (pc' := 30) rfl (hb hby own_d_method_4_code_25) rfl (XT.i0_ne_t hc2) (by decide) (by decide) k) ?_
      refine OGoal.mp (S' := (s₁.setTop (mkF m 31 #[.val (.ref d), .val (.int (1 : Int32))] [(.int (1 : Int32))]))) (fun _ k => XS.iloadN X0.here hx rfl (hb hby own_d_method_4_code_30) rfl k) ?_
      refine OGoal.mp (S' := (s₁.setTop (mkF m 32 #[.val (.ref d), .val (.int (1 : Int32))] [(.int (2 : Int32)), (.int (1 : Int32))]))) (fun _ k => XS.iconst X0.here hx rfl (hb hby own_d_method_4_code_31) k) ?_
      refine OGoal.mp (S' := (s₁.setTop (mkF m 33 #[.val (.ref d), .val (.int (1 : Int32))] [(.int ((1 : Int32) + (2 : Int32)))]))) (fun _ k => XS.iadd X0.here hx rfl (hb hby own_d_method_4_code_32) rfl k) ?_
      rw [show ((1 : Int32) + (2 : Int32)) = (3 : Int32) by decide]
      show OGoal p e below s _ _ _ (s₁.setTop (mkF m 33 #[.val (.ref d), .val (.int (1 : Int32))] [(.int (3 : Int32))]))
      refine OGoal.mp (S' := (s₁.setTop (mkF m 34 #[.val (.ref d), .val (.int (1 : Int32))] [(.int (3 : Int32)), (.int (3 : Int32))]))) (fun _ k => XS.iconst X0.here hx rfl (hb hby own_d_method_4_code_33) k) ?_
      refine OGoal.mp (S' := (s₁.setTop (mkF m 37 #[.val (.ref d), .val (.int (1 : Int32))] []))) (fun _ k => XS.icmpNo X0.here hx rfl (hb hby own_d_method_4_code_34) rfl (XT.ii_gt_f (by decide)) k) ?_
      refine OGoal.mp (S' := (s₁.setTop (mkF m 38 #[.val (.ref d), .val (.int (1 : Int32))] [(.ref d)]))) (fun _ k => XS.aloadN X0.here hx rfl (hb hby own_d_method_4_code_37) rfl rfl k) ?_
      refine OGoal.mp (S' := (s₁.setTop (mkF m 39 #[.val (.ref d), .val (.int (1 : Int32))] [(.int (1 : Int32)), (.ref d)]))) (fun _ k => XS.iloadN X0.here hx rfl (hb hby own_d_method_4_code_38) rfl k) ?_
      refine OGoal.mp (S' := (s₁.setTop (mkF m 40 #[.val (.ref d), .val (.int (1 : Int32))] [(.int (2 : Int32)), (.int (1 : Int32)), (.ref d)]))) (fun _ k => XS.iconst X0.here hx rfl (hb hby own_d_method_4_code_39) k) ?_
      refine OGoal.mp (S' := (s₁.setTop (mkF m 41 #[.val (.ref d), .val (.int (1 : Int32))] [(.int ((1 : Int32) + (2 : Int32))), (.ref d)]))) (fun _ k => XS.iadd X0.here hx rfl (hb hby own_d_method_4_code_40) rfl k) ?_
      rw [show ((1 : Int32) + (2 : Int32)) = (3 : Int32) by decide]
      show OGoal p e below s _ _ _ (s₁.setTop (mkF m 41 #[.val (.ref d), .val (.int (1 : Int32))] [(.int (3 : Int32)), (.ref d)]))
      refine OGoal.mp (S' := (s₁.setTop (mkF m 42 #[.val (.ref d), .val (.int (1 : Int32))] [(.int (own_dg (f 3)))]))) (fun _ k => oLdZ X0 hx hZ e0 A (by decide) (by decide) rfl (g := mkF m 41 #[.val (.ref d), .val (.int (1 : Int32))] [(.int (3 : Int32)), (.ref d)]) rfl rfl (hb hby own_d_method_4_code_41) k) ?_
      by_cases hc3 : (own_dg (f 3)) = 0
      · refine OGoal.mp (S' := (s₁.setTop (mkF m 45 #[.val (.ref d), .val (.int (1 : Int32))] []))) (fun _ k => XS.ifNo X0.here hx rfl (hb hby own_d_method_4_code_42) rfl (XT.i0_ne_f hc3) k) ?_
        refine OGoal.mp (S' := (s₁.setTop (mkF m 46 #[.val (.ref d), .val (.int (1 : Int32))] [(.int (2 : Int32))]))) (fun _ k => XS.iconst X0.here hx rfl (hb hby own_d_method_4_code_45) k) ?_
        refine oRetI X0 hx hlk hret (hb hby own_d_method_4_code_46) ?_ (by decide) (by decide)
        have hr : own_run f (4 - (1 : Int32).toInt.toNat) (1 : Int32).toInt.toNat = 2 := by
          show own_run f 3 1 = 2
          have e0 : own_run f 3 1 = own_run f 2 2 + 1 := if_neg hc1
          have e1 : own_run f 2 2 = own_run f 1 3 + 1 := if_neg hc2
          have e2 : own_run f 1 3 = 0 := if_pos hc3
          rw [e0, e1, e2]
        exact ⟨by rw [hr]; rfl, (Fr.nil n0), e0⟩
      · refine OGoal.mp (S' := (s₁.setTop (mkF m 47 #[.val (.ref d), .val (.int (1 : Int32))] []))) (fun _ k => XS.ifYes X0.here hx rfl (pc0 := 42) (pc' := 47) rfl (hb hby own_d_method_4_code_42) rfl (XT.i0_ne_t hc3) (by decide) (by decide) k) ?_
        refine OGoal.mp (S' := (s₁.setTop (mkF m 48 #[.val (.ref d), .val (.int (1 : Int32))] [(.int (1 : Int32))]))) (fun _ k => XS.iloadN X0.here hx rfl (hb hby own_d_method_4_code_47) rfl k) ?_
        refine OGoal.mp (S' := (s₁.setTop (mkF m 49 #[.val (.ref d), .val (.int (1 : Int32))] [(.int (3 : Int32)), (.int (1 : Int32))]))) (fun _ k => XS.iconst X0.here hx rfl (hb hby own_d_method_4_code_48) k) ?_
        refine OGoal.mp (S' := (s₁.setTop (mkF m 50 #[.val (.ref d), .val (.int (1 : Int32))] [(.int ((1 : Int32) + (3 : Int32)))]))) (fun _ k => XS.iadd X0.here hx rfl (hb hby own_d_method_4_code_49) rfl k) ?_
        rw [show ((1 : Int32) + (3 : Int32)) = (4 : Int32) by decide]
        show OGoal p e below s _ _ _ (s₁.setTop (mkF m 50 #[.val (.ref d), .val (.int (1 : Int32))] [(.int (4 : Int32))]))
        refine OGoal.mp (S' := (s₁.setTop (mkF m 51 #[.val (.ref d), .val (.int (1 : Int32))] [(.int (3 : Int32)), (.int (4 : Int32))]))) (fun _ k => XS.iconst X0.here hx rfl (hb hby own_d_method_4_code_50) k) ?_
        refine OGoal.mp (S' := (s₁.setTop (mkF m 62 #[.val (.ref d), .val (.int (1 : Int32))] []))) (fun _ k => XS.icmpYes X0.here hx rfl (pc0 := 51) (pc' := 62) rfl (hb hby own_d_method_4_code_51) rfl (XT.ii_gt_t (by decide)) (by decide) (by decide) k) ?_
        refine OGoal.mp (S' := (s₁.setTop (mkF m 63 #[.val (.ref d), .val (.int (1 : Int32))] [(.int (3 : Int32))]))) (fun _ k => XS.iconst X0.here hx rfl (hb hby own_d_method_4_code_62) k) ?_
        refine oRetI X0 hx hlk hret (hb hby own_d_method_4_code_63) ?_ (by decide) (by decide)
        have hr : own_run f (4 - (1 : Int32).toInt.toNat) (1 : Int32).toInt.toNat = 3 := by
          show own_run f 3 1 = 3
          have e0 : own_run f 3 1 = own_run f 2 2 + 1 := if_neg hc1
          have e1 : own_run f 2 2 = own_run f 1 3 + 1 := if_neg hc2
          have e2 : own_run f 1 3 = own_run f 0 4 + 1 := if_neg hc3
          rw [e0, e1, e2]
          first | done | rfl
        exact ⟨by rw [hr]; rfl, (Fr.nil n0), e0⟩
theorem own_ef_rmRF2 (x0 : Addr) (x1 : Int32) (m : MethodId) : entryFrame m #[(.ref x0), (.int x1)] 2 = mkF m 0 #[.val (.ref x0), .val (.int x1)] [] := by first | (simp [entryFrame, mkF, argsToLocals, Value.category]; done) | rfl
set_option maxRecDepth 65536 in
set_option maxHeartbeats 40000000 in
theorem rmRF2 (l : Launch) (Z : State) (a0 : Array Value) (hw : ∀ d ∈ tables_1, d.before a0 Z = true) (d : Addr) (h0 : Heap) (n0 : Nat) (Z0 : n0 ≤ h0.size) (f : Nat → Int32) (A : OArr Z h0 d .boolean 4 (fun k => .int (own_dg (f k)))) :
    OCon l Z (⟨"com/example/deadlock_to_diagnosis/deadlocktodiagnosis/reader/LineScannerDigitsPinLaw", "runFrom", "([ZI)I"⟩ : MethodName) method_4_code 2 (some .int) ({ frames := 0, cells := 0, slots := 0, locals := 0 } : Room) #[(.ref d), (.int (2 : Int32))] h0 (fun v h L => v = some (.int (Int32.ofNat (own_run f (4 - (2 : Int32).toInt.toNat) (2 : Int32).toInt.toNat))) ∧ Fr n0 L ∧ h = h0) := by
  refine OConK.intro (y := (⟨"com/example/deadlock_to_diagnosis/deadlocktodiagnosis/reader/LineScannerDigitsPinLaw", "runFrom", "([ZI)I"⟩ : MethodName)) (plainFor_of_name own_pn_com_example_deadlock_to_diagnosis_deadlocktodiagnosis_reader_LineScannerDigitsPinLaw) (own_ef_rmRF2 d (2 : Int32)) ?_
  intro p e s m below meth c s₁ hx hby hml hown hnm hret hlk hZ X0 e0
  show OGoal p e below s _ _ _ (s₁.setTop (mkF m 0 #[.val (.ref d), .val (.int (2 : Int32))] []))
  refine OGoal.mp (S' := (s₁.setTop (mkF m 1 #[.val (.ref d), .val (.int (2 : Int32))] [(.int (2 : Int32))]))) (fun _ k => XS.iloadN X0.here hx rfl (hb hby own_d_method_4_code_0) rfl k) ?_
  refine OGoal.mp (S' := (s₁.setTop (mkF m 2 #[.val (.ref d), .val (.int (2 : Int32))] [(.int (3 : Int32)), (.int (2 : Int32))]))) (fun _ k => XS.iconst X0.here hx rfl (hb hby own_d_method_4_code_1) k) ?_
  refine OGoal.mp (S' := (s₁.setTop (mkF m 5 #[.val (.ref d), .val (.int (2 : Int32))] []))) (fun _ k => XS.icmpNo X0.here hx rfl (hb hby own_d_method_4_code_2) rfl (XT.ii_gt_f (by decide)) k) ?_
  refine OGoal.mp (S' := (s₁.setTop (mkF m 6 #[.val (.ref d), .val (.int (2 : Int32))] [(.ref d)]))) (fun _ k => XS.aloadN X0.here hx rfl (hb hby own_d_method_4_code_5) rfl rfl k) ?_
  refine OGoal.mp (S' := (s₁.setTop (mkF m 7 #[.val (.ref d), .val (.int (2 : Int32))] [(.int (2 : Int32)), (.ref d)]))) (fun _ k => XS.iloadN X0.here hx rfl (hb hby own_d_method_4_code_6) rfl k) ?_
  refine OGoal.mp (S' := (s₁.setTop (mkF m 8 #[.val (.ref d), .val (.int (2 : Int32))] [(.int (own_dg (f 2)))]))) (fun _ k => oLdZ X0 hx hZ e0 A (by decide) (by decide) rfl (g := mkF m 7 #[.val (.ref d), .val (.int (2 : Int32))] [(.int (2 : Int32)), (.ref d)]) rfl rfl (hb hby own_d_method_4_code_7) k) ?_
  by_cases hc1 : (own_dg (f 2)) = 0
  · refine OGoal.mp (S' := (s₁.setTop (mkF m 11 #[.val (.ref d), .val (.int (2 : Int32))] []))) (fun _ k => XS.ifNo X0.here hx rfl (hb hby own_d_method_4_code_8) rfl (XT.i0_ne_f hc1) k) ?_
    refine OGoal.mp (S' := (s₁.setTop (mkF m 12 #[.val (.ref d), .val (.int (2 : Int32))] [(.int (0 : Int32))]))) (fun _ k => XS.iconst X0.here hx rfl (hb hby own_d_method_4_code_11) k) ?_
    refine oRetI X0 hx hlk hret (hb hby own_d_method_4_code_12) ?_ (by decide) (by decide)
    have hr : own_run f (4 - (2 : Int32).toInt.toNat) (2 : Int32).toInt.toNat = 0 := by
      show own_run f 2 2 = 0
      have e0 : own_run f 2 2 = 0 := if_pos hc1
      rw [e0]
    exact ⟨by rw [hr]; rfl, (Fr.nil n0), e0⟩
  · refine OGoal.mp (S' := (s₁.setTop (mkF m 13 #[.val (.ref d), .val (.int (2 : Int32))] []))) (fun _ k => XS.ifYes X0.here hx rfl (pc0 := 8) (pc' := 13) rfl (hb hby own_d_method_4_code_8) rfl (XT.i0_ne_t hc1) (by decide) (by decide) k) ?_
    refine OGoal.mp (S' := (s₁.setTop (mkF m 14 #[.val (.ref d), .val (.int (2 : Int32))] [(.int (2 : Int32))]))) (fun _ k => XS.iloadN X0.here hx rfl (hb hby own_d_method_4_code_13) rfl k) ?_
    refine OGoal.mp (S' := (s₁.setTop (mkF m 15 #[.val (.ref d), .val (.int (2 : Int32))] [(.int (1 : Int32)), (.int (2 : Int32))]))) (fun _ k => XS.iconst X0.here hx rfl (hb hby own_d_method_4_code_14) k) ?_
    refine OGoal.mp (S' := (s₁.setTop (mkF m 16 #[.val (.ref d), .val (.int (2 : Int32))] [(.int ((2 : Int32) + (1 : Int32)))]))) (fun _ k => XS.iadd X0.here hx rfl (hb hby own_d_method_4_code_15) rfl k) ?_
    rw [show ((2 : Int32) + (1 : Int32)) = (3 : Int32) by decide]
    show OGoal p e below s _ _ _ (s₁.setTop (mkF m 16 #[.val (.ref d), .val (.int (2 : Int32))] [(.int (3 : Int32))]))
    refine OGoal.mp (S' := (s₁.setTop (mkF m 17 #[.val (.ref d), .val (.int (2 : Int32))] [(.int (3 : Int32)), (.int (3 : Int32))]))) (fun _ k => XS.iconst X0.here hx rfl (hb hby own_d_method_4_code_16) k) ?_
    refine OGoal.mp (S' := (s₁.setTop (mkF m 20 #[.val (.ref d), .val (.int (2 : Int32))] []))) (fun _ k => XS.icmpNo X0.here hx rfl (hb hby own_d_method_4_code_17) rfl (XT.ii_gt_f (by decide)) k) ?_
    refine OGoal.mp (S' := (s₁.setTop (mkF m 21 #[.val (.ref d), .val (.int (2 : Int32))] [(.ref d)]))) (fun _ k => XS.aloadN X0.here hx rfl (hb hby own_d_method_4_code_20) rfl rfl k) ?_
    refine OGoal.mp (S' := (s₁.setTop (mkF m 22 #[.val (.ref d), .val (.int (2 : Int32))] [(.int (2 : Int32)), (.ref d)]))) (fun _ k => XS.iloadN X0.here hx rfl (hb hby own_d_method_4_code_21) rfl k) ?_
    refine OGoal.mp (S' := (s₁.setTop (mkF m 23 #[.val (.ref d), .val (.int (2 : Int32))] [(.int (1 : Int32)), (.int (2 : Int32)), (.ref d)]))) (fun _ k => XS.iconst X0.here hx rfl (hb hby own_d_method_4_code_22) k) ?_
    refine OGoal.mp (S' := (s₁.setTop (mkF m 24 #[.val (.ref d), .val (.int (2 : Int32))] [(.int ((2 : Int32) + (1 : Int32))), (.ref d)]))) (fun _ k => XS.iadd X0.here hx rfl (hb hby own_d_method_4_code_23) rfl k) ?_
    rw [show ((2 : Int32) + (1 : Int32)) = (3 : Int32) by decide]
    show OGoal p e below s _ _ _ (s₁.setTop (mkF m 24 #[.val (.ref d), .val (.int (2 : Int32))] [(.int (3 : Int32)), (.ref d)]))
    refine OGoal.mp (S' := (s₁.setTop (mkF m 25 #[.val (.ref d), .val (.int (2 : Int32))] [(.int (own_dg (f 3)))]))) (fun _ k => oLdZ X0 hx hZ e0 A (by decide) (by decide) rfl (g := mkF m 24 #[.val (.ref d), .val (.int (2 : Int32))] [(.int (3 : Int32)), (.ref d)]) rfl rfl (hb hby own_d_method_4_code_24) k) ?_
    by_cases hc2 : (own_dg (f 3)) = 0
    · refine OGoal.mp (S' := (s₁.setTop (mkF m 28 #[.val (.ref d), .val (.int (2 : Int32))] []))) (fun _ k => XS.ifNo X0.here hx rfl (hb hby own_d_method_4_code_25) rfl (XT.i0_ne_f hc2) k) ?_
      refine OGoal.mp (S' := (s₁.setTop (mkF m 29 #[.val (.ref d), .val (.int (2 : Int32))] [(.int (1 : Int32))]))) (fun _ k => XS.iconst X0.here hx rfl (hb hby own_d_method_4_code_28) k) ?_
      refine oRetI X0 hx hlk hret (hb hby own_d_method_4_code_29) ?_ (by decide) (by decide)
      have hr : own_run f (4 - (2 : Int32).toInt.toNat) (2 : Int32).toInt.toNat = 1 := by
        show own_run f 2 2 = 1
        have e0 : own_run f 2 2 = own_run f 1 3 + 1 := if_neg hc1
        have e1 : own_run f 1 3 = 0 := if_pos hc2
        rw [e0, e1]
      exact ⟨by rw [hr]; rfl, (Fr.nil n0), e0⟩
    · refine OGoal.mp (S' := (s₁.setTop (mkF m 30 #[.val (.ref d), .val (.int (2 : Int32))] []))) (fun _ k => XS.ifYes X0.here hx rfl (pc0 := 25) (pc' := 30) rfl (hb hby own_d_method_4_code_25) rfl (XT.i0_ne_t hc2) (by decide) (by decide) k) ?_
      refine OGoal.mp (S' := (s₁.setTop (mkF m 31 #[.val (.ref d), .val (.int (2 : Int32))] [(.int (2 : Int32))]))) (fun _ k => XS.iloadN X0.here hx rfl (hb hby own_d_method_4_code_30) rfl k) ?_
      refine OGoal.mp (S' := (s₁.setTop (mkF m 32 #[.val (.ref d), .val (.int (2 : Int32))] [(.int (2 : Int32)), (.int (2 : Int32))]))) (fun _ k => XS.iconst X0.here hx rfl (hb hby own_d_method_4_code_31) k) ?_
      refine OGoal.mp (S' := (s₁.setTop (mkF m 33 #[.val (.ref d), .val (.int (2 : Int32))] [(.int ((2 : Int32) + (2 : Int32)))]))) (fun _ k => XS.iadd X0.here hx rfl (hb hby own_d_method_4_code_32) rfl k) ?_
      rw [show ((2 : Int32) + (2 : Int32)) = (4 : Int32) by decide]
      show OGoal p e below s _ _ _ (s₁.setTop (mkF m 33 #[.val (.ref d), .val (.int (2 : Int32))] [(.int (4 : Int32))]))
      refine OGoal.mp (S' := (s₁.setTop (mkF m 34 #[.val (.ref d), .val (.int (2 : Int32))] [(.int (3 : Int32)), (.int (4 : Int32))]))) (fun _ k => XS.iconst X0.here hx rfl (hb hby own_d_method_4_code_33) k) ?_
      refine OGoal.mp (S' := (s₁.setTop (mkF m 45 #[.val (.ref d), .val (.int (2 : Int32))] []))) (fun _ k => XS.icmpYes X0.here hx rfl (pc0 := 34) (pc' := 45) rfl (hb hby own_d_method_4_code_34) rfl (XT.ii_gt_t (by decide)) (by decide) (by decide) k) ?_
      refine OGoal.mp (S' := (s₁.setTop (mkF m 46 #[.val (.ref d), .val (.int (2 : Int32))] [(.int (2 : Int32))]))) (fun _ k => XS.iconst X0.here hx rfl (hb hby own_d_method_4_code_45) k) ?_
      refine oRetI X0 hx hlk hret (hb hby own_d_method_4_code_46) ?_ (by decide) (by decide)
      have hr : own_run f (4 - (2 : Int32).toInt.toNat) (2 : Int32).toInt.toNat = 2 := by
        show own_run f 2 2 = 2
        have e0 : own_run f 2 2 = own_run f 1 3 + 1 := if_neg hc1
        have e1 : own_run f 1 3 = own_run f 0 4 + 1 := if_neg hc2
        rw [e0, e1]
        first | done | rfl
      exact ⟨by rw [hr]; rfl, (Fr.nil n0), e0⟩
theorem own_ef_rmRF3 (x0 : Addr) (x1 : Int32) (m : MethodId) : entryFrame m #[(.ref x0), (.int x1)] 2 = mkF m 0 #[.val (.ref x0), .val (.int x1)] [] := by first | (simp [entryFrame, mkF, argsToLocals, Value.category]; done) | rfl
set_option maxRecDepth 65536 in
set_option maxHeartbeats 40000000 in
theorem rmRF3 (l : Launch) (Z : State) (a0 : Array Value) (hw : ∀ d ∈ tables_1, d.before a0 Z = true) (d : Addr) (h0 : Heap) (n0 : Nat) (Z0 : n0 ≤ h0.size) (f : Nat → Int32) (A : OArr Z h0 d .boolean 4 (fun k => .int (own_dg (f k)))) :
    OCon l Z (⟨"com/example/deadlock_to_diagnosis/deadlocktodiagnosis/reader/LineScannerDigitsPinLaw", "runFrom", "([ZI)I"⟩ : MethodName) method_4_code 2 (some .int) ({ frames := 0, cells := 0, slots := 0, locals := 0 } : Room) #[(.ref d), (.int (3 : Int32))] h0 (fun v h L => v = some (.int (Int32.ofNat (own_run f (4 - (3 : Int32).toInt.toNat) (3 : Int32).toInt.toNat))) ∧ Fr n0 L ∧ h = h0) := by
  refine OConK.intro (y := (⟨"com/example/deadlock_to_diagnosis/deadlocktodiagnosis/reader/LineScannerDigitsPinLaw", "runFrom", "([ZI)I"⟩ : MethodName)) (plainFor_of_name own_pn_com_example_deadlock_to_diagnosis_deadlocktodiagnosis_reader_LineScannerDigitsPinLaw) (own_ef_rmRF3 d (3 : Int32)) ?_
  intro p e s m below meth c s₁ hx hby hml hown hnm hret hlk hZ X0 e0
  show OGoal p e below s _ _ _ (s₁.setTop (mkF m 0 #[.val (.ref d), .val (.int (3 : Int32))] []))
  refine OGoal.mp (S' := (s₁.setTop (mkF m 1 #[.val (.ref d), .val (.int (3 : Int32))] [(.int (3 : Int32))]))) (fun _ k => XS.iloadN X0.here hx rfl (hb hby own_d_method_4_code_0) rfl k) ?_
  refine OGoal.mp (S' := (s₁.setTop (mkF m 2 #[.val (.ref d), .val (.int (3 : Int32))] [(.int (3 : Int32)), (.int (3 : Int32))]))) (fun _ k => XS.iconst X0.here hx rfl (hb hby own_d_method_4_code_1) k) ?_
  refine OGoal.mp (S' := (s₁.setTop (mkF m 5 #[.val (.ref d), .val (.int (3 : Int32))] []))) (fun _ k => XS.icmpNo X0.here hx rfl (hb hby own_d_method_4_code_2) rfl (XT.ii_gt_f (by decide)) k) ?_
  refine OGoal.mp (S' := (s₁.setTop (mkF m 6 #[.val (.ref d), .val (.int (3 : Int32))] [(.ref d)]))) (fun _ k => XS.aloadN X0.here hx rfl (hb hby own_d_method_4_code_5) rfl rfl k) ?_
  refine OGoal.mp (S' := (s₁.setTop (mkF m 7 #[.val (.ref d), .val (.int (3 : Int32))] [(.int (3 : Int32)), (.ref d)]))) (fun _ k => XS.iloadN X0.here hx rfl (hb hby own_d_method_4_code_6) rfl k) ?_
  refine OGoal.mp (S' := (s₁.setTop (mkF m 8 #[.val (.ref d), .val (.int (3 : Int32))] [(.int (own_dg (f 3)))]))) (fun _ k => oLdZ X0 hx hZ e0 A (by decide) (by decide) rfl (g := mkF m 7 #[.val (.ref d), .val (.int (3 : Int32))] [(.int (3 : Int32)), (.ref d)]) rfl rfl (hb hby own_d_method_4_code_7) k) ?_
  by_cases hc1 : (own_dg (f 3)) = 0
  · refine OGoal.mp (S' := (s₁.setTop (mkF m 11 #[.val (.ref d), .val (.int (3 : Int32))] []))) (fun _ k => XS.ifNo X0.here hx rfl (hb hby own_d_method_4_code_8) rfl (XT.i0_ne_f hc1) k) ?_
    refine OGoal.mp (S' := (s₁.setTop (mkF m 12 #[.val (.ref d), .val (.int (3 : Int32))] [(.int (0 : Int32))]))) (fun _ k => XS.iconst X0.here hx rfl (hb hby own_d_method_4_code_11) k) ?_
    refine oRetI X0 hx hlk hret (hb hby own_d_method_4_code_12) ?_ (by decide) (by decide)
    have hr : own_run f (4 - (3 : Int32).toInt.toNat) (3 : Int32).toInt.toNat = 0 := by
      show own_run f 1 3 = 0
      have e0 : own_run f 1 3 = 0 := if_pos hc1
      rw [e0]
    exact ⟨by rw [hr]; rfl, (Fr.nil n0), e0⟩
  · refine OGoal.mp (S' := (s₁.setTop (mkF m 13 #[.val (.ref d), .val (.int (3 : Int32))] []))) (fun _ k => XS.ifYes X0.here hx rfl (pc0 := 8) (pc' := 13) rfl (hb hby own_d_method_4_code_8) rfl (XT.i0_ne_t hc1) (by decide) (by decide) k) ?_
    refine OGoal.mp (S' := (s₁.setTop (mkF m 14 #[.val (.ref d), .val (.int (3 : Int32))] [(.int (3 : Int32))]))) (fun _ k => XS.iloadN X0.here hx rfl (hb hby own_d_method_4_code_13) rfl k) ?_
    refine OGoal.mp (S' := (s₁.setTop (mkF m 15 #[.val (.ref d), .val (.int (3 : Int32))] [(.int (1 : Int32)), (.int (3 : Int32))]))) (fun _ k => XS.iconst X0.here hx rfl (hb hby own_d_method_4_code_14) k) ?_
    refine OGoal.mp (S' := (s₁.setTop (mkF m 16 #[.val (.ref d), .val (.int (3 : Int32))] [(.int ((3 : Int32) + (1 : Int32)))]))) (fun _ k => XS.iadd X0.here hx rfl (hb hby own_d_method_4_code_15) rfl k) ?_
    rw [show ((3 : Int32) + (1 : Int32)) = (4 : Int32) by decide]
    show OGoal p e below s _ _ _ (s₁.setTop (mkF m 16 #[.val (.ref d), .val (.int (3 : Int32))] [(.int (4 : Int32))]))
    refine OGoal.mp (S' := (s₁.setTop (mkF m 17 #[.val (.ref d), .val (.int (3 : Int32))] [(.int (3 : Int32)), (.int (4 : Int32))]))) (fun _ k => XS.iconst X0.here hx rfl (hb hby own_d_method_4_code_16) k) ?_
    refine OGoal.mp (S' := (s₁.setTop (mkF m 28 #[.val (.ref d), .val (.int (3 : Int32))] []))) (fun _ k => XS.icmpYes X0.here hx rfl (pc0 := 17) (pc' := 28) rfl (hb hby own_d_method_4_code_17) rfl (XT.ii_gt_t (by decide)) (by decide) (by decide) k) ?_
    refine OGoal.mp (S' := (s₁.setTop (mkF m 29 #[.val (.ref d), .val (.int (3 : Int32))] [(.int (1 : Int32))]))) (fun _ k => XS.iconst X0.here hx rfl (hb hby own_d_method_4_code_28) k) ?_
    refine oRetI X0 hx hlk hret (hb hby own_d_method_4_code_29) ?_ (by decide) (by decide)
    have hr : own_run f (4 - (3 : Int32).toInt.toNat) (3 : Int32).toInt.toNat = 1 := by
      show own_run f 1 3 = 1
      have e0 : own_run f 1 3 = own_run f 0 4 + 1 := if_neg hc1
      rw [e0]
      first | done | rfl
    exact ⟨by rw [hr]; rfl, (Fr.nil n0), e0⟩
theorem own_ef_rmRF4 (x0 : Addr) (x1 : Int32) (m : MethodId) : entryFrame m #[(.ref x0), (.int x1)] 2 = mkF m 0 #[.val (.ref x0), .val (.int x1)] [] := by first | (simp [entryFrame, mkF, argsToLocals, Value.category]; done) | rfl
set_option maxRecDepth 65536 in
set_option maxHeartbeats 40000000 in
theorem rmRF4 (l : Launch) (Z : State) (a0 : Array Value) (hw : ∀ d ∈ tables_1, d.before a0 Z = true) (d : Addr) (h0 : Heap) (n0 : Nat) (Z0 : n0 ≤ h0.size) (f : Nat → Int32) (A : OArr Z h0 d .boolean 4 (fun k => .int (own_dg (f k)))) :
    OCon l Z (⟨"com/example/deadlock_to_diagnosis/deadlocktodiagnosis/reader/LineScannerDigitsPinLaw", "runFrom", "([ZI)I"⟩ : MethodName) method_4_code 2 (some .int) ({ frames := 0, cells := 0, slots := 0, locals := 0 } : Room) #[(.ref d), (.int (4 : Int32))] h0 (fun v h L => v = some (.int (Int32.ofNat (own_run f (4 - (4 : Int32).toInt.toNat) (4 : Int32).toInt.toNat))) ∧ Fr n0 L ∧ h = h0) := by
  refine OConK.intro (y := (⟨"com/example/deadlock_to_diagnosis/deadlocktodiagnosis/reader/LineScannerDigitsPinLaw", "runFrom", "([ZI)I"⟩ : MethodName)) (plainFor_of_name own_pn_com_example_deadlock_to_diagnosis_deadlocktodiagnosis_reader_LineScannerDigitsPinLaw) (own_ef_rmRF4 d (4 : Int32)) ?_
  intro p e s m below meth c s₁ hx hby hml hown hnm hret hlk hZ X0 e0
  show OGoal p e below s _ _ _ (s₁.setTop (mkF m 0 #[.val (.ref d), .val (.int (4 : Int32))] []))
  refine OGoal.mp (S' := (s₁.setTop (mkF m 1 #[.val (.ref d), .val (.int (4 : Int32))] [(.int (4 : Int32))]))) (fun _ k => XS.iloadN X0.here hx rfl (hb hby own_d_method_4_code_0) rfl k) ?_
  refine OGoal.mp (S' := (s₁.setTop (mkF m 2 #[.val (.ref d), .val (.int (4 : Int32))] [(.int (3 : Int32)), (.int (4 : Int32))]))) (fun _ k => XS.iconst X0.here hx rfl (hb hby own_d_method_4_code_1) k) ?_
  refine OGoal.mp (S' := (s₁.setTop (mkF m 11 #[.val (.ref d), .val (.int (4 : Int32))] []))) (fun _ k => XS.icmpYes X0.here hx rfl (pc0 := 2) (pc' := 11) rfl (hb hby own_d_method_4_code_2) rfl (XT.ii_gt_t (by decide)) (by decide) (by decide) k) ?_
  refine OGoal.mp (S' := (s₁.setTop (mkF m 12 #[.val (.ref d), .val (.int (4 : Int32))] [(.int (0 : Int32))]))) (fun _ k => XS.iconst X0.here hx rfl (hb hby own_d_method_4_code_11) k) ?_
  refine oRetI X0 hx hlk hret (hb hby own_d_method_4_code_12) ?_ (by decide) (by decide)
  have hr : own_run f (4 - (4 : Int32).toInt.toNat) (4 : Int32).toInt.toNat = 0 := by
    show own_run f 0 4 = 0
    rfl
  exact ⟨by rw [hr]; rfl, (Fr.nil n0), e0⟩
set_option maxRecDepth 65536 in
set_option maxHeartbeats 40000000 in
theorem rmRF (l : Launch) (Z : State) (a0 : Array Value) (hw : ∀ d ∈ tables_1, d.before a0 Z = true) (d : Addr) (q : Int32) (h0 : Heap) (n0 : Nat) (Z0 : n0 ≤ h0.size) (f : Nat → Int32) (A : OArr Z h0 d .boolean 4 (fun k => .int (own_dg (f k)))) (hq0 : 0 ≤ q.toInt) (hq1 : q.toInt < 5) :
    OCon l Z (⟨"com/example/deadlock_to_diagnosis/deadlocktodiagnosis/reader/LineScannerDigitsPinLaw", "runFrom", "([ZI)I"⟩ : MethodName) method_4_code 2 (some .int) ({ frames := 0, cells := 0, slots := 0, locals := 0 } : Room) #[(.ref d), (.int q)] h0 (fun v h L => v = some (.int (Int32.ofNat (own_run f (4 - q.toInt.toNat) q.toInt.toNat))) ∧ Fr n0 L ∧ h = h0) := by
  rcases own_5 q hq0 hq1 with rfl | rfl | rfl | rfl | rfl
  · exact rmRF0 l Z a0 hw d h0 n0 Z0 f A
  · exact rmRF1 l Z a0 hw d h0 n0 Z0 f A
  · exact rmRF2 l Z a0 hw d h0 n0 Z0 f A
  · exact rmRF3 l Z a0 hw d h0 n0 Z0 f A
  · exact rmRF4 l Z a0 hw d h0 n0 Z0 f A
theorem own_pd___C_V : parseMethodDescriptor "([C)V" = some ⟨[(.array .char)], none⟩ := by decide +kernel
theorem own_pd__Ljava_lang_String__V : parseMethodDescriptor "(Ljava/lang/String;)V" = some ⟨[(.object "java/lang/String")], none⟩ := by decide +kernel
theorem own_pd__I_V : parseMethodDescriptor "(I)V" = some ⟨[.int], none⟩ := by decide +kernel
theorem own_pd__II_Z : parseMethodDescriptor "(II)Z" = some ⟨[.int, .int], some .boolean⟩ := by decide +kernel
theorem own_pd___ZI_I : parseMethodDescriptor "([ZI)I" = some ⟨[(.array .boolean), .int], some .int⟩ := by decide +kernel
theorem own_ef_rm0 (x0 : Int64) (x1 : Int32) (x2 : Int32) (x3 : Int32) (m : MethodId) : entryFrame m #[(.long x0), (.int x1), (.int x2), (.int x3)] maxLocals = mkF m 0 #[.val (.long x0), .second, .val (.int x1), .val (.int x2), .val (.int x3), .unset, .unset, .unset, .unset, .unset, .unset, .unset, .unset, .unset] [] := by first | (simp [entryFrame, mkF, argsToLocals, Value.category, maxLocals]; done) | rfl
set_option maxRecDepth 65536 in
set_option maxHeartbeats 40000000 in
theorem rm0 (l : Launch) (Z : State) (a0 : Array Value) (hw : ∀ d ∈ tables_1, d.before a0 Z = true) (p1 : Int64) (p2 p3 p4 : Int32) (h0 : Heap) (n0 : Nat) (Z0 : n0 ≤ h0.size) (cs : Int32) (fm : Value) (hcs : ¬ cs = 0) (hfm : fm.isRef = true) (St : Stt Z h0 cs fm)  :
    OConK l Z x code maxLocals ret room_1 24 128 #[(.long p1), (.int p2), (.int p3), (.int p4)] h0 (fun v h L => v = some (.int 1) ∧ Fr n0 L) := by
  refine OConK.intro (y := x) (plainFor_of_name own_pn_com_example_deadlock_to_diagnosis_deadlocktodiagnosis_reader_LineScannerDigitsPinLaw) (own_ef_rm0 p1 p2 p3 p4) ?_
  intro p e s m below meth c s₁ hx hby hml hown hnm hret hlk hZ X0 e0
  have := rng64 p1
  have := rng32 p2
  have l1 : (0 : Int32).toInt = 0 := by decide
  have l2 : (1 : Int32).toInt = 1 := by decide
  show OGoal p e below s _ _ _ (s₁.setTop (mkF m 0 #[.val (.long p1), .second, .val (.int p2), .val (.int p3), .val (.int p4), .unset, .unset, .unset, .unset, .unset, .unset, .unset, .unset, .unset] []))
  refine OGoal.mp (S' := (s₁.setTop (mkF m 1 #[.val (.long p1), .second, .val (.int p2), .val (.int p3), .val (.int p4), .unset, .unset, .unset, .unset, .unset, .unset, .unset, .unset, .unset] [(.int (4 : Int32))]))) (fun _ k => XS.iconst X0.here hx rfl (hb hby at_0) k) ?_
  obtain ⟨T3, h7, c10, X4, e5, E8, A9, XA13, st6⟩ := newPE X0 hx hZ (hw _ (List.mem_of_getElem? (i := 0) rfl)) e0 (g := mkF m 1 #[.val (.long p1), .second, .val (.int p2), .val (.int p3), .val (.int p4), .unset, .unset, .unset, .unset, .unset, .unset, .unset, .unset, .unset] [(.int (4 : Int32))]) rfl (hb hby at_1) rfl (by decide) (cap := 4) (by decide) (by decide) (by decide) (by decide) (ad := "[C") (by rfl)
  obtain ⟨a11, g12⟩ : ∃ z, z = h0.size := ⟨_, rfl⟩
  rw [← g12] at A9 XA13 st6
  have F14 := St.ext E8
  have F15 : OArr Z h7 a11 .char (4 : Int32) (fun _ => .int 0 : Nat → Value) := OArr.new A9 (by decide)
  have Z16 : n0 ≤ h7.size := Nat.le_trans Z0 E8.1
  have ab17 : n0 ≤ a11 := Nat.le_trans Z0 (Nat.le_of_eq g12.symm)
  refine OGoal.mp (S' := (T3.setTop (mkF m 3 #[.val (.long p1), .second, .val (.int p2), .val (.int p3), .val (.int p4), .unset, .unset, .unset, .unset, .unset, .unset, .unset, .unset, .unset] [(.ref a11)]))) (fun _ k => st6 _ k) ?_
  refine OGoal.mp (S' := (T3.setTop (mkF m 5 #[.val (.long p1), .second, .val (.int p2), .val (.int p3), .val (.int p4), .val (.ref a11), .unset, .unset, .unset, .unset, .unset, .unset, .unset, .unset] []))) (fun _ k => XS.astore X4.here hx rfl (hb hby at_3) rfl rfl (l' := #[.val (.long p1), .second, .val (.int p2), .val (.int p3), .val (.int p4), .val (.ref a11), .unset, .unset, .unset, .unset, .unset, .unset, .unset, .unset]) rfl k) ?_
  refine OGoal.mp (S' := (T3.setTop (mkF m 7 #[.val (.long p1), .second, .val (.int p2), .val (.int p3), .val (.int p4), .val (.ref a11), .unset, .unset, .unset, .unset, .unset, .unset, .unset, .unset] [(.ref a11)]))) (fun _ k => XS.aload X4.here hx rfl (hb hby at_5) rfl rfl k) ?_
  refine OGoal.mp (S' := (T3.setTop (mkF m 8 #[.val (.long p1), .second, .val (.int p2), .val (.int p3), .val (.int p4), .val (.ref a11), .unset, .unset, .unset, .unset, .unset, .unset, .unset, .unset] [(.int (0 : Int32)), (.ref a11)]))) (fun _ k => XS.iconst X4.here hx rfl (hb hby at_7) k) ?_
  refine OGoal.mp (S' := (T3.setTop (mkF m 9 #[.val (.long p1), .second, .val (.int p2), .val (.int p3), .val (.int p4), .val (.ref a11), .unset, .unset, .unset, .unset, .unset, .unset, .unset, .unset] [(.long p1), (.int (0 : Int32)), (.ref a11)]))) (fun _ k => XT.lloadN X4.here hx rfl (hb hby at_8) rfl k) ?_
  refine OGoal.mp (S' := (T3.setTop (mkF m 12 #[.val (.long p1), .second, .val (.int p2), .val (.int p3), .val (.int p4), .val (.ref a11), .unset, .unset, .unset, .unset, .unset, .unset, .unset, .unset] [(.long (65535 : Int64)), (.long p1), (.int (0 : Int32)), (.ref a11)]))) (fun _ k => Stand.ldc2J X4 hx hown (mvT hZ (hw _ (List.mem_of_getElem? (i := 1) rfl))) rfl (hb hby at_9) k) ?_
  refine OGoal.mp (S' := (T3.setTop (mkF m 13 #[.val (.long p1), .second, .val (.int p2), .val (.int p3), .val (.int p4), .val (.ref a11), .unset, .unset, .unset, .unset, .unset, .unset, .unset, .unset] [(.long (p1 &&& (65535 : Int64))), (.int (0 : Int32)), (.ref a11)]))) (fun _ k => XT.land X4.here hx rfl (hb hby at_12) rfl k) ?_
  obtain ⟨u18, hu18⟩ : ∃ z : Int64, z = (p1 &&& (65535 : Int64)) := ⟨_, rfl⟩
  rw [← hu18]
  have l19 : (65535 : Int64).toInt = 65535 := by decide
  have t20 : u18.toInt = (p1).toInt % 65536 := by rw [hu18]; exact c_maskL p1 (65535 : Int64) 16 (by decide) (by decide)
  have r21 := rng64 u18
  refine OGoal.mp (S' := (T3.setTop (mkF m 14 #[.val (.long p1), .second, .val (.int p2), .val (.int p3), .val (.int p4), .val (.ref a11), .unset, .unset, .unset, .unset, .unset, .unset, .unset, .unset] [(.int ((u18).toInt32)), (.int (0 : Int32)), (.ref a11)]))) (fun _ k => XT.l2i X4.here hx rfl (hb hby at_13) rfl k) ?_
  obtain ⟨u22, hu22⟩ : ∃ z : Int32, z = ((u18).toInt32) := ⟨_, rfl⟩
  rw [← hu22]
  have t23 : (u22.toInt - (u18).toInt) % 4294967296 = 0 := by rw [hu22]; exact c_l2i u18
  have r24 := rng32 u22
  refine OGoal.mp (S' := (T3.setTop (mkF m 15 #[.val (.long p1), .second, .val (.int p2), .val (.int p3), .val (.int p4), .val (.ref a11), .unset, .unset, .unset, .unset, .unset, .unset, .unset, .unset] [(.int ((u22).toUInt32.toUInt16.toUInt32.toInt32)), (.int (0 : Int32)), (.ref a11)]))) (fun _ k => XT.i2c X4.here hx rfl (hb hby at_14) rfl k) ?_
  obtain ⟨u25, hu25⟩ : ∃ z : Int32, z = ((u22).toUInt32.toUInt16.toUInt32.toInt32) := ⟨_, rfl⟩
  rw [← hu25]
  have t26 : (u25.toInt - (u22).toInt) % 65536 = 0 ∧ 0 ≤ u25.toInt ∧ u25.toInt < 65536 := by rw [hu25]; exact c_i2c u22
  have r27 := rng32 u25
  obtain ⟨T28, h32, X29, e30, W33, st31⟩ := oStC X4 hx hZ e5 F15 (by decide) (by decide) (oNarC (by omega)) (g := mkF m 15 #[.val (.long p1), .second, .val (.int p2), .val (.int p3), .val (.int p4), .val (.ref a11), .unset, .unset, .unset, .unset, .unset, .unset, .unset, .unset] [(.int u25), (.int (0 : Int32)), (.ref a11)]) rfl rfl (hb hby at_15)
  have N34 := Fr.snoc X29 (Fr.nil n0) ab17
  have F35 := F14.wr W33
  have F36 : OArr Z h32 a11 .char (4 : Int32) (fun jj => if jj = ((0 : Int32)).toNatClampNeg then (.int u25) else (fun _ => .int 0 : Nat → Value) jj : Nat → Value) := F15.set W33
  have F37 := XA13.wr W33
  have Z38 : n0 ≤ h32.size := Nat.le_trans Z16 (Keep.of_wr W33).1
  refine OGoal.mp (S' := (T28.setTop (mkF m 16 #[.val (.long p1), .second, .val (.int p2), .val (.int p3), .val (.int p4), .val (.ref a11), .unset, .unset, .unset, .unset, .unset, .unset, .unset, .unset] []))) (fun _ k => st31 _ k) ?_
  refine OGoal.mp (S' := (T28.setTop (mkF m 18 #[.val (.long p1), .second, .val (.int p2), .val (.int p3), .val (.int p4), .val (.ref a11), .unset, .unset, .unset, .unset, .unset, .unset, .unset, .unset] [(.ref a11)]))) (fun _ k => XS.aload X29.here hx rfl (hb hby at_16) rfl rfl k) ?_
  refine OGoal.mp (S' := (T28.setTop (mkF m 19 #[.val (.long p1), .second, .val (.int p2), .val (.int p3), .val (.int p4), .val (.ref a11), .unset, .unset, .unset, .unset, .unset, .unset, .unset, .unset] [(.int (1 : Int32)), (.ref a11)]))) (fun _ k => XS.iconst X29.here hx rfl (hb hby at_18) k) ?_
  refine OGoal.mp (S' := (T28.setTop (mkF m 20 #[.val (.long p1), .second, .val (.int p2), .val (.int p3), .val (.int p4), .val (.ref a11), .unset, .unset, .unset, .unset, .unset, .unset, .unset, .unset] [(.long p1), (.int (1 : Int32)), (.ref a11)]))) (fun _ k => XT.lloadN X29.here hx rfl (hb hby at_19) rfl k) ?_
  refine OGoal.mp (S' := (T28.setTop (mkF m 22 #[.val (.long p1), .second, .val (.int p2), .val (.int p3), .val (.int p4), .val (.ref a11), .unset, .unset, .unset, .unset, .unset, .unset, .unset, .unset] [(.int (16 : Int32)), (.long p1), (.int (1 : Int32)), (.ref a11)]))) (fun _ k => XS.bipush X29.here hx rfl (hb hby at_20) k) ?_
  refine OGoal.mp (S' := (T28.setTop (mkF m 23 #[.val (.long p1), .second, .val (.int p2), .val (.int p3), .val (.int p4), .val (.ref a11), .unset, .unset, .unset, .unset, .unset, .unset, .unset, .unset] [(.long (XT.ushrL p1 (16 : Int32))), (.int (1 : Int32)), (.ref a11)]))) (fun _ k => XT.lushr X29.here hx rfl (hb hby at_22) rfl k) ?_
  obtain ⟨u39, hu39⟩ : ∃ z : Int64, z = (XT.ushrL p1 (16 : Int32)) := ⟨_, rfl⟩
  rw [← hu39]
  have l40 : (16 : Int32).toInt = 16 := by decide
  have r41 := rng64 u39
  refine OGoal.mp (S' := (T28.setTop (mkF m 26 #[.val (.long p1), .second, .val (.int p2), .val (.int p3), .val (.int p4), .val (.ref a11), .unset, .unset, .unset, .unset, .unset, .unset, .unset, .unset] [(.long (65535 : Int64)), (.long u39), (.int (1 : Int32)), (.ref a11)]))) (fun _ k => Stand.ldc2J X29 hx hown (mvT hZ (hw _ (List.mem_of_getElem? (i := 1) rfl))) rfl (hb hby at_23) k) ?_
  refine OGoal.mp (S' := (T28.setTop (mkF m 27 #[.val (.long p1), .second, .val (.int p2), .val (.int p3), .val (.int p4), .val (.ref a11), .unset, .unset, .unset, .unset, .unset, .unset, .unset, .unset] [(.long (u39 &&& (65535 : Int64))), (.int (1 : Int32)), (.ref a11)]))) (fun _ k => XT.land X29.here hx rfl (hb hby at_26) rfl k) ?_
  obtain ⟨u42, hu42⟩ : ∃ z : Int64, z = (u39 &&& (65535 : Int64)) := ⟨_, rfl⟩
  rw [← hu42]
  have t43 : u42.toInt = (u39).toInt % 65536 := by rw [hu42]; exact c_maskL u39 (65535 : Int64) 16 (by decide) (by decide)
  have r44 := rng64 u42
  refine OGoal.mp (S' := (T28.setTop (mkF m 28 #[.val (.long p1), .second, .val (.int p2), .val (.int p3), .val (.int p4), .val (.ref a11), .unset, .unset, .unset, .unset, .unset, .unset, .unset, .unset] [(.int ((u42).toInt32)), (.int (1 : Int32)), (.ref a11)]))) (fun _ k => XT.l2i X29.here hx rfl (hb hby at_27) rfl k) ?_
  obtain ⟨u45, hu45⟩ : ∃ z : Int32, z = ((u42).toInt32) := ⟨_, rfl⟩
  rw [← hu45]
  have t46 : (u45.toInt - (u42).toInt) % 4294967296 = 0 := by rw [hu45]; exact c_l2i u42
  have r47 := rng32 u45
  refine OGoal.mp (S' := (T28.setTop (mkF m 29 #[.val (.long p1), .second, .val (.int p2), .val (.int p3), .val (.int p4), .val (.ref a11), .unset, .unset, .unset, .unset, .unset, .unset, .unset, .unset] [(.int ((u45).toUInt32.toUInt16.toUInt32.toInt32)), (.int (1 : Int32)), (.ref a11)]))) (fun _ k => XT.i2c X29.here hx rfl (hb hby at_28) rfl k) ?_
  obtain ⟨u48, hu48⟩ : ∃ z : Int32, z = ((u45).toUInt32.toUInt16.toUInt32.toInt32) := ⟨_, rfl⟩
  rw [← hu48]
  have t49 : (u48.toInt - (u45).toInt) % 65536 = 0 ∧ 0 ≤ u48.toInt ∧ u48.toInt < 65536 := by rw [hu48]; exact c_i2c u45
  have r50 := rng32 u48
  obtain ⟨T51, h55, X52, e53, W56, st54⟩ := oStC X29 hx hZ e30 F36 (by decide) (by decide) (oNarC (by omega)) (g := mkF m 29 #[.val (.long p1), .second, .val (.int p2), .val (.int p3), .val (.int p4), .val (.ref a11), .unset, .unset, .unset, .unset, .unset, .unset, .unset, .unset] [(.int u48), (.int (1 : Int32)), (.ref a11)]) rfl rfl (hb hby at_29)
  have N57 := Fr.snoc X52 N34 ab17
  have F58 := F35.wr W56
  have F59 : OArr Z h55 a11 .char (4 : Int32) (fun jj => if jj = ((1 : Int32)).toNatClampNeg then (.int u48) else (fun jj => if jj = ((0 : Int32)).toNatClampNeg then (.int u25) else (fun _ => .int 0 : Nat → Value) jj : Nat → Value) jj : Nat → Value) := F36.set W56
  have F60 := F37.wr W56
  have Z61 : n0 ≤ h55.size := Nat.le_trans Z38 (Keep.of_wr W56).1
  refine OGoal.mp (S' := (T51.setTop (mkF m 30 #[.val (.long p1), .second, .val (.int p2), .val (.int p3), .val (.int p4), .val (.ref a11), .unset, .unset, .unset, .unset, .unset, .unset, .unset, .unset] []))) (fun _ k => st54 _ k) ?_
  refine OGoal.mp (S' := (T51.setTop (mkF m 32 #[.val (.long p1), .second, .val (.int p2), .val (.int p3), .val (.int p4), .val (.ref a11), .unset, .unset, .unset, .unset, .unset, .unset, .unset, .unset] [(.ref a11)]))) (fun _ k => XS.aload X52.here hx rfl (hb hby at_30) rfl rfl k) ?_
  refine OGoal.mp (S' := (T51.setTop (mkF m 33 #[.val (.long p1), .second, .val (.int p2), .val (.int p3), .val (.int p4), .val (.ref a11), .unset, .unset, .unset, .unset, .unset, .unset, .unset, .unset] [(.int (2 : Int32)), (.ref a11)]))) (fun _ k => XS.iconst X52.here hx rfl (hb hby at_32) k) ?_
  refine OGoal.mp (S' := (T51.setTop (mkF m 34 #[.val (.long p1), .second, .val (.int p2), .val (.int p3), .val (.int p4), .val (.ref a11), .unset, .unset, .unset, .unset, .unset, .unset, .unset, .unset] [(.long p1), (.int (2 : Int32)), (.ref a11)]))) (fun _ k => XT.lloadN X52.here hx rfl (hb hby at_33) rfl k) ?_
  refine OGoal.mp (S' := (T51.setTop (mkF m 36 #[.val (.long p1), .second, .val (.int p2), .val (.int p3), .val (.int p4), .val (.ref a11), .unset, .unset, .unset, .unset, .unset, .unset, .unset, .unset] [(.int (32 : Int32)), (.long p1), (.int (2 : Int32)), (.ref a11)]))) (fun _ k => XS.bipush X52.here hx rfl (hb hby at_34) k) ?_
  refine OGoal.mp (S' := (T51.setTop (mkF m 37 #[.val (.long p1), .second, .val (.int p2), .val (.int p3), .val (.int p4), .val (.ref a11), .unset, .unset, .unset, .unset, .unset, .unset, .unset, .unset] [(.long (XT.ushrL p1 (32 : Int32))), (.int (2 : Int32)), (.ref a11)]))) (fun _ k => XT.lushr X52.here hx rfl (hb hby at_36) rfl k) ?_
  obtain ⟨u62, hu62⟩ : ∃ z : Int64, z = (XT.ushrL p1 (32 : Int32)) := ⟨_, rfl⟩
  rw [← hu62]
  have l63 : (32 : Int32).toInt = 32 := by decide
  have r64 := rng64 u62
  refine OGoal.mp (S' := (T51.setTop (mkF m 40 #[.val (.long p1), .second, .val (.int p2), .val (.int p3), .val (.int p4), .val (.ref a11), .unset, .unset, .unset, .unset, .unset, .unset, .unset, .unset] [(.long (65535 : Int64)), (.long u62), (.int (2 : Int32)), (.ref a11)]))) (fun _ k => Stand.ldc2J X52 hx hown (mvT hZ (hw _ (List.mem_of_getElem? (i := 1) rfl))) rfl (hb hby at_37) k) ?_
  refine OGoal.mp (S' := (T51.setTop (mkF m 41 #[.val (.long p1), .second, .val (.int p2), .val (.int p3), .val (.int p4), .val (.ref a11), .unset, .unset, .unset, .unset, .unset, .unset, .unset, .unset] [(.long (u62 &&& (65535 : Int64))), (.int (2 : Int32)), (.ref a11)]))) (fun _ k => XT.land X52.here hx rfl (hb hby at_40) rfl k) ?_
  obtain ⟨u65, hu65⟩ : ∃ z : Int64, z = (u62 &&& (65535 : Int64)) := ⟨_, rfl⟩
  rw [← hu65]
  have t66 : u65.toInt = (u62).toInt % 65536 := by rw [hu65]; exact c_maskL u62 (65535 : Int64) 16 (by decide) (by decide)
  have r67 := rng64 u65
  refine OGoal.mp (S' := (T51.setTop (mkF m 42 #[.val (.long p1), .second, .val (.int p2), .val (.int p3), .val (.int p4), .val (.ref a11), .unset, .unset, .unset, .unset, .unset, .unset, .unset, .unset] [(.int ((u65).toInt32)), (.int (2 : Int32)), (.ref a11)]))) (fun _ k => XT.l2i X52.here hx rfl (hb hby at_41) rfl k) ?_
  obtain ⟨u68, hu68⟩ : ∃ z : Int32, z = ((u65).toInt32) := ⟨_, rfl⟩
  rw [← hu68]
  have t69 : (u68.toInt - (u65).toInt) % 4294967296 = 0 := by rw [hu68]; exact c_l2i u65
  have r70 := rng32 u68
  refine OGoal.mp (S' := (T51.setTop (mkF m 43 #[.val (.long p1), .second, .val (.int p2), .val (.int p3), .val (.int p4), .val (.ref a11), .unset, .unset, .unset, .unset, .unset, .unset, .unset, .unset] [(.int ((u68).toUInt32.toUInt16.toUInt32.toInt32)), (.int (2 : Int32)), (.ref a11)]))) (fun _ k => XT.i2c X52.here hx rfl (hb hby at_42) rfl k) ?_
  obtain ⟨u71, hu71⟩ : ∃ z : Int32, z = ((u68).toUInt32.toUInt16.toUInt32.toInt32) := ⟨_, rfl⟩
  rw [← hu71]
  have t72 : (u71.toInt - (u68).toInt) % 65536 = 0 ∧ 0 ≤ u71.toInt ∧ u71.toInt < 65536 := by rw [hu71]; exact c_i2c u68
  have r73 := rng32 u71
  obtain ⟨T74, h78, X75, e76, W79, st77⟩ := oStC X52 hx hZ e53 F59 (by decide) (by decide) (oNarC (by omega)) (g := mkF m 43 #[.val (.long p1), .second, .val (.int p2), .val (.int p3), .val (.int p4), .val (.ref a11), .unset, .unset, .unset, .unset, .unset, .unset, .unset, .unset] [(.int u71), (.int (2 : Int32)), (.ref a11)]) rfl rfl (hb hby at_43)
  have N80 := Fr.snoc X75 N57 ab17
  have F81 := F58.wr W79
  have F82 : OArr Z h78 a11 .char (4 : Int32) (fun jj => if jj = ((2 : Int32)).toNatClampNeg then (.int u71) else (fun jj => if jj = ((1 : Int32)).toNatClampNeg then (.int u48) else (fun jj => if jj = ((0 : Int32)).toNatClampNeg then (.int u25) else (fun _ => .int 0 : Nat → Value) jj : Nat → Value) jj : Nat → Value) jj : Nat → Value) := F59.set W79
  have F83 := F60.wr W79
  have Z84 : n0 ≤ h78.size := Nat.le_trans Z61 (Keep.of_wr W79).1
  refine OGoal.mp (S' := (T74.setTop (mkF m 44 #[.val (.long p1), .second, .val (.int p2), .val (.int p3), .val (.int p4), .val (.ref a11), .unset, .unset, .unset, .unset, .unset, .unset, .unset, .unset] []))) (fun _ k => st77 _ k) ?_
  refine OGoal.mp (S' := (T74.setTop (mkF m 46 #[.val (.long p1), .second, .val (.int p2), .val (.int p3), .val (.int p4), .val (.ref a11), .unset, .unset, .unset, .unset, .unset, .unset, .unset, .unset] [(.ref a11)]))) (fun _ k => XS.aload X75.here hx rfl (hb hby at_44) rfl rfl k) ?_
  refine OGoal.mp (S' := (T74.setTop (mkF m 47 #[.val (.long p1), .second, .val (.int p2), .val (.int p3), .val (.int p4), .val (.ref a11), .unset, .unset, .unset, .unset, .unset, .unset, .unset, .unset] [(.int (3 : Int32)), (.ref a11)]))) (fun _ k => XS.iconst X75.here hx rfl (hb hby at_46) k) ?_
  refine OGoal.mp (S' := (T74.setTop (mkF m 48 #[.val (.long p1), .second, .val (.int p2), .val (.int p3), .val (.int p4), .val (.ref a11), .unset, .unset, .unset, .unset, .unset, .unset, .unset, .unset] [(.long p1), (.int (3 : Int32)), (.ref a11)]))) (fun _ k => XT.lloadN X75.here hx rfl (hb hby at_47) rfl k) ?_
  refine OGoal.mp (S' := (T74.setTop (mkF m 50 #[.val (.long p1), .second, .val (.int p2), .val (.int p3), .val (.int p4), .val (.ref a11), .unset, .unset, .unset, .unset, .unset, .unset, .unset, .unset] [(.int (48 : Int32)), (.long p1), (.int (3 : Int32)), (.ref a11)]))) (fun _ k => XS.bipush X75.here hx rfl (hb hby at_48) k) ?_
  refine OGoal.mp (S' := (T74.setTop (mkF m 51 #[.val (.long p1), .second, .val (.int p2), .val (.int p3), .val (.int p4), .val (.ref a11), .unset, .unset, .unset, .unset, .unset, .unset, .unset, .unset] [(.long (XT.ushrL p1 (48 : Int32))), (.int (3 : Int32)), (.ref a11)]))) (fun _ k => XT.lushr X75.here hx rfl (hb hby at_50) rfl k) ?_
  obtain ⟨u85, hu85⟩ : ∃ z : Int64, z = (XT.ushrL p1 (48 : Int32)) := ⟨_, rfl⟩
  rw [← hu85]
  have l86 : (48 : Int32).toInt = 48 := by decide
  have r87 := rng64 u85
  refine OGoal.mp (S' := (T74.setTop (mkF m 54 #[.val (.long p1), .second, .val (.int p2), .val (.int p3), .val (.int p4), .val (.ref a11), .unset, .unset, .unset, .unset, .unset, .unset, .unset, .unset] [(.long (65535 : Int64)), (.long u85), (.int (3 : Int32)), (.ref a11)]))) (fun _ k => Stand.ldc2J X75 hx hown (mvT hZ (hw _ (List.mem_of_getElem? (i := 1) rfl))) rfl (hb hby at_51) k) ?_
  refine OGoal.mp (S' := (T74.setTop (mkF m 55 #[.val (.long p1), .second, .val (.int p2), .val (.int p3), .val (.int p4), .val (.ref a11), .unset, .unset, .unset, .unset, .unset, .unset, .unset, .unset] [(.long (u85 &&& (65535 : Int64))), (.int (3 : Int32)), (.ref a11)]))) (fun _ k => XT.land X75.here hx rfl (hb hby at_54) rfl k) ?_
  obtain ⟨u88, hu88⟩ : ∃ z : Int64, z = (u85 &&& (65535 : Int64)) := ⟨_, rfl⟩
  rw [← hu88]
  have t89 : u88.toInt = (u85).toInt % 65536 := by rw [hu88]; exact c_maskL u85 (65535 : Int64) 16 (by decide) (by decide)
  have r90 := rng64 u88
  refine OGoal.mp (S' := (T74.setTop (mkF m 56 #[.val (.long p1), .second, .val (.int p2), .val (.int p3), .val (.int p4), .val (.ref a11), .unset, .unset, .unset, .unset, .unset, .unset, .unset, .unset] [(.int ((u88).toInt32)), (.int (3 : Int32)), (.ref a11)]))) (fun _ k => XT.l2i X75.here hx rfl (hb hby at_55) rfl k) ?_
  obtain ⟨u91, hu91⟩ : ∃ z : Int32, z = ((u88).toInt32) := ⟨_, rfl⟩
  rw [← hu91]
  have t92 : (u91.toInt - (u88).toInt) % 4294967296 = 0 := by rw [hu91]; exact c_l2i u88
  have r93 := rng32 u91
  refine OGoal.mp (S' := (T74.setTop (mkF m 57 #[.val (.long p1), .second, .val (.int p2), .val (.int p3), .val (.int p4), .val (.ref a11), .unset, .unset, .unset, .unset, .unset, .unset, .unset, .unset] [(.int ((u91).toUInt32.toUInt16.toUInt32.toInt32)), (.int (3 : Int32)), (.ref a11)]))) (fun _ k => XT.i2c X75.here hx rfl (hb hby at_56) rfl k) ?_
  obtain ⟨u94, hu94⟩ : ∃ z : Int32, z = ((u91).toUInt32.toUInt16.toUInt32.toInt32) := ⟨_, rfl⟩
  rw [← hu94]
  have t95 : (u94.toInt - (u91).toInt) % 65536 = 0 ∧ 0 ≤ u94.toInt ∧ u94.toInt < 65536 := by rw [hu94]; exact c_i2c u91
  have r96 := rng32 u94
  obtain ⟨T97, h101, X98, e99, W102, st100⟩ := oStC X75 hx hZ e76 F82 (by decide) (by decide) (oNarC (by omega)) (g := mkF m 57 #[.val (.long p1), .second, .val (.int p2), .val (.int p3), .val (.int p4), .val (.ref a11), .unset, .unset, .unset, .unset, .unset, .unset, .unset, .unset] [(.int u94), (.int (3 : Int32)), (.ref a11)]) rfl rfl (hb hby at_57)
  have N103 := Fr.snoc X98 N80 ab17
  have F104 := F81.wr W102
  have F105 : OArr Z h101 a11 .char (4 : Int32) (fun jj => if jj = ((3 : Int32)).toNatClampNeg then (.int u94) else (fun jj => if jj = ((2 : Int32)).toNatClampNeg then (.int u71) else (fun jj => if jj = ((1 : Int32)).toNatClampNeg then (.int u48) else (fun jj => if jj = ((0 : Int32)).toNatClampNeg then (.int u25) else (fun _ => .int 0 : Nat → Value) jj : Nat → Value) jj : Nat → Value) jj : Nat → Value) jj : Nat → Value) := F82.set W102
  have F106 := F83.wr W102
  have Z107 : n0 ≤ h101.size := Nat.le_trans Z84 (Keep.of_wr W102).1
  refine OGoal.mp (S' := (T97.setTop (mkF m 58 #[.val (.long p1), .second, .val (.int p2), .val (.int p3), .val (.int p4), .val (.ref a11), .unset, .unset, .unset, .unset, .unset, .unset, .unset, .unset] []))) (fun _ k => st100 _ k) ?_
  have A108 : OArr Z h101 a11 .char 4 (fun k => .int ((own_f u25 u48 u71 u94) k)) := F105.imp (fun i hi => by have hi2 : i < 4 := hi; exact (match i, hi2 with | 0, _ => rfl | 1, _ => rfl | 2, _ => rfl | 3, _ => rfl))
  have hC : Ch (own_f u25 u48 u71 u94) := by intro k; unfold own_f; split; exact ⟨by omega, by omega⟩; split; exact ⟨by omega, by omega⟩; split; exact ⟨by omega, by omega⟩; exact ⟨by omega, by omega⟩
  refine OGoal.mp (S' := (T97.setTop (mkF m 59 #[.val (.long p1), .second, .val (.int p2), .val (.int p3), .val (.int p4), .val (.ref a11), .unset, .unset, .unset, .unset, .unset, .unset, .unset, .unset] [(.int p2)]))) (fun _ k => XS.iloadN X98.here hx rfl (hb hby at_58) rfl k) ?_
  refine OGoal.mp (S' := (T97.setTop (mkF m 61 #[.val (.long p1), .second, .val (.int p2), .val (.int p3), .val (.int p4), .val (.ref a11), .unset, .unset, .unset, .unset, .unset, .unset, .unset, .unset] [(.int (2147483647 : Int32)), (.int p2)]))) (fun _ k => Stand.ldcI X98 hx hown (mvT hZ (hw _ (List.mem_of_getElem? (i := 2) rfl))) rfl (hb hby at_59) k) ?_
  refine OGoal.mp (S' := (T97.setTop (mkF m 62 #[.val (.long p1), .second, .val (.int p2), .val (.int p3), .val (.int p4), .val (.ref a11), .unset, .unset, .unset, .unset, .unset, .unset, .unset, .unset] [(.int (p2 &&& (2147483647 : Int32)))]))) (fun _ k => XS.iand X98.here hx rfl (hb hby at_61) rfl k) ?_
  obtain ⟨u109, hu109⟩ : ∃ z : Int32, z = (p2 &&& (2147483647 : Int32)) := ⟨_, rfl⟩
  rw [← hu109]
  have l110 : (2147483647 : Int32).toInt = 2147483647 := by decide
  have t111 : u109.toInt = (p2).toInt % 2147483648 := by rw [hu109]; exact c_mask p2 (2147483647 : Int32) 31 (by decide) (by decide)
  have r112 := rng32 u109
  refine OGoal.mp (S' := (T97.setTop (mkF m 63 #[.val (.long p1), .second, .val (.int p2), .val (.int p3), .val (.int p4), .val (.ref a11), .unset, .unset, .unset, .unset, .unset, .unset, .unset, .unset] [(.int (5 : Int32)), (.int u109)]))) (fun _ k => XS.iconst X98.here hx rfl (hb hby at_62) k) ?_
  refine OGoal.mp (S' := (T97.setTop (mkF m 64 #[.val (.long p1), .second, .val (.int p2), .val (.int p3), .val (.int p4), .val (.ref a11), .unset, .unset, .unset, .unset, .unset, .unset, .unset, .unset] [(.int (u109 % (5 : Int32)))]))) (fun _ k => iremM X98 hx rfl (hb hby at_63) rfl (by decide) k) ?_
  obtain ⟨u113, hu113⟩ : ∃ z : Int32, z = (u109 % (5 : Int32)) := ⟨_, rfl⟩
  rw [← hu113]
  have l114 : (5 : Int32).toInt = 5 := by decide
  have t115 : u113.toInt = (u109).toInt % 5 := by rw [hu113]; exact (c_irem u109 (5 : Int32) 5 (by decide)).1 (by omega)
  have r116 := rng32 u113
  refine OGoal.mp (S' := (T97.setTop (mkF m 66 #[.val (.long p1), .second, .val (.int p2), .val (.int p3), .val (.int p4), .val (.ref a11), .val (.int u113), .unset, .unset, .unset, .unset, .unset, .unset, .unset] []))) (fun _ k => XS.istore X98.here hx rfl (hb hby at_64) rfl (l' := #[.val (.long p1), .second, .val (.int p2), .val (.int p3), .val (.int p4), .val (.ref a11), .val (.int u113), .unset, .unset, .unset, .unset, .unset, .unset, .unset]) rfl k) ?_
  obtain ⟨T117, h121, X118, e119, E122, A123, D124, -, st120⟩ := newO X98 hx hZ hown (hw _ (List.mem_of_getElem? (i := 3) rfl)) (hw _ (List.mem_of_getElem? (i := 4) rfl)) (hw _ (List.mem_of_getElem? (i := 5) rfl)) e99 (g := mkF m 66 #[.val (.long p1), .second, .val (.int p2), .val (.int p3), .val (.int p4), .val (.ref a11), .val (.int u113), .unset, .unset, .unset, .unset, .unset, .unset, .unset] []) rfl (hb hby at_66) (by decide) (by decide)
  obtain ⟨a125, g126⟩ : ∃ z, z = h101.size := ⟨_, rfl⟩
  rw [← g126] at A123 D124 st120
  have lt127 : a11 < a125 := by rw [g126]; exact A108.lt
  have F128 := F104.ext E122
  have F129 := A108.ext E122
  have F130 := F106.ext E122
  have F131 : Fld Z h121 a125 "com/example/deadlock_to_diagnosis/deadlocktodiagnosis/reader/LineScanner" "line" "Ljava/lang/String;" .null := D124 (Or.inr (hw _ (List.mem_of_getElem? (i := 40) rfl))) (ty := (.object "java/lang/String")) (by decide)
  have F132 : Fld Z h121 a125 "com/example/deadlock_to_diagnosis/deadlocktodiagnosis/reader/LineScanner" "at" "I" (.int (0 : Int32)) := D124 (Or.inl (hw _ (List.mem_of_getElem? (i := 47) rfl))) (ty := .int) (by decide)
  have Z133 : n0 ≤ h121.size := Nat.le_trans Z107 E122.1
  have ab134 : n0 ≤ a125 := Nat.le_trans Z107 (Nat.le_of_eq g126.symm)
  refine OGoal.mp (S' := (T117.setTop (mkF m 69 #[.val (.long p1), .second, .val (.int p2), .val (.int p3), .val (.int p4), .val (.ref a11), .val (.int u113), .unset, .unset, .unset, .unset, .unset, .unset, .unset] [(.ref a125)]))) (fun _ k => st120 _ k) ?_
  refine OGoal.mp (S' := (T117.setTop (mkF m 70 #[.val (.long p1), .second, .val (.int p2), .val (.int p3), .val (.int p4), .val (.ref a11), .val (.int u113), .unset, .unset, .unset, .unset, .unset, .unset, .unset] [(.ref a125), (.ref a125)]))) (fun _ k => XS.dup X118.here hx rfl (hb hby at_69) rfl rfl k) ?_
  obtain ⟨T135, h139, X136, e137, E140, A141, D142, -, st138⟩ := newO X118 hx hZ hown (hw _ (List.mem_of_getElem? (i := 6) rfl)) (hw _ (List.mem_of_getElem? (i := 7) rfl)) (hw _ (List.mem_of_getElem? (i := 8) rfl)) e119 (g := mkF m 70 #[.val (.long p1), .second, .val (.int p2), .val (.int p3), .val (.int p4), .val (.ref a11), .val (.int u113), .unset, .unset, .unset, .unset, .unset, .unset, .unset] [(.ref a125), (.ref a125)]) rfl (hb hby at_70) (by decide) (by decide)
  obtain ⟨a143, g144⟩ : ∃ z, z = h121.size := ⟨_, rfl⟩
  rw [← g144] at A141 D142 st138
  have lt145 : a11 < a143 := by rw [g144]; exact F129.lt
  have lt146 : a125 < a143 := by rw [g144]; exact A123.lt
  have F147 := F128.ext E140
  have F148 := F129.ext E140
  have F149 := F130.ext E140
  have F150 := A123.ext E140
  have F151 := F131.ext E140
  have F152 := F132.ext E140
  have F153 : Fld Z h139 a143 "java/lang/String" "coder" "B" (.int (0 : Int32)) := D142 (Or.inr (hw _ (List.mem_of_getElem? (i := 32) rfl))) (ty := .byte) (by decide)
  have F154 : Fld Z h139 a143 "java/lang/String" "value" "[B" .null := D142 (Or.inr (hw _ (List.mem_of_getElem? (i := 34) rfl))) (ty := (.array .byte)) (by decide)
  have Z155 : n0 ≤ h139.size := Nat.le_trans Z133 E140.1
  have ab156 : n0 ≤ a143 := Nat.le_trans Z133 (Nat.le_of_eq g144.symm)
  refine OGoal.mp (S' := (T135.setTop (mkF m 73 #[.val (.long p1), .second, .val (.int p2), .val (.int p3), .val (.int p4), .val (.ref a11), .val (.int u113), .unset, .unset, .unset, .unset, .unset, .unset, .unset] [(.ref a143), (.ref a125), (.ref a125)]))) (fun _ k => st138 _ k) ?_
  refine OGoal.mp (S' := (T135.setTop (mkF m 74 #[.val (.long p1), .second, .val (.int p2), .val (.int p3), .val (.int p4), .val (.ref a11), .val (.int u113), .unset, .unset, .unset, .unset, .unset, .unset, .unset] [(.ref a143), (.ref a143), (.ref a125), (.ref a125)]))) (fun _ k => XS.dup X136.here hx rfl (hb hby at_73) rfl rfl k) ?_
  refine OGoal.mp (S' := (T135.setTop (mkF m 76 #[.val (.long p1), .second, .val (.int p2), .val (.int p3), .val (.int p4), .val (.ref a11), .val (.int u113), .unset, .unset, .unset, .unset, .unset, .unset, .unset] [(.ref a11), (.ref a143), (.ref a143), (.ref a125), (.ref a125)]))) (fun _ k => XS.aload X136.here hx rfl (hb hby at_74) rfl rfl k) ?_
  refine oCallN (y := (⟨"java/lang/String", "<init>", "([C)V"⟩ : MethodName)) X136 hx hZ rfl hown (hw _ (List.mem_of_getElem? (i := 9) rfl)) (hw _ (List.mem_of_getElem? (i := 10) rfl)) (hw _ (List.mem_of_getElem? (i := 8) rfl)) (hw _ (List.mem_of_getElem? (i := 11) rfl)) (by decide) (rmS1 l Z a0 hw a143 a11 h139 n0 Z155 cs fm hcs hfm F147 (own_f u25 u48 u71 u94) hC F148 A141 F154 F153 ab156) e137 [(.ref a11)] [(.ref a143), (.ref a125), (.ref a125)] rfl rfl (by rw [hml]; rfl) (lenOf own_pd___C_V rfl) 3 (Nat.le_of_eq rfl) (by decide) (by decide) (by decide) (by decide) (hb hby at_76) ?_
  intro v157 T158 L159 X160 q161
  obtain ⟨rfl, N162, K163, S164, D165⟩ := q161
  have N166 := Fr.app N103 N162
  have F167 := F148.keep K163 (ninS (Nat.ne_of_lt lt145) nin0)
  have F168 := F149.keep K163
  have F169 := F150.keep K163
  have F170 := F151.keep K163 (ninS (Nat.ne_of_lt lt146) nin0)
  have F171 := F152.keep K163 (ninS (Nat.ne_of_lt lt146) nin0)
  have Z172 : n0 ≤ T158.heap.size := Nat.le_trans Z155 K163.1
  show OGoal p e below s _ _ _ (T158.setTop (mkF m 79 #[.val (.long p1), .second, .val (.int p2), .val (.int p3), .val (.int p4), .val (.ref a11), .val (.int u113), .unset, .unset, .unset, .unset, .unset, .unset, .unset] [(.ref a143), (.ref a125), (.ref a125)]))
  refine oCallN (y := (⟨"com/example/deadlock_to_diagnosis/deadlocktodiagnosis/reader/LineScanner", "<init>", "(Ljava/lang/String;)V"⟩ : MethodName)) X160 hx hZ rfl hown (hw _ (List.mem_of_getElem? (i := 35) rfl)) (hw _ (List.mem_of_getElem? (i := 36) rfl)) (hw _ (List.mem_of_getElem? (i := 5) rfl)) (hw _ (List.mem_of_getElem? (i := 37) rfl)) (by decide) (rmLI l Z a0 hw a125 a143 T158.heap n0 Z172 cs fm hcs hfm S164 F169 F170 F171 ab134) rfl [(.ref a143)] [(.ref a125)] rfl rfl (by rw [hml]; rfl) (lenOf own_pd__Ljava_lang_String__V rfl) 1 (Nat.le_of_eq rfl) (by decide) (by decide) (by decide) (by decide) (hb hby at_79) ?_
  intro v173 T174 L175 X176 q177
  obtain ⟨rfl, N178, K179, E180, F181, F182, S183⟩ := q177
  have N184 := Fr.app N166 N178
  have F186 := D165.keep K179 F169 (hw _ (List.mem_of_getElem? (i := 4) rfl)) (Nat.ne_of_gt lt146)
  have F187 := F167.keep K179 (ninS (Nat.ne_of_lt lt127) nin0)
  have F188 := F168.keep K179
  have F189 := F169.keep K179
  have Z192 : n0 ≤ T174.heap.size := Nat.le_trans Z172 K179.1
  show OGoal p e below s _ _ _ (T174.setTop (mkF m 82 #[.val (.long p1), .second, .val (.int p2), .val (.int p3), .val (.int p4), .val (.ref a11), .val (.int u113), .unset, .unset, .unset, .unset, .unset, .unset, .unset] [(.ref a125)]))
  refine OGoal.mp (S' := (T174.setTop (mkF m 84 #[.val (.long p1), .second, .val (.int p2), .val (.int p3), .val (.int p4), .val (.ref a11), .val (.int u113), .val (.ref a125), .unset, .unset, .unset, .unset, .unset, .unset] []))) (fun _ k => XS.astore X176.here hx rfl (hb hby at_82) rfl rfl (l' := #[.val (.long p1), .second, .val (.int p2), .val (.int p3), .val (.int p4), .val (.ref a11), .val (.int u113), .val (.ref a125), .unset, .unset, .unset, .unset, .unset, .unset]) rfl k) ?_
  refine OGoal.mp (S' := (T174.setTop (mkF m 86 #[.val (.long p1), .second, .val (.int p2), .val (.int p3), .val (.int p4), .val (.ref a11), .val (.int u113), .val (.ref a125), .unset, .unset, .unset, .unset, .unset, .unset] [(.ref a125)]))) (fun _ k => XS.aload X176.here hx rfl (hb hby at_84) rfl rfl k) ?_
  refine OGoal.mp (S' := (T174.setTop (mkF m 88 #[.val (.long p1), .second, .val (.int p2), .val (.int p3), .val (.int p4), .val (.ref a11), .val (.int u113), .val (.ref a125), .unset, .unset, .unset, .unset, .unset, .unset] [(.int u113), (.ref a125)]))) (fun _ k => XS.iload X176.here hx rfl (hb hby at_86) rfl k) ?_
  refine oCallV (y := (⟨"com/example/deadlock_to_diagnosis/deadlocktodiagnosis/reader/LineScanner", "moveTo", "(I)V"⟩ : MethodName)) (z := (⟨"com/example/deadlock_to_diagnosis/deadlocktodiagnosis/reader/LineScanner", "moveTo", "(I)V"⟩ : MethodName)) X176 hx hZ hown (hw _ (List.mem_of_getElem? (i := 41) rfl)) (hw _ (List.mem_of_getElem? (i := 42) rfl)) (hw _ (List.mem_of_getElem? (i := 44) rfl)) (hw _ (List.mem_of_getElem? (i := 43) rfl)) (hw _ (List.mem_of_getElem? (i := 5) rfl)) (hw _ (List.mem_of_getElem? (i := 45) rfl)) (by decide) (rmMv l Z a0 hw a125 u113 T174.heap n0 Z192 cs fm hcs hfm S183 a143 (0 : Int32) E180 F181 F182 ab134) rfl E180 [(.int u113)] [] rfl rfl (by rw [hml]; rfl) (notFace_of_selects (args := #[]) (mvT hZ (hw _ (List.mem_of_getElem? (i := 44) rfl)))) (lenOf own_pd__I_V rfl) 0 (Nat.le_of_eq rfl) (by decide) (by decide) (by decide) (by decide) (hb hby at_88) ?_
  intro v193 T194 L195 X196 q197
  obtain ⟨rfl, N198, K199, F200, F201, S202⟩ := q197
  have N203 := Fr.app N184 N198
  have F204 := F186.keep K199 E180 (hw _ (List.mem_of_getElem? (i := 4) rfl)) (Nat.ne_of_gt lt146)
  have F205 := F187.keep K199 (ninS (Nat.ne_of_lt lt127) nin0)
  have F206 := F188.keep K199
  have F207 := E180.keep K199
  have Z211 : n0 ≤ T194.heap.size := Nat.le_trans Z192 K199.1
  show OGoal p e below s _ _ _ (T194.setTop (mkF m 91 #[.val (.long p1), .second, .val (.int p2), .val (.int p3), .val (.int p4), .val (.ref a11), .val (.int u113), .val (.ref a125), .unset, .unset, .unset, .unset, .unset, .unset] []))
  refine OGoal.mp (S' := (T194.setTop (mkF m 93 #[.val (.long p1), .second, .val (.int p2), .val (.int p3), .val (.int p4), .val (.ref a11), .val (.int u113), .val (.ref a125), .unset, .unset, .unset, .unset, .unset, .unset] [(.ref a125)]))) (fun _ k => XS.aload X196.here hx rfl (hb hby at_91) rfl rfl k) ?_
  refine OGoal.mp (S' := (T194.setTop (mkF m 94 #[.val (.long p1), .second, .val (.int p2), .val (.int p3), .val (.int p4), .val (.ref a11), .val (.int u113), .val (.ref a125), .unset, .unset, .unset, .unset, .unset, .unset] [(.int p3), (.ref a125)]))) (fun _ k => XS.iloadN X196.here hx rfl (hb hby at_93) rfl k) ?_
  refine OGoal.mp (S' := (T194.setTop (mkF m 96 #[.val (.long p1), .second, .val (.int p2), .val (.int p3), .val (.int p4), .val (.ref a11), .val (.int u113), .val (.ref a125), .unset, .unset, .unset, .unset, .unset, .unset] [(.int p4), (.int p3), (.ref a125)]))) (fun _ k => XS.iload X196.here hx rfl (hb hby at_94) rfl k) ?_
  refine oCallV (y := (⟨"com/example/deadlock_to_diagnosis/deadlocktodiagnosis/reader/LineScanner", "digits", "(II)Z"⟩ : MethodName)) (z := (⟨"com/example/deadlock_to_diagnosis/deadlocktodiagnosis/reader/LineScanner", "digits", "(II)Z"⟩ : MethodName)) X196 hx hZ hown (hw _ (List.mem_of_getElem? (i := 48) rfl)) (hw _ (List.mem_of_getElem? (i := 49) rfl)) (hw _ (List.mem_of_getElem? (i := 51) rfl)) (hw _ (List.mem_of_getElem? (i := 50) rfl)) (hw _ (List.mem_of_getElem? (i := 5) rfl)) (hw _ (List.mem_of_getElem? (i := 52) rfl)) (by decide) (rmDg l Z a0 hw a125 p3 p4 T194.heap n0 Z211 cs fm hcs hfm S202 u113 (by omega) (by omega) a143 (own_f u25 u48 u71 u94) hC F204 F207 F200 F201 ab134) rfl F207 [(.int p3), (.int p4)] [] rfl rfl (by rw [hml]; rfl) (notFace_of_selects (args := #[]) (mvT hZ (hw _ (List.mem_of_getElem? (i := 51) rfl)))) (lenOf own_pd__II_Z rfl) 0 (Nat.le_of_eq rfl) (by decide) (by decide) (by decide) (by decide) (hb hby at_96) ?_
  intro v212 T213 L214 X215 q216
  obtain ⟨rfl, N217, K218, F219⟩ := q216
  have N220 := Fr.app N203 N217
  have F221 := F205.keep K218 (ninS (Nat.ne_of_lt lt127) nin0)
  have F222 := F207.keep K218
  have Z223 : n0 ≤ T213.heap.size := Nat.le_trans Z211 K218.1
  show OGoal p e below s _ _ _ (T213.setTop (mkF m 99 #[.val (.long p1), .second, .val (.int p2), .val (.int p3), .val (.int p4), .val (.ref a11), .val (.int u113), .val (.ref a125), .unset, .unset, .unset, .unset, .unset, .unset] [(.int (own_res (Int32.ofNat (own_run (own_f u25 u48 u71 u94) (4 - u113.toInt.toNat) u113.toInt.toNat)) p3 p4))]))
  refine OGoal.mp (S' := (T213.setTop (mkF m 101 #[.val (.long p1), .second, .val (.int p2), .val (.int p3), .val (.int p4), .val (.ref a11), .val (.int u113), .val (.ref a125), .val (.int (own_res (Int32.ofNat (own_run (own_f u25 u48 u71 u94) (4 - u113.toInt.toNat) u113.toInt.toNat)) p3 p4)), .unset, .unset, .unset, .unset, .unset] []))) (fun _ k => XS.istore X215.here hx rfl (hb hby at_99) rfl (l' := #[.val (.long p1), .second, .val (.int p2), .val (.int p3), .val (.int p4), .val (.ref a11), .val (.int u113), .val (.ref a125), .val (.int (own_res (Int32.ofNat (own_run (own_f u25 u48 u71 u94) (4 - u113.toInt.toNat) u113.toInt.toNat)) p3 p4)), .unset, .unset, .unset, .unset, .unset]) rfl k) ?_
  refine OGoal.mp (S' := (T213.setTop (mkF m 103 #[.val (.long p1), .second, .val (.int p2), .val (.int p3), .val (.int p4), .val (.ref a11), .val (.int u113), .val (.ref a125), .val (.int (own_res (Int32.ofNat (own_run (own_f u25 u48 u71 u94) (4 - u113.toInt.toNat) u113.toInt.toNat)) p3 p4)), .unset, .unset, .unset, .unset, .unset] [(.ref a125)]))) (fun _ k => XS.aload X215.here hx rfl (hb hby at_101) rfl rfl k) ?_
  refine oCallV (y := (⟨"com/example/deadlock_to_diagnosis/deadlocktodiagnosis/reader/LineScanner", "position", "()I"⟩ : MethodName)) (z := (⟨"com/example/deadlock_to_diagnosis/deadlocktodiagnosis/reader/LineScanner", "position", "()I"⟩ : MethodName)) X215 hx hZ hown (hw _ (List.mem_of_getElem? (i := 88) rfl)) (hw _ (List.mem_of_getElem? (i := 89) rfl)) (hw _ (List.mem_of_getElem? (i := 91) rfl)) (hw _ (List.mem_of_getElem? (i := 90) rfl)) (hw _ (List.mem_of_getElem? (i := 5) rfl)) (hw _ (List.mem_of_getElem? (i := 92) rfl)) (by decide) (rmPo l Z a0 hw a125 T213.heap n0 Z223 (own_at u113 (Int32.ofNat (own_run (own_f u25 u48 u71 u94) (4 - u113.toInt.toNat) u113.toInt.toNat)) p3 p4) F219) rfl F222 [] [] rfl rfl (by rw [hml]; rfl) (notFace_of_selects (args := #[]) (mvT hZ (hw _ (List.mem_of_getElem? (i := 91) rfl)))) (lenOf own_pd___I rfl) 0 (Nat.le_of_eq rfl) (by decide) (by decide) (by decide) (by decide) (hb hby at_103) ?_
  intro v224 T225 L226 X227 q228
  obtain ⟨rfl, N229, e230⟩ := q228
  have N231 := Fr.app N220 N229
  show OGoal p e below s _ _ _ (T225.setTop (mkF m 106 #[.val (.long p1), .second, .val (.int p2), .val (.int p3), .val (.int p4), .val (.ref a11), .val (.int u113), .val (.ref a125), .val (.int (own_res (Int32.ofNat (own_run (own_f u25 u48 u71 u94) (4 - u113.toInt.toNat) u113.toInt.toNat)) p3 p4)), .unset, .unset, .unset, .unset, .unset] [(.int (own_at u113 (Int32.ofNat (own_run (own_f u25 u48 u71 u94) (4 - u113.toInt.toNat) u113.toInt.toNat)) p3 p4))]))
  refine OGoal.mp (S' := (T225.setTop (mkF m 108 #[.val (.long p1), .second, .val (.int p2), .val (.int p3), .val (.int p4), .val (.ref a11), .val (.int u113), .val (.ref a125), .val (.int (own_res (Int32.ofNat (own_run (own_f u25 u48 u71 u94) (4 - u113.toInt.toNat) u113.toInt.toNat)) p3 p4)), .val (.int (own_at u113 (Int32.ofNat (own_run (own_f u25 u48 u71 u94) (4 - u113.toInt.toNat) u113.toInt.toNat)) p3 p4)), .unset, .unset, .unset, .unset] []))) (fun _ k => XS.istore X227.here hx rfl (hb hby at_106) rfl (l' := #[.val (.long p1), .second, .val (.int p2), .val (.int p3), .val (.int p4), .val (.ref a11), .val (.int u113), .val (.ref a125), .val (.int (own_res (Int32.ofNat (own_run (own_f u25 u48 u71 u94) (4 - u113.toInt.toNat) u113.toInt.toNat)) p3 p4)), .val (.int (own_at u113 (Int32.ofNat (own_run (own_f u25 u48 u71 u94) (4 - u113.toInt.toNat) u113.toInt.toNat)) p3 p4)), .unset, .unset, .unset, .unset]) rfl k) ?_
  refine OGoal.mp (S' := (T225.setTop (mkF m 109 #[.val (.long p1), .second, .val (.int p2), .val (.int p3), .val (.int p4), .val (.ref a11), .val (.int u113), .val (.ref a125), .val (.int (own_res (Int32.ofNat (own_run (own_f u25 u48 u71 u94) (4 - u113.toInt.toNat) u113.toInt.toNat)) p3 p4)), .val (.int (own_at u113 (Int32.ofNat (own_run (own_f u25 u48 u71 u94) (4 - u113.toInt.toNat) u113.toInt.toNat)) p3 p4)), .unset, .unset, .unset, .unset] [(.int (4 : Int32))]))) (fun _ k => XS.iconst X227.here hx rfl (hb hby at_108) k) ?_
  obtain ⟨T232, h236, c239, X233, e234, E237, A238, XA242, st235⟩ := newPE X227 hx hZ (hw _ (List.mem_of_getElem? (i := 93) rfl)) e230 (g := mkF m 109 #[.val (.long p1), .second, .val (.int p2), .val (.int p3), .val (.int p4), .val (.ref a11), .val (.int u113), .val (.ref a125), .val (.int (own_res (Int32.ofNat (own_run (own_f u25 u48 u71 u94) (4 - u113.toInt.toNat) u113.toInt.toNat)) p3 p4)), .val (.int (own_at u113 (Int32.ofNat (own_run (own_f u25 u48 u71 u94) (4 - u113.toInt.toNat) u113.toInt.toNat)) p3 p4)), .unset, .unset, .unset, .unset] [(.int (4 : Int32))]) rfl (hb hby at_109) rfl (by decide) (cap := 4) (by decide) (by decide) (by decide) (by decide) (ad := "[Z") (by rfl)
  obtain ⟨a240, g241⟩ : ∃ z, z = T213.heap.size := ⟨_, rfl⟩
  rw [← g241] at A238 XA242 st235
  have lt243 : a11 < a240 := by rw [g241]; exact F221.lt
  have lt244 : a125 < a240 := by rw [g241]; exact F222.lt
  have F245 := F221.ext E237
  have F246 := F222.ext E237
  have F247 := F219.ext E237
  have F248 : OArr Z h236 a240 .boolean (4 : Int32) (fun _ => .int 0 : Nat → Value) := OArr.new A238 (by decide)
  have Z249 : n0 ≤ h236.size := Nat.le_trans Z223 E237.1
  have ab250 : n0 ≤ a240 := Nat.le_trans Z223 (Nat.le_of_eq g241.symm)
  refine OGoal.mp (S' := (T232.setTop (mkF m 111 #[.val (.long p1), .second, .val (.int p2), .val (.int p3), .val (.int p4), .val (.ref a11), .val (.int u113), .val (.ref a125), .val (.int (own_res (Int32.ofNat (own_run (own_f u25 u48 u71 u94) (4 - u113.toInt.toNat) u113.toInt.toNat)) p3 p4)), .val (.int (own_at u113 (Int32.ofNat (own_run (own_f u25 u48 u71 u94) (4 - u113.toInt.toNat) u113.toInt.toNat)) p3 p4)), .unset, .unset, .unset, .unset] [(.ref a240)]))) (fun _ k => st235 _ k) ?_
  refine OGoal.mp (S' := (T232.setTop (mkF m 113 #[.val (.long p1), .second, .val (.int p2), .val (.int p3), .val (.int p4), .val (.ref a11), .val (.int u113), .val (.ref a125), .val (.int (own_res (Int32.ofNat (own_run (own_f u25 u48 u71 u94) (4 - u113.toInt.toNat) u113.toInt.toNat)) p3 p4)), .val (.int (own_at u113 (Int32.ofNat (own_run (own_f u25 u48 u71 u94) (4 - u113.toInt.toNat) u113.toInt.toNat)) p3 p4)), .val (.ref a240), .unset, .unset, .unset] []))) (fun _ k => XS.astore X233.here hx rfl (hb hby at_111) rfl rfl (l' := #[.val (.long p1), .second, .val (.int p2), .val (.int p3), .val (.int p4), .val (.ref a11), .val (.int u113), .val (.ref a125), .val (.int (own_res (Int32.ofNat (own_run (own_f u25 u48 u71 u94) (4 - u113.toInt.toNat) u113.toInt.toNat)) p3 p4)), .val (.int (own_at u113 (Int32.ofNat (own_run (own_f u25 u48 u71 u94) (4 - u113.toInt.toNat) u113.toInt.toNat)) p3 p4)), .val (.ref a240), .unset, .unset, .unset]) rfl k) ?_
  refine OGoal.mp (S' := (T232.setTop (mkF m 115 #[.val (.long p1), .second, .val (.int p2), .val (.int p3), .val (.int p4), .val (.ref a11), .val (.int u113), .val (.ref a125), .val (.int (own_res (Int32.ofNat (own_run (own_f u25 u48 u71 u94) (4 - u113.toInt.toNat) u113.toInt.toNat)) p3 p4)), .val (.int (own_at u113 (Int32.ofNat (own_run (own_f u25 u48 u71 u94) (4 - u113.toInt.toNat) u113.toInt.toNat)) p3 p4)), .val (.ref a240), .unset, .unset, .unset] [(.ref a240)]))) (fun _ k => XS.aload X233.here hx rfl (hb hby at_113) rfl rfl k) ?_
  refine OGoal.mp (S' := (T232.setTop (mkF m 116 #[.val (.long p1), .second, .val (.int p2), .val (.int p3), .val (.int p4), .val (.ref a11), .val (.int u113), .val (.ref a125), .val (.int (own_res (Int32.ofNat (own_run (own_f u25 u48 u71 u94) (4 - u113.toInt.toNat) u113.toInt.toNat)) p3 p4)), .val (.int (own_at u113 (Int32.ofNat (own_run (own_f u25 u48 u71 u94) (4 - u113.toInt.toNat) u113.toInt.toNat)) p3 p4)), .val (.ref a240), .unset, .unset, .unset] [(.int (0 : Int32)), (.ref a240)]))) (fun _ k => XS.iconst X233.here hx rfl (hb hby at_115) k) ?_
  refine OGoal.mp (S' := (T232.setTop (mkF m 118 #[.val (.long p1), .second, .val (.int p2), .val (.int p3), .val (.int p4), .val (.ref a11), .val (.int u113), .val (.ref a125), .val (.int (own_res (Int32.ofNat (own_run (own_f u25 u48 u71 u94) (4 - u113.toInt.toNat) u113.toInt.toNat)) p3 p4)), .val (.int (own_at u113 (Int32.ofNat (own_run (own_f u25 u48 u71 u94) (4 - u113.toInt.toNat) u113.toInt.toNat)) p3 p4)), .val (.ref a240), .unset, .unset, .unset] [(.ref a11), (.int (0 : Int32)), (.ref a240)]))) (fun _ k => XS.aload X233.here hx rfl (hb hby at_116) rfl rfl k) ?_
  refine OGoal.mp (S' := (T232.setTop (mkF m 119 #[.val (.long p1), .second, .val (.int p2), .val (.int p3), .val (.int p4), .val (.ref a11), .val (.int u113), .val (.ref a125), .val (.int (own_res (Int32.ofNat (own_run (own_f u25 u48 u71 u94) (4 - u113.toInt.toNat) u113.toInt.toNat)) p3 p4)), .val (.int (own_at u113 (Int32.ofNat (own_run (own_f u25 u48 u71 u94) (4 - u113.toInt.toNat) u113.toInt.toNat)) p3 p4)), .val (.ref a240), .unset, .unset, .unset] [(.int (0 : Int32)), (.ref a11), (.int (0 : Int32)), (.ref a240)]))) (fun _ k => XS.iconst X233.here hx rfl (hb hby at_118) k) ?_
  refine OGoal.mp (S' := (T232.setTop (mkF m 120 #[.val (.long p1), .second, .val (.int p2), .val (.int p3), .val (.int p4), .val (.ref a11), .val (.int u113), .val (.ref a125), .val (.int (own_res (Int32.ofNat (own_run (own_f u25 u48 u71 u94) (4 - u113.toInt.toNat) u113.toInt.toNat)) p3 p4)), .val (.int (own_at u113 (Int32.ofNat (own_run (own_f u25 u48 u71 u94) (4 - u113.toInt.toNat) u113.toInt.toNat)) p3 p4)), .val (.ref a240), .unset, .unset, .unset] [(.int u25), (.int (0 : Int32)), (.ref a240)]))) (fun _ k => oLdC X233 hx hZ e234 F245 (by decide) (by decide) rfl (g := mkF m 119 #[.val (.long p1), .second, .val (.int p2), .val (.int p3), .val (.int p4), .val (.ref a11), .val (.int u113), .val (.ref a125), .val (.int (own_res (Int32.ofNat (own_run (own_f u25 u48 u71 u94) (4 - u113.toInt.toNat) u113.toInt.toNat)) p3 p4)), .val (.int (own_at u113 (Int32.ofNat (own_run (own_f u25 u48 u71 u94) (4 - u113.toInt.toNat) u113.toInt.toNat)) p3 p4)), .val (.ref a240), .unset, .unset, .unset] [(.int (0 : Int32)), (.ref a11), (.int (0 : Int32)), (.ref a240)]) rfl rfl (hb hby at_119) k) ?_
  refine oCallS (y := (⟨"com/example/deadlock_to_diagnosis/deadlocktodiagnosis/reader/LineScannerDigitsPinLaw", "isAsciiDigit", "(C)Z"⟩ : MethodName)) X233 hx hZ hown (hw _ (List.mem_of_getElem? (i := 94) rfl)) (hw _ (List.mem_of_getElem? (i := 95) rfl)) (hw _ (List.mem_of_getElem? (i := 96) rfl)) (hw _ (List.mem_of_getElem? (i := 97) rfl)) (by decide) (rmAd l Z a0 hw u25 h236 n0 Z249 (by omega) (by omega)) e234 [(.int u25)] [(.int (0 : Int32)), (.ref a240)] rfl rfl (by rw [hml]; rfl) (lenOf own_pd__C_Z rfl) 2 (Nat.le_of_eq rfl) (by decide) (by decide) (by decide) (by decide) (hb hby at_120) ?_
  intro v251 T252 L253 X254 q255
  obtain ⟨rfl, N256, e257⟩ := q255
  have N258 := Fr.app N231 N256
  show OGoal p e below s _ _ _ (T252.setTop (mkF m 123 #[.val (.long p1), .second, .val (.int p2), .val (.int p3), .val (.int p4), .val (.ref a11), .val (.int u113), .val (.ref a125), .val (.int (own_res (Int32.ofNat (own_run (own_f u25 u48 u71 u94) (4 - u113.toInt.toNat) u113.toInt.toNat)) p3 p4)), .val (.int (own_at u113 (Int32.ofNat (own_run (own_f u25 u48 u71 u94) (4 - u113.toInt.toNat) u113.toInt.toNat)) p3 p4)), .val (.ref a240), .unset, .unset, .unset] [(.int (own_dg u25)), (.int (0 : Int32)), (.ref a240)]))
  obtain ⟨T259, h263, X260, e261, W264, st262⟩ := oStZ X254 hx hZ e257 F248 (by decide) (by decide) (own_zdg _) (g := mkF m 123 #[.val (.long p1), .second, .val (.int p2), .val (.int p3), .val (.int p4), .val (.ref a11), .val (.int u113), .val (.ref a125), .val (.int (own_res (Int32.ofNat (own_run (own_f u25 u48 u71 u94) (4 - u113.toInt.toNat) u113.toInt.toNat)) p3 p4)), .val (.int (own_at u113 (Int32.ofNat (own_run (own_f u25 u48 u71 u94) (4 - u113.toInt.toNat) u113.toInt.toNat)) p3 p4)), .val (.ref a240), .unset, .unset, .unset] [(.int (own_dg u25)), (.int (0 : Int32)), (.ref a240)]) rfl rfl (hb hby at_123)
  have N265 := Fr.snoc X260 N258 ab250
  have F266 := F245.other W264 (Nat.ne_of_lt lt243)
  have F267 := F246.wr W264
  have F268 := F247.other W264 (Or.inl (Nat.ne_of_lt lt244))
  have F269 : OArr Z h263 a240 .boolean (4 : Int32) (fun jj => if jj = ((0 : Int32)).toNatClampNeg then (.int (own_dg u25)) else (fun _ => .int 0 : Nat → Value) jj : Nat → Value) := F248.set W264
  have F270 := XA242.wr W264
  have Z271 : n0 ≤ h263.size := Nat.le_trans Z249 (Keep.of_wr W264).1
  refine OGoal.mp (S' := (T259.setTop (mkF m 124 #[.val (.long p1), .second, .val (.int p2), .val (.int p3), .val (.int p4), .val (.ref a11), .val (.int u113), .val (.ref a125), .val (.int (own_res (Int32.ofNat (own_run (own_f u25 u48 u71 u94) (4 - u113.toInt.toNat) u113.toInt.toNat)) p3 p4)), .val (.int (own_at u113 (Int32.ofNat (own_run (own_f u25 u48 u71 u94) (4 - u113.toInt.toNat) u113.toInt.toNat)) p3 p4)), .val (.ref a240), .unset, .unset, .unset] []))) (fun _ k => st262 _ k) ?_
  refine OGoal.mp (S' := (T259.setTop (mkF m 126 #[.val (.long p1), .second, .val (.int p2), .val (.int p3), .val (.int p4), .val (.ref a11), .val (.int u113), .val (.ref a125), .val (.int (own_res (Int32.ofNat (own_run (own_f u25 u48 u71 u94) (4 - u113.toInt.toNat) u113.toInt.toNat)) p3 p4)), .val (.int (own_at u113 (Int32.ofNat (own_run (own_f u25 u48 u71 u94) (4 - u113.toInt.toNat) u113.toInt.toNat)) p3 p4)), .val (.ref a240), .unset, .unset, .unset] [(.ref a240)]))) (fun _ k => XS.aload X260.here hx rfl (hb hby at_124) rfl rfl k) ?_
  refine OGoal.mp (S' := (T259.setTop (mkF m 127 #[.val (.long p1), .second, .val (.int p2), .val (.int p3), .val (.int p4), .val (.ref a11), .val (.int u113), .val (.ref a125), .val (.int (own_res (Int32.ofNat (own_run (own_f u25 u48 u71 u94) (4 - u113.toInt.toNat) u113.toInt.toNat)) p3 p4)), .val (.int (own_at u113 (Int32.ofNat (own_run (own_f u25 u48 u71 u94) (4 - u113.toInt.toNat) u113.toInt.toNat)) p3 p4)), .val (.ref a240), .unset, .unset, .unset] [(.int (1 : Int32)), (.ref a240)]))) (fun _ k => XS.iconst X260.here hx rfl (hb hby at_126) k) ?_
  refine OGoal.mp (S' := (T259.setTop (mkF m 129 #[.val (.long p1), .second, .val (.int p2), .val (.int p3), .val (.int p4), .val (.ref a11), .val (.int u113), .val (.ref a125), .val (.int (own_res (Int32.ofNat (own_run (own_f u25 u48 u71 u94) (4 - u113.toInt.toNat) u113.toInt.toNat)) p3 p4)), .val (.int (own_at u113 (Int32.ofNat (own_run (own_f u25 u48 u71 u94) (4 - u113.toInt.toNat) u113.toInt.toNat)) p3 p4)), .val (.ref a240), .unset, .unset, .unset] [(.ref a11), (.int (1 : Int32)), (.ref a240)]))) (fun _ k => XS.aload X260.here hx rfl (hb hby at_127) rfl rfl k) ?_
  refine OGoal.mp (S' := (T259.setTop (mkF m 130 #[.val (.long p1), .second, .val (.int p2), .val (.int p3), .val (.int p4), .val (.ref a11), .val (.int u113), .val (.ref a125), .val (.int (own_res (Int32.ofNat (own_run (own_f u25 u48 u71 u94) (4 - u113.toInt.toNat) u113.toInt.toNat)) p3 p4)), .val (.int (own_at u113 (Int32.ofNat (own_run (own_f u25 u48 u71 u94) (4 - u113.toInt.toNat) u113.toInt.toNat)) p3 p4)), .val (.ref a240), .unset, .unset, .unset] [(.int (1 : Int32)), (.ref a11), (.int (1 : Int32)), (.ref a240)]))) (fun _ k => XS.iconst X260.here hx rfl (hb hby at_129) k) ?_
  refine OGoal.mp (S' := (T259.setTop (mkF m 131 #[.val (.long p1), .second, .val (.int p2), .val (.int p3), .val (.int p4), .val (.ref a11), .val (.int u113), .val (.ref a125), .val (.int (own_res (Int32.ofNat (own_run (own_f u25 u48 u71 u94) (4 - u113.toInt.toNat) u113.toInt.toNat)) p3 p4)), .val (.int (own_at u113 (Int32.ofNat (own_run (own_f u25 u48 u71 u94) (4 - u113.toInt.toNat) u113.toInt.toNat)) p3 p4)), .val (.ref a240), .unset, .unset, .unset] [(.int u48), (.int (1 : Int32)), (.ref a240)]))) (fun _ k => oLdC X260 hx hZ e261 F266 (by decide) (by decide) rfl (g := mkF m 130 #[.val (.long p1), .second, .val (.int p2), .val (.int p3), .val (.int p4), .val (.ref a11), .val (.int u113), .val (.ref a125), .val (.int (own_res (Int32.ofNat (own_run (own_f u25 u48 u71 u94) (4 - u113.toInt.toNat) u113.toInt.toNat)) p3 p4)), .val (.int (own_at u113 (Int32.ofNat (own_run (own_f u25 u48 u71 u94) (4 - u113.toInt.toNat) u113.toInt.toNat)) p3 p4)), .val (.ref a240), .unset, .unset, .unset] [(.int (1 : Int32)), (.ref a11), (.int (1 : Int32)), (.ref a240)]) rfl rfl (hb hby at_130) k) ?_
  refine oCallS (y := (⟨"com/example/deadlock_to_diagnosis/deadlocktodiagnosis/reader/LineScannerDigitsPinLaw", "isAsciiDigit", "(C)Z"⟩ : MethodName)) X260 hx hZ hown (hw _ (List.mem_of_getElem? (i := 94) rfl)) (hw _ (List.mem_of_getElem? (i := 95) rfl)) (hw _ (List.mem_of_getElem? (i := 96) rfl)) (hw _ (List.mem_of_getElem? (i := 97) rfl)) (by decide) (rmAd l Z a0 hw u48 h263 n0 Z271 (by omega) (by omega)) e261 [(.int u48)] [(.int (1 : Int32)), (.ref a240)] rfl rfl (by rw [hml]; rfl) (lenOf own_pd__C_Z rfl) 2 (Nat.le_of_eq rfl) (by decide) (by decide) (by decide) (by decide) (hb hby at_131) ?_
  intro v272 T273 L274 X275 q276
  obtain ⟨rfl, N277, e278⟩ := q276
  have N279 := Fr.app N265 N277
  show OGoal p e below s _ _ _ (T273.setTop (mkF m 134 #[.val (.long p1), .second, .val (.int p2), .val (.int p3), .val (.int p4), .val (.ref a11), .val (.int u113), .val (.ref a125), .val (.int (own_res (Int32.ofNat (own_run (own_f u25 u48 u71 u94) (4 - u113.toInt.toNat) u113.toInt.toNat)) p3 p4)), .val (.int (own_at u113 (Int32.ofNat (own_run (own_f u25 u48 u71 u94) (4 - u113.toInt.toNat) u113.toInt.toNat)) p3 p4)), .val (.ref a240), .unset, .unset, .unset] [(.int (own_dg u48)), (.int (1 : Int32)), (.ref a240)]))
  obtain ⟨T280, h284, X281, e282, W285, st283⟩ := oStZ X275 hx hZ e278 F269 (by decide) (by decide) (own_zdg _) (g := mkF m 134 #[.val (.long p1), .second, .val (.int p2), .val (.int p3), .val (.int p4), .val (.ref a11), .val (.int u113), .val (.ref a125), .val (.int (own_res (Int32.ofNat (own_run (own_f u25 u48 u71 u94) (4 - u113.toInt.toNat) u113.toInt.toNat)) p3 p4)), .val (.int (own_at u113 (Int32.ofNat (own_run (own_f u25 u48 u71 u94) (4 - u113.toInt.toNat) u113.toInt.toNat)) p3 p4)), .val (.ref a240), .unset, .unset, .unset] [(.int (own_dg u48)), (.int (1 : Int32)), (.ref a240)]) rfl rfl (hb hby at_134)
  have N286 := Fr.snoc X281 N279 ab250
  have F287 := F266.other W285 (Nat.ne_of_lt lt243)
  have F288 := F267.wr W285
  have F289 := F268.other W285 (Or.inl (Nat.ne_of_lt lt244))
  have F290 : OArr Z h284 a240 .boolean (4 : Int32) (fun jj => if jj = ((1 : Int32)).toNatClampNeg then (.int (own_dg u48)) else (fun jj => if jj = ((0 : Int32)).toNatClampNeg then (.int (own_dg u25)) else (fun _ => .int 0 : Nat → Value) jj : Nat → Value) jj : Nat → Value) := F269.set W285
  have F291 := F270.wr W285
  have Z292 : n0 ≤ h284.size := Nat.le_trans Z271 (Keep.of_wr W285).1
  refine OGoal.mp (S' := (T280.setTop (mkF m 135 #[.val (.long p1), .second, .val (.int p2), .val (.int p3), .val (.int p4), .val (.ref a11), .val (.int u113), .val (.ref a125), .val (.int (own_res (Int32.ofNat (own_run (own_f u25 u48 u71 u94) (4 - u113.toInt.toNat) u113.toInt.toNat)) p3 p4)), .val (.int (own_at u113 (Int32.ofNat (own_run (own_f u25 u48 u71 u94) (4 - u113.toInt.toNat) u113.toInt.toNat)) p3 p4)), .val (.ref a240), .unset, .unset, .unset] []))) (fun _ k => st283 _ k) ?_
  refine OGoal.mp (S' := (T280.setTop (mkF m 137 #[.val (.long p1), .second, .val (.int p2), .val (.int p3), .val (.int p4), .val (.ref a11), .val (.int u113), .val (.ref a125), .val (.int (own_res (Int32.ofNat (own_run (own_f u25 u48 u71 u94) (4 - u113.toInt.toNat) u113.toInt.toNat)) p3 p4)), .val (.int (own_at u113 (Int32.ofNat (own_run (own_f u25 u48 u71 u94) (4 - u113.toInt.toNat) u113.toInt.toNat)) p3 p4)), .val (.ref a240), .unset, .unset, .unset] [(.ref a240)]))) (fun _ k => XS.aload X281.here hx rfl (hb hby at_135) rfl rfl k) ?_
  refine OGoal.mp (S' := (T280.setTop (mkF m 138 #[.val (.long p1), .second, .val (.int p2), .val (.int p3), .val (.int p4), .val (.ref a11), .val (.int u113), .val (.ref a125), .val (.int (own_res (Int32.ofNat (own_run (own_f u25 u48 u71 u94) (4 - u113.toInt.toNat) u113.toInt.toNat)) p3 p4)), .val (.int (own_at u113 (Int32.ofNat (own_run (own_f u25 u48 u71 u94) (4 - u113.toInt.toNat) u113.toInt.toNat)) p3 p4)), .val (.ref a240), .unset, .unset, .unset] [(.int (2 : Int32)), (.ref a240)]))) (fun _ k => XS.iconst X281.here hx rfl (hb hby at_137) k) ?_
  refine OGoal.mp (S' := (T280.setTop (mkF m 140 #[.val (.long p1), .second, .val (.int p2), .val (.int p3), .val (.int p4), .val (.ref a11), .val (.int u113), .val (.ref a125), .val (.int (own_res (Int32.ofNat (own_run (own_f u25 u48 u71 u94) (4 - u113.toInt.toNat) u113.toInt.toNat)) p3 p4)), .val (.int (own_at u113 (Int32.ofNat (own_run (own_f u25 u48 u71 u94) (4 - u113.toInt.toNat) u113.toInt.toNat)) p3 p4)), .val (.ref a240), .unset, .unset, .unset] [(.ref a11), (.int (2 : Int32)), (.ref a240)]))) (fun _ k => XS.aload X281.here hx rfl (hb hby at_138) rfl rfl k) ?_
  refine OGoal.mp (S' := (T280.setTop (mkF m 141 #[.val (.long p1), .second, .val (.int p2), .val (.int p3), .val (.int p4), .val (.ref a11), .val (.int u113), .val (.ref a125), .val (.int (own_res (Int32.ofNat (own_run (own_f u25 u48 u71 u94) (4 - u113.toInt.toNat) u113.toInt.toNat)) p3 p4)), .val (.int (own_at u113 (Int32.ofNat (own_run (own_f u25 u48 u71 u94) (4 - u113.toInt.toNat) u113.toInt.toNat)) p3 p4)), .val (.ref a240), .unset, .unset, .unset] [(.int (2 : Int32)), (.ref a11), (.int (2 : Int32)), (.ref a240)]))) (fun _ k => XS.iconst X281.here hx rfl (hb hby at_140) k) ?_
  refine OGoal.mp (S' := (T280.setTop (mkF m 142 #[.val (.long p1), .second, .val (.int p2), .val (.int p3), .val (.int p4), .val (.ref a11), .val (.int u113), .val (.ref a125), .val (.int (own_res (Int32.ofNat (own_run (own_f u25 u48 u71 u94) (4 - u113.toInt.toNat) u113.toInt.toNat)) p3 p4)), .val (.int (own_at u113 (Int32.ofNat (own_run (own_f u25 u48 u71 u94) (4 - u113.toInt.toNat) u113.toInt.toNat)) p3 p4)), .val (.ref a240), .unset, .unset, .unset] [(.int u71), (.int (2 : Int32)), (.ref a240)]))) (fun _ k => oLdC X281 hx hZ e282 F287 (by decide) (by decide) rfl (g := mkF m 141 #[.val (.long p1), .second, .val (.int p2), .val (.int p3), .val (.int p4), .val (.ref a11), .val (.int u113), .val (.ref a125), .val (.int (own_res (Int32.ofNat (own_run (own_f u25 u48 u71 u94) (4 - u113.toInt.toNat) u113.toInt.toNat)) p3 p4)), .val (.int (own_at u113 (Int32.ofNat (own_run (own_f u25 u48 u71 u94) (4 - u113.toInt.toNat) u113.toInt.toNat)) p3 p4)), .val (.ref a240), .unset, .unset, .unset] [(.int (2 : Int32)), (.ref a11), (.int (2 : Int32)), (.ref a240)]) rfl rfl (hb hby at_141) k) ?_
  refine oCallS (y := (⟨"com/example/deadlock_to_diagnosis/deadlocktodiagnosis/reader/LineScannerDigitsPinLaw", "isAsciiDigit", "(C)Z"⟩ : MethodName)) X281 hx hZ hown (hw _ (List.mem_of_getElem? (i := 94) rfl)) (hw _ (List.mem_of_getElem? (i := 95) rfl)) (hw _ (List.mem_of_getElem? (i := 96) rfl)) (hw _ (List.mem_of_getElem? (i := 97) rfl)) (by decide) (rmAd l Z a0 hw u71 h284 n0 Z292 (by omega) (by omega)) e282 [(.int u71)] [(.int (2 : Int32)), (.ref a240)] rfl rfl (by rw [hml]; rfl) (lenOf own_pd__C_Z rfl) 2 (Nat.le_of_eq rfl) (by decide) (by decide) (by decide) (by decide) (hb hby at_142) ?_
  intro v293 T294 L295 X296 q297
  obtain ⟨rfl, N298, e299⟩ := q297
  have N300 := Fr.app N286 N298
  show OGoal p e below s _ _ _ (T294.setTop (mkF m 145 #[.val (.long p1), .second, .val (.int p2), .val (.int p3), .val (.int p4), .val (.ref a11), .val (.int u113), .val (.ref a125), .val (.int (own_res (Int32.ofNat (own_run (own_f u25 u48 u71 u94) (4 - u113.toInt.toNat) u113.toInt.toNat)) p3 p4)), .val (.int (own_at u113 (Int32.ofNat (own_run (own_f u25 u48 u71 u94) (4 - u113.toInt.toNat) u113.toInt.toNat)) p3 p4)), .val (.ref a240), .unset, .unset, .unset] [(.int (own_dg u71)), (.int (2 : Int32)), (.ref a240)]))
  obtain ⟨T301, h305, X302, e303, W306, st304⟩ := oStZ X296 hx hZ e299 F290 (by decide) (by decide) (own_zdg _) (g := mkF m 145 #[.val (.long p1), .second, .val (.int p2), .val (.int p3), .val (.int p4), .val (.ref a11), .val (.int u113), .val (.ref a125), .val (.int (own_res (Int32.ofNat (own_run (own_f u25 u48 u71 u94) (4 - u113.toInt.toNat) u113.toInt.toNat)) p3 p4)), .val (.int (own_at u113 (Int32.ofNat (own_run (own_f u25 u48 u71 u94) (4 - u113.toInt.toNat) u113.toInt.toNat)) p3 p4)), .val (.ref a240), .unset, .unset, .unset] [(.int (own_dg u71)), (.int (2 : Int32)), (.ref a240)]) rfl rfl (hb hby at_145)
  have N307 := Fr.snoc X302 N300 ab250
  have F308 := F287.other W306 (Nat.ne_of_lt lt243)
  have F309 := F288.wr W306
  have F310 := F289.other W306 (Or.inl (Nat.ne_of_lt lt244))
  have F311 : OArr Z h305 a240 .boolean (4 : Int32) (fun jj => if jj = ((2 : Int32)).toNatClampNeg then (.int (own_dg u71)) else (fun jj => if jj = ((1 : Int32)).toNatClampNeg then (.int (own_dg u48)) else (fun jj => if jj = ((0 : Int32)).toNatClampNeg then (.int (own_dg u25)) else (fun _ => .int 0 : Nat → Value) jj : Nat → Value) jj : Nat → Value) jj : Nat → Value) := F290.set W306
  have F312 := F291.wr W306
  have Z313 : n0 ≤ h305.size := Nat.le_trans Z292 (Keep.of_wr W306).1
  refine OGoal.mp (S' := (T301.setTop (mkF m 146 #[.val (.long p1), .second, .val (.int p2), .val (.int p3), .val (.int p4), .val (.ref a11), .val (.int u113), .val (.ref a125), .val (.int (own_res (Int32.ofNat (own_run (own_f u25 u48 u71 u94) (4 - u113.toInt.toNat) u113.toInt.toNat)) p3 p4)), .val (.int (own_at u113 (Int32.ofNat (own_run (own_f u25 u48 u71 u94) (4 - u113.toInt.toNat) u113.toInt.toNat)) p3 p4)), .val (.ref a240), .unset, .unset, .unset] []))) (fun _ k => st304 _ k) ?_
  refine OGoal.mp (S' := (T301.setTop (mkF m 148 #[.val (.long p1), .second, .val (.int p2), .val (.int p3), .val (.int p4), .val (.ref a11), .val (.int u113), .val (.ref a125), .val (.int (own_res (Int32.ofNat (own_run (own_f u25 u48 u71 u94) (4 - u113.toInt.toNat) u113.toInt.toNat)) p3 p4)), .val (.int (own_at u113 (Int32.ofNat (own_run (own_f u25 u48 u71 u94) (4 - u113.toInt.toNat) u113.toInt.toNat)) p3 p4)), .val (.ref a240), .unset, .unset, .unset] [(.ref a240)]))) (fun _ k => XS.aload X302.here hx rfl (hb hby at_146) rfl rfl k) ?_
  refine OGoal.mp (S' := (T301.setTop (mkF m 149 #[.val (.long p1), .second, .val (.int p2), .val (.int p3), .val (.int p4), .val (.ref a11), .val (.int u113), .val (.ref a125), .val (.int (own_res (Int32.ofNat (own_run (own_f u25 u48 u71 u94) (4 - u113.toInt.toNat) u113.toInt.toNat)) p3 p4)), .val (.int (own_at u113 (Int32.ofNat (own_run (own_f u25 u48 u71 u94) (4 - u113.toInt.toNat) u113.toInt.toNat)) p3 p4)), .val (.ref a240), .unset, .unset, .unset] [(.int (3 : Int32)), (.ref a240)]))) (fun _ k => XS.iconst X302.here hx rfl (hb hby at_148) k) ?_
  refine OGoal.mp (S' := (T301.setTop (mkF m 151 #[.val (.long p1), .second, .val (.int p2), .val (.int p3), .val (.int p4), .val (.ref a11), .val (.int u113), .val (.ref a125), .val (.int (own_res (Int32.ofNat (own_run (own_f u25 u48 u71 u94) (4 - u113.toInt.toNat) u113.toInt.toNat)) p3 p4)), .val (.int (own_at u113 (Int32.ofNat (own_run (own_f u25 u48 u71 u94) (4 - u113.toInt.toNat) u113.toInt.toNat)) p3 p4)), .val (.ref a240), .unset, .unset, .unset] [(.ref a11), (.int (3 : Int32)), (.ref a240)]))) (fun _ k => XS.aload X302.here hx rfl (hb hby at_149) rfl rfl k) ?_
  refine OGoal.mp (S' := (T301.setTop (mkF m 152 #[.val (.long p1), .second, .val (.int p2), .val (.int p3), .val (.int p4), .val (.ref a11), .val (.int u113), .val (.ref a125), .val (.int (own_res (Int32.ofNat (own_run (own_f u25 u48 u71 u94) (4 - u113.toInt.toNat) u113.toInt.toNat)) p3 p4)), .val (.int (own_at u113 (Int32.ofNat (own_run (own_f u25 u48 u71 u94) (4 - u113.toInt.toNat) u113.toInt.toNat)) p3 p4)), .val (.ref a240), .unset, .unset, .unset] [(.int (3 : Int32)), (.ref a11), (.int (3 : Int32)), (.ref a240)]))) (fun _ k => XS.iconst X302.here hx rfl (hb hby at_151) k) ?_
  refine OGoal.mp (S' := (T301.setTop (mkF m 153 #[.val (.long p1), .second, .val (.int p2), .val (.int p3), .val (.int p4), .val (.ref a11), .val (.int u113), .val (.ref a125), .val (.int (own_res (Int32.ofNat (own_run (own_f u25 u48 u71 u94) (4 - u113.toInt.toNat) u113.toInt.toNat)) p3 p4)), .val (.int (own_at u113 (Int32.ofNat (own_run (own_f u25 u48 u71 u94) (4 - u113.toInt.toNat) u113.toInt.toNat)) p3 p4)), .val (.ref a240), .unset, .unset, .unset] [(.int u94), (.int (3 : Int32)), (.ref a240)]))) (fun _ k => oLdC X302 hx hZ e303 F308 (by decide) (by decide) rfl (g := mkF m 152 #[.val (.long p1), .second, .val (.int p2), .val (.int p3), .val (.int p4), .val (.ref a11), .val (.int u113), .val (.ref a125), .val (.int (own_res (Int32.ofNat (own_run (own_f u25 u48 u71 u94) (4 - u113.toInt.toNat) u113.toInt.toNat)) p3 p4)), .val (.int (own_at u113 (Int32.ofNat (own_run (own_f u25 u48 u71 u94) (4 - u113.toInt.toNat) u113.toInt.toNat)) p3 p4)), .val (.ref a240), .unset, .unset, .unset] [(.int (3 : Int32)), (.ref a11), (.int (3 : Int32)), (.ref a240)]) rfl rfl (hb hby at_152) k) ?_
  refine oCallS (y := (⟨"com/example/deadlock_to_diagnosis/deadlocktodiagnosis/reader/LineScannerDigitsPinLaw", "isAsciiDigit", "(C)Z"⟩ : MethodName)) X302 hx hZ hown (hw _ (List.mem_of_getElem? (i := 94) rfl)) (hw _ (List.mem_of_getElem? (i := 95) rfl)) (hw _ (List.mem_of_getElem? (i := 96) rfl)) (hw _ (List.mem_of_getElem? (i := 97) rfl)) (by decide) (rmAd l Z a0 hw u94 h305 n0 Z313 (by omega) (by omega)) e303 [(.int u94)] [(.int (3 : Int32)), (.ref a240)] rfl rfl (by rw [hml]; rfl) (lenOf own_pd__C_Z rfl) 2 (Nat.le_of_eq rfl) (by decide) (by decide) (by decide) (by decide) (hb hby at_153) ?_
  intro v314 T315 L316 X317 q318
  obtain ⟨rfl, N319, e320⟩ := q318
  have N321 := Fr.app N307 N319
  show OGoal p e below s _ _ _ (T315.setTop (mkF m 156 #[.val (.long p1), .second, .val (.int p2), .val (.int p3), .val (.int p4), .val (.ref a11), .val (.int u113), .val (.ref a125), .val (.int (own_res (Int32.ofNat (own_run (own_f u25 u48 u71 u94) (4 - u113.toInt.toNat) u113.toInt.toNat)) p3 p4)), .val (.int (own_at u113 (Int32.ofNat (own_run (own_f u25 u48 u71 u94) (4 - u113.toInt.toNat) u113.toInt.toNat)) p3 p4)), .val (.ref a240), .unset, .unset, .unset] [(.int (own_dg u94)), (.int (3 : Int32)), (.ref a240)]))
  obtain ⟨T322, h326, X323, e324, W327, st325⟩ := oStZ X317 hx hZ e320 F311 (by decide) (by decide) (own_zdg _) (g := mkF m 156 #[.val (.long p1), .second, .val (.int p2), .val (.int p3), .val (.int p4), .val (.ref a11), .val (.int u113), .val (.ref a125), .val (.int (own_res (Int32.ofNat (own_run (own_f u25 u48 u71 u94) (4 - u113.toInt.toNat) u113.toInt.toNat)) p3 p4)), .val (.int (own_at u113 (Int32.ofNat (own_run (own_f u25 u48 u71 u94) (4 - u113.toInt.toNat) u113.toInt.toNat)) p3 p4)), .val (.ref a240), .unset, .unset, .unset] [(.int (own_dg u94)), (.int (3 : Int32)), (.ref a240)]) rfl rfl (hb hby at_156)
  have N328 := Fr.snoc X323 N321 ab250
  have F329 := F308.other W327 (Nat.ne_of_lt lt243)
  have F330 := F309.wr W327
  have F331 := F310.other W327 (Or.inl (Nat.ne_of_lt lt244))
  have F332 : OArr Z h326 a240 .boolean (4 : Int32) (fun jj => if jj = ((3 : Int32)).toNatClampNeg then (.int (own_dg u94)) else (fun jj => if jj = ((2 : Int32)).toNatClampNeg then (.int (own_dg u71)) else (fun jj => if jj = ((1 : Int32)).toNatClampNeg then (.int (own_dg u48)) else (fun jj => if jj = ((0 : Int32)).toNatClampNeg then (.int (own_dg u25)) else (fun _ => .int 0 : Nat → Value) jj : Nat → Value) jj : Nat → Value) jj : Nat → Value) jj : Nat → Value) := F311.set W327
  have F333 := F312.wr W327
  have Z334 : n0 ≤ h326.size := Nat.le_trans Z313 (Keep.of_wr W327).1
  refine OGoal.mp (S' := (T322.setTop (mkF m 157 #[.val (.long p1), .second, .val (.int p2), .val (.int p3), .val (.int p4), .val (.ref a11), .val (.int u113), .val (.ref a125), .val (.int (own_res (Int32.ofNat (own_run (own_f u25 u48 u71 u94) (4 - u113.toInt.toNat) u113.toInt.toNat)) p3 p4)), .val (.int (own_at u113 (Int32.ofNat (own_run (own_f u25 u48 u71 u94) (4 - u113.toInt.toNat) u113.toInt.toNat)) p3 p4)), .val (.ref a240), .unset, .unset, .unset] []))) (fun _ k => st325 _ k) ?_
  have A335 : OArr Z h326 a240 .boolean 4 (fun k => .int (own_dg ((own_f u25 u48 u71 u94) k))) := F332.imp (fun i hi => by have hi2 : i < 4 := hi; exact (match i, hi2 with | 0, _ => rfl | 1, _ => rfl | 2, _ => rfl | 3, _ => rfl))
  refine OGoal.mp (S' := (T322.setTop (mkF m 159 #[.val (.long p1), .second, .val (.int p2), .val (.int p3), .val (.int p4), .val (.ref a11), .val (.int u113), .val (.ref a125), .val (.int (own_res (Int32.ofNat (own_run (own_f u25 u48 u71 u94) (4 - u113.toInt.toNat) u113.toInt.toNat)) p3 p4)), .val (.int (own_at u113 (Int32.ofNat (own_run (own_f u25 u48 u71 u94) (4 - u113.toInt.toNat) u113.toInt.toNat)) p3 p4)), .val (.ref a240), .unset, .unset, .unset] [(.ref a240)]))) (fun _ k => XS.aload X323.here hx rfl (hb hby at_157) rfl rfl k) ?_
  refine OGoal.mp (S' := (T322.setTop (mkF m 161 #[.val (.long p1), .second, .val (.int p2), .val (.int p3), .val (.int p4), .val (.ref a11), .val (.int u113), .val (.ref a125), .val (.int (own_res (Int32.ofNat (own_run (own_f u25 u48 u71 u94) (4 - u113.toInt.toNat) u113.toInt.toNat)) p3 p4)), .val (.int (own_at u113 (Int32.ofNat (own_run (own_f u25 u48 u71 u94) (4 - u113.toInt.toNat) u113.toInt.toNat)) p3 p4)), .val (.ref a240), .unset, .unset, .unset] [(.int u113), (.ref a240)]))) (fun _ k => XS.iload X323.here hx rfl (hb hby at_159) rfl k) ?_
  refine oCallS (y := (⟨"com/example/deadlock_to_diagnosis/deadlocktodiagnosis/reader/LineScannerDigitsPinLaw", "runFrom", "([ZI)I"⟩ : MethodName)) X323 hx hZ hown (hw _ (List.mem_of_getElem? (i := 98) rfl)) (hw _ (List.mem_of_getElem? (i := 99) rfl)) (hw _ (List.mem_of_getElem? (i := 96) rfl)) (hw _ (List.mem_of_getElem? (i := 100) rfl)) (by decide) (rmRF l Z a0 hw a240 u113 h326 n0 Z334 (own_f u25 u48 u71 u94) A335 (by omega) (by omega)) e324 [(.ref a240), (.int u113)] [] rfl rfl (by rw [hml]; rfl) (lenOf own_pd___ZI_I rfl) 0 (Nat.le_of_eq rfl) (by decide) (by decide) (by decide) (by decide) (hb hby at_161) ?_
  intro v336 T337 L338 X339 q340
  obtain ⟨rfl, N341, e342⟩ := q340
  have N343 := Fr.app N328 N341
  obtain ⟨r344, hr344⟩ : ∃ z, z = (Int32.ofNat (own_run (own_f u25 u48 u71 u94) (4 - u113.toInt.toNat) u113.toInt.toNat)) := ⟨_, rfl⟩
  rw [← hr344]
  show OGoal p e below s _ _ _ (T337.setTop (mkF m 164 #[.val (.long p1), .second, .val (.int p2), .val (.int p3), .val (.int p4), .val (.ref a11), .val (.int u113), .val (.ref a125), .val (.int (own_res r344 p3 p4)), .val (.int (own_at u113 r344 p3 p4)), .val (.ref a240), .unset, .unset, .unset] [(.int r344)]))
  refine OGoal.mp (S' := (T337.setTop (mkF m 166 #[.val (.long p1), .second, .val (.int p2), .val (.int p3), .val (.int p4), .val (.ref a11), .val (.int u113), .val (.ref a125), .val (.int (own_res r344 p3 p4)), .val (.int (own_at u113 r344 p3 p4)), .val (.ref a240), .val (.int r344), .unset, .unset] []))) (fun _ k => XS.istore X339.here hx rfl (hb hby at_164) rfl (l' := #[.val (.long p1), .second, .val (.int p2), .val (.int p3), .val (.int p4), .val (.ref a11), .val (.int u113), .val (.ref a125), .val (.int (own_res r344 p3 p4)), .val (.int (own_at u113 r344 p3 p4)), .val (.ref a240), .val (.int r344), .unset, .unset]) rfl k) ?_
  refine OGoal.mp (S' := (T337.setTop (mkF m 168 #[.val (.long p1), .second, .val (.int p2), .val (.int p3), .val (.int p4), .val (.ref a11), .val (.int u113), .val (.ref a125), .val (.int (own_res r344 p3 p4)), .val (.int (own_at u113 r344 p3 p4)), .val (.ref a240), .val (.int r344), .unset, .unset] [(.int r344)]))) (fun _ k => XS.iload X339.here hx rfl (hb hby at_166) rfl k) ?_
  refine OGoal.mp (S' := (T337.setTop (mkF m 169 #[.val (.long p1), .second, .val (.int p2), .val (.int p3), .val (.int p4), .val (.ref a11), .val (.int u113), .val (.ref a125), .val (.int (own_res r344 p3 p4)), .val (.int (own_at u113 r344 p3 p4)), .val (.ref a240), .val (.int r344), .unset, .unset] [(.int p3), (.int r344)]))) (fun _ k => XS.iloadN X339.here hx rfl (hb hby at_168) rfl k) ?_
  by_cases hc345 : r344 < p3
  · have g346 := oLt hc345
    refine OGoal.mp (S' := (T337.setTop (mkF m 183 #[.val (.long p1), .second, .val (.int p2), .val (.int p3), .val (.int p4), .val (.ref a11), .val (.int u113), .val (.ref a125), .val (.int (own_res r344 p3 p4)), .val (.int (own_at u113 r344 p3 p4)), .val (.ref a240), .val (.int r344), .unset, .unset] []))) (fun _ k => XS.icmpYes X339.here hx rfl (pc0 := 169) (pc' := 183) rfl (hb hby at_169) rfl (XT.ii_lt_t hc345) (by decide) (by decide) k) ?_
    refine OGoal.mp (S' := (T337.setTop (mkF m 184 #[.val (.long p1), .second, .val (.int p2), .val (.int p3), .val (.int p4), .val (.ref a11), .val (.int u113), .val (.ref a125), .val (.int (own_res r344 p3 p4)), .val (.int (own_at u113 r344 p3 p4)), .val (.ref a240), .val (.int r344), .unset, .unset] [(.int (0 : Int32))]))) (fun _ k => XS.iconst X339.here hx rfl (hb hby at_183) k) ?_
    refine OGoal.mp (S' := (T337.setTop (mkF m 186 #[.val (.long p1), .second, .val (.int p2), .val (.int p3), .val (.int p4), .val (.ref a11), .val (.int u113), .val (.ref a125), .val (.int (own_res r344 p3 p4)), .val (.int (own_at u113 r344 p3 p4)), .val (.ref a240), .val (.int r344), .val (.int (0 : Int32)), .unset] []))) (fun _ k => XS.istore X339.here hx rfl (hb hby at_184) rfl (l' := #[.val (.long p1), .second, .val (.int p2), .val (.int p3), .val (.int p4), .val (.ref a11), .val (.int u113), .val (.ref a125), .val (.int (own_res r344 p3 p4)), .val (.int (own_at u113 r344 p3 p4)), .val (.ref a240), .val (.int r344), .val (.int (0 : Int32)), .unset]) rfl k) ?_
    refine OGoal.mp (S' := (T337.setTop (mkF m 188 #[.val (.long p1), .second, .val (.int p2), .val (.int p3), .val (.int p4), .val (.ref a11), .val (.int u113), .val (.ref a125), .val (.int (own_res r344 p3 p4)), .val (.int (own_at u113 r344 p3 p4)), .val (.ref a240), .val (.int r344), .val (.int (0 : Int32)), .unset] [(.int (0 : Int32))]))) (fun _ k => XS.iload X339.here hx rfl (hb hby at_186) rfl k) ?_
    have hd347 : (0 : Int32) = 0 := mEq (by omega)
    refine OGoal.mp (S' := (T337.setTop (mkF m 199 #[.val (.long p1), .second, .val (.int p2), .val (.int p3), .val (.int p4), .val (.ref a11), .val (.int u113), .val (.ref a125), .val (.int (own_res r344 p3 p4)), .val (.int (own_at u113 r344 p3 p4)), .val (.ref a240), .val (.int r344), .val (.int (0 : Int32)), .unset] []))) (fun _ k => XS.ifYes X339.here hx rfl (pc0 := 188) (pc' := 199) rfl (hb hby at_188) rfl (XT.i0_eq_t hd347) (by decide) (by decide) k) ?_
    refine OGoal.mp (S' := (T337.setTop (mkF m 201 #[.val (.long p1), .second, .val (.int p2), .val (.int p3), .val (.int p4), .val (.ref a11), .val (.int u113), .val (.ref a125), .val (.int (own_res r344 p3 p4)), .val (.int (own_at u113 r344 p3 p4)), .val (.ref a240), .val (.int r344), .val (.int (0 : Int32)), .unset] [(.int u113)]))) (fun _ k => XS.iload X339.here hx rfl (hb hby at_199) rfl k) ?_
    refine OGoal.mp (S' := (T337.setTop (mkF m 203 #[.val (.long p1), .second, .val (.int p2), .val (.int p3), .val (.int p4), .val (.ref a11), .val (.int u113), .val (.ref a125), .val (.int (own_res r344 p3 p4)), .val (.int (own_at u113 r344 p3 p4)), .val (.ref a240), .val (.int r344), .val (.int (0 : Int32)), .val (.int u113)] []))) (fun _ k => XS.istore X339.here hx rfl (hb hby at_201) rfl (l' := #[.val (.long p1), .second, .val (.int p2), .val (.int p3), .val (.int p4), .val (.ref a11), .val (.int u113), .val (.ref a125), .val (.int (own_res r344 p3 p4)), .val (.int (own_at u113 r344 p3 p4)), .val (.ref a240), .val (.int r344), .val (.int (0 : Int32)), .val (.int u113)]) rfl k) ?_
    refine OGoal.mp (S' := (T337.setTop (mkF m 205 #[.val (.long p1), .second, .val (.int p2), .val (.int p3), .val (.int p4), .val (.ref a11), .val (.int u113), .val (.ref a125), .val (.int (own_res r344 p3 p4)), .val (.int (own_at u113 r344 p3 p4)), .val (.ref a240), .val (.int r344), .val (.int (0 : Int32)), .val (.int u113)] [(.int (own_res r344 p3 p4))]))) (fun _ k => XS.iload X339.here hx rfl (hb hby at_203) rfl k) ?_
    refine OGoal.mp (S' := (T337.setTop (mkF m 207 #[.val (.long p1), .second, .val (.int p2), .val (.int p3), .val (.int p4), .val (.ref a11), .val (.int u113), .val (.ref a125), .val (.int (own_res r344 p3 p4)), .val (.int (own_at u113 r344 p3 p4)), .val (.ref a240), .val (.int r344), .val (.int (0 : Int32)), .val (.int u113)] [(.int (0 : Int32)), (.int (own_res r344 p3 p4))]))) (fun _ k => XS.iload X339.here hx rfl (hb hby at_205) rfl k) ?_
    refine OGoal.mp (S' := (T337.setTop (mkF m 210 #[.val (.long p1), .second, .val (.int p2), .val (.int p3), .val (.int p4), .val (.ref a11), .val (.int u113), .val (.ref a125), .val (.int (own_res r344 p3 p4)), .val (.int (own_at u113 r344 p3 p4)), .val (.ref a240), .val (.int r344), .val (.int (0 : Int32)), .val (.int u113)] []))) (fun _ k => XS.icmpNo X339.here hx rfl (hb hby at_207) rfl (XT.ii_ne_f (by unfold own_res; rw [if_pos hc345])) k) ?_
    refine OGoal.mp (S' := (T337.setTop (mkF m 212 #[.val (.long p1), .second, .val (.int p2), .val (.int p3), .val (.int p4), .val (.ref a11), .val (.int u113), .val (.ref a125), .val (.int (own_res r344 p3 p4)), .val (.int (own_at u113 r344 p3 p4)), .val (.ref a240), .val (.int r344), .val (.int (0 : Int32)), .val (.int u113)] [(.int (own_at u113 r344 p3 p4))]))) (fun _ k => XS.iload X339.here hx rfl (hb hby at_210) rfl k) ?_
    refine OGoal.mp (S' := (T337.setTop (mkF m 214 #[.val (.long p1), .second, .val (.int p2), .val (.int p3), .val (.int p4), .val (.ref a11), .val (.int u113), .val (.ref a125), .val (.int (own_res r344 p3 p4)), .val (.int (own_at u113 r344 p3 p4)), .val (.ref a240), .val (.int r344), .val (.int (0 : Int32)), .val (.int u113)] [(.int u113), (.int (own_at u113 r344 p3 p4))]))) (fun _ k => XS.iload X339.here hx rfl (hb hby at_212) rfl k) ?_
    refine OGoal.mp (S' := (T337.setTop (mkF m 217 #[.val (.long p1), .second, .val (.int p2), .val (.int p3), .val (.int p4), .val (.ref a11), .val (.int u113), .val (.ref a125), .val (.int (own_res r344 p3 p4)), .val (.int (own_at u113 r344 p3 p4)), .val (.ref a240), .val (.int r344), .val (.int (0 : Int32)), .val (.int u113)] []))) (fun _ k => XS.icmpNo X339.here hx rfl (hb hby at_214) rfl (XT.ii_ne_f (by unfold own_at; rw [show own_res r344 p3 p4 = (0 : Int32) from (by unfold own_res; rw [if_pos hc345]), if_pos rfl])) k) ?_
    refine OGoal.mp (S' := (T337.setTop (mkF m 218 #[.val (.long p1), .second, .val (.int p2), .val (.int p3), .val (.int p4), .val (.ref a11), .val (.int u113), .val (.ref a125), .val (.int (own_res r344 p3 p4)), .val (.int (own_at u113 r344 p3 p4)), .val (.ref a240), .val (.int r344), .val (.int (0 : Int32)), .val (.int u113)] [(.int (1 : Int32))]))) (fun _ k => XS.iconst X339.here hx rfl (hb hby at_217) k) ?_
    refine OGoal.mp (S' := (T337.setTop (mkF m 222 #[.val (.long p1), .second, .val (.int p2), .val (.int p3), .val (.int p4), .val (.ref a11), .val (.int u113), .val (.ref a125), .val (.int (own_res r344 p3 p4)), .val (.int (own_at u113 r344 p3 p4)), .val (.ref a240), .val (.int r344), .val (.int (0 : Int32)), .val (.int u113)] [(.int (1 : Int32))]))) (fun _ k => XS.goto X339.here hx rfl (pc0 := 218) (pc' := 222) rfl (hb hby at_218) (by decide) (by decide) k) ?_
    refine oRetZ X339 hx hlk hret (Or.inr rfl) (hb hby at_222) ?_ (by decide) (by decide)
    exact ⟨rfl, N343⟩
  · have g348 := oNlt hc345
    refine OGoal.mp (S' := (T337.setTop (mkF m 172 #[.val (.long p1), .second, .val (.int p2), .val (.int p3), .val (.int p4), .val (.ref a11), .val (.int u113), .val (.ref a125), .val (.int (own_res r344 p3 p4)), .val (.int (own_at u113 r344 p3 p4)), .val (.ref a240), .val (.int r344), .unset, .unset] []))) (fun _ k => XS.icmpNo X339.here hx rfl (hb hby at_169) rfl (XT.ii_lt_f hc345) k) ?_
    refine OGoal.mp (S' := (T337.setTop (mkF m 174 #[.val (.long p1), .second, .val (.int p2), .val (.int p3), .val (.int p4), .val (.ref a11), .val (.int u113), .val (.ref a125), .val (.int (own_res r344 p3 p4)), .val (.int (own_at u113 r344 p3 p4)), .val (.ref a240), .val (.int r344), .unset, .unset] [(.int r344)]))) (fun _ k => XS.iload X339.here hx rfl (hb hby at_172) rfl k) ?_
    refine OGoal.mp (S' := (T337.setTop (mkF m 176 #[.val (.long p1), .second, .val (.int p2), .val (.int p3), .val (.int p4), .val (.ref a11), .val (.int u113), .val (.ref a125), .val (.int (own_res r344 p3 p4)), .val (.int (own_at u113 r344 p3 p4)), .val (.ref a240), .val (.int r344), .unset, .unset] [(.int p4), (.int r344)]))) (fun _ k => XS.iload X339.here hx rfl (hb hby at_174) rfl k) ?_
    by_cases hc349 : p4 < r344
    · have g350 := oLt hc349
      refine OGoal.mp (S' := (T337.setTop (mkF m 183 #[.val (.long p1), .second, .val (.int p2), .val (.int p3), .val (.int p4), .val (.ref a11), .val (.int u113), .val (.ref a125), .val (.int (own_res r344 p3 p4)), .val (.int (own_at u113 r344 p3 p4)), .val (.ref a240), .val (.int r344), .unset, .unset] []))) (fun _ k => XS.icmpYes X339.here hx rfl (pc0 := 176) (pc' := 183) rfl (hb hby at_176) rfl (XT.ii_gt_t hc349) (by decide) (by decide) k) ?_
      refine OGoal.mp (S' := (T337.setTop (mkF m 184 #[.val (.long p1), .second, .val (.int p2), .val (.int p3), .val (.int p4), .val (.ref a11), .val (.int u113), .val (.ref a125), .val (.int (own_res r344 p3 p4)), .val (.int (own_at u113 r344 p3 p4)), .val (.ref a240), .val (.int r344), .unset, .unset] [(.int (0 : Int32))]))) (fun _ k => XS.iconst X339.here hx rfl (hb hby at_183) k) ?_
      refine OGoal.mp (S' := (T337.setTop (mkF m 186 #[.val (.long p1), .second, .val (.int p2), .val (.int p3), .val (.int p4), .val (.ref a11), .val (.int u113), .val (.ref a125), .val (.int (own_res r344 p3 p4)), .val (.int (own_at u113 r344 p3 p4)), .val (.ref a240), .val (.int r344), .val (.int (0 : Int32)), .unset] []))) (fun _ k => XS.istore X339.here hx rfl (hb hby at_184) rfl (l' := #[.val (.long p1), .second, .val (.int p2), .val (.int p3), .val (.int p4), .val (.ref a11), .val (.int u113), .val (.ref a125), .val (.int (own_res r344 p3 p4)), .val (.int (own_at u113 r344 p3 p4)), .val (.ref a240), .val (.int r344), .val (.int (0 : Int32)), .unset]) rfl k) ?_
      refine OGoal.mp (S' := (T337.setTop (mkF m 188 #[.val (.long p1), .second, .val (.int p2), .val (.int p3), .val (.int p4), .val (.ref a11), .val (.int u113), .val (.ref a125), .val (.int (own_res r344 p3 p4)), .val (.int (own_at u113 r344 p3 p4)), .val (.ref a240), .val (.int r344), .val (.int (0 : Int32)), .unset] [(.int (0 : Int32))]))) (fun _ k => XS.iload X339.here hx rfl (hb hby at_186) rfl k) ?_
      have hd351 : (0 : Int32) = 0 := mEq (by omega)
      refine OGoal.mp (S' := (T337.setTop (mkF m 199 #[.val (.long p1), .second, .val (.int p2), .val (.int p3), .val (.int p4), .val (.ref a11), .val (.int u113), .val (.ref a125), .val (.int (own_res r344 p3 p4)), .val (.int (own_at u113 r344 p3 p4)), .val (.ref a240), .val (.int r344), .val (.int (0 : Int32)), .unset] []))) (fun _ k => XS.ifYes X339.here hx rfl (pc0 := 188) (pc' := 199) rfl (hb hby at_188) rfl (XT.i0_eq_t hd351) (by decide) (by decide) k) ?_
      refine OGoal.mp (S' := (T337.setTop (mkF m 201 #[.val (.long p1), .second, .val (.int p2), .val (.int p3), .val (.int p4), .val (.ref a11), .val (.int u113), .val (.ref a125), .val (.int (own_res r344 p3 p4)), .val (.int (own_at u113 r344 p3 p4)), .val (.ref a240), .val (.int r344), .val (.int (0 : Int32)), .unset] [(.int u113)]))) (fun _ k => XS.iload X339.here hx rfl (hb hby at_199) rfl k) ?_
      refine OGoal.mp (S' := (T337.setTop (mkF m 203 #[.val (.long p1), .second, .val (.int p2), .val (.int p3), .val (.int p4), .val (.ref a11), .val (.int u113), .val (.ref a125), .val (.int (own_res r344 p3 p4)), .val (.int (own_at u113 r344 p3 p4)), .val (.ref a240), .val (.int r344), .val (.int (0 : Int32)), .val (.int u113)] []))) (fun _ k => XS.istore X339.here hx rfl (hb hby at_201) rfl (l' := #[.val (.long p1), .second, .val (.int p2), .val (.int p3), .val (.int p4), .val (.ref a11), .val (.int u113), .val (.ref a125), .val (.int (own_res r344 p3 p4)), .val (.int (own_at u113 r344 p3 p4)), .val (.ref a240), .val (.int r344), .val (.int (0 : Int32)), .val (.int u113)]) rfl k) ?_
      refine OGoal.mp (S' := (T337.setTop (mkF m 205 #[.val (.long p1), .second, .val (.int p2), .val (.int p3), .val (.int p4), .val (.ref a11), .val (.int u113), .val (.ref a125), .val (.int (own_res r344 p3 p4)), .val (.int (own_at u113 r344 p3 p4)), .val (.ref a240), .val (.int r344), .val (.int (0 : Int32)), .val (.int u113)] [(.int (own_res r344 p3 p4))]))) (fun _ k => XS.iload X339.here hx rfl (hb hby at_203) rfl k) ?_
      refine OGoal.mp (S' := (T337.setTop (mkF m 207 #[.val (.long p1), .second, .val (.int p2), .val (.int p3), .val (.int p4), .val (.ref a11), .val (.int u113), .val (.ref a125), .val (.int (own_res r344 p3 p4)), .val (.int (own_at u113 r344 p3 p4)), .val (.ref a240), .val (.int r344), .val (.int (0 : Int32)), .val (.int u113)] [(.int (0 : Int32)), (.int (own_res r344 p3 p4))]))) (fun _ k => XS.iload X339.here hx rfl (hb hby at_205) rfl k) ?_
      refine OGoal.mp (S' := (T337.setTop (mkF m 210 #[.val (.long p1), .second, .val (.int p2), .val (.int p3), .val (.int p4), .val (.ref a11), .val (.int u113), .val (.ref a125), .val (.int (own_res r344 p3 p4)), .val (.int (own_at u113 r344 p3 p4)), .val (.ref a240), .val (.int r344), .val (.int (0 : Int32)), .val (.int u113)] []))) (fun _ k => XS.icmpNo X339.here hx rfl (hb hby at_207) rfl (XT.ii_ne_f (by unfold own_res; rw [if_neg hc345, if_pos hc349])) k) ?_
      refine OGoal.mp (S' := (T337.setTop (mkF m 212 #[.val (.long p1), .second, .val (.int p2), .val (.int p3), .val (.int p4), .val (.ref a11), .val (.int u113), .val (.ref a125), .val (.int (own_res r344 p3 p4)), .val (.int (own_at u113 r344 p3 p4)), .val (.ref a240), .val (.int r344), .val (.int (0 : Int32)), .val (.int u113)] [(.int (own_at u113 r344 p3 p4))]))) (fun _ k => XS.iload X339.here hx rfl (hb hby at_210) rfl k) ?_
      refine OGoal.mp (S' := (T337.setTop (mkF m 214 #[.val (.long p1), .second, .val (.int p2), .val (.int p3), .val (.int p4), .val (.ref a11), .val (.int u113), .val (.ref a125), .val (.int (own_res r344 p3 p4)), .val (.int (own_at u113 r344 p3 p4)), .val (.ref a240), .val (.int r344), .val (.int (0 : Int32)), .val (.int u113)] [(.int u113), (.int (own_at u113 r344 p3 p4))]))) (fun _ k => XS.iload X339.here hx rfl (hb hby at_212) rfl k) ?_
      refine OGoal.mp (S' := (T337.setTop (mkF m 217 #[.val (.long p1), .second, .val (.int p2), .val (.int p3), .val (.int p4), .val (.ref a11), .val (.int u113), .val (.ref a125), .val (.int (own_res r344 p3 p4)), .val (.int (own_at u113 r344 p3 p4)), .val (.ref a240), .val (.int r344), .val (.int (0 : Int32)), .val (.int u113)] []))) (fun _ k => XS.icmpNo X339.here hx rfl (hb hby at_214) rfl (XT.ii_ne_f (by unfold own_at; rw [show own_res r344 p3 p4 = (0 : Int32) from (by unfold own_res; rw [if_neg hc345, if_pos hc349]), if_pos rfl])) k) ?_
      refine OGoal.mp (S' := (T337.setTop (mkF m 218 #[.val (.long p1), .second, .val (.int p2), .val (.int p3), .val (.int p4), .val (.ref a11), .val (.int u113), .val (.ref a125), .val (.int (own_res r344 p3 p4)), .val (.int (own_at u113 r344 p3 p4)), .val (.ref a240), .val (.int r344), .val (.int (0 : Int32)), .val (.int u113)] [(.int (1 : Int32))]))) (fun _ k => XS.iconst X339.here hx rfl (hb hby at_217) k) ?_
      refine OGoal.mp (S' := (T337.setTop (mkF m 222 #[.val (.long p1), .second, .val (.int p2), .val (.int p3), .val (.int p4), .val (.ref a11), .val (.int u113), .val (.ref a125), .val (.int (own_res r344 p3 p4)), .val (.int (own_at u113 r344 p3 p4)), .val (.ref a240), .val (.int r344), .val (.int (0 : Int32)), .val (.int u113)] [(.int (1 : Int32))]))) (fun _ k => XS.goto X339.here hx rfl (pc0 := 218) (pc' := 222) rfl (hb hby at_218) (by decide) (by decide) k) ?_
      refine oRetZ X339 hx hlk hret (Or.inr rfl) (hb hby at_222) ?_ (by decide) (by decide)
      exact ⟨rfl, N343⟩
    · have g352 := oNlt hc349
      refine OGoal.mp (S' := (T337.setTop (mkF m 179 #[.val (.long p1), .second, .val (.int p2), .val (.int p3), .val (.int p4), .val (.ref a11), .val (.int u113), .val (.ref a125), .val (.int (own_res r344 p3 p4)), .val (.int (own_at u113 r344 p3 p4)), .val (.ref a240), .val (.int r344), .unset, .unset] []))) (fun _ k => XS.icmpNo X339.here hx rfl (hb hby at_176) rfl (XT.ii_gt_f hc349) k) ?_
      refine OGoal.mp (S' := (T337.setTop (mkF m 180 #[.val (.long p1), .second, .val (.int p2), .val (.int p3), .val (.int p4), .val (.ref a11), .val (.int u113), .val (.ref a125), .val (.int (own_res r344 p3 p4)), .val (.int (own_at u113 r344 p3 p4)), .val (.ref a240), .val (.int r344), .unset, .unset] [(.int (1 : Int32))]))) (fun _ k => XS.iconst X339.here hx rfl (hb hby at_179) k) ?_
      refine OGoal.mp (S' := (T337.setTop (mkF m 184 #[.val (.long p1), .second, .val (.int p2), .val (.int p3), .val (.int p4), .val (.ref a11), .val (.int u113), .val (.ref a125), .val (.int (own_res r344 p3 p4)), .val (.int (own_at u113 r344 p3 p4)), .val (.ref a240), .val (.int r344), .unset, .unset] [(.int (1 : Int32))]))) (fun _ k => XS.goto X339.here hx rfl (pc0 := 180) (pc' := 184) rfl (hb hby at_180) (by decide) (by decide) k) ?_
      refine OGoal.mp (S' := (T337.setTop (mkF m 186 #[.val (.long p1), .second, .val (.int p2), .val (.int p3), .val (.int p4), .val (.ref a11), .val (.int u113), .val (.ref a125), .val (.int (own_res r344 p3 p4)), .val (.int (own_at u113 r344 p3 p4)), .val (.ref a240), .val (.int r344), .val (.int (1 : Int32)), .unset] []))) (fun _ k => XS.istore X339.here hx rfl (hb hby at_184) rfl (l' := #[.val (.long p1), .second, .val (.int p2), .val (.int p3), .val (.int p4), .val (.ref a11), .val (.int u113), .val (.ref a125), .val (.int (own_res r344 p3 p4)), .val (.int (own_at u113 r344 p3 p4)), .val (.ref a240), .val (.int r344), .val (.int (1 : Int32)), .unset]) rfl k) ?_
      refine OGoal.mp (S' := (T337.setTop (mkF m 188 #[.val (.long p1), .second, .val (.int p2), .val (.int p3), .val (.int p4), .val (.ref a11), .val (.int u113), .val (.ref a125), .val (.int (own_res r344 p3 p4)), .val (.int (own_at u113 r344 p3 p4)), .val (.ref a240), .val (.int r344), .val (.int (1 : Int32)), .unset] [(.int (1 : Int32))]))) (fun _ k => XS.iload X339.here hx rfl (hb hby at_186) rfl k) ?_
      have hd353 : ¬ ((1 : Int32) = 0) := mNe (by omega)
      refine OGoal.mp (S' := (T337.setTop (mkF m 191 #[.val (.long p1), .second, .val (.int p2), .val (.int p3), .val (.int p4), .val (.ref a11), .val (.int u113), .val (.ref a125), .val (.int (own_res r344 p3 p4)), .val (.int (own_at u113 r344 p3 p4)), .val (.ref a240), .val (.int r344), .val (.int (1 : Int32)), .unset] []))) (fun _ k => XS.ifNo X339.here hx rfl (hb hby at_188) rfl (XT.i0_eq_f hd353) k) ?_
      refine OGoal.mp (S' := (T337.setTop (mkF m 193 #[.val (.long p1), .second, .val (.int p2), .val (.int p3), .val (.int p4), .val (.ref a11), .val (.int u113), .val (.ref a125), .val (.int (own_res r344 p3 p4)), .val (.int (own_at u113 r344 p3 p4)), .val (.ref a240), .val (.int r344), .val (.int (1 : Int32)), .unset] [(.int u113)]))) (fun _ k => XS.iload X339.here hx rfl (hb hby at_191) rfl k) ?_
      refine OGoal.mp (S' := (T337.setTop (mkF m 195 #[.val (.long p1), .second, .val (.int p2), .val (.int p3), .val (.int p4), .val (.ref a11), .val (.int u113), .val (.ref a125), .val (.int (own_res r344 p3 p4)), .val (.int (own_at u113 r344 p3 p4)), .val (.ref a240), .val (.int r344), .val (.int (1 : Int32)), .unset] [(.int r344), (.int u113)]))) (fun _ k => XS.iload X339.here hx rfl (hb hby at_193) rfl k) ?_
      refine OGoal.mp (S' := (T337.setTop (mkF m 196 #[.val (.long p1), .second, .val (.int p2), .val (.int p3), .val (.int p4), .val (.ref a11), .val (.int u113), .val (.ref a125), .val (.int (own_res r344 p3 p4)), .val (.int (own_at u113 r344 p3 p4)), .val (.ref a240), .val (.int r344), .val (.int (1 : Int32)), .unset] [(.int (u113 + r344))]))) (fun _ k => XS.iadd X339.here hx rfl (hb hby at_195) rfl k) ?_
      obtain ⟨u354, hu354⟩ : ∃ z : Int32, z = (u113 + r344) := ⟨_, rfl⟩
      rw [← hu354]
      have t355 : (u354.toInt - ((u113).toInt + (r344).toInt)) % 4294967296 = 0 := by rw [hu354]; exact c_iadd u113 r344
      have r356 := rng32 u354
      refine OGoal.mp (S' := (T337.setTop (mkF m 201 #[.val (.long p1), .second, .val (.int p2), .val (.int p3), .val (.int p4), .val (.ref a11), .val (.int u113), .val (.ref a125), .val (.int (own_res r344 p3 p4)), .val (.int (own_at u113 r344 p3 p4)), .val (.ref a240), .val (.int r344), .val (.int (1 : Int32)), .unset] [(.int u354)]))) (fun _ k => XS.goto X339.here hx rfl (pc0 := 196) (pc' := 201) rfl (hb hby at_196) (by decide) (by decide) k) ?_
      refine OGoal.mp (S' := (T337.setTop (mkF m 203 #[.val (.long p1), .second, .val (.int p2), .val (.int p3), .val (.int p4), .val (.ref a11), .val (.int u113), .val (.ref a125), .val (.int (own_res r344 p3 p4)), .val (.int (own_at u113 r344 p3 p4)), .val (.ref a240), .val (.int r344), .val (.int (1 : Int32)), .val (.int u354)] []))) (fun _ k => XS.istore X339.here hx rfl (hb hby at_201) rfl (l' := #[.val (.long p1), .second, .val (.int p2), .val (.int p3), .val (.int p4), .val (.ref a11), .val (.int u113), .val (.ref a125), .val (.int (own_res r344 p3 p4)), .val (.int (own_at u113 r344 p3 p4)), .val (.ref a240), .val (.int r344), .val (.int (1 : Int32)), .val (.int u354)]) rfl k) ?_
      refine OGoal.mp (S' := (T337.setTop (mkF m 205 #[.val (.long p1), .second, .val (.int p2), .val (.int p3), .val (.int p4), .val (.ref a11), .val (.int u113), .val (.ref a125), .val (.int (own_res r344 p3 p4)), .val (.int (own_at u113 r344 p3 p4)), .val (.ref a240), .val (.int r344), .val (.int (1 : Int32)), .val (.int u354)] [(.int (own_res r344 p3 p4))]))) (fun _ k => XS.iload X339.here hx rfl (hb hby at_203) rfl k) ?_
      refine OGoal.mp (S' := (T337.setTop (mkF m 207 #[.val (.long p1), .second, .val (.int p2), .val (.int p3), .val (.int p4), .val (.ref a11), .val (.int u113), .val (.ref a125), .val (.int (own_res r344 p3 p4)), .val (.int (own_at u113 r344 p3 p4)), .val (.ref a240), .val (.int r344), .val (.int (1 : Int32)), .val (.int u354)] [(.int (1 : Int32)), (.int (own_res r344 p3 p4))]))) (fun _ k => XS.iload X339.here hx rfl (hb hby at_205) rfl k) ?_
      refine OGoal.mp (S' := (T337.setTop (mkF m 210 #[.val (.long p1), .second, .val (.int p2), .val (.int p3), .val (.int p4), .val (.ref a11), .val (.int u113), .val (.ref a125), .val (.int (own_res r344 p3 p4)), .val (.int (own_at u113 r344 p3 p4)), .val (.ref a240), .val (.int r344), .val (.int (1 : Int32)), .val (.int u354)] []))) (fun _ k => XS.icmpNo X339.here hx rfl (hb hby at_207) rfl (XT.ii_ne_f (by unfold own_res; rw [if_neg hc345, if_neg hc349])) k) ?_
      refine OGoal.mp (S' := (T337.setTop (mkF m 212 #[.val (.long p1), .second, .val (.int p2), .val (.int p3), .val (.int p4), .val (.ref a11), .val (.int u113), .val (.ref a125), .val (.int (own_res r344 p3 p4)), .val (.int (own_at u113 r344 p3 p4)), .val (.ref a240), .val (.int r344), .val (.int (1 : Int32)), .val (.int u354)] [(.int (own_at u113 r344 p3 p4))]))) (fun _ k => XS.iload X339.here hx rfl (hb hby at_210) rfl k) ?_
      refine OGoal.mp (S' := (T337.setTop (mkF m 214 #[.val (.long p1), .second, .val (.int p2), .val (.int p3), .val (.int p4), .val (.ref a11), .val (.int u113), .val (.ref a125), .val (.int (own_res r344 p3 p4)), .val (.int (own_at u113 r344 p3 p4)), .val (.ref a240), .val (.int r344), .val (.int (1 : Int32)), .val (.int u354)] [(.int u354), (.int (own_at u113 r344 p3 p4))]))) (fun _ k => XS.iload X339.here hx rfl (hb hby at_212) rfl k) ?_
      refine OGoal.mp (S' := (T337.setTop (mkF m 217 #[.val (.long p1), .second, .val (.int p2), .val (.int p3), .val (.int p4), .val (.ref a11), .val (.int u113), .val (.ref a125), .val (.int (own_res r344 p3 p4)), .val (.int (own_at u113 r344 p3 p4)), .val (.ref a240), .val (.int r344), .val (.int (1 : Int32)), .val (.int u354)] []))) (fun _ k => XS.icmpNo X339.here hx rfl (hb hby at_214) rfl (XT.ii_ne_f (by unfold own_at; rw [show own_res r344 p3 p4 = (1 : Int32) from (by unfold own_res; rw [if_neg hc345, if_neg hc349]), if_neg (by decide)]; exact hu354.symm)) k) ?_
      refine OGoal.mp (S' := (T337.setTop (mkF m 218 #[.val (.long p1), .second, .val (.int p2), .val (.int p3), .val (.int p4), .val (.ref a11), .val (.int u113), .val (.ref a125), .val (.int (own_res r344 p3 p4)), .val (.int (own_at u113 r344 p3 p4)), .val (.ref a240), .val (.int r344), .val (.int (1 : Int32)), .val (.int u354)] [(.int (1 : Int32))]))) (fun _ k => XS.iconst X339.here hx rfl (hb hby at_217) k) ?_
      refine OGoal.mp (S' := (T337.setTop (mkF m 222 #[.val (.long p1), .second, .val (.int p2), .val (.int p3), .val (.int p4), .val (.ref a11), .val (.int u113), .val (.ref a125), .val (.int (own_res r344 p3 p4)), .val (.int (own_at u113 r344 p3 p4)), .val (.ref a240), .val (.int r344), .val (.int (1 : Int32)), .val (.int u354)] [(.int (1 : Int32))]))) (fun _ k => XS.goto X339.here hx rfl (pc0 := 218) (pc' := 222) rfl (hb hby at_218) (by decide) (by decide) k) ?_
      refine oRetZ X339 hx hlk hret (Or.inr rfl) (hb hby at_222) ?_ (by decide) (by decide)
      exact ⟨rfl, N343⟩
set_option maxRecDepth 65536 in
set_option maxHeartbeats 40000000 in
theorem comes_1 {Post : Tables → Env → Array Value → State → Outcome → State → Prop} (hpost : ∀ tb e args s v u, (limb_1_1.after args s (.returned v) u = true ∧ limb_1_2.after args s (.returned v) u = true ∧ True) → FrameEnd s (.returned v) u (Jvm.fieldLocs frame_1_writes args s ++ Jvm.arrayLocs frame_1_arrays args s ++ Jvm.staticLocs frame_1_statics s) 24 128 → Post tb e args s (.returned v) u) :
    ArmFor flags0 classFile x code maxLocals ret World_1 tables_1 room_1 Calls_1 rest_1 Pre_1 Post := by
  intro l hfl _ _ p e ha hc hk s m args below hf hA hF happ hP
  obtain ⟨hcalls, hrest, hpre⟩ := hP
  obtain ⟨-, -, -, hnamed, -, -, -, hat⟩ := (Spec.applies_iff hf).mp happ
  obtain ⟨hg, hn⟩ := and_e (Cond.before_iff.mp (show (Jvm.Cond.and given_1 narrow_1).before args s = true from hpre))
  obtain ⟨hcnt, hg⟩ := and_e hg
  obtain ⟨w0, w1, w2, w3, rfl⟩ : ∃ w0 w1 w2 w3 : Value, args = #[w0, w1, w2, w3] := by
    have hs : args.size = 4 := by simpa [Cond.value, given_1] using hcnt
    obtain ⟨L⟩ := args
    match L, hs with
    | [w0, w1, w2, w3], _ => exact ⟨w0, w1, w2, w3, rfl⟩
  have hw := fun d (hd : d ∈ tables_1) => atoms_spec (ws := Jvm.Cond.code x code maxLocals ret :: tables_1) hat d (List.mem_cons_of_mem _ hd)
  have hfit : Fit s := fun {y c} hc i hi => by
    obtain ⟨ha, rfl⟩ := Array.getElem?_eq_some_iff.mp hc
    have q := List.all_eq_true.mp ((Array.all_eq_true_iff_forall_mem.mp hF) _ (Array.getElem_mem ha)) i (List.mem_range.mpr hi)
    simpa [Array.getElem?_eq_getElem hi] using q
  obtain ⟨hg0, hg⟩ := and_e hg
  obtain ⟨i0, ei0⟩ := isL_v hg0
  obtain rfl : w0 = (.long i0) := Option.some.inj ei0
  obtain ⟨hg1, hg⟩ := and_e hg
  obtain ⟨i1, ei1⟩ := is_v hg1
  obtain rfl : w1 = (.int i1) := Option.some.inj ei1
  obtain ⟨hg2, hg⟩ := and_e hg
  obtain ⟨i2, ei2⟩ := is_v hg2
  obtain rfl : w2 = (.int i2) := Option.some.inj ei2
  obtain ⟨i3, ei3⟩ := is_v hg
  obtain rfl : w3 = (.int i3) := Option.some.inj ei3
  have hr := Cond.before_iff.mp (show rest_1_c.before _ s = true from hrest)
  obtain ⟨rest_0, hr⟩ := and_e hr
  obtain ⟨rest_1i, hr⟩ := and_e hr
  obtain ⟨rest_2, hr⟩ := and_e hr
  obtain ⟨-, hr⟩ := and_e hr
  obtain ⟨-, hr⟩ := and_e hr
  obtain ⟨-, hr⟩ := and_e hr
  obtain ⟨-, hr⟩ := and_e hr
  obtain ⟨rest_7, hr⟩ := and_e hr
  obtain ⟨rest_8, hr⟩ := and_e hr
  obtain ⟨-, hr⟩ := and_e hr
  obtain ⟨-, hr⟩ := and_e hr
  obtain ⟨rest_11, hr⟩ := and_e hr
  obtain ⟨rest_12, hr⟩ := and_e hr
  obtain ⟨-, hr⟩ := and_e hr
  obtain ⟨rest_14, hr⟩ := and_e hr
  obtain ⟨rest_15, hr⟩ := and_e hr
  obtain ⟨-, hr⟩ := and_e hr
  obtain ⟨rest_17, hr⟩ := and_e hr
  obtain ⟨rest_18, hr⟩ := and_e hr
  obtain ⟨cs, ecs⟩ := is_v rest_1i
  obtain ⟨fm, efm, hfm⟩ := isR_v rest_8
  obtain ⟨x12, y12, z12⟩ := oEqv rest_12
  obtain ⟨x15, y15, z15⟩ := oEqv rest_15
  obtain ⟨x18, y18, z18⟩ := oEqv rest_18
  obtain rfl : Value.int 1 = x12 := Option.some.inj z12
  obtain rfl : Value.int 0 = x15 := Option.some.inj z15
  obtain rfl : Value.int 8 = x18 := Option.some.inj z18
  have hcs : ¬ cs = 0 := fun q => oNot rest_2 (eq_i ecs (Term.int_eval (0)) (by rw [q]))
  have St : Stt s s.heap cs fm := ⟨Sta.start ecs (Or.inl (Cond.before_iff.mpr rest_0)), Sta.start y12 (Or.inl (Cond.before_iff.mpr rest_11)), Sta.start y15 (Or.inl (Cond.before_iff.mpr rest_14)), Sta.start y18 (Or.inl (Cond.before_iff.mpr rest_17)), Sta.start efm (Or.inl (Cond.before_iff.mpr rest_7))⟩
  obtain ⟨n, o, h1, h2, h3, _, L, rfl, ⟨rfl, N⟩, hq⟩ := rm0 l s _ hw i0 i1 i2 i3 s.heap s.heap.size (Nat.le_refl _) cs fm hcs hfm St tables_1 p e ha hc hk s m _ below hf ((Spec.applies_iff_loose hf).mp happ).1 ⟨rfl, State.Warmed39.refl s, rfl⟩ trivial
  refine ⟨n, _, h1, h2, h3, hpost _ _ _ _ _ _ ⟨Cond.after_iff.mpr rfl, Cond.after_iff.mpr (eq_i res_at (Term.int_eval (1)) rfl), trivial⟩ ⟨hq.1, hq.2.1, (hq.2.2.sift fun y hy => Or.inr (N y hy)).mono (by decide) (by decide)⟩⟩
theorem main_1_1 : Claimed_1_1 := comes_1 fun _ _ _ _ _ _ h hF => ⟨h.1, hF⟩
theorem main_1_2 : Claimed_1_2 := comes_1 fun _ _ _ _ _ _ h hF => ⟨h.2.1, hF⟩
end Jvm.Pilot.@@N@@
namespace Jvm.Pilot.@@N@@
open Jvm Jvm.ClassFile Sem Op Lib Jvm.Free Jvm.Stand Jvm.Pilot.@@N@@.Jvm.D
/-! MADE BY PROGRAM (witnessworld.py) out of the Statement's table words and the real class files: 22 classes; the members and pool entries that the words name. The judged class is class 1, her method 1. -/
namespace start1
open Jvm.ClassFile
def u (s : String) : CpInfo := .utf8 (stringToUtf16 s)
/-- a pool by its gaps: so many unusable entries, then the entry; so many at the end -/
def gap : Nat → List CpInfo → List CpInfo
  | 0, r => r
  | n + 1, r => .unusable :: gap n r
def poolList (es : List (Nat × CpInfo)) (last : Nat) : List CpInfo := es.foldr (fun e r => gap e.1 (e.2 :: r)) (gap last [])
def pool (es : List (Nat × CpInfo)) (last : Nat) : Array CpInfo := ⟨poolList es last⟩
def fileOf (pool : Array CpInfo) (this : Nat) (attrs : Array Attribute := #[]) (ms : Array MethodInfo := #[]) (fl : Nat := 33) (sup : Nat := 0) (ifs : Array Nat := #[]) (fds : Array FieldInfo := #[]) : ClassFile where
  minorVersion := 0
  majorVersion := 65
  constantPool := pool
  accessFlags := fl
  thisClass := this
  superClass := sup
  interfaces := ifs
  fields := fds
  methods := ms
  attributes := attrs
def plain (name : String) (sup : Option ClassId) : Class where
  name := name
  kind := .ordinary
  loader := none
  accessFlags := 33
  super := sup
  interfaces := #[]
  cf := none
  fields := #[]
  methods := #[]
  instanceTypes := #[]
  staticTypes := #[]
  resolved := #[]
  callSites := []
  init := .initialized
  statics := none
  mirror := none

def pool0 : Array CpInfo := pool [(5, u "<init>"), (0, u "()V"), (1, .class_ 10), (1, u "java/lang/Object")] 113

def k0c0 : Code := { maxStack := 0, maxLocals := 1, code := object_method_1_code, exceptionTable := #[], attributes := #[] }
def k0m0 : Method := { name := "<init>", desc := "()V", sig := { parameters := [], returnType := none }, accessFlags := 1, code := some k0c0 }
/-- java/lang/Object -/
def k0 : Class := { plain "java/lang/Object" none with
  accessFlags := 33
  interfaces := #[]
  cf := some (fileOf pool0 8 #[] #[{ accessFlags := 1, nameIndex := 5, descriptorIndex := 6, attributes := #[] }] 33 0 #[] #[])
  fields := #[]
  methods := #[k0m0]
  instanceTypes := #[]
  staticTypes := #[]
  resolved := Array.replicate 124 none
  statics := none }

def pool1 : Array CpInfo := pool [(2, .class_ 4), (1, u "java/lang/Object"), (0, u "<init>"), (0, u "()V"), (0, .long 65535), (1, .integer 2147483647), (0, .class_ 11), (0, u "com/example/deadlock_to_diagnosis/deadlocktodiagnosis/reader/LineScanner"), (0, .class_ 13), (0, u "java/lang/String"), (0, .methodref 12 15), (0, .nameAndType 5 16), (0, u "([C)V"), (0, .methodref 10 18), (0, .nameAndType 5 19), (0, u "(Ljava/lang/String;)V"), (0, .methodref 10 21), (0, .nameAndType 22 23), (0, u "moveTo"), (0, u "(I)V"), (0, .methodref 10 25), (0, .nameAndType 26 27), (0, u "digits"), (0, u "(II)Z"), (0, .methodref 10 29), (0, .nameAndType 30 31), (0, u "position"), (0, u "()I"), (0, .methodref 33 34), (0, .class_ 35), (0, .nameAndType 36 37), (0, u "com/example/deadlock_to_diagnosis/deadlocktodiagnosis/reader/LineScannerDigitsPinLaw"), (0, u "isAsciiDigit"), (0, u "(C)Z"), (0, .methodref 33 39), (0, .nameAndType 40 41), (0, u "runFrom"), (0, u "([ZI)I"), (2, u "law"), (0, u "(JIII)Z")] 7

def k1m0 : Method := { name := "<init>", desc := "()V", sig := { parameters := [], returnType := none }, accessFlags := 1, code := none }
def k1c1 : Code := { maxStack := 6, maxLocals := 14, code := code, exceptionTable := #[], attributes := #[] }
def k1m1 : Method := { name := "law", desc := "(JIII)Z", sig := { parameters := [.long, .int, .int, .int], returnType := some .boolean }, accessFlags := 9, code := some k1c1 }
def k1c2 : Code := { maxStack := 2, maxLocals := 2, code := method_3_code, exceptionTable := #[], attributes := #[] }
def k1m2 : Method := { name := "isAsciiDigit", desc := "(C)Z", sig := { parameters := [.char], returnType := some .boolean }, accessFlags := 10, code := some k1c2 }
def k1c3 : Code := { maxStack := 3, maxLocals := 2, code := method_4_code, exceptionTable := #[], attributes := #[] }
def k1m3 : Method := { name := "runFrom", desc := "([ZI)I", sig := { parameters := [(.array .boolean), .int], returnType := some .int }, accessFlags := 10, code := some k1c3 }
/-- com/example/deadlock_to_diagnosis/deadlocktodiagnosis/reader/LineScannerDigitsPinLaw -/
def k1 : Class := { plain "com/example/deadlock_to_diagnosis/deadlocktodiagnosis/reader/LineScannerDigitsPinLaw" (some 0) with
  accessFlags := 49
  interfaces := #[]
  cf := some (fileOf pool1 33 #[] #[{ accessFlags := 1, nameIndex := 5, descriptorIndex := 6, attributes := #[] }, { accessFlags := 9, nameIndex := 44, descriptorIndex := 45, attributes := #[] }, { accessFlags := 10, nameIndex := 36, descriptorIndex := 37, attributes := #[] }, { accessFlags := 10, nameIndex := 40, descriptorIndex := 41, attributes := #[] }] 49 2 #[] #[])
  fields := #[]
  methods := #[k1m0, k1m1, k1m2, k1m3]
  instanceTypes := #[]
  staticTypes := #[]
  resolved := Array.replicate 53 none
  statics := none }

def pool2 : Array CpInfo := pool [(1, .methodref 2 3), (0, .class_ 4), (0, .nameAndType 5 6), (0, u "java/lang/Object"), (0, u "<init>"), (0, u "()V"), (0, .fieldref 8 9), (0, .class_ 10), (0, .nameAndType 11 12), (0, u "com/example/deadlock_to_diagnosis/deadlocktodiagnosis/reader/LineScanner"), (0, u "line"), (0, u "Ljava/lang/String;"), (0, .fieldref 8 14), (0, .nameAndType 15 16), (0, u "at"), (0, u "I"), (0, .methodref 18 19), (0, .class_ 20), (0, .nameAndType 21 22), (0, u "java/lang/String"), (0, u "length"), (0, u "()I"), (12, .methodref 18 36), (0, .nameAndType 37 38), (0, u "charAt"), (0, u "(I)C"), (3, u "(C)Z"), (0, .methodref 8 44), (0, .nameAndType 45 42), (0, u "isDigit"), (4, u "digits"), (0, u "(II)Z"), (25, u "(Ljava/lang/String;)V"), (3, u "position"), (0, u "moveTo"), (0, u "(I)V")] 16

def k2c0 : Code := { maxStack := 2, maxLocals := 2, code := prog_19_method_1_code, exceptionTable := #[], attributes := #[] }
def k2m0 : Method := { name := "<init>", desc := "(Ljava/lang/String;)V", sig := { parameters := [(.object "java/lang/String")], returnType := none }, accessFlags := 0, code := some k2c0 }
def k2c1 : Code := { maxStack := 1, maxLocals := 1, code := prog_19_method_3_code, exceptionTable := #[], attributes := #[] }
def k2m1 : Method := { name := "position", desc := "()I", sig := { parameters := [], returnType := some .int }, accessFlags := 0, code := some k2c1 }
def k2c2 : Code := { maxStack := 2, maxLocals := 2, code := prog_19_method_4_code, exceptionTable := #[], attributes := #[] }
def k2m2 : Method := { name := "moveTo", desc := "(I)V", sig := { parameters := [.int], returnType := none }, accessFlags := 0, code := some k2c2 }
def k2c3 : Code := { maxStack := 2, maxLocals := 5, code := prog_19_method_10_code, exceptionTable := #[], attributes := #[] }
def k2m3 : Method := { name := "digits", desc := "(II)Z", sig := { parameters := [.int, .int], returnType := some .boolean }, accessFlags := 0, code := some k2c3 }
def k2c4 : Code := { maxStack := 2, maxLocals := 1, code := prog_19_method_19_code, exceptionTable := #[], attributes := #[] }
def k2m4 : Method := { name := "isDigit", desc := "(C)Z", sig := { parameters := [.char], returnType := some .boolean }, accessFlags := 10, code := some k2c4 }
/-- com/example/deadlock_to_diagnosis/deadlocktodiagnosis/reader/LineScanner -/
def k2 : Class := { plain "com/example/deadlock_to_diagnosis/deadlocktodiagnosis/reader/LineScanner" (some 0) with
  accessFlags := 48
  interfaces := #[]
  cf := some (fileOf pool2 8 #[] #[{ accessFlags := 0, nameIndex := 5, descriptorIndex := 77, attributes := #[] }, { accessFlags := 0, nameIndex := 81, descriptorIndex := 22, attributes := #[] }, { accessFlags := 0, nameIndex := 82, descriptorIndex := 83, attributes := #[] }, { accessFlags := 0, nameIndex := 50, descriptorIndex := 51, attributes := #[] }, { accessFlags := 10, nameIndex := 45, descriptorIndex := 42, attributes := #[] }] 48 2 #[] #[{ accessFlags := 18, nameIndex := 11, descriptorIndex := 12, attributes := #[] }, { accessFlags := 2, nameIndex := 15, descriptorIndex := 16, attributes := #[] }])
  fields := #[{ name := "line", type := (.object "java/lang/String"), accessFlags := 18, slot := 0, constantValue := 0 }, { name := "at", type := .int, accessFlags := 2, slot := 1, constantValue := 0 }]
  methods := #[k2m0, k2m1, k2m2, k2m3, k2m4]
  instanceTypes := #[(.object "java/lang/String"), .int]
  staticTypes := #[]
  resolved := Array.replicate 100 none
  statics := none }

def pool3 : Array CpInfo := pool [(1, .class_ 2), (0, u "java/io/Serializable"), (0, .class_ 4), (0, u "java/lang/Object")] 2

/-- java/io/Serializable -/
def k3 : Class := { plain "java/io/Serializable" (some 0) with
  accessFlags := 1537
  interfaces := #[]
  cf := some (fileOf pool3 1 #[] #[] 1537 3 #[] #[])
  fields := #[]
  methods := #[]
  instanceTypes := #[]
  staticTypes := #[]
  resolved := Array.replicate 7 none
  statics := none }

def pool4 : Array CpInfo := pool [(1, .class_ 2), (0, u "java/lang/Comparable"), (0, .class_ 4), (0, u "java/lang/Object")] 7

/-- java/lang/Comparable -/
def k4 : Class := { plain "java/lang/Comparable" (some 0) with
  accessFlags := 1537
  interfaces := #[]
  cf := some (fileOf pool4 1 #[] #[] 1537 3 #[] #[])
  fields := #[]
  methods := #[]
  instanceTypes := #[]
  staticTypes := #[]
  resolved := Array.replicate 12 none
  statics := none }

def pool5 : Array CpInfo := pool [(2, .class_ 4), (1, u "java/lang/CharSequence"), (42, .class_ 48), (0, u "java/lang/CharSequence$1CodePointIterator"), (10, .class_ 60), (0, u "java/lang/CharSequence$1CharIterator"), (5, .class_ 67), (0, u "java/lang/Object")] 63

/-- java/lang/CharSequence -/
def k5 : Class := { plain "java/lang/CharSequence" (some 0) with
  accessFlags := 1537
  interfaces := #[]
  cf := some (fileOf pool5 2 #[.nestMembers #[47, 59]] #[] 1537 66 #[] #[])
  fields := #[]
  methods := #[]
  instanceTypes := #[]
  staticTypes := #[]
  resolved := Array.replicate 131 none
  statics := none }

def pool6 : Array CpInfo := pool [(1, .class_ 2), (0, u "java/lang/constant/Constable"), (0, .class_ 4), (0, u "java/lang/Object")] 6

/-- java/lang/constant/Constable -/
def k6 : Class := { plain "java/lang/constant/Constable" (some 0) with
  accessFlags := 1537
  interfaces := #[]
  cf := some (fileOf pool6 1 #[] #[] 1537 3 #[] #[])
  fields := #[]
  methods := #[]
  instanceTypes := #[]
  staticTypes := #[]
  resolved := Array.replicate 11 none
  statics := none }

def pool7 : Array CpInfo := pool [(1, .class_ 2), (0, u "java/lang/constant/ConstantDesc"), (0, .class_ 4), (0, u "java/lang/Object")] 32

/-- java/lang/constant/ConstantDesc -/
def k7 : Class := { plain "java/lang/constant/ConstantDesc" (some 0) with
  accessFlags := 1537
  interfaces := #[]
  cf := some (fileOf pool7 1 #[] #[] 1537 3 #[] #[])
  fields := #[]
  methods := #[]
  instanceTypes := #[]
  staticTypes := #[]
  resolved := Array.replicate 37 none
  statics := none }

def pool8 : Array CpInfo := pool [(1, .methodref 2 3), (0, .class_ 4), (0, .nameAndType 5 6), (0, u "java/lang/Object"), (0, u "<init>"), (0, u "()V"), (2, .fieldref 10 11), (0, .class_ 12), (0, .nameAndType 13 14), (0, u "java/lang/String"), (0, u "value"), (0, u "[B"), (0, .fieldref 10 16), (0, .nameAndType 17 18), (0, u "coder"), (0, u "B"), (2, u "hash"), (0, u "I"), (2, u "hashIsZero"), (0, u "Z"), (0, .methodref 10 28), (0, .nameAndType 5 29), (0, u "([CIILjava/lang/Void;)V"), (8, .fieldref 10 39), (0, .nameAndType 40 26), (0, u "COMPACT_STRINGS"), (1, .class_ 44), (1, u "java/lang/StringUTF16"), (0, u "compress"), (1, .methodref 42 48), (0, .nameAndType 49 50), (0, u "coderFromArrayLen"), (0, u "([BI)B"), (56, .class_ 109), (1, u "java/lang/StringLatin1"), (32, u "()Z"), (34, .methodref 42 178), (0, .nameAndType 45 179), (0, u "([CII)[B"), (154, u "()I"), (0, .methodref 10 336), (0, .nameAndType 17 337), (0, u "()B"), (25, u "([BI)C"), (27, u "(II)V"), (35, u "(I)C"), (64, .methodref 10 493), (0, .nameAndType 494 142), (0, u "isLatin1"), (0, .methodref 107 496), (0, .nameAndType 497 363), (0, u "charAt"), (0, .methodref 42 496), (2, u "checkIndex"), (5, u "length"), (67, .class_ 576), (0, u "java/lang/CharSequence"), (22, u "CASE_INSENSITIVE_ORDER"), (0, u "Ljava/util/Comparator;"), (409, u "([C)V"), (42, .fieldref 1054 1055), (0, .class_ 1056), (0, .nameAndType 1057 1058), (0, u "jdk/internal/util/Preconditions"), (0, u "SIOOBE_FORMATTER"), (0, u "Ljava/util/function/BiFunction;"), (0, .methodref 1054 1060), (0, .nameAndType 501 1061), (0, u "(IILjava/util/function/BiFunction;)I"), (39, u "serialPersistentFields"), (0, u "[Ljava/io/ObjectStreamField;"), (0, .class_ 1104), (0, u "java/lang/String$CaseInsensitiveComparator"), (1, .class_ 1107), (0, u "java/io/Serializable"), (0, .class_ 1109), (0, u "java/lang/Comparable"), (0, .class_ 1111), (0, u "java/lang/constant/Constable"), (0, .class_ 1113), (0, u "java/lang/constant/ConstantDesc"), (2, u "serialVersionUID"), (0, u "J"), (3, u "REPL"), (0, u "C"), (2, u "LATIN1"), (1, u "UTF16")] 323

def k8m0 : Method := { name := "<init>", desc := "()V", sig := { parameters := [], returnType := none }, accessFlags := 1, code := none }
def k8c1 : Code := { maxStack := 5, maxLocals := 2, code := jdk_42_method_3_code, exceptionTable := #[], attributes := #[] }
def k8m1 : Method := { name := "<init>", desc := "([C)V", sig := { parameters := [(.array .char)], returnType := none }, accessFlags := 1, code := some k8c1 }
def k8c2 : Code := { maxStack := 2, maxLocals := 1, code := jdk_42_method_54_code, exceptionTable := #[], attributes := #[] }
def k8m2 : Method := { name := "length", desc := "()I", sig := { parameters := [], returnType := some .int }, accessFlags := 1, code := some k8c2 }
def k8c3 : Code := { maxStack := 2, maxLocals := 2, code := jdk_42_method_56_code, exceptionTable := #[], attributes := #[] }
def k8m3 : Method := { name := "charAt", desc := "(I)C", sig := { parameters := [.int], returnType := some .char }, accessFlags := 1, code := some k8c3 }
def k8c4 : Code := { maxStack := 4, maxLocals := 6, code := jdk_42_method_149_code, exceptionTable := #[], attributes := #[] }
def k8m4 : Method := { name := "<init>", desc := "([CIILjava/lang/Void;)V", sig := { parameters := [(.array .char), .int, .int, (.object "java/lang/Void")], returnType := none }, accessFlags := 2, code := some k8c4 }
def k8c5 : Code := { maxStack := 1, maxLocals := 1, code := jdk_42_method_152_code, exceptionTable := #[], attributes := #[] }
def k8m5 : Method := { name := "coder", desc := "()B", sig := { parameters := [], returnType := some .byte }, accessFlags := 0, code := some k8c5 }
def k8c6 : Code := { maxStack := 1, maxLocals := 1, code := jdk_42_method_154_code, exceptionTable := #[], attributes := #[] }
def k8m6 : Method := { name := "isLatin1", desc := "()Z", sig := { parameters := [], returnType := some .boolean }, accessFlags := 0, code := some k8c6 }
def k8c7 : Code := { maxStack := 3, maxLocals := 2, code := jdk_42_method_155_code, exceptionTable := #[], attributes := #[] }
def k8m7 : Method := { name := "checkIndex", desc := "(II)V", sig := { parameters := [.int, .int], returnType := none }, accessFlags := 8, code := some k8c7 }
/-- java/lang/String -/
def k8 : Class := { plain "java/lang/String" (some 0) with
  accessFlags := 49
  interfaces := #[3, 4, 5, 6, 7]
  cf := some (fileOf pool8 10 #[.nestMembers #[1103]] #[{ accessFlags := 1, nameIndex := 5, descriptorIndex := 6, attributes := #[] }, { accessFlags := 1, nameIndex := 5, descriptorIndex := 1010, attributes := #[] }, { accessFlags := 1, nameIndex := 507, descriptorIndex := 334, attributes := #[] }, { accessFlags := 1, nameIndex := 497, descriptorIndex := 427, attributes := #[] }, { accessFlags := 2, nameIndex := 5, descriptorIndex := 29, attributes := #[] }, { accessFlags := 0, nameIndex := 17, descriptorIndex := 337, attributes := #[] }, { accessFlags := 0, nameIndex := 494, descriptorIndex := 142, attributes := #[] }, { accessFlags := 8, nameIndex := 501, descriptorIndex := 391, attributes := #[] }] 49 2 #[1106, 1108, 575, 1110, 1112] #[{ accessFlags := 18, nameIndex := 13, descriptorIndex := 14, attributes := #[] }, { accessFlags := 18, nameIndex := 17, descriptorIndex := 18, attributes := #[] }, { accessFlags := 2, nameIndex := 21, descriptorIndex := 22, attributes := #[] }, { accessFlags := 2, nameIndex := 25, descriptorIndex := 26, attributes := #[] }, { accessFlags := 26, nameIndex := 1116, descriptorIndex := 1117, attributes := #[] }, { accessFlags := 24, nameIndex := 40, descriptorIndex := 26, attributes := #[] }, { accessFlags := 26, nameIndex := 1101, descriptorIndex := 1102, attributes := #[] }, { accessFlags := 26, nameIndex := 1121, descriptorIndex := 1122, attributes := #[] }, { accessFlags := 25, nameIndex := 599, descriptorIndex := 600, attributes := #[] }, { accessFlags := 24, nameIndex := 1125, descriptorIndex := 18, attributes := #[] }, { accessFlags := 24, nameIndex := 1127, descriptorIndex := 18, attributes := #[] }])
  fields := #[{ name := "value", type := (.array .byte), accessFlags := 18, slot := 0, constantValue := 0 }, { name := "coder", type := .byte, accessFlags := 18, slot := 1, constantValue := 0 }, { name := "hash", type := .int, accessFlags := 2, slot := 2, constantValue := 0 }, { name := "hashIsZero", type := .boolean, accessFlags := 2, slot := 3, constantValue := 0 }, { name := "serialVersionUID", type := .long, accessFlags := 26, slot := 0, constantValue := 0 }, { name := "COMPACT_STRINGS", type := .boolean, accessFlags := 24, slot := 1, constantValue := 0 }, { name := "serialPersistentFields", type := (.array (.object "java/io/ObjectStreamField")), accessFlags := 26, slot := 2, constantValue := 0 }, { name := "REPL", type := .char, accessFlags := 26, slot := 3, constantValue := 0 }, { name := "CASE_INSENSITIVE_ORDER", type := (.object "java/util/Comparator"), accessFlags := 25, slot := 4, constantValue := 0 }, { name := "LATIN1", type := .byte, accessFlags := 24, slot := 5, constantValue := 0 }, { name := "UTF16", type := .byte, accessFlags := 24, slot := 6, constantValue := 0 }]
  methods := #[k8m0, k8m1, k8m2, k8m3, k8m4, k8m5, k8m6, k8m7]
  instanceTypes := #[(.array .byte), .byte, .int, .boolean]
  staticTypes := #[.long, .boolean, (.array (.object "java/io/ObjectStreamField")), .char, (.object "java/util/Comparator"), .byte, .byte]
  resolved := Array.replicate 1451 none
  statics := some 0 }

def pool9 : Array CpInfo := pool [(3, .class_ 4), (0, u "java/lang/String"), (1, .class_ 8), (1, u "java/lang/Object"), (0, u "<init>"), (0, u "()V"), (0, .methodref 12 13), (0, .class_ 14), (0, .nameAndType 15 16), (0, u "java/lang/StringUTF16"), (0, u "newBytesLength"), (0, u "(I)I"), (3, .integer 1073741823), (23, .fieldref 12 45), (0, .nameAndType 46 47), (0, u "$assertionsDisabled"), (0, u "Z"), (0, .methodref 12 49), (0, .nameAndType 50 51), (0, u "length"), (0, u "([B)I"), (7, .fieldref 12 60), (0, .nameAndType 61 62), (0, u "HI_BYTE_SHIFT"), (0, u "I"), (0, .fieldref 12 64), (0, .nameAndType 65 62), (0, u "LO_BYTE_SHIFT"), (1, .methodref 12 68), (0, .nameAndType 69 70), (0, u "checkIndex"), (0, u "(I[B)V"), (0, .methodref 12 72), (0, .nameAndType 73 74), (0, u "getChar"), (0, u "([BI)C"), (32, .methodref 12 108), (0, .nameAndType 109 110), (0, u "newBytesFor"), (0, u "(I)[B"), (0, .methodref 12 112), (0, .nameAndType 113 114), (0, u "putChar"), (0, u "([BII)V"), (0, .methodref 12 116), (0, .nameAndType 117 118), (0, u "compress"), (0, u "([CI[BII)I"), (0, .methodref 12 120), (0, .nameAndType 121 122), (0, u "toBytes"), (0, u "([CII)[B"), (138, u "coderFromArrayLen"), (0, u "([BI)B"), (106, .class_ 371), (1, u "java/lang/StringUTF16$LinesSpliterator"), (20, u "charAt"), (21, .methodref 3 415), (0, .nameAndType 69 416), (0, u "(II)V"), (13, u "MAX_LENGTH"), (196, .class_ 628), (0, u "java/lang/StringUTF16$CodePointsSpliterator"), (0, .class_ 630), (0, u "java/lang/StringUTF16$CharsSpliterator")] 4

def k9m0 : Method := { name := "<init>", desc := "()V", sig := { parameters := [], returnType := none }, accessFlags := 0, code := none }
def k9c1 : Code := { maxStack := 1, maxLocals := 1, code := jdk_52_method_2_code, exceptionTable := #[], attributes := #[] }
def k9m1 : Method := { name := "newBytesFor", desc := "(I)[B", sig := { parameters := [.int], returnType := some (.array .byte) }, accessFlags := 9, code := some k9c1 }
def k9c2 : Code := { maxStack := 4, maxLocals := 1, code := jdk_52_method_3_code, exceptionTable := #[], attributes := #[] }
def k9m2 : Method := { name := "newBytesLength", desc := "(I)I", sig := { parameters := [.int], returnType := some .int }, accessFlags := 9, code := some k9c2 }
def k9c3 : Code := { maxStack := 4, maxLocals := 3, code := jdk_52_method_4_code, exceptionTable := #[], attributes := #[] }
def k9m3 : Method := { name := "putChar", desc := "([BII)V", sig := { parameters := [(.array .byte), .int, .int], returnType := none }, accessFlags := 8, code := some k9c3 }
def k9c4 : Code := { maxStack := 3, maxLocals := 2, code := jdk_52_method_5_code, exceptionTable := #[], attributes := #[] }
def k9m4 : Method := { name := "getChar", desc := "([BI)C", sig := { parameters := [(.array .byte), .int], returnType := some .char }, accessFlags := 8, code := some k9c4 }
def k9c5 : Code := { maxStack := 2, maxLocals := 1, code := jdk_52_method_6_code, exceptionTable := #[], attributes := #[] }
def k9m5 : Method := { name := "length", desc := "([B)I", sig := { parameters := [(.array .byte)], returnType := some .int }, accessFlags := 9, code := some k9c5 }
def k9c6 : Code := { maxStack := 4, maxLocals := 5, code := jdk_52_method_14_code, exceptionTable := #[], attributes := #[] }
def k9m6 : Method := { name := "toBytes", desc := "([CII)[B", sig := { parameters := [(.array .char), .int, .int], returnType := some (.array .byte) }, accessFlags := 9, code := some k9c6 }
def k9c7 : Code := { maxStack := 2, maxLocals := 2, code := jdk_52_method_15_code, exceptionTable := #[], attributes := #[] }
def k9m7 : Method := { name := "coderFromArrayLen", desc := "([BI)B", sig := { parameters := [(.array .byte), .int], returnType := some .byte }, accessFlags := 8, code := some k9c7 }
def k9c8 : Code := { maxStack := 5, maxLocals := 6, code := jdk_52_method_16_code, exceptionTable := #[], attributes := #[] }
def k9m8 : Method := { name := "compress", desc := "([CII)[B", sig := { parameters := [(.array .char), .int, .int], returnType := some (.array .byte) }, accessFlags := 9, code := some k9c8 }
def k9c9 : Code := { maxStack := 3, maxLocals := 7, code := jdk_52_method_21_code, exceptionTable := #[], attributes := #[] }
def k9m9 : Method := { name := "compress", desc := "([CI[BII)I", sig := { parameters := [(.array .char), .int, (.array .byte), .int, .int], returnType := some .int }, accessFlags := 9, code := some k9c9 }
def k9c10 : Code := { maxStack := 2, maxLocals := 2, code := jdk_52_method_83_code, exceptionTable := #[], attributes := #[] }
def k9m10 : Method := { name := "charAt", desc := "([BI)C", sig := { parameters := [(.array .byte), .int], returnType := some .char }, accessFlags := 9, code := some k9c10 }
def k9c11 : Code := { maxStack := 2, maxLocals := 2, code := jdk_52_method_91_code, exceptionTable := #[], attributes := #[] }
def k9m11 : Method := { name := "checkIndex", desc := "(I[B)V", sig := { parameters := [.int, (.array .byte)], returnType := none }, accessFlags := 9, code := some k9c11 }
/-- java/lang/StringUTF16 -/
def k9 : Class := { plain "java/lang/StringUTF16" (some 0) with
  accessFlags := 48
  interfaces := #[]
  cf := some (fileOf pool9 12 #[.nestMembers #[627, 629, 369]] #[{ accessFlags := 0, nameIndex := 9, descriptorIndex := 10, attributes := #[] }, { accessFlags := 9, nameIndex := 109, descriptorIndex := 110, attributes := #[] }, { accessFlags := 9, nameIndex := 15, descriptorIndex := 16, attributes := #[] }, { accessFlags := 8, nameIndex := 113, descriptorIndex := 114, attributes := #[] }, { accessFlags := 8, nameIndex := 73, descriptorIndex := 74, attributes := #[] }, { accessFlags := 9, nameIndex := 50, descriptorIndex := 51, attributes := #[] }, { accessFlags := 9, nameIndex := 121, descriptorIndex := 122, attributes := #[] }, { accessFlags := 8, nameIndex := 261, descriptorIndex := 262, attributes := #[] }, { accessFlags := 9, nameIndex := 117, descriptorIndex := 122, attributes := #[] }, { accessFlags := 9, nameIndex := 117, descriptorIndex := 118, attributes := #[] }, { accessFlags := 9, nameIndex := 392, descriptorIndex := 74, attributes := #[] }, { accessFlags := 9, nameIndex := 69, descriptorIndex := 70, attributes := #[] }] 48 6 #[] #[{ accessFlags := 26, nameIndex := 61, descriptorIndex := 62, attributes := #[] }, { accessFlags := 26, nameIndex := 65, descriptorIndex := 62, attributes := #[] }, { accessFlags := 24, nameIndex := 430, descriptorIndex := 62, attributes := #[] }, { accessFlags := 4120, nameIndex := 46, descriptorIndex := 47, attributes := #[] }])
  fields := #[{ name := "HI_BYTE_SHIFT", type := .int, accessFlags := 26, slot := 0, constantValue := 0 }, { name := "LO_BYTE_SHIFT", type := .int, accessFlags := 26, slot := 1, constantValue := 0 }, { name := "MAX_LENGTH", type := .int, accessFlags := 24, slot := 2, constantValue := 0 }, { name := "$assertionsDisabled", type := .boolean, accessFlags := 4120, slot := 3, constantValue := 0 }]
  methods := #[k9m0, k9m1, k9m2, k9m3, k9m4, k9m5, k9m6, k9m7, k9m8, k9m9, k9m10, k9m11]
  instanceTypes := #[]
  staticTypes := #[.int, .int, .int, .boolean]
  resolved := Array.replicate 635 none
  statics := some 1 }

def pool10 : Array CpInfo := pool [(1, .class_ 2), (0, u "java/lang/String"), (1, .class_ 6), (1, u "java/lang/Object"), (0, u "<init>"), (0, u "()V"), (0, .methodref 1 10), (0, .nameAndType 11 12), (0, u "checkIndex"), (0, u "(II)V"), (1, .class_ 16), (1, u "java/lang/StringLatin1"), (36, u "([BI)C"), (67, u "$assertionsDisabled"), (0, u "Z"), (98, .class_ 223), (1, u "java/lang/StringLatin1$LinesSpliterator"), (28, u "charAt"), (137, .class_ 391), (0, u "java/lang/StringLatin1$CharsSpliterator")] 3

def k10m0 : Method := { name := "<init>", desc := "()V", sig := { parameters := [], returnType := none }, accessFlags := 0, code := none }
def k10c1 : Code := { maxStack := 2, maxLocals := 2, code := jdk_43_method_2_code, exceptionTable := #[], attributes := #[] }
def k10m1 : Method := { name := "charAt", desc := "([BI)C", sig := { parameters := [(.array .byte), .int], returnType := some .char }, accessFlags := 9, code := some k10c1 }
/-- java/lang/StringLatin1 -/
def k10 : Class := { plain "java/lang/StringLatin1" (some 0) with
  accessFlags := 48
  interfaces := #[]
  cf := some (fileOf pool10 14 #[.nestMembers #[390, 221]] #[{ accessFlags := 0, nameIndex := 7, descriptorIndex := 8, attributes := #[] }, { accessFlags := 9, nameIndex := 252, descriptorIndex := 53, attributes := #[] }] 48 4 #[] #[{ accessFlags := 4120, nameIndex := 121, descriptorIndex := 122, attributes := #[] }])
  fields := #[{ name := "$assertionsDisabled", type := .boolean, accessFlags := 4120, slot := 0, constantValue := 0 }]
  methods := #[k10m0, k10m1]
  instanceTypes := #[]
  staticTypes := #[.boolean]
  resolved := Array.replicate 395 none
  statics := none }

def pool11 : Array CpInfo := pool [(2, .class_ 4), (1, u "java/lang/Object"), (0, u "<init>"), (0, u "()V"), (17, .class_ 26), (1, u "jdk/internal/util/Preconditions"), (6, u "checkIndex"), (21, .class_ 56), (0, u "jdk/internal/util/Preconditions$4"), (57, .class_ 115), (0, u "jdk/internal/util/Preconditions$1"), (7, u "SIOOBE_FORMATTER"), (0, u "Ljava/util/function/BiFunction;"), (0, .class_ 126), (0, u "jdk/internal/util/Preconditions$2"), (3, u "AIOOBE_FORMATTER"), (0, .class_ 132), (0, u "jdk/internal/util/Preconditions$3"), (3, u "IOOBE_FORMATTER"), (41, u "(IILjava/util/function/BiFunction;)I")] 15

def k11m0 : Method := { name := "<init>", desc := "()V", sig := { parameters := [], returnType := none }, accessFlags := 1, code := none }
def k11c1 : Code := { maxStack := 3, maxLocals := 3, code := jdk_41_method_11_code, exceptionTable := #[], attributes := #[] }
def k11m1 : Method := { name := "checkIndex", desc := "(IILjava/util/function/BiFunction;)I", sig := { parameters := [.int, .int, (.object "java/util/function/BiFunction")], returnType := some .int }, accessFlags := 9, code := some k11c1 }
/-- jdk/internal/util/Preconditions -/
def k11 : Class := { plain "jdk/internal/util/Preconditions" (some 0) with
  accessFlags := 33
  interfaces := #[]
  cf := some (fileOf pool11 24 #[.nestMembers #[55, 131, 125, 114]] #[{ accessFlags := 1, nameIndex := 5, descriptorIndex := 6, attributes := #[] }, { accessFlags := 9, nameIndex := 33, descriptorIndex := 178, attributes := #[] }] 33 2 #[] #[{ accessFlags := 25, nameIndex := 123, descriptorIndex := 124, attributes := #[] }, { accessFlags := 25, nameIndex := 130, descriptorIndex := 124, attributes := #[] }, { accessFlags := 25, nameIndex := 136, descriptorIndex := 124, attributes := #[] }])
  fields := #[{ name := "SIOOBE_FORMATTER", type := (.object "java/util/function/BiFunction"), accessFlags := 25, slot := 0, constantValue := 0 }, { name := "AIOOBE_FORMATTER", type := (.object "java/util/function/BiFunction"), accessFlags := 25, slot := 1, constantValue := 0 }, { name := "IOOBE_FORMATTER", type := (.object "java/util/function/BiFunction"), accessFlags := 25, slot := 2, constantValue := 0 }]
  methods := #[k11m0, k11m1]
  instanceTypes := #[]
  staticTypes := #[(.object "java/util/function/BiFunction"), (.object "java/util/function/BiFunction"), (.object "java/util/function/BiFunction")]
  resolved := Array.replicate 194 none
  statics := some 2 }

def pool12 : Array CpInfo := pool [(9, u "<init>"), (6, .class_ 18), (1, u "java/lang/Object"), (0, u "()V"), (1, .class_ 23), (1, u "jdk/internal/util/ArraysSupport"), (0, u "LOG2_ARRAY_LONG_INDEX_SCALE"), (0, u "I"), (2, u "U"), (0, u "Ljdk/internal/misc/Unsafe;"), (8, u "BIG_ENDIAN"), (0, u "Z"), (8, u "LOG2_BYTE_BIT_SIZE"), (4, u "LOG2_ARRAY_INT_INDEX_SCALE"), (54, u "JLA"), (0, u "Ljdk/internal/access/JavaLangAccess;"), (11, u "LOG2_ARRAY_BOOLEAN_INDEX_SCALE"), (9, u "LOG2_ARRAY_BYTE_INDEX_SCALE"), (5, u "LOG2_ARRAY_CHAR_INDEX_SCALE"), (5, u "LOG2_ARRAY_SHORT_INDEX_SCALE"), (18, u "LOG2_ARRAY_FLOAT_INDEX_SCALE"), (24, u "LOG2_ARRAY_DOUBLE_INDEX_SCALE"), (89, u "T_BOOLEAN"), (2, u "T_CHAR"), (1, u "T_FLOAT"), (1, u "T_DOUBLE"), (1, u "T_BYTE"), (1, u "T_SHORT"), (1, u "T_INT"), (1, u "T_LONG"), (1, u "SOFT_MAX_ARRAY_LENGTH")] 83

def k12m0 : Method := { name := "<init>", desc := "()V", sig := { parameters := [], returnType := none }, accessFlags := 2, code := none }
/-- jdk/internal/util/ArraysSupport -/
def k12 : Class := { plain "jdk/internal/util/ArraysSupport" (some 0) with
  accessFlags := 33
  interfaces := #[]
  cf := some (fileOf pool12 21 #[] #[{ accessFlags := 2, nameIndex := 9, descriptorIndex := 19, attributes := #[] }] 33 16 #[] #[{ accessFlags := 24, nameIndex := 28, descriptorIndex := 29, attributes := #[] }, { accessFlags := 26, nameIndex := 38, descriptorIndex := 39, attributes := #[] }, { accessFlags := 25, nameIndex := 121, descriptorIndex := 25, attributes := #[] }, { accessFlags := 25, nameIndex := 131, descriptorIndex := 25, attributes := #[] }, { accessFlags := 25, nameIndex := 137, descriptorIndex := 25, attributes := #[] }, { accessFlags := 25, nameIndex := 143, descriptorIndex := 25, attributes := #[] }, { accessFlags := 25, nameIndex := 53, descriptorIndex := 25, attributes := #[] }, { accessFlags := 25, nameIndex := 24, descriptorIndex := 25, attributes := #[] }, { accessFlags := 25, nameIndex := 162, descriptorIndex := 25, attributes := #[] }, { accessFlags := 25, nameIndex := 187, descriptorIndex := 25, attributes := #[] }, { accessFlags := 26, nameIndex := 48, descriptorIndex := 25, attributes := #[] }, { accessFlags := 25, nameIndex := 277, descriptorIndex := 25, attributes := #[] }, { accessFlags := 25, nameIndex := 280, descriptorIndex := 25, attributes := #[] }, { accessFlags := 25, nameIndex := 282, descriptorIndex := 25, attributes := #[] }, { accessFlags := 25, nameIndex := 284, descriptorIndex := 25, attributes := #[] }, { accessFlags := 25, nameIndex := 286, descriptorIndex := 25, attributes := #[] }, { accessFlags := 25, nameIndex := 288, descriptorIndex := 25, attributes := #[] }, { accessFlags := 25, nameIndex := 290, descriptorIndex := 25, attributes := #[] }, { accessFlags := 25, nameIndex := 292, descriptorIndex := 25, attributes := #[] }, { accessFlags := 26, nameIndex := 108, descriptorIndex := 109, attributes := #[] }, { accessFlags := 25, nameIndex := 294, descriptorIndex := 25, attributes := #[] }])
  fields := #[{ name := "U", type := (.object "jdk/internal/misc/Unsafe"), accessFlags := 24, slot := 0, constantValue := 0 }, { name := "BIG_ENDIAN", type := .boolean, accessFlags := 26, slot := 1, constantValue := 0 }, { name := "LOG2_ARRAY_BOOLEAN_INDEX_SCALE", type := .int, accessFlags := 25, slot := 2, constantValue := 0 }, { name := "LOG2_ARRAY_BYTE_INDEX_SCALE", type := .int, accessFlags := 25, slot := 3, constantValue := 0 }, { name := "LOG2_ARRAY_CHAR_INDEX_SCALE", type := .int, accessFlags := 25, slot := 4, constantValue := 0 }, { name := "LOG2_ARRAY_SHORT_INDEX_SCALE", type := .int, accessFlags := 25, slot := 5, constantValue := 0 }, { name := "LOG2_ARRAY_INT_INDEX_SCALE", type := .int, accessFlags := 25, slot := 6, constantValue := 0 }, { name := "LOG2_ARRAY_LONG_INDEX_SCALE", type := .int, accessFlags := 25, slot := 7, constantValue := 0 }, { name := "LOG2_ARRAY_FLOAT_INDEX_SCALE", type := .int, accessFlags := 25, slot := 8, constantValue := 0 }, { name := "LOG2_ARRAY_DOUBLE_INDEX_SCALE", type := .int, accessFlags := 25, slot := 9, constantValue := 0 }, { name := "LOG2_BYTE_BIT_SIZE", type := .int, accessFlags := 26, slot := 10, constantValue := 0 }, { name := "T_BOOLEAN", type := .int, accessFlags := 25, slot := 11, constantValue := 0 }, { name := "T_CHAR", type := .int, accessFlags := 25, slot := 12, constantValue := 0 }, { name := "T_FLOAT", type := .int, accessFlags := 25, slot := 13, constantValue := 0 }, { name := "T_DOUBLE", type := .int, accessFlags := 25, slot := 14, constantValue := 0 }, { name := "T_BYTE", type := .int, accessFlags := 25, slot := 15, constantValue := 0 }, { name := "T_SHORT", type := .int, accessFlags := 25, slot := 16, constantValue := 0 }, { name := "T_INT", type := .int, accessFlags := 25, slot := 17, constantValue := 0 }, { name := "T_LONG", type := .int, accessFlags := 25, slot := 18, constantValue := 0 }, { name := "JLA", type := (.object "jdk/internal/access/JavaLangAccess"), accessFlags := 26, slot := 19, constantValue := 0 }, { name := "SOFT_MAX_ARRAY_LENGTH", type := .int, accessFlags := 25, slot := 20, constantValue := 0 }]
  methods := #[k12m0]
  instanceTypes := #[]
  staticTypes := #[(.object "jdk/internal/misc/Unsafe"), .boolean, .int, .int, .int, .int, .int, .int, .int, .int, .int, .int, .int, .int, .int, .int, .int, .int, .int, (.object "jdk/internal/access/JavaLangAccess"), .int]
  resolved := Array.replicate 378 none
  statics := none }

def pool13 : Array CpInfo := pool [(1, u "java/lang/Cloneable"), (0, .class_ 1), (0, u "java/lang/Object"), (0, .class_ 3)] 3

/-- java/lang/Cloneable -/
def k13 : Class := { plain "java/lang/Cloneable" (some 0) with
  accessFlags := 1537
  interfaces := #[]
  cf := some (fileOf pool13 2 #[] #[] 1537 4 #[] #[])
  fields := #[]
  methods := #[]
  instanceTypes := #[]
  staticTypes := #[]
  resolved := Array.replicate 8 none
  statics := none }

/-- the primitive boolean -/
def k14 : Class := { plain "boolean" none with kind := .primitive 'Z', accessFlags := 0x411 }
/-- [Z -/
def k15 : Class := { plain "[Z" (some 0) with kind := .array 14 .boolean, interfaces := #[13, 3], accessFlags := 1041 }

/-- the primitive byte -/
def k16 : Class := { plain "byte" none with kind := .primitive 'B', accessFlags := 0x411 }
/-- [B -/
def k17 : Class := { plain "[B" (some 0) with kind := .array 16 .byte, interfaces := #[13, 3], accessFlags := 1041 }

/-- the primitive char -/
def k18 : Class := { plain "char" none with kind := .primitive 'C', accessFlags := 0x411 }
/-- [C -/
def k19 : Class := { plain "[C" (some 0) with kind := .array 18 .char, interfaces := #[13, 3], accessFlags := 1041 }

/-- the primitive int -/
def k20 : Class := { plain "int" none with kind := .primitive 'I', accessFlags := 0x411 }
/-- [I -/
def k21 : Class := { plain "[I" (some 0) with kind := .array 20 .int, interfaces := #[13, 3], accessFlags := 1041 }

def heap : Heap := #[{ cls := 8, slots := #[.long 0, .int 1, .null, .int 0, .null, .int 0, .int 0], vm := .statics 8 },
  { cls := 9, slots := #[.int 0, .int 8, .int 0, .int 1], vm := .statics 9 },
  { cls := 11, slots := #[.null, .null, .null], vm := .statics 11 }]
def classes : Array Class := #[k0, k1, k2, k3, k4, k5, k6, k7, k8, k9, k10, k11, k12, k13, k14, k15, k16, k17, k18, k19, k20, k21]
def interned : List (Array UInt16 × Addr) := []
def slotsUsed : Nat := 14
def theMethod : MethodId := ⟨1, 1⟩
def args0 : Array Value := #[.long 5, .int 1, .int 2, .int 3]
def aboutOver (below : List Frame) : State where
  vm := { classes := classes, interned := interned.toArray }
  heap := heap
  slotsUsed := slotsUsed
  threads := #[{ frames := .invoking theMethod args0 :: below }]
def below0 : List Frame := [.native { method := ⟨0, 0⟩, args := #[] }]
def about1 : State := aboutOver below0
def p0 : Program := .bare "" "" ""
def e0 : Env := launch0.env 0 0 0
theorem w_frames : about1.frames = Frame.invoking theMethod args0 :: below0 := rfl
set_option maxRecDepth 65536 in
theorem w_args : argsFit about1.vm theMethod args0 = true := by decide +kernel
set_option maxRecDepth 65536 in
theorem w_heap : heapFits about1 = true := by decide +kernel
set_option maxRecDepth 65536 in
theorem w_runnable : about1.curStatus? = some .runnable := by decide +kernel
set_option maxRecDepth 65536 in
theorem w_alone : about1.alone = true := by decide +kernel
set_option maxRecDepth 65536 in
theorem w_named : about1.methodNamed? x = some theMethod := by decide +kernel
set_option maxRecDepth 65536 in
theorem w_hears : about1.hears theMethod below0 = true := by decide +kernel
set_option maxRecDepth 65536 in
theorem w_ripe : about1.ripe theMethod args0 below0 = true := by decide +kernel
theorem w_running : about1.status = .running := rfl
set_option maxRecDepth 65536 in
theorem w_room : about1.hasRoom e0.platform room_1 = true :=
  launch0.hasRoom_least _ room_1 (by decide +kernel) (by decide +kernel) (by decide +kernel) (by decide +kernel) (by decide +kernel) (by decide +kernel)
theorem allAtoms_all (ts : List Jvm.Cond) (a : Array Jvm.Value) (st : Jvm.State) : (allAtoms ts).before a st = ts.all (fun c => c.before a st) := by
  induction ts with
  | nil => rfl
  | cons c t ih =>
    show (Jvm.Cond.and c (allAtoms t)).before a st = _
    rw [Jvm.Cond.before_and, ih, List.all_cons]
def words1 : List Jvm.Cond := Jvm.Cond.code x code maxLocals ret :: tables_1
/-- a 'code' word, met by the world's own term for the bytes: nothing is compared byte by byte -/
theorem code_word {y : MethodName} {bytes : ByteArray} {mx : Nat} {rt : Option FieldType} {a : Array Value} {s : State} {m : MethodId} {meth : Method} {c : Code} (h1 : s.methodNamed? y = some m) (h2 : s.vm.method? m = some meth) (h3 : meth.code = some c) (h4 : c.code = bytes)
    (h5 : (c.maxLocals == mx && c.exceptionTable.isEmpty && decide (c.maxStack ≤ mostOperands) && decide (meth.sig.returnType = rt) && !meth.locks && decide (parseMethodDescriptor y.desc = some meth.sig)) = true) : (Jvm.Cond.code y bytes mx rt).before a s = true := by
  simp only [Bool.and_eq_true, beq_iff_eq, Bool.not_eq_true', decide_eq_true_eq] at h5
  obtain ⟨⟨⟨⟨⟨g1, g2⟩, g3⟩, g4⟩, g5⟩, g6⟩ := h5
  simp [Cond.before, Cond.holds, Cond.value, h1, h2, h3, h4, g1, g2, g3, g4, g5, g6]
def isCode : Jvm.Cond → Bool
  | .code _ _ _ _ => true
  | _ => false
theorem all_split {L : List Jvm.Cond} {P : Jvm.Cond → Bool} (h1 : L.all (fun c => isCode c || P c) = true) (h2 : ∀ c ∈ L.filter isCode, P c = true) : L.all P = true := by
  refine List.all_eq_true.mpr fun c hc => ?_
  have h := List.all_eq_true.mp h1 c hc
  rcases Bool.eq_false_or_eq_true (isCode c) with hi | hi
  · exact h2 c (List.mem_filter.mpr ⟨hc, hi⟩)
  · simpa [hi] using h
set_option maxRecDepth 65536 in
theorem w_c0 : (Jvm.Cond.code x code maxLocals ret).before args0 about1 = true := code_word (m := ⟨1, 1⟩) (meth := k1m1) (c := k1c1) (by decide +kernel) rfl rfl rfl (by decide +kernel)
set_option maxRecDepth 65536 in
theorem w_c1 : (Jvm.Cond.code ({ cls := "java/lang/String", name := "<init>", desc := "([C)V" } : Jvm.MethodName) jdk_42_method_3_code (2 : Nat) (Option.none : Option Jvm.ClassFile.FieldType)).before args0 about1 = true := code_word (m := ⟨8, 1⟩) (meth := k8m1) (c := k8c1) (by decide +kernel) rfl rfl rfl (by decide +kernel)
set_option maxRecDepth 65536 in
theorem w_c2 : (Jvm.Cond.code ({ cls := "java/lang/String", name := "<init>", desc := "([CIILjava/lang/Void;)V" } : Jvm.MethodName) jdk_42_method_149_code (6 : Nat) (Option.none : Option Jvm.ClassFile.FieldType)).before args0 about1 = true := code_word (m := ⟨8, 4⟩) (meth := k8m4) (c := k8c4) (by decide +kernel) rfl rfl rfl (by decide +kernel)
set_option maxRecDepth 65536 in
theorem w_c3 : (Jvm.Cond.code ({ cls := "java/lang/Object", name := "<init>", desc := "()V" } : Jvm.MethodName) object_method_1_code (1 : Nat) (Option.none : Option Jvm.ClassFile.FieldType)).before args0 about1 = true := code_word (m := ⟨0, 0⟩) (meth := k0m0) (c := k0c0) (by decide +kernel) rfl rfl rfl (by decide +kernel)
set_option maxRecDepth 65536 in
theorem w_c4 : (Jvm.Cond.code ({ cls := "java/lang/StringUTF16", name := "compress", desc := "([CII)[B" } : Jvm.MethodName) jdk_52_method_16_code (6 : Nat) (Option.some (Jvm.ClassFile.FieldType.array Jvm.ClassFile.FieldType.byte))).before args0 about1 = true := code_word (m := ⟨9, 8⟩) (meth := k9m8) (c := k9c8) (by decide +kernel) rfl rfl rfl (by decide +kernel)
set_option maxRecDepth 65536 in
theorem w_c5 : (Jvm.Cond.code ({ cls := "java/lang/StringUTF16", name := "compress", desc := "([CI[BII)I" } : Jvm.MethodName) jdk_52_method_21_code (7 : Nat) (Option.some Jvm.ClassFile.FieldType.int)).before args0 about1 = true := code_word (m := ⟨9, 9⟩) (meth := k9m9) (c := k9c9) (by decide +kernel) rfl rfl rfl (by decide +kernel)
set_option maxRecDepth 65536 in
theorem w_c6 : (Jvm.Cond.code ({ cls := "java/lang/StringUTF16", name := "coderFromArrayLen", desc := "([BI)B" } : Jvm.MethodName) jdk_52_method_15_code (2 : Nat) (Option.some Jvm.ClassFile.FieldType.byte)).before args0 about1 = true := code_word (m := ⟨9, 7⟩) (meth := k9m7) (c := k9c7) (by decide +kernel) rfl rfl rfl (by decide +kernel)
set_option maxRecDepth 65536 in
theorem w_c7 : (Jvm.Cond.code ({ cls := "com/example/deadlock_to_diagnosis/deadlocktodiagnosis/reader/LineScanner", name := "<init>", desc := "(Ljava/lang/String;)V" } : Jvm.MethodName) prog_19_method_1_code (2 : Nat) (Option.none : Option Jvm.ClassFile.FieldType)).before args0 about1 = true := code_word (m := ⟨2, 0⟩) (meth := k2m0) (c := k2c0) (by decide +kernel) rfl rfl rfl (by decide +kernel)
set_option maxRecDepth 65536 in
theorem w_c8 : (Jvm.Cond.code ({ cls := "com/example/deadlock_to_diagnosis/deadlocktodiagnosis/reader/LineScanner", name := "moveTo", desc := "(I)V" } : Jvm.MethodName) prog_19_method_4_code (2 : Nat) (Option.none : Option Jvm.ClassFile.FieldType)).before args0 about1 = true := code_word (m := ⟨2, 2⟩) (meth := k2m2) (c := k2c2) (by decide +kernel) rfl rfl rfl (by decide +kernel)
set_option maxRecDepth 65536 in
theorem w_c9 : (Jvm.Cond.code ({ cls := "com/example/deadlock_to_diagnosis/deadlocktodiagnosis/reader/LineScanner", name := "digits", desc := "(II)Z" } : Jvm.MethodName) prog_19_method_10_code (5 : Nat) (Option.some Jvm.ClassFile.FieldType.boolean)).before args0 about1 = true := code_word (m := ⟨2, 3⟩) (meth := k2m3) (c := k2c3) (by decide +kernel) rfl rfl rfl (by decide +kernel)
set_option maxRecDepth 65536 in
theorem w_c10 : (Jvm.Cond.code ({ cls := "java/lang/String", name := "length", desc := "()I" } : Jvm.MethodName) jdk_42_method_54_code (1 : Nat) (Option.some Jvm.ClassFile.FieldType.int)).before args0 about1 = true := code_word (m := ⟨8, 2⟩) (meth := k8m2) (c := k8c2) (by decide +kernel) rfl rfl rfl (by decide +kernel)
set_option maxRecDepth 65536 in
theorem w_c11 : (Jvm.Cond.code ({ cls := "java/lang/String", name := "coder", desc := "()B" } : Jvm.MethodName) jdk_42_method_152_code (1 : Nat) (Option.some Jvm.ClassFile.FieldType.byte)).before args0 about1 = true := code_word (m := ⟨8, 5⟩) (meth := k8m5) (c := k8c5) (by decide +kernel) rfl rfl rfl (by decide +kernel)
set_option maxRecDepth 65536 in
theorem w_c12 : (Jvm.Cond.code ({ cls := "java/lang/String", name := "charAt", desc := "(I)C" } : Jvm.MethodName) jdk_42_method_56_code (2 : Nat) (Option.some Jvm.ClassFile.FieldType.char)).before args0 about1 = true := code_word (m := ⟨8, 3⟩) (meth := k8m3) (c := k8c3) (by decide +kernel) rfl rfl rfl (by decide +kernel)
set_option maxRecDepth 65536 in
theorem w_c13 : (Jvm.Cond.code ({ cls := "java/lang/String", name := "isLatin1", desc := "()Z" } : Jvm.MethodName) jdk_42_method_154_code (1 : Nat) (Option.some Jvm.ClassFile.FieldType.boolean)).before args0 about1 = true := code_word (m := ⟨8, 6⟩) (meth := k8m6) (c := k8c6) (by decide +kernel) rfl rfl rfl (by decide +kernel)
set_option maxRecDepth 65536 in
theorem w_c14 : (Jvm.Cond.code ({ cls := "java/lang/StringLatin1", name := "charAt", desc := "([BI)C" } : Jvm.MethodName) jdk_43_method_2_code (2 : Nat) (Option.some Jvm.ClassFile.FieldType.char)).before args0 about1 = true := code_word (m := ⟨10, 1⟩) (meth := k10m1) (c := k10c1) (by decide +kernel) rfl rfl rfl (by decide +kernel)
set_option maxRecDepth 65536 in
theorem w_c15 : (Jvm.Cond.code ({ cls := "java/lang/String", name := "checkIndex", desc := "(II)V" } : Jvm.MethodName) jdk_42_method_155_code (2 : Nat) (Option.none : Option Jvm.ClassFile.FieldType)).before args0 about1 = true := code_word (m := ⟨8, 7⟩) (meth := k8m7) (c := k8c7) (by decide +kernel) rfl rfl rfl (by decide +kernel)
set_option maxRecDepth 65536 in
theorem w_c16 : (Jvm.Cond.code ({ cls := "jdk/internal/util/Preconditions", name := "checkIndex", desc := "(IILjava/util/function/BiFunction;)I" } : Jvm.MethodName) jdk_41_method_11_code (3 : Nat) (Option.some Jvm.ClassFile.FieldType.int)).before args0 about1 = true := code_word (m := ⟨11, 1⟩) (meth := k11m1) (c := k11c1) (by decide +kernel) rfl rfl rfl (by decide +kernel)
set_option maxRecDepth 65536 in
theorem w_c17 : (Jvm.Cond.code ({ cls := "com/example/deadlock_to_diagnosis/deadlocktodiagnosis/reader/LineScanner", name := "isDigit", desc := "(C)Z" } : Jvm.MethodName) prog_19_method_19_code (1 : Nat) (Option.some Jvm.ClassFile.FieldType.boolean)).before args0 about1 = true := code_word (m := ⟨2, 4⟩) (meth := k2m4) (c := k2c4) (by decide +kernel) rfl rfl rfl (by decide +kernel)
set_option maxRecDepth 65536 in
theorem w_c18 : (Jvm.Cond.code ({ cls := "com/example/deadlock_to_diagnosis/deadlocktodiagnosis/reader/LineScanner", name := "position", desc := "()I" } : Jvm.MethodName) prog_19_method_3_code (1 : Nat) (Option.some Jvm.ClassFile.FieldType.int)).before args0 about1 = true := code_word (m := ⟨2, 1⟩) (meth := k2m1) (c := k2c1) (by decide +kernel) rfl rfl rfl (by decide +kernel)
set_option maxRecDepth 65536 in
theorem w_c19 : (Jvm.Cond.code ({ cls := "com/example/deadlock_to_diagnosis/deadlocktodiagnosis/reader/LineScannerDigitsPinLaw", name := "isAsciiDigit", desc := "(C)Z" } : Jvm.MethodName) method_3_code (2 : Nat) (Option.some Jvm.ClassFile.FieldType.boolean)).before args0 about1 = true := code_word (m := ⟨1, 2⟩) (meth := k1m2) (c := k1c2) (by decide +kernel) rfl rfl rfl (by decide +kernel)
set_option maxRecDepth 65536 in
theorem w_c20 : (Jvm.Cond.code ({ cls := "com/example/deadlock_to_diagnosis/deadlocktodiagnosis/reader/LineScannerDigitsPinLaw", name := "runFrom", desc := "([ZI)I" } : Jvm.MethodName) method_4_code (2 : Nat) (Option.some Jvm.ClassFile.FieldType.int)).before args0 about1 = true := code_word (m := ⟨1, 3⟩) (meth := k1m3) (c := k1c3) (by decide +kernel) rfl rfl rfl (by decide +kernel)
set_option maxRecDepth 65536 in
theorem w_c21 : (Jvm.Cond.code ({ cls := "java/lang/StringUTF16", name := "toBytes", desc := "([CII)[B" } : Jvm.MethodName) jdk_52_method_14_code (5 : Nat) (Option.some (Jvm.ClassFile.FieldType.array Jvm.ClassFile.FieldType.byte))).before args0 about1 = true := code_word (m := ⟨9, 6⟩) (meth := k9m6) (c := k9c6) (by decide +kernel) rfl rfl rfl (by decide +kernel)
set_option maxRecDepth 65536 in
theorem w_c22 : (Jvm.Cond.code ({ cls := "java/lang/StringUTF16", name := "newBytesFor", desc := "(I)[B" } : Jvm.MethodName) jdk_52_method_2_code (1 : Nat) (Option.some (Jvm.ClassFile.FieldType.array Jvm.ClassFile.FieldType.byte))).before args0 about1 = true := code_word (m := ⟨9, 1⟩) (meth := k9m1) (c := k9c1) (by decide +kernel) rfl rfl rfl (by decide +kernel)
set_option maxRecDepth 65536 in
theorem w_c23 : (Jvm.Cond.code ({ cls := "java/lang/StringUTF16", name := "newBytesLength", desc := "(I)I" } : Jvm.MethodName) jdk_52_method_3_code (1 : Nat) (Option.some Jvm.ClassFile.FieldType.int)).before args0 about1 = true := code_word (m := ⟨9, 2⟩) (meth := k9m2) (c := k9c2) (by decide +kernel) rfl rfl rfl (by decide +kernel)
set_option maxRecDepth 65536 in
theorem w_c24 : (Jvm.Cond.code ({ cls := "java/lang/StringUTF16", name := "putChar", desc := "([BII)V" } : Jvm.MethodName) jdk_52_method_4_code (3 : Nat) (Option.none : Option Jvm.ClassFile.FieldType)).before args0 about1 = true := code_word (m := ⟨9, 3⟩) (meth := k9m3) (c := k9c3) (by decide +kernel) rfl rfl rfl (by decide +kernel)
set_option maxRecDepth 65536 in
theorem w_c25 : (Jvm.Cond.code ({ cls := "java/lang/StringUTF16", name := "getChar", desc := "([BI)C" } : Jvm.MethodName) jdk_52_method_5_code (2 : Nat) (Option.some Jvm.ClassFile.FieldType.char)).before args0 about1 = true := code_word (m := ⟨9, 4⟩) (meth := k9m4) (c := k9c4) (by decide +kernel) rfl rfl rfl (by decide +kernel)
set_option maxRecDepth 65536 in
theorem w_c26 : (Jvm.Cond.code ({ cls := "java/lang/StringUTF16", name := "charAt", desc := "([BI)C" } : Jvm.MethodName) jdk_52_method_83_code (2 : Nat) (Option.some Jvm.ClassFile.FieldType.char)).before args0 about1 = true := code_word (m := ⟨9, 10⟩) (meth := k9m10) (c := k9c10) (by decide +kernel) rfl rfl rfl (by decide +kernel)
set_option maxRecDepth 65536 in
theorem w_c27 : (Jvm.Cond.code ({ cls := "java/lang/StringUTF16", name := "checkIndex", desc := "(I[B)V" } : Jvm.MethodName) jdk_52_method_91_code (2 : Nat) (Option.none : Option Jvm.ClassFile.FieldType)).before args0 about1 = true := code_word (m := ⟨9, 11⟩) (meth := k9m11) (c := k9c11) (by decide +kernel) rfl rfl rfl (by decide +kernel)
set_option maxRecDepth 65536 in
theorem w_c28 : (Jvm.Cond.code ({ cls := "java/lang/StringUTF16", name := "length", desc := "([B)I" } : Jvm.MethodName) jdk_52_method_6_code (1 : Nat) (Option.some Jvm.ClassFile.FieldType.int)).before args0 about1 = true := code_word (m := ⟨9, 5⟩) (meth := k9m5) (c := k9c5) (by decide +kernel) rfl rfl rfl (by decide +kernel)
def codes1 : List Jvm.Cond := [Jvm.Cond.code x code maxLocals ret, Jvm.Cond.code ({ cls := "java/lang/String", name := "<init>", desc := "([C)V" } : Jvm.MethodName) jdk_42_method_3_code (2 : Nat) (Option.none : Option Jvm.ClassFile.FieldType), Jvm.Cond.code ({ cls := "java/lang/String", name := "<init>", desc := "([CIILjava/lang/Void;)V" } : Jvm.MethodName) jdk_42_method_149_code (6 : Nat) (Option.none : Option Jvm.ClassFile.FieldType), Jvm.Cond.code ({ cls := "java/lang/Object", name := "<init>", desc := "()V" } : Jvm.MethodName) object_method_1_code (1 : Nat) (Option.none : Option Jvm.ClassFile.FieldType), Jvm.Cond.code ({ cls := "java/lang/StringUTF16", name := "compress", desc := "([CII)[B" } : Jvm.MethodName) jdk_52_method_16_code (6 : Nat) (Option.some (Jvm.ClassFile.FieldType.array Jvm.ClassFile.FieldType.byte)), Jvm.Cond.code ({ cls := "java/lang/StringUTF16", name := "compress", desc := "([CI[BII)I" } : Jvm.MethodName) jdk_52_method_21_code (7 : Nat) (Option.some Jvm.ClassFile.FieldType.int), Jvm.Cond.code ({ cls := "java/lang/StringUTF16", name := "coderFromArrayLen", desc := "([BI)B" } : Jvm.MethodName) jdk_52_method_15_code (2 : Nat) (Option.some Jvm.ClassFile.FieldType.byte), Jvm.Cond.code ({ cls := "com/example/deadlock_to_diagnosis/deadlocktodiagnosis/reader/LineScanner", name := "<init>", desc := "(Ljava/lang/String;)V" } : Jvm.MethodName) prog_19_method_1_code (2 : Nat) (Option.none : Option Jvm.ClassFile.FieldType), Jvm.Cond.code ({ cls := "com/example/deadlock_to_diagnosis/deadlocktodiagnosis/reader/LineScanner", name := "moveTo", desc := "(I)V" } : Jvm.MethodName) prog_19_method_4_code (2 : Nat) (Option.none : Option Jvm.ClassFile.FieldType), Jvm.Cond.code ({ cls := "com/example/deadlock_to_diagnosis/deadlocktodiagnosis/reader/LineScanner", name := "digits", desc := "(II)Z" } : Jvm.MethodName) prog_19_method_10_code (5 : Nat) (Option.some Jvm.ClassFile.FieldType.boolean), Jvm.Cond.code ({ cls := "java/lang/String", name := "length", desc := "()I" } : Jvm.MethodName) jdk_42_method_54_code (1 : Nat) (Option.some Jvm.ClassFile.FieldType.int), Jvm.Cond.code ({ cls := "java/lang/String", name := "coder", desc := "()B" } : Jvm.MethodName) jdk_42_method_152_code (1 : Nat) (Option.some Jvm.ClassFile.FieldType.byte), Jvm.Cond.code ({ cls := "java/lang/String", name := "charAt", desc := "(I)C" } : Jvm.MethodName) jdk_42_method_56_code (2 : Nat) (Option.some Jvm.ClassFile.FieldType.char), Jvm.Cond.code ({ cls := "java/lang/String", name := "isLatin1", desc := "()Z" } : Jvm.MethodName) jdk_42_method_154_code (1 : Nat) (Option.some Jvm.ClassFile.FieldType.boolean), Jvm.Cond.code ({ cls := "java/lang/StringLatin1", name := "charAt", desc := "([BI)C" } : Jvm.MethodName) jdk_43_method_2_code (2 : Nat) (Option.some Jvm.ClassFile.FieldType.char), Jvm.Cond.code ({ cls := "java/lang/String", name := "checkIndex", desc := "(II)V" } : Jvm.MethodName) jdk_42_method_155_code (2 : Nat) (Option.none : Option Jvm.ClassFile.FieldType), Jvm.Cond.code ({ cls := "jdk/internal/util/Preconditions", name := "checkIndex", desc := "(IILjava/util/function/BiFunction;)I" } : Jvm.MethodName) jdk_41_method_11_code (3 : Nat) (Option.some Jvm.ClassFile.FieldType.int), Jvm.Cond.code ({ cls := "com/example/deadlock_to_diagnosis/deadlocktodiagnosis/reader/LineScanner", name := "isDigit", desc := "(C)Z" } : Jvm.MethodName) prog_19_method_19_code (1 : Nat) (Option.some Jvm.ClassFile.FieldType.boolean), Jvm.Cond.code ({ cls := "com/example/deadlock_to_diagnosis/deadlocktodiagnosis/reader/LineScanner", name := "position", desc := "()I" } : Jvm.MethodName) prog_19_method_3_code (1 : Nat) (Option.some Jvm.ClassFile.FieldType.int), Jvm.Cond.code ({ cls := "com/example/deadlock_to_diagnosis/deadlocktodiagnosis/reader/LineScannerDigitsPinLaw", name := "isAsciiDigit", desc := "(C)Z" } : Jvm.MethodName) method_3_code (2 : Nat) (Option.some Jvm.ClassFile.FieldType.boolean), Jvm.Cond.code ({ cls := "com/example/deadlock_to_diagnosis/deadlocktodiagnosis/reader/LineScannerDigitsPinLaw", name := "runFrom", desc := "([ZI)I" } : Jvm.MethodName) method_4_code (2 : Nat) (Option.some Jvm.ClassFile.FieldType.int), Jvm.Cond.code ({ cls := "java/lang/StringUTF16", name := "toBytes", desc := "([CII)[B" } : Jvm.MethodName) jdk_52_method_14_code (5 : Nat) (Option.some (Jvm.ClassFile.FieldType.array Jvm.ClassFile.FieldType.byte)), Jvm.Cond.code ({ cls := "java/lang/StringUTF16", name := "newBytesFor", desc := "(I)[B" } : Jvm.MethodName) jdk_52_method_2_code (1 : Nat) (Option.some (Jvm.ClassFile.FieldType.array Jvm.ClassFile.FieldType.byte)), Jvm.Cond.code ({ cls := "java/lang/StringUTF16", name := "newBytesLength", desc := "(I)I" } : Jvm.MethodName) jdk_52_method_3_code (1 : Nat) (Option.some Jvm.ClassFile.FieldType.int), Jvm.Cond.code ({ cls := "java/lang/StringUTF16", name := "putChar", desc := "([BII)V" } : Jvm.MethodName) jdk_52_method_4_code (3 : Nat) (Option.none : Option Jvm.ClassFile.FieldType), Jvm.Cond.code ({ cls := "java/lang/StringUTF16", name := "getChar", desc := "([BI)C" } : Jvm.MethodName) jdk_52_method_5_code (2 : Nat) (Option.some Jvm.ClassFile.FieldType.char), Jvm.Cond.code ({ cls := "java/lang/StringUTF16", name := "charAt", desc := "([BI)C" } : Jvm.MethodName) jdk_52_method_83_code (2 : Nat) (Option.some Jvm.ClassFile.FieldType.char), Jvm.Cond.code ({ cls := "java/lang/StringUTF16", name := "checkIndex", desc := "(I[B)V" } : Jvm.MethodName) jdk_52_method_91_code (2 : Nat) (Option.none : Option Jvm.ClassFile.FieldType), Jvm.Cond.code ({ cls := "java/lang/StringUTF16", name := "length", desc := "([B)I" } : Jvm.MethodName) jdk_52_method_6_code (1 : Nat) (Option.some Jvm.ClassFile.FieldType.int)]
set_option maxRecDepth 65536 in
theorem codes_eq : words1.filter isCode = codes1 := rfl
theorem w_codes : ∀ c ∈ words1.filter isCode, c.before args0 about1 = true := by
  rw [codes_eq]
  intro c hc
  simp only [codes1, List.mem_cons, List.not_mem_nil, or_false] at hc
  rcases hc with rfl | rfl | rfl | rfl | rfl | rfl | rfl | rfl | rfl | rfl | rfl | rfl | rfl | rfl | rfl | rfl | rfl | rfl | rfl | rfl | rfl | rfl | rfl | rfl | rfl | rfl | rfl | rfl | rfl
  · exact w_c0
  · exact w_c1
  · exact w_c2
  · exact w_c3
  · exact w_c4
  · exact w_c5
  · exact w_c6
  · exact w_c7
  · exact w_c8
  · exact w_c9
  · exact w_c10
  · exact w_c11
  · exact w_c12
  · exact w_c13
  · exact w_c14
  · exact w_c15
  · exact w_c16
  · exact w_c17
  · exact w_c18
  · exact w_c19
  · exact w_c20
  · exact w_c21
  · exact w_c22
  · exact w_c23
  · exact w_c24
  · exact w_c25
  · exact w_c26
  · exact w_c27
  · exact w_c28
set_option maxRecDepth 65536 in
theorem w_t1 : (words1.take 24).all (fun c => isCode c || c.before args0 about1) = true := by decide +kernel
set_option maxRecDepth 65536 in
theorem w_t2 : ((words1.drop 24).take 24).all (fun c => isCode c || c.before args0 about1) = true := by decide +kernel
set_option maxRecDepth 65536 in
theorem w_t3 : (((words1.drop 24).drop 24).take 24).all (fun c => isCode c || c.before args0 about1) = true := by decide +kernel
set_option maxRecDepth 65536 in
theorem w_t4 : ((((words1.drop 24).drop 24).drop 24).take 24).all (fun c => isCode c || c.before args0 about1) = true := by decide +kernel
set_option maxRecDepth 65536 in
theorem w_t5 : (((((words1.drop 24).drop 24).drop 24).drop 24).take 24).all (fun c => isCode c || c.before args0 about1) = true := by decide +kernel
set_option maxRecDepth 65536 in
theorem w_t6 : (((((words1.drop 24).drop 24).drop 24).drop 24).drop 24).all (fun c => isCode c || c.before args0 about1) = true := by decide +kernel
theorem w_tables : (allAtoms (Jvm.Cond.code x code maxLocals ret :: tables_1)).before args0 about1 = true := by
  rw [allAtoms_all]
  show words1.all (fun c => c.before args0 about1) = true
  refine all_split ?_ w_codes
  rw [← List.take_append_drop 24 words1, List.all_append, w_t1, ← List.take_append_drop 24 (words1.drop 24), List.all_append, w_t2, ← List.take_append_drop 24 ((words1.drop 24).drop 24), List.all_append, w_t3, ← List.take_append_drop 24 (((words1.drop 24).drop 24).drop 24), List.all_append, w_t4, ← List.take_append_drop 24 ((((words1.drop 24).drop 24).drop 24).drop 24), List.all_append, w_t5, w_t6]
  rfl
set_option maxRecDepth 65536 in
theorem w_rest : rest_1_c.before args0 about1 = true := by decide +kernel
set_option maxRecDepth 65536 in
theorem w_case : (Jvm.Cond.and given_1 narrow_1).before args0 about1 = true := by decide +kernel
theorem w_applies : (headSpec (Jvm.Cond.code x code maxLocals ret :: tables_1) room_1).applies x e0.platform about1 = true :=
  (Spec.applies_iff w_frames).mpr ⟨w_running, w_runnable, w_alone, w_named, w_hears, w_ripe, w_room, w_tables⟩
theorem atStart : AtStart classFile x code maxLocals ret World_1 tables_1 room_1 Calls_1 rest_1 Pre_1 launch0 p0 e0 about1 theMethod args0 below0 :=
  ⟨lists_1, trivial, launch0.admits_env _ _ _, launch0.least_env, fairChoices_fair.cas, fairChoices_fair.clock, w_frames, w_args, w_heap, w_applies, trivial, w_rest, w_case⟩
end start1
theorem witness_1 : WitnessClaimed_1 := ⟨start1.p0, start1.e0, start1.about1, start1.theMethod, start1.args0, start1.below0, start1.atStart⟩
end Jvm.Pilot.@@N@@
