import JvmDerived
import JvmDerived.Pilot.@@N@@Statement
import JvmDerived.Pilot.@@N@@Code
set_option linter.unusedVariables false
set_option linter.unusedSimpArgs false
namespace Jvm.Pilot.@@N@@
open Jvm Jvm.ClassFile Sem Op Lib Jvm.Free Jvm.Stand Jvm.LawKit Jvm.RoadKit Bundle Jvm.Pilot.@@N@@.Jvm.D
/-! own helpers: the goal of a walk as one predicate, its steps, its calls -/
section OwnKit
variable {p : Program} {l : Launch} {e : Env} {R : Room} {s : State} {m : MethodId} {args : Array Value} {below : List Frame} {meth : Method} {c : Code} {T : State} {locs : List Loc} {cells slots : Nat} {Z : State} {a0 : Array Value} {h : Heap} {Q : Option Value → Heap → List Loc → Prop} {kc ks : Nat}
/-- from S the run ends, returns, and Q holds of what it returns, of the heap and of the places written -/
def OGoal (p : Program) (e : Env) (below : List Frame) (s : State) (Q : Option Value → Heap → List Loc → Prop) (kc ks : Nat) (S : State) : Prop :=
  ∃ s₂ o, Steps p.tables e below S s₂ ∧ s₂.status = .running ∧ Ended s₂ below o ∧ ∃ v L, o = .returned v ∧ Q v s₂.heap L ∧ FrameEnd s o s₂ L kc ks
theorem OGoal.mp {S S' : State} (k : ∀ t, Steps p.tables e below S' t → Steps p.tables e below S t) (g : OGoal p e below s Q kc ks S') : OGoal p e below s Q kc ks S := by
  obtain ⟨s₂, o, h1, h2⟩ := g
  exact ⟨s₂, o, k _ h1, h2⟩
theorem oRet (X : Stand p l e R s m args below meth c T locs cells slots) (hx : p.tables.exec = Jvm.exec) (hlk : meth.locks = false) {pc : Nat} {Ls : Array Slot} {w : Value} {t : FieldType} {i : Instr} {rest : List Value} (hret : meth.sig.returnType = some t) (hn : narrow t w = w)
    (hi : (i = .ireturn ∧ (t = .int ∨ t = .boolean ∨ t = .byte ∨ t = .char ∨ t = .short) ∧ ∃ z, w = .int z) ∨ (i = .lreturn ∧ t = .long ∧ ∃ z, w = .long z) ∨ (i = .dreturn ∧ t = .double ∧ ∃ z, w = .double z) ∨ (i = .freturn ∧ t = .float ∧ ∃ z, w = .float z) ∨ (i = .areturn ∧ t.isReference = true ∧ w.isRef = true))
    (hd : decode c.code pc = .ok (i, 1)) (hQ : Q (some w) T.heap locs) (hc : cells ≤ kc) (hs : slots ≤ ks) : OGoal p e below s Q kc ks (T.setTop (mkF m pc Ls (w :: rest))) := by
  obtain ⟨fs, hr, hrun, hended, hW, hsame⟩ := X.leave (v := some w) (fun q => by rw [hret] at q; cases q) hlk
  exact ⟨_, _, retOut X hx hret hn hi hd hr, hrun, hended, _, _, rfl, hQ, ⟨_, rfl⟩, hW, hsame.mono hc hs⟩
theorem oRetI (X : Stand p l e R s m args below meth c T locs cells slots) (hx : p.tables.exec = Jvm.exec) (hlk : meth.locks = false) {pc : Nat} {Ls : Array Slot} {z : Int32} {rest : List Value} (hret : meth.sig.returnType = some .int)
    (hd : decode c.code pc = .ok (.ireturn, 1)) (hQ : Q (some (.int z)) T.heap locs) (hc : cells ≤ kc) (hs : slots ≤ ks) : OGoal p e below s Q kc ks (T.setTop (mkF m pc Ls (.int z :: rest))) :=
  oRet X hx hlk hret rfl (Or.inl ⟨rfl, Or.inl rfl, _, rfl⟩) hd hQ hc hs
theorem oRetZ (X : Stand p l e R s m args below meth c T locs cells slots) (hx : p.tables.exec = Jvm.exec) (hlk : meth.locks = false) {pc : Nat} {Ls : Array Slot} {z : Int32} {rest : List Value} (hret : meth.sig.returnType = some .boolean) (hz : z = 0 ∨ z = 1)
    (hd : decode c.code pc = .ok (.ireturn, 1)) (hQ : Q (some (.int z)) T.heap locs) (hc : cells ≤ kc) (hs : slots ≤ ks) : OGoal p e below s Q kc ks (T.setTop (mkF m pc Ls (.int z :: rest))) :=
  oRet X hx hlk hret (by rcases hz with rfl | rfl <;> rfl) (Or.inl ⟨rfl, Or.inr (Or.inl rfl), _, rfl⟩) hd hQ hc hs
theorem oRetJ (X : Stand p l e R s m args below meth c T locs cells slots) (hx : p.tables.exec = Jvm.exec) (hlk : meth.locks = false) {pc : Nat} {Ls : Array Slot} {z : Int64} {rest : List Value} (hret : meth.sig.returnType = some .long)
    (hd : decode c.code pc = .ok (.lreturn, 1)) (hQ : Q (some (.long z)) T.heap locs) (hc : cells ≤ kc) (hs : slots ≤ ks) : OGoal p e below s Q kc ks (T.setTop (mkF m pc Ls (.long z :: rest))) :=
  oRet X hx hlk hret rfl (Or.inr (Or.inl ⟨rfl, rfl, _, rfl⟩)) hd hQ hc hs
theorem oRetD (X : Stand p l e R s m args below meth c T locs cells slots) (hx : p.tables.exec = Jvm.exec) (hlk : meth.locks = false) {pc : Nat} {Ls : Array Slot} {z : UInt64} {rest : List Value} (hret : meth.sig.returnType = some .double)
    (hd : decode c.code pc = .ok (.dreturn, 1)) (hQ : Q (some (.double z)) T.heap locs) (hc : cells ≤ kc) (hs : slots ≤ ks) : OGoal p e below s Q kc ks (T.setTop (mkF m pc Ls (.double z :: rest))) :=
  oRet X hx hlk hret rfl (Or.inr (Or.inr (Or.inl ⟨rfl, rfl, _, rfl⟩))) hd hQ hc hs
theorem oRetA (X : Stand p l e R s m args below meth c T locs cells slots) (hx : p.tables.exec = Jvm.exec) (hlk : meth.locks = false) {pc : Nat} {Ls : Array Slot} {w : Value} {t : FieldType} {rest : List Value} (hret : meth.sig.returnType = some t) (ht : t.isReference = true) (hw : w.isRef = true)
    (hd : decode c.code pc = .ok (.areturn, 1)) (hQ : Q (some w) T.heap locs) (hc : cells ≤ kc) (hs : slots ≤ ks) : OGoal p e below s Q kc ks (T.setTop (mkF m pc Ls (w :: rest))) :=
  oRet X hx hlk hret (by cases t <;> cases w <;> first | rfl | (cases ht; done) | (cases hw; done)) (Or.inr (Or.inr (Or.inr (Or.inr ⟨rfl, ht, hw⟩)))) hd hQ hc hs
theorem oRetV (X : Stand p l e R s m args below meth c T locs cells slots) (hx : p.tables.exec = Jvm.exec) (hlk : meth.locks = false) {pc : Nat} {Ls : Array Slot} (hret : meth.sig.returnType = none)
    (hd : decode c.code pc = .ok (.return_, 1)) (hQ : Q none T.heap locs) (hc : cells ≤ kc) (hs : slots ≤ ks) : OGoal p e below s Q kc ks (T.setTop (mkF m pc Ls [])) := by
  obtain ⟨fs, hr, hrun, hended, hW, hsame⟩ := X.leave (v := none) (fun _ => rfl) hlk
  exact ⟨_, _, X.returnOut hx hret hd hr, hrun, hended, _, _, rfl, hQ, ⟨_, rfl⟩, hW, hsame.mono hc hs⟩
/-- the contract of a method: called with as' over the heap h it returns, and Q holds; kc cells and ks slots are made at the most -/
def OConK (l : Launch) (Z : State) (y : MethodName) (bytes : ByteArray) (maxL : Nat) (ret : Option FieldType) (rm : Room) (kc ks : Nat) (as' : Array Value) (h : Heap) (Q : Option Value → Heap → List Loc → Prop) : Prop :=
  ∀ ws : List Jvm.Cond, MetFree l y (head1 (Jvm.Cond.code y bytes maxL ret :: ws) rm) (fun a U => a = as' ∧ Z.Warmed39 U.vm ∧ U.heap = h) (fun _ _ _ _ _ => True) (fun _ U o U' => ∃ v L, o = .returned v ∧ Q v U'.heap L ∧ FrameEnd U o U' L kc ks)
abbrev OCon (l : Launch) (Z : State) (y : MethodName) (bytes : ByteArray) (maxL : Nat) (ret : Option FieldType) (rm : Room) (as' : Array Value) (h : Heap) (Q : Option Value → Heap → List Loc → Prop) : Prop := OConK l Z y bytes maxL ret rm rm.cells rm.slots as' h Q
theorem OConK.intro {y : MethodName} {bytes : ByteArray} {maxL : Nat} {ret : Option FieldType} {rm : Room} {as' : Array Value} {Ls : Array Slot} (hpf : plainFor y = true) (ef : ∀ m, entryFrame m as' maxL = mkF m 0 Ls [])
    (H : ∀ p e s m below meth c s₁, p.tables.exec = Jvm.exec → c.code = bytes → c.maxLocals = maxL → s.vm.findClass y.cls = some m.cls → meth.name = y.name → meth.sig.returnType = ret → meth.locks = false → Z.Warmed39 s.vm →
      Stand p l e rm s m as' below meth c s₁ [] 0 0 → s₁.heap = h → OGoal p e below s Q kc ks (s₁.setTop (mkF m 0 Ls []))) : OConK l Z y bytes maxL ret rm kc ks as' h Q := by
  intro ws
  refine MetFree.of_bodySF hpf hisR ?_
  intro p e s m args below meth c s₁ Bd hml hP hK
  obtain ⟨rfl, hZ, hh⟩ := hP
  obtain ⟨s₂, o, h1, h2, h3, h4⟩ := H p e s m below meth c s₁ Bd.exec Bd.bytes hml (findClass_of_methodNamed Bd.named) (name_of_methodNamed Bd.named Bd.method).1 Bd.returns (BodyLoose.notSynchronized Bd) hZ (Stand.of_body Bd) (by rw [← hh, Bd.state]; rfl)
  exact ⟨s₂, o, castTop (ef m) h1, h2, h3, h4⟩
/-- weaker promise -/
theorem OConK.imp {y : MethodName} {bytes : ByteArray} {maxL : Nat} {ret : Option FieldType} {rm : Room} {as' : Array Value} {Q' : Option Value → Heap → List Loc → Prop} (H : OConK l Z y bytes maxL ret rm kc ks as' h Q) (k : ∀ v h' L, Q v h' L → Q' v h' L) : OConK l Z y bytes maxL ret rm kc ks as' h Q' := by
  intro ws p e ha hc hk s m args below hf happ hP hK
  obtain ⟨n, o, h1, h2, h3, v, L, h4, h5, h6⟩ := H ws p e ha hc hk s m args below hf happ hP hK
  exact ⟨n, o, h1, h2, h3, v, L, h4, k _ _ _ h5, h6⟩
theorem oCallS (X : Stand p l e R s m args below meth c T locs cells slots) (hx : p.tables.exec = Jvm.exec) (hZ : Z.Warmed39 s.vm) {own : String} {index : Nat} {y : MethodName} {bytes : ByteArray} {maxL : Nat} {ret : Option FieldType} {rm : Room} {as' : Array Value} {Qc : Option Value → Heap → List Loc → Prop}
    (hown : s.vm.findClass own = some m.cls) (w1 : (Jvm.Cond.methodLink own index y).before a0 Z = true) (w2 : (Jvm.Cond.static y).before a0 Z = true) (w3 : (Jvm.Cond.initialized y.cls).before a0 Z = true) (w4 : (Jvm.Cond.code y bytes maxL ret).before a0 Z = true)
    (hy : y.cls ≠ "java/lang/invoke/MethodHandle" ∧ y.cls ≠ "java/lang/invoke/VarHandle") (hM : OCon l Z y bytes maxL ret rm as' h Qc) (eT : T.heap = h) {pc : Nat} {Ls : Array Slot} {st : List Value} (argsL rest : List Value) (hst : st = argsL.reverse ++ rest) (has : argsL.toArray = as') (hsize : Ls.size = c.maxLocals)
    (hlen : ∀ sig, parseMethodDescriptor y.desc = some sig → argsL.length = sig.parameters.length) (W : Nat) (hW : (rest.map fun v => v.category).sum ≤ W) (hfr : rm.frames + 1 ≤ R.frames) (hlo : W + (maxL + 11) + rm.locals ≤ R.locals) (hce : cells + rm.cells ≤ R.cells) (hsl : slots + rm.slots ≤ R.slots)
    (hd : decode c.code pc = .ok (.invokestatic index, 3))
    (k : ∀ v T' Lc, Stand p l e R s m args below meth c T' (locs ++ Lc) (cells + rm.cells) (slots + rm.slots) → Qc v T'.heap Lc → OGoal p e below s Q kc ks (T'.setTop (mkF m (pc + 3) Ls (v.toList ++ rest)))) :
    OGoal p e below s Q kc ks (T.setTop (mkF m pc Ls st)) := by
  subst hst has
  obtain ⟨v, _, ⟨T', L', k', n'⟩, -, X', ⟨Lc, hQ, l', y', z'⟩, st⟩ := Jvm.LawKit.callS X hx (y := y) hown (mvT hZ w1) (mvT hZ w2) (mvT hZ w3) (mvT hZ w4) hy (backOf (W := W) (hM []) hZ w4 w3 hfr hlo) (g := mkF m pc Ls (argsL.reverse ++ rest)) rfl hsize (argsL := argsL) (rest := rest) hlen rfl (by show 2 * 0 + _ ≤ _; omega) hd (fun _ _ => ⟨rfl, eT, hce, hsl⟩)
  dsimp only [Pt.U, Pt.locs, Pt.cells, Pt.slots] at X' l' y' z' st hQ
  subst l' y' z'
  exact OGoal.mp st (k v T' Lc X' hQ)
theorem oCallV (X : Stand p l e R s m args below meth c T locs cells slots) (hx : p.tables.exec = Jvm.exec) (hZ : Z.Warmed39 s.vm) {own C : String} {index : Nat} {y z : MethodName} {bytes : ByteArray} {maxL : Nat} {ret : Option FieldType} {rm : Room} {as' : Array Value} {Qc : Option Value → Heap → List Loc → Prop}
    (hown : s.vm.findClass own = some m.cls) (w1 : (Jvm.Cond.methodLink own index y).before a0 Z = true) (w2 : (Jvm.Cond.declares y).before a0 Z = true) (w5 : (Jvm.Cond.selects C y z).before a0 Z = true) (w6 : (Jvm.Cond.instanceMethod z).before a0 Z = true) (w3 : (Jvm.Cond.initialized z.cls).before a0 Z = true) (w4 : (Jvm.Cond.code z bytes maxL ret).before a0 Z = true)
    (hy : y.cls ≠ "java/lang/invoke/MethodHandle" ∧ y.cls ≠ "java/lang/invoke/VarHandle") (hM : OCon l Z z bytes maxL ret rm as' h Qc) (eT : T.heap = h) {a : Addr} (E : Exa Z h a C) {pc : Nat} {Ls : Array Slot} {st : List Value} (argsL rest : List Value) (hst : st = argsL.reverse ++ .ref a :: rest) (has : (.ref a :: argsL).toArray = as') (hsize : Ls.size = c.maxLocals)
    (hnf : NotFace s y) (hlen : ∀ sig, parseMethodDescriptor y.desc = some sig → argsL.length = sig.parameters.length) (W : Nat) (hW : (rest.map fun v => v.category).sum ≤ W) (hfr : rm.frames + 1 ≤ R.frames) (hlo : W + (maxL + 11) + rm.locals ≤ R.locals) (hce : cells + rm.cells ≤ R.cells) (hsl : slots + rm.slots ≤ R.slots)
    (hd : decode c.code pc = .ok (.invokevirtual index, 3))
    (k : ∀ v T' Lc, Stand p l e R s m args below meth c T' (locs ++ Lc) (cells + rm.cells) (slots + rm.slots) → Qc v T'.heap Lc → OGoal p e below s Q kc ks (T'.setTop (mkF m (pc + 3) Ls (v.toList ++ rest)))) :
    OGoal p e below s Q kc ks (T.setTop (mkF m pc Ls st)) := by
  subst hst has
  obtain ⟨cq, kq, qa, qb, qc⟩ := isOf hZ eT E
  obtain ⟨v, _, ⟨T', L', k', n'⟩, -, X', ⟨Lc, hQ, l', y', z'⟩, st⟩ := X.virtualBack hx (y := y) (z := z) hown (mvT hZ w1) (mvT hZ w2) hnf (mvT hZ w5) (mvT hZ w6) hy (backOf (W := W) (hM []) hZ w4 w3 hfr hlo) qa qc (g := mkF m pc Ls (argsL.reverse ++ .ref a :: rest)) rfl hsize (Steps.refl _) (argsL := argsL) (rest := rest) hlen rfl (by show 2 * 0 + _ ≤ _; omega) hd (fun _ _ => ⟨rfl, eT, hce, hsl⟩)
  dsimp only [Pt.U, Pt.locs, Pt.cells, Pt.slots] at X' l' y' z' st hQ
  subst l' y' z'
  exact OGoal.mp (fun t q => st.trans q) (k v T' Lc X' hQ)
theorem oCallN (X : Stand p l e R s m args below meth c T locs cells slots) (hx : p.tables.exec = Jvm.exec) (hZ : Z.Warmed39 s.vm) {own : String} {index : Nat} {y : MethodName} {bytes : ByteArray} {maxL : Nat} {rm : Room} {as' : Array Value} {Qc : Option Value → Heap → List Loc → Prop}
    (hy1 : y.name = "<init>") (hown : s.vm.findClass own = some m.cls) (w1 : (Jvm.Cond.methodLink own index y).before a0 Z = true) (w6 : (Jvm.Cond.instanceMethod y).before a0 Z = true) (w3 : (Jvm.Cond.initialized y.cls).before a0 Z = true) (w4 : (Jvm.Cond.code y bytes maxL none).before a0 Z = true)
    (hy : y.cls ≠ "java/lang/invoke/MethodHandle" ∧ y.cls ≠ "java/lang/invoke/VarHandle") (hM : OCon l Z y bytes maxL none rm as' h Qc) (eT : T.heap = h) {a : Addr} {pc : Nat} {Ls : Array Slot} {st : List Value} (argsL rest : List Value) (hst : st = argsL.reverse ++ .ref a :: rest) (has : (.ref a :: argsL).toArray = as') (hsize : Ls.size = c.maxLocals)
    (hlen : ∀ sig, parseMethodDescriptor y.desc = some sig → argsL.length = sig.parameters.length) (W : Nat) (hW : (rest.map fun v => v.category).sum ≤ W) (hfr : rm.frames + 1 ≤ R.frames) (hlo : W + (maxL + 11) + rm.locals ≤ R.locals) (hce : cells + rm.cells ≤ R.cells) (hsl : slots + rm.slots ≤ R.slots)
    (hd : decode c.code pc = .ok (.invokespecial index, 3))
    (k : ∀ v T' Lc, Stand p l e R s m args below meth c T' (locs ++ Lc) (cells + rm.cells) (slots + rm.slots) → Qc v T'.heap Lc → OGoal p e below s Q kc ks (T'.setTop (mkF m (pc + 3) Ls (v.toList ++ rest)))) :
    OGoal p e below s Q kc ks (T.setTop (mkF m pc Ls st)) := by
  subst hst has
  obtain ⟨v, _, ⟨T', L', k', n'⟩, -, X', ⟨Lc, hQ, l', y', z'⟩, st⟩ := X.specialBack hx (y := y) hy1 hown (mvT hZ w1) (mvT hZ w6) (mvT hZ w4) hy (backOf (W := W) (hM []) hZ w4 w3 hfr hlo) (g := mkF m pc Ls (argsL.reverse ++ .ref a :: rest)) rfl hsize (Steps.refl _) (a := a) (argsL := argsL) (rest := rest) hlen rfl (by show 2 * 0 + _ ≤ _; omega) hd (fun _ _ => ⟨rfl, eT, hce, hsl⟩)
  dsimp only [Pt.U, Pt.locs, Pt.cells, Pt.slots] at X' l' y' z' st hQ
  subst l' y' z'
  exact OGoal.mp (fun t q => st.trans q) (k v T' Lc X' hQ)
theorem oNotFace {s : State} {C : String} {k : Nat} (h : (Jvm.Cond.instantiable C k).before args s = true) : ∃ c kc, s.vm.findClass C = some c ∧ s.vm.classes[c]? = some kc ∧ kc.isInterface = false := by
  obtain ⟨c, kc, h1, h2, -, h3, -, -⟩ := Cond.instantiable_spec h
  exact ⟨c, kc, h1, h2, (Bool.or_eq_false_iff.mp h3).1⟩
theorem oCallP (X : Stand p l e R s m args below meth c T locs cells slots) (hx : p.tables.exec = Jvm.exec) (hZ : Z.Warmed39 s.vm) {own C : String} {index : Nat} {y : MethodName} {bytes : ByteArray} {maxL : Nat} {ret : Option FieldType} {rm : Room} {as' : Array Value} {Qc : Option Value → Heap → List Loc → Prop}
    (hown : s.vm.findClass own = some m.cls) (w1 : (Jvm.Cond.methodLink own index y).before a0 Z = true) {kk : Nat} (w5 : (Jvm.Cond.instantiable y.cls kk).before a0 Z = true) (w6 : (Jvm.Cond.instanceMethod y).before a0 Z = true) (w7 : (Jvm.Cond.privateMethod y).before a0 Z = true) (w3 : (Jvm.Cond.initialized y.cls).before a0 Z = true) (w4 : (Jvm.Cond.code y bytes maxL ret).before a0 Z = true)
    (hy : y.cls ≠ "java/lang/invoke/MethodHandle" ∧ y.cls ≠ "java/lang/invoke/VarHandle") (hM : OCon l Z y bytes maxL ret rm as' h Qc) (eT : T.heap = h) {a : Addr} (E : Exa Z h a C) {pc : Nat} {Ls : Array Slot} {st : List Value} (argsL rest : List Value) (hst : st = argsL.reverse ++ .ref a :: rest) (has : (.ref a :: argsL).toArray = as') (hsize : Ls.size = c.maxLocals)
    (hlen : ∀ sig, parseMethodDescriptor y.desc = some sig → argsL.length = sig.parameters.length) (W : Nat) (hW : (rest.map fun v => v.category).sum ≤ W) (hfr : rm.frames + 1 ≤ R.frames) (hlo : W + (maxL + 11) + rm.locals ≤ R.locals) (hce : cells + rm.cells ≤ R.cells) (hsl : slots + rm.slots ≤ R.slots)
    (hd : decode c.code pc = .ok (.invokevirtual index, 3))
    (k : ∀ v T' Lc, Stand p l e R s m args below meth c T' (locs ++ Lc) (cells + rm.cells) (slots + rm.slots) → Qc v T'.heap Lc → OGoal p e below s Q kc ks (T'.setTop (mkF m (pc + 3) Ls (v.toList ++ rest)))) :
    OGoal p e below s Q kc ks (T.setTop (mkF m pc Ls st)) := by
  subst hst has
  obtain ⟨cq, q1, q2⟩ := E.cell
  obtain ⟨c1, k1, hc1, hk1, hi1⟩ := oNotFace (args := #[]) (mvT hZ w5)
  have hpr : s.PrivateAt y := Cond.privateMethod_at (mvP hZ w7 (args := #[]))
  have hse := selects_self_of_private (args := args) hc1 hk1 hi1 hpr (mvT hZ w6) hy
  obtain ⟨v, _, ⟨T', L', k', n'⟩, -, X', ⟨Lc, hQ, l', y', z'⟩, st⟩ := X.privateBack hx (y := y) hown (mvT hZ w1) (mvT hZ w6) hse hpr (mvT hZ w4) hy (backOf (W := W) (hM []) hZ w4 w3 hfr hlo) (g := mkF m pc Ls (argsL.reverse ++ .ref a :: rest)) rfl hsize (Steps.refl _) (a := a) (by rw [eT]; exact q1) q2 (argsL := argsL) (rest := rest) hlen rfl (by show 2 * 0 + _ ≤ _; omega) hd (fun _ _ => ⟨rfl, eT, hce, hsl⟩)
  dsimp only [Pt.U, Pt.locs, Pt.cells, Pt.slots] at X' l' y' z' st hQ
  subst l' y' z'
  exact OGoal.mp (fun t q => st.trans q) (k v T' Lc X' hQ)
theorem oLrem {g : JFrame} {target : State} (X : Stand p l e R s m args below meth c T locs cells slots) (hx : p.tables.exec = Jvm.exec) (hg : g.method = m) {x y : Int64} {rest : List Value} (hd : decode c.code g.pc = .ok (.lrem, 1)) (hs : g.stack = .long y :: .long x :: rest) (hy : y ≠ 0)
    (hr : Steps p.tables e below (T.setTop { g with pc := g.pc + 1, stack := .long (x % y) :: rest }) target) : Steps p.tables e below (T.setTop g) target := XT.lrem X.here hx hg hd hs hy (by rw [lrem_mod]; exact hr)
theorem oLt {x y : Int32} (h : x < y) : x.toInt < y.toInt := Int32.lt_iff_toInt_lt.mp h
theorem oNlt {x y : Int32} (h : ¬ x < y) : y.toInt ≤ x.toInt := Int.not_lt.mp fun q => h (Int32.lt_iff_toInt_lt.mpr q)
theorem oEq {x y : Int32} (h : x = y) : x.toInt = y.toInt := congrArg _ h
theorem oNe {x y : Int32} (h : ¬ x = y) : x.toInt ≠ y.toInt := fun q => h (Int32.toInt_inj.mp q)
theorem oLtL {x y : Int64} (h : x < y) : x.toInt < y.toInt := Int64.lt_iff_toInt_lt.mp h
theorem oNltL {x y : Int64} (h : ¬ x < y) : y.toInt ≤ x.toInt := Int.not_lt.mp fun q => h (Int64.lt_iff_toInt_lt.mpr q)
theorem oEqL {x y : Int64} (h : x = y) : x.toInt = y.toInt := congrArg _ h
theorem oNeL {x y : Int64} (h : ¬ x = y) : x.toInt ≠ y.toInt := fun q => h (Int64.toInt_inj.mp q)
theorem mLt {x y : Int32} (h : x.toInt < y.toInt) : x < y := Int32.lt_iff_toInt_lt.mpr h
theorem mNlt {x y : Int32} (h : y.toInt ≤ x.toInt) : ¬ x < y := fun q => absurd (oLt q) (Int.not_lt.mpr h)
theorem mEq {x y : Int32} (h : x.toInt = y.toInt) : x = y := Int32.toInt_inj.mp h
theorem mNe {x y : Int32} (h : x.toInt ≠ y.toInt) : ¬ x = y := fun q => h (congrArg _ q)
theorem mLtL {x y : Int64} (h : x.toInt < y.toInt) : x < y := Int64.lt_iff_toInt_lt.mpr h
theorem mNltL {x y : Int64} (h : y.toInt ≤ x.toInt) : ¬ x < y := fun q => absurd (oLtL q) (Int.not_lt.mpr h)
theorem mEqL {x y : Int64} (h : x.toInt = y.toInt) : x = y := Int64.toInt_inj.mp h
theorem mNeL {x y : Int64} (h : x.toInt ≠ y.toInt) : ¬ x = y := fun q => h (congrArg _ q)
theorem oRemL (x y : Int64) : 0 ≤ x.toInt → 0 < y.toInt → 0 ≤ (x % y).toInt ∧ (x % y).toInt < y.toInt := by
  intro h1 h2
  rw [Int64.toInt_mod, Int.tmod_eq_emod_of_nonneg h1]
  exact ⟨Int.emod_nonneg _ (by omega), Int.emod_lt_of_pos _ h2⟩
theorem oRemI (x y : Int32) : 0 ≤ x.toInt → 0 < y.toInt → 0 ≤ (x % y).toInt ∧ (x % y).toInt < y.toInt := by
  intro h1 h2
  rw [Int32.toInt_mod, Int.tmod_eq_emod_of_nonneg h1]
  exact ⟨Int.emod_nonneg _ (by omega), Int.emod_lt_of_pos _ h2⟩
/-- an array of kind ty, of length z, whose i-th component is f i -/
def OArr (Z : State) (h : Heap) (a : Addr) (ty : FieldType) (z : Int32) (f : Nat → Value) : Prop := ∃ c : Cell, Arr Z h a c ty ∧ c.slots.size = z.toNatClampNeg ∧ ¬ z < 0 ∧ ∀ i, i < c.slots.size → c.slots[i]? = some (f i)
section OArrs
variable {h' : Heap} {a b : Addr} {ty : FieldType} {z : Int32} {f : Nat → Value} {sl : Nat} {v : Value}
theorem OArr.lt (F : OArr Z h a ty z f) : a < h.size := by obtain ⟨c, A, -⟩ := F; exact A.lt
theorem OArr.ext (F : OArr Z h a ty z f) (E : Ext h h') : OArr Z h' a ty z f := by obtain ⟨c, A, r⟩ := F; exact ⟨c, A.ext E, r⟩
theorem OArr.other (F : OArr Z h b ty z f) (W : Wr h h' a sl v) (q : b ≠ a) : OArr Z h' b ty z f := by obtain ⟨c, A, r⟩ := F; exact ⟨c, A.other W q, r⟩
theorem OArr.keep {ws : List Addr} (F : OArr Z h a ty z f) (K : Keep h h' ws) (q : a ∉ ws) : OArr Z h' a ty z f := by obtain ⟨c, A, r⟩ := F; exact ⟨c, ⟨K.2.1 a c A.1 q, A.2⟩, r⟩
theorem OArr.imp {g : Nat → Value} (F : OArr Z h a ty z f) (k : ∀ i, i < z.toNatClampNeg → f i = g i) : OArr Z h a ty z g := by
  obtain ⟨c, A, S, r, G⟩ := F
  exact ⟨c, A, S, r, fun i hi => by rw [G i hi, k i (by rw [← S]; exact hi)]⟩
theorem OArr.new {k : ClassId} (A : Arr Z h a (newA k ty z) ty) (q : ¬ z < 0) : OArr Z h a ty z (fun _ => defaultValue ty) :=
  ⟨_, A, sz_new _ _ _, q, fun i hi => by simp only [newA, Array.size_replicate] at hi; simp [newA, hi]⟩
theorem OArr.set (F : OArr Z h a ty z f) (W : Wr h h' a sl v) : OArr Z h' a ty z (fun i => if i = sl then v else f i) := by
  obtain ⟨c, A, S, r, G⟩ := F
  refine ⟨_, A.same W, by rw [sz_set]; exact S, r, fun i hi => ?_⟩
  rw [sz_set] at hi
  show (c.setSlot sl v).slots[i]? = some (if i = sl then v else f i)
  by_cases q : i = sl
  · subst q; simp [Cell.setSlot, hi]
  · rw [if_neg q, ← G i hi]
    simp [Cell.setSlot, Array.getElem?_setIfInBounds, Ne.symm q]
theorem oNeA {C : String} {k : Nat} (E : Exa Z h a C) (wi : (Jvm.Cond.instantiable C k).before a0 Z = true) (F : OArr Z h b ty z f) : a ≠ b := by
  obtain ⟨c, A, -⟩ := F; exact ne_arr E wi A
theorem oIn {j : Int32} {n : Nat} (S : n = z.toNatClampNeg) (h1 : 0 ≤ j.toInt) (h2 : j.toInt < z.toInt) : ¬ (j < 0 ∨ n ≤ j.toNatClampNeg) := by
  intro q
  have e0 : (0 : Int32).toInt = 0 := by decide
  have e1 : j.toNatClampNeg = j.toInt.toNat := rfl
  have e2 : z.toNatClampNeg = z.toInt.toNat := rfl
  rcases q with q | q
  · have := oLt q; omega
  · rw [S, e1, e2] at q; omega
theorem oLen (X : Stand p l e R s m args below meth c T locs cells slots) (hx : p.tables.exec = Jvm.exec) (hZ : Z.Warmed39 s.vm) (eT : T.heap = h) (F : OArr Z h a ty z f) {g : JFrame} (hg : g.method = m) {rest : List Value} (hs : g.stack = .ref a :: rest) (hd : decode c.code g.pc = .ok (.arraylength, 1)) {target : State}
    (k : Steps p.tables e below (T.setTop { g with pc := g.pc + 1, stack := .int z :: rest }) target) : Steps p.tables e below (T.setTop g) target := by
  obtain ⟨cl, A, S, r, -⟩ := F
  refine X.arraylength hx (by rw [eT]; exact A.1) (State.isArrayOf_alike hZ.alike A.2.1) (g := g) hg hs hd _ ?_
  rw [len_of S r]; exact k
theorem oInd (F : OArr Z h a ty z f) {j : Int32} (h1 : 0 ≤ j.toInt) (h2 : j.toInt < z.toInt) : ∃ cl, Arr Z h a cl ty ∧ ¬ (j < 0 ∨ cl.slots.size ≤ j.toNatClampNeg) ∧ cl.slots[j.toNatClampNeg]? = some (f j.toNatClampNeg) := by
  obtain ⟨cl, A, S, r, G⟩ := F
  have q := oIn S h1 h2
  exact ⟨cl, A, q, G _ (Nat.lt_of_not_le fun w => q (Or.inr w))⟩
theorem oLdI (X : Stand p l e R s m args below meth c T locs cells slots) (hx : p.tables.exec = Jvm.exec) (hZ : Z.Warmed39 s.vm) (eT : T.heap = h) (F : OArr Z h a .int z f) {j x : Int32} (h1 : 0 ≤ j.toInt) (h2 : j.toInt < z.toInt) (hv : f j.toNatClampNeg = .int x) {g : JFrame} (hg : g.method = m) {rest : List Value} (hs : g.stack = .int j :: .ref a :: rest) (hd : decode c.code g.pc = .ok (.iaload, 1)) {target : State}
    (k : Steps p.tables e below (T.setTop { g with pc := g.pc + 1, stack := .int x :: rest }) target) : Steps p.tables e below (T.setTop g) target := by
  obtain ⟨cl, A, q, G⟩ := oInd F h1 h2
  rw [hv] at G
  exact X.iaload hx (j := j) (v := .int x) (by rw [eT]; exact A.1) (State.isArrayOf_alike hZ.alike A.2.1) A.2.2 q G (g := g) hg hs hd _ k
theorem oLdD (X : Stand p l e R s m args below meth c T locs cells slots) (hx : p.tables.exec = Jvm.exec) (hZ : Z.Warmed39 s.vm) (eT : T.heap = h) (F : OArr Z h a .double z f) {j : Int32} {x : UInt64} (h1 : 0 ≤ j.toInt) (h2 : j.toInt < z.toInt) (hv : f j.toNatClampNeg = .double x) {g : JFrame} (hg : g.method = m) {rest : List Value} (hs : g.stack = .int j :: .ref a :: rest) (hd : decode c.code g.pc = .ok (.daload, 1)) {target : State}
    (k : Steps p.tables e below (T.setTop { g with pc := g.pc + 1, stack := .double x :: rest }) target) : Steps p.tables e below (T.setTop g) target := by
  obtain ⟨cl, A, q, G⟩ := oInd F h1 h2
  rw [hv] at G
  exact X.daload hx (j := j) (v := .double x) (by rw [eT]; exact A.1) (State.isArrayOf_alike hZ.alike A.2.1) A.2.2 q G (g := g) hg hs hd _ k
theorem oStI (X : Stand p l e R s m args below meth c T locs cells slots) (hx : p.tables.exec = Jvm.exec) (hZ : Z.Warmed39 s.vm) (eT : T.heap = h) (F : OArr Z h a .int z f) {j x : Int32} (h1 : 0 ≤ j.toInt) (h2 : j.toInt < z.toInt) {g : JFrame} (hg : g.method = m) {rest : List Value} (hs : g.stack = .int x :: .int j :: .ref a :: rest) (hd : decode c.code g.pc = .ok (.iastore, 1)) :
    ∃ T' h', Stand p l e R s m args below meth c T' (locs ++ [⟨a, j.toNatClampNeg⟩]) cells slots ∧ T'.heap = h' ∧ Wr h h' a j.toNatClampNeg (.int x) ∧ ∀ target, Steps p.tables e below (T'.setTop { g with pc := g.pc + 1, stack := rest }) target → Steps p.tables e below (T.setTop g) target := by
  obtain ⟨cl, A, q, G⟩ := oInd F h1 h2
  exact stI X hx hZ eT A q hg hs hd
theorem oStD (X : Stand p l e R s m args below meth c T locs cells slots) (hx : p.tables.exec = Jvm.exec) (hZ : Z.Warmed39 s.vm) (eT : T.heap = h) (F : OArr Z h a .double z f) {j : Int32} {x : UInt64} (h1 : 0 ≤ j.toInt) (h2 : j.toInt < z.toInt) {g : JFrame} (hg : g.method = m) {rest : List Value} (hs : g.stack = .double x :: .int j :: .ref a :: rest) (hd : decode c.code g.pc = .ok (.dastore, 1)) :
    ∃ T' h', Stand p l e R s m args below meth c T' (locs ++ [⟨a, j.toNatClampNeg⟩]) cells slots ∧ T'.heap = h' ∧ Wr h h' a j.toNatClampNeg (.double x) ∧ ∀ target, Steps p.tables e below (T'.setTop { g with pc := g.pc + 1, stack := rest }) target → Steps p.tables e below (T.setTop g) target := by
  obtain ⟨cl, A, q, G⟩ := oInd F h1 h2
  exact stD X hx hZ eT A q hg hs hd
theorem oClone (X : Stand p l e R s m args below meth c T locs cells slots) (hx : p.tables.exec = Jvm.exec) (hZ : Z.Warmed39 s.vm) {own ad : String} {index : Nat} (hown : s.vm.findClass own = some m.cls)
    (w1 : (Jvm.Cond.methodLink own index ⟨ad, "clone", "()Ljava/lang/Object;"⟩).before a0 Z = true) (w2 : (Jvm.Cond.sameMethod ad "java/lang/Object" "clone" "()Ljava/lang/Object;").before a0 Z = true) (w3 : (Jvm.Cond.native ⟨"java/lang/Object", "clone", "()Ljava/lang/Object;"⟩).before a0 Z = true)
    (w4 : (Jvm.Cond.instanceMethod ⟨"java/lang/Object", "clone", "()Ljava/lang/Object;"⟩).before a0 Z = true) (w5 : (Jvm.Cond.selects ad ⟨ad, "clone", "()Ljava/lang/Object;"⟩ ⟨"java/lang/Object", "clone", "()Ljava/lang/Object;"⟩).before a0 Z = true) (w6 : (Jvm.Cond.castable ad "java/lang/Cloneable").before a0 Z = true)
    (eT : T.heap = h) (F : OArr Z h a ty z f) (E : Exa Z h a ad) (hfit : ∀ i, i < z.toNatClampNeg → fits ty (f i) = true) {g : JFrame} (hg : g.method = m) (hsize : g.locals.size = c.maxLocals) {rest : List Value} (hst : g.stack = .ref a :: rest) (hd : decode c.code g.pc = .ok (.invokevirtual index, 3))
    (hf : 1 ≤ R.frames) {W cap : Nat} (hW : 2 * g.monitorRoom + (rest.map fun v => v.category).sum ≤ W) (hl : W + 14 ≤ R.locals) (hcap : z.toNatClampNeg ≤ cap) (hc : cells + 1 ≤ R.cells) (hsl : slots + cap ≤ R.slots) :
    ∃ T' h', Stand p l e R s m args below meth c T' locs (cells + 1) (slots + cap) ∧ T'.heap = h' ∧ Ext h h' ∧ OArr Z h' h.size ty z f ∧ Exa Z h' h.size ad ∧
      ∀ target, Steps p.tables e below (T'.setTop { g with pc := g.pc + 3, stack := .ref h.size :: rest }) target → Steps p.tables e below (T.setTop g) target := by
  obtain ⟨cl, A, S, r, G⟩ := F
  have FC : FitC Z cl := fitC_of A fun i hi v hv => by
    rw [G i hi] at hv; cases hv; exact hfit i (by rw [← S]; exact hi)
  obtain ⟨T', h', X', e', ex, A', E', st⟩ := cloneA X hx hZ hown w1 w2 w3 w4 w5 w6 eT A E FC hg hsize hst hd hf hW hl (by rw [S]; exact hcap) hc hsl
  exact ⟨T', h', X', e', ex, ⟨cloneOf cl, A', S, r, G⟩, E', st⟩
end OArrs
/-- from a case's equation to the value -/
theorem oEqv {f s : State} {o : Option Outcome} {idx : List Nat} {a b : Term} (h : (Jvm.Cond.eq a b).value args f o s idx = some true) : ∃ x, a.eval args f o idx s = some x ∧ b.eval args f o idx s = some x := by
  obtain ⟨x, y, h1, h2, -, -⟩ := cmp_v (Or.inl h)
  cases x <;> cases y <;> simp [Cond.value, h1, h2] at h <;> first | (subst h; exact ⟨_, h1, h2⟩) | exact ⟨_, h1, h2⟩
theorem oFeq {s : State} {t u : Term} {x : Addr} {C n d : String} {w : Value} (ht : t.eval args s none [] s = some (.ref x)) (h : (Jvm.Cond.eq (.field t C n d) u).value args s none s [] = some true) (hu : u.eval args s none [] s = some w) : s.fieldOf? x C n d = some w := by
  obtain ⟨v, h1, h2⟩ := oEqv h
  rw [fld_at ht] at h1
  rw [h1, ← h2, hu]
end OwnKit
def own_lp (n : Nat) : Nat → Nat → Bool
  | 0, _ => true
  | f + 1, i => if n < i * i then true else if n % i = 0 then false else own_lp n f (i + 2)
def own_pr (n : Nat) : Bool := if n < 4 then decide (1 < n) else if n % 2 = 0 then false else own_lp n n 3
def own_down : Nat → Nat
  | 0 => 0
  | c + 1 => if own_pr (c + 1) = true then c + 1 else own_down c
def own_res (b : Bool) : Int32 := if b = true then 1 else 0
def own_r (n : Int64) : Int64 := Int64.ofNat (own_down (n.toInt.toNat - 1))
theorem own_res01 (b : Bool) : own_res b = 0 ∨ own_res b = 1 := by cases b <;> simp [own_res]
theorem own_lp_stop {n f i : Nat} (h : n < i * i) : own_lp n (f + 1) i = true := if_pos h
theorem own_lp_div {n f i : Nat} (h : ¬ n < i * i) (h2 : n % i = 0) : own_lp n (f + 1) i = false := (if_neg h).trans (if_pos h2)
theorem own_lp_next {n f i : Nat} (h : ¬ n < i * i) (h2 : ¬ n % i = 0) : own_lp n (f + 1) i = own_lp n f (i + 2) := (if_neg h).trans (if_neg h2)
theorem own_i4 : (4 : Int64).toInt = 4 := by decide
theorem own_i3 : (3 : Int64).toInt = 3 := by decide
theorem own_i2 : (2 : Int64).toInt = 2 := by decide
theorem own_i1 : (1 : Int64).toInt = 1 := by decide
theorem own_i0 : (0 : Int64).toInt = 0 := by decide
theorem own_md (n i : Int64) (h0 : 0 ≤ n.toInt) (h1 : 0 ≤ i.toInt) : n % i = 0 ↔ n.toInt.toNat % i.toInt.toNat = 0 := by
  rw [← Int64.toInt_inj, Int64.toInt_mod, Int.tmod_eq_emod_of_nonneg h0, own_i0]
  have e : ((n.toInt.toNat % i.toInt.toNat : Nat) : Int) = n.toInt % i.toInt := by
    rw [Int.natCast_emod, Int.toNat_of_nonneg h0, Int.toNat_of_nonneg h1]
  omega
theorem own_sqb {x : Int} (h1 : 3 ≤ x) (h2 : x ≤ 50000) : 9 ≤ x * x ∧ x * x ≤ 2500000000 :=
  ⟨Int.le_trans (by decide) (Int.mul_le_mul h1 h1 (by decide) (by omega)), Int.le_trans (Int.mul_le_mul h2 h2 (by omega) (by decide)) (by decide)⟩
theorem own_sq (i : Int64) (h1 : 3 ≤ i.toInt) (h2 : i.toInt ≤ 50000) : (i * i).toInt = i.toInt * i.toInt := by
  have := own_sqb h1 h2
  exact XT.mul64 ⟨by omega, by omega⟩
theorem own_sqN (n i : Int64) (h0 : 0 ≤ n.toInt) (h1 : 3 ≤ i.toInt) (h2 : i.toInt ≤ 50000) : n < i * i ↔ n.toInt.toNat < i.toInt.toNat * i.toInt.toNat := by
  rw [Int64.lt_iff_toInt_lt, own_sq i h1 h2]
  have e : ((i.toInt.toNat * i.toInt.toNat : Nat) : Int) = i.toInt * i.toInt := by
    rw [Int.natCast_mul, Int.toNat_of_nonneg (by omega)]
  omega
theorem own_small (i : Int64) (n : Int) (h1 : 3 ≤ i.toInt) (h2 : i.toInt ≤ 50000) (hn : n < 2147483648) (h : i.toInt * i.toInt ≤ n) : i.toInt ≤ 46341 := by
  apply Int.not_lt.mp
  intro q
  have : (46342 : Int) * 46342 ≤ i.toInt * i.toInt := Int.mul_le_mul q q (by decide) (by omega)
  omega
theorem own_prA (n : Int64) (h0 : 0 ≤ n.toInt) (h4 : n < 4) (h1 : 1 < n) : own_res (own_pr n.toInt.toNat) = 1 := by
  have a := oLtL h4; have b := oLtL h1; rw [own_i4] at a; rw [own_i1] at b
  unfold own_pr
  rw [if_pos (by omega), decide_eq_true (by omega)]; rfl
theorem own_prB (n : Int64) (h0 : 0 ≤ n.toInt) (h4 : n < 4) (h1 : ¬ 1 < n) : own_res (own_pr n.toInt.toNat) = 0 := by
  have a := oLtL h4; have b := oNltL h1; rw [own_i4] at a; rw [own_i1] at b
  unfold own_pr
  rw [if_pos (by omega), decide_eq_false (by omega)]; rfl
theorem own_prC (n : Int64) (h0 : 0 ≤ n.toInt) (h4 : ¬ n < 4) (h2 : n % 2 = 0) : own_res (own_pr n.toInt.toNat) = 0 := by
  have a := oNltL h4; rw [own_i4] at a
  have b : n.toInt.toNat % 2 = 0 := by
    have q := (own_md n 2 h0 (by rw [own_i2]; decide)).mp h2
    rw [own_i2] at q
    exact q
  unfold own_pr
  rw [if_neg (by omega), if_pos b]; rfl
theorem own_prD (n : Int64) (h0 : 0 ≤ n.toInt) (h4 : ¬ n < 4) (h2 : ¬ n % 2 = 0) : own_lp n.toInt.toNat n.toInt.toNat (3 : Int64).toInt.toNat = own_pr n.toInt.toNat := by
  have a := oNltL h4; rw [own_i4] at a
  have b : ¬ n.toInt.toNat % 2 = 0 := fun q => h2 ((own_md n 2 h0 (by rw [own_i2]; decide)).mpr (by rw [own_i2]; exact q))
  rw [own_i3]
  unfold own_pr
  rw [if_neg (by omega), if_neg b]; rfl
/-- no odd number from 2 b + 3 on, 2 ^ d of them, divides n -/
def own_all (n : Nat) : Nat → Nat → Bool
  | 0, b => decide (n % (2 * b + 3) ≠ 0)
  | d + 1, b => own_all n d b && own_all n d (b + 2 ^ d)
theorem own_all_spec (n : Nat) : ∀ d b, own_all n d b = true → ∀ j, b ≤ j → j < b + 2 ^ d → n % (2 * j + 3) ≠ 0
  | 0, b, h, j, h1, h2 => by
    have e : j = b := by simp at h2; omega
    subst e; exact of_decide_eq_true h
  | d + 1, b, h, j, h1, h2 => by
    simp only [own_all, Bool.and_eq_true] at h
    by_cases q : j < b + 2 ^ d
    · exact own_all_spec n d b h.1 j h1 q
    · exact own_all_spec n d _ h.2 j (by omega) (by rw [Nat.pow_succ] at h2; omega)
theorem own_all_31 : own_all 2147483647 15 0 = true := by decide +kernel
theorem own_lp_true (n : Nat) (hn : ∀ j, n % (2 * j + 3) ≠ 0 ∨ n < (2 * j + 3) * (2 * j + 3)) : ∀ f j, own_lp n f (2 * j + 3) = true
  | 0, j => rfl
  | f + 1, j => by
    by_cases h : n < (2 * j + 3) * (2 * j + 3)
    · exact own_lp_stop h
    · rcases hn j with q | q
      · rw [own_lp_next h q]; exact own_lp_true n hn f (j + 1)
      · exact absurd q h
theorem own_pr31 : own_pr 2147483647 = true := by
  unfold own_pr
  rw [if_neg (by decide), if_neg (by decide)]
  refine own_lp_true 2147483647 (fun j => ?_) 2147483647 0
  by_cases q : j < 32768
  · exact Or.inl (own_all_spec _ 15 0 own_all_31 j (Nat.zero_le _) (by omega))
  · exact Or.inr (Nat.lt_of_lt_of_le (by decide : 2147483647 < 65539 * 65539) (Nat.mul_le_mul (by omega) (by omega)))
theorem own_r31 : own_r 2147483648 = 2147483647 := by
  unfold own_r
  have e : (2147483648 : Int64).toInt.toNat - 1 = 2147483646 + 1 := by decide
  rw [e]
  show Int64.ofNat (if own_pr (2147483646 + 1) = true then 2147483646 + 1 else own_down 2147483646) = _
  rw [if_pos own_pr31]; decide
def own_P (n : Int64) : Prop := ¬ own_r n < 2 ∧ own_r n < n ∧ ¬ (XT.ushrL (2891462833508853932 : Int64) (own_r n).toInt32 &&& 1) = 0 ∧ (XT.ushrL (2891462833508853932 : Int64) ((own_r n).toInt32 + 1) &&& ((1 : Int64) <<< ((n.toInt32 - (own_r n).toInt32 - 1).toInt64 &&& 63) - 1)) = 0
instance (n : Int64) : Decidable (own_P n) := by unfold own_P; infer_instance
theorem own_P62 : ∀ k : Fin 62, own_P (Int64.ofNat (k.val + 3)) := by decide +kernel
theorem own_tail (n : Int64) (h1 : 3 ≤ n.toInt) (h2 : n.toInt ≤ 64) : own_P n := by
  have q := own_P62 ⟨(n.toInt - 3).toNat, by omega⟩
  have e : Int64.ofNat ((n.toInt - 3).toNat + 3) = n := by
    have : (n.toInt - 3).toNat + 3 = n.toInt.toNat := by omega
    rw [this, ← Int64.ofInt_eq_ofNat, Int.toNat_of_nonneg (by omega), Int64.ofInt_toInt]
  rw [← e]; exact q
def Q_isp (n : Int64) (h0 : Heap) (n0 : Nat) (v : Option Value) (h : Heap) (L : List Loc) : Prop := v = some (.int (own_res (own_pr n.toInt.toNat))) ∧ Fr n0 L ∧ h = h0
theorem own_d_prog_6_method_3_code_0 : decode prog_6_method_3_code 0 = .ok (.lload_n 0, 1) := by decide +kernel
theorem own_d_prog_6_method_3_code_1 : decode prog_6_method_3_code 1 = .ok (.ldc2_w 38, 3) := by decide +kernel
theorem own_d_prog_6_method_3_code_4 : decode prog_6_method_3_code 4 = .ok (.lcmp, 1) := by decide +kernel
theorem own_d_prog_6_method_3_code_5 : decode prog_6_method_3_code 5 = .ok (.ifCond .ge 15, 3) := by decide +kernel
theorem own_d_prog_6_method_3_code_8 : decode prog_6_method_3_code 8 = .ok (.lload_n 0, 1) := by decide +kernel
theorem own_d_prog_6_method_3_code_9 : decode prog_6_method_3_code 9 = .ok (.lconst 1, 1) := by decide +kernel
theorem own_d_prog_6_method_3_code_10 : decode prog_6_method_3_code 10 = .ok (.lcmp, 1) := by decide +kernel
theorem own_d_prog_6_method_3_code_11 : decode prog_6_method_3_code 11 = .ok (.ifCond .le 7, 3) := by decide +kernel
theorem own_d_prog_6_method_3_code_14 : decode prog_6_method_3_code 14 = .ok (.iconst 1, 1) := by decide +kernel
theorem own_d_prog_6_method_3_code_15 : decode prog_6_method_3_code 15 = .ok (.goto 4, 3) := by decide +kernel
theorem own_d_prog_6_method_3_code_19 : decode prog_6_method_3_code 19 = .ok (.ireturn, 1) := by decide +kernel
theorem own_d_prog_6_method_3_code_18 : decode prog_6_method_3_code 18 = .ok (.iconst 0, 1) := by decide +kernel
theorem own_d_prog_6_method_3_code_20 : decode prog_6_method_3_code 20 = .ok (.lload_n 0, 1) := by decide +kernel
theorem own_d_prog_6_method_3_code_21 : decode prog_6_method_3_code 21 = .ok (.ldc2_w 40, 3) := by decide +kernel
theorem own_d_prog_6_method_3_code_24 : decode prog_6_method_3_code 24 = .ok (.lrem, 1) := by decide +kernel
theorem own_d_prog_6_method_3_code_25 : decode prog_6_method_3_code 25 = .ok (.lconst 0, 1) := by decide +kernel
theorem own_d_prog_6_method_3_code_26 : decode prog_6_method_3_code 26 = .ok (.lcmp, 1) := by decide +kernel
theorem own_d_prog_6_method_3_code_27 : decode prog_6_method_3_code 27 = .ok (.ifCond .ne 5, 3) := by decide +kernel
theorem own_d_prog_6_method_3_code_30 : decode prog_6_method_3_code 30 = .ok (.iconst 0, 1) := by decide +kernel
theorem own_d_prog_6_method_3_code_31 : decode prog_6_method_3_code 31 = .ok (.ireturn, 1) := by decide +kernel
theorem own_d_prog_6_method_3_code_32 : decode prog_6_method_3_code 32 = .ok (.ldc2_w 42, 3) := by decide +kernel
theorem own_d_prog_6_method_3_code_35 : decode prog_6_method_3_code 35 = .ok (.lstore_n 2, 1) := by decide +kernel
theorem own_d_prog_6_method_3_code_36 : decode prog_6_method_3_code 36 = .ok (.lload_n 2, 1) := by decide +kernel
theorem own_d_prog_6_method_3_code_37 : decode prog_6_method_3_code 37 = .ok (.lload_n 2, 1) := by decide +kernel
theorem own_d_prog_6_method_3_code_38 : decode prog_6_method_3_code 38 = .ok (.lmul, 1) := by decide +kernel
theorem own_d_prog_6_method_3_code_39 : decode prog_6_method_3_code 39 = .ok (.lload_n 0, 1) := by decide +kernel
theorem own_d_prog_6_method_3_code_40 : decode prog_6_method_3_code 40 = .ok (.lcmp, 1) := by decide +kernel
theorem own_d_prog_6_method_3_code_41 : decode prog_6_method_3_code 41 = .ok (.ifCond .gt 22, 3) := by decide +kernel
theorem own_d_prog_6_method_3_code_63 : decode prog_6_method_3_code 63 = .ok (.iconst 1, 1) := by decide +kernel
theorem own_d_prog_6_method_3_code_64 : decode prog_6_method_3_code 64 = .ok (.ireturn, 1) := by decide +kernel
theorem own_d_prog_6_method_3_code_44 : decode prog_6_method_3_code 44 = .ok (.lload_n 0, 1) := by decide +kernel
theorem own_d_prog_6_method_3_code_45 : decode prog_6_method_3_code 45 = .ok (.lload_n 2, 1) := by decide +kernel
theorem own_d_prog_6_method_3_code_46 : decode prog_6_method_3_code 46 = .ok (.lrem, 1) := by decide +kernel
theorem own_d_prog_6_method_3_code_47 : decode prog_6_method_3_code 47 = .ok (.lconst 0, 1) := by decide +kernel
theorem own_d_prog_6_method_3_code_48 : decode prog_6_method_3_code 48 = .ok (.lcmp, 1) := by decide +kernel
theorem own_d_prog_6_method_3_code_49 : decode prog_6_method_3_code 49 = .ok (.ifCond .ne 5, 3) := by decide +kernel
theorem own_d_prog_6_method_3_code_52 : decode prog_6_method_3_code 52 = .ok (.iconst 0, 1) := by decide +kernel
theorem own_d_prog_6_method_3_code_53 : decode prog_6_method_3_code 53 = .ok (.ireturn, 1) := by decide +kernel
theorem own_d_prog_6_method_3_code_54 : decode prog_6_method_3_code 54 = .ok (.lload_n 2, 1) := by decide +kernel
theorem own_d_prog_6_method_3_code_55 : decode prog_6_method_3_code 55 = .ok (.ldc2_w 40, 3) := by decide +kernel
theorem own_d_prog_6_method_3_code_58 : decode prog_6_method_3_code 58 = .ok (.ladd, 1) := by decide +kernel
theorem own_d_prog_6_method_3_code_59 : decode prog_6_method_3_code 59 = .ok (.lstore_n 2, 1) := by decide +kernel
theorem own_d_prog_6_method_3_code_60 : decode prog_6_method_3_code 60 = .ok (.goto (-24), 3) := by decide +kernel
theorem own_pn_com_example_rigorous_bisim_rigorousbisim_arith_ModularEchelon : plainName "com/example/rigorous_bisim/rigorousbisim/arith/ModularEchelon" = true := by first | (simp [plainName, overriddenIn]; done) | decide +kernel
theorem own_ef_rmP (x0 : Int64) (m : MethodId) : entryFrame m #[(.long x0)] 4 = mkF m 0 #[.val (.long x0), .second, .unset, .unset] [] := by first | (simp [entryFrame, mkF, argsToLocals, Value.category]; done) | rfl
set_option maxRecDepth 65536 in
set_option maxHeartbeats 40000000 in
theorem rmP (l : Launch) (Z : State) (a0 : Array Value) (hw : ∀ d ∈ tables_1, d.before a0 Z = true) (n : Int64) (h0 : Heap) (n0 : Nat) (Z0 : n0 ≤ h0.size) (hp : 0 ≤ n.toInt) (hp2 : n.toInt < 2147483648) :
    OCon l Z (⟨"com/example/rigorous_bisim/rigorousbisim/arith/ModularEchelon", "isPrime", "(J)Z"⟩ : MethodName) prog_6_method_3_code 4 (some .boolean) ({ frames := 0, cells := 0, slots := 0, locals := 0 } : Room) #[(.long n)] h0 (Q_isp n h0 n0) := by
  refine OConK.intro (y := (⟨"com/example/rigorous_bisim/rigorousbisim/arith/ModularEchelon", "isPrime", "(J)Z"⟩ : MethodName)) (plainFor_of_name own_pn_com_example_rigorous_bisim_rigorousbisim_arith_ModularEchelon) (own_ef_rmP n) ?_
  intro p e s m below meth c s₁ hx hby hml hown hnm hret hlk hZ X0 e0
  show OGoal p e below s _ _ _ (s₁.setTop (mkF m 0 #[.val (.long n), .second, .unset, .unset] []))
  refine OGoal.mp (S' := (s₁.setTop (mkF m 1 #[.val (.long n), .second, .unset, .unset] [(.long n)]))) (fun _ k => XT.lloadN X0.here hx rfl (hb hby own_d_prog_6_method_3_code_0) rfl k) ?_
  refine OGoal.mp (S' := (s₁.setTop (mkF m 4 #[.val (.long n), .second, .unset, .unset] [(.long (4 : Int64)), (.long n)]))) (fun _ k => Stand.ldc2J X0 hx hown (mvT hZ (hw _ (List.mem_of_getElem? (i := 11) rfl))) rfl (hb hby own_d_prog_6_method_3_code_1) k) ?_
  refine OGoal.mp (S' := (s₁.setTop (mkF m 5 #[.val (.long n), .second, .unset, .unset] [(.int (XT.cmpL n (4 : Int64)))]))) (fun _ k => XT.lcmp X0.here hx rfl (hb hby own_d_prog_6_method_3_code_4) rfl k) ?_
  by_cases hc1 : n < (4 : Int64)
  · refine OGoal.mp (S' := (s₁.setTop (mkF m 8 #[.val (.long n), .second, .unset, .unset] []))) (fun _ k => XS.ifNo X0.here hx rfl (hb hby own_d_prog_6_method_3_code_5) rfl (XT.ll_ge_f hc1) k) ?_
    refine OGoal.mp (S' := (s₁.setTop (mkF m 9 #[.val (.long n), .second, .unset, .unset] [(.long n)]))) (fun _ k => XT.lloadN X0.here hx rfl (hb hby own_d_prog_6_method_3_code_8) rfl k) ?_
    refine OGoal.mp (S' := (s₁.setTop (mkF m 10 #[.val (.long n), .second, .unset, .unset] [(.long (1 : Int64)), (.long n)]))) (fun _ k => XT.lconst X0.here hx rfl (hb hby own_d_prog_6_method_3_code_9) k) ?_
    refine OGoal.mp (S' := (s₁.setTop (mkF m 11 #[.val (.long n), .second, .unset, .unset] [(.int (XT.cmpL n (1 : Int64)))]))) (fun _ k => XT.lcmp X0.here hx rfl (hb hby own_d_prog_6_method_3_code_10) rfl k) ?_
    by_cases hc2 : (1 : Int64) < n
    · refine OGoal.mp (S' := (s₁.setTop (mkF m 14 #[.val (.long n), .second, .unset, .unset] []))) (fun _ k => XS.ifNo X0.here hx rfl (hb hby own_d_prog_6_method_3_code_11) rfl (XT.ll_le_f hc2) k) ?_
      refine OGoal.mp (S' := (s₁.setTop (mkF m 15 #[.val (.long n), .second, .unset, .unset] [(.int (1 : Int32))]))) (fun _ k => XS.iconst X0.here hx rfl (hb hby own_d_prog_6_method_3_code_14) k) ?_
      refine OGoal.mp (S' := (s₁.setTop (mkF m 19 #[.val (.long n), .second, .unset, .unset] [(.int (1 : Int32))]))) (fun _ k => XS.goto X0.here hx rfl (pc0 := 15) (pc' := 19) rfl (hb hby own_d_prog_6_method_3_code_15) (by decide) (by decide) k) ?_
      refine oRetZ X0 hx hlk hret (Or.inr rfl) (hb hby own_d_prog_6_method_3_code_19) ?_ (by decide) (by decide)
      exact ⟨congrArg (fun z => some (Value.int z)) (own_prA n hp hc1 hc2).symm, (Fr.nil n0), e0⟩
    · refine OGoal.mp (S' := (s₁.setTop (mkF m 18 #[.val (.long n), .second, .unset, .unset] []))) (fun _ k => XS.ifYes X0.here hx rfl (pc0 := 11) (pc' := 18) rfl (hb hby own_d_prog_6_method_3_code_11) rfl (XT.ll_le_t hc2) (by decide) (by decide) k) ?_
      refine OGoal.mp (S' := (s₁.setTop (mkF m 19 #[.val (.long n), .second, .unset, .unset] [(.int (0 : Int32))]))) (fun _ k => XS.iconst X0.here hx rfl (hb hby own_d_prog_6_method_3_code_18) k) ?_
      refine oRetZ X0 hx hlk hret (Or.inl rfl) (hb hby own_d_prog_6_method_3_code_19) ?_ (by decide) (by decide)
      exact ⟨congrArg (fun z => some (Value.int z)) (own_prB n hp hc1 hc2).symm, (Fr.nil n0), e0⟩
  · refine OGoal.mp (S' := (s₁.setTop (mkF m 20 #[.val (.long n), .second, .unset, .unset] []))) (fun _ k => XS.ifYes X0.here hx rfl (pc0 := 5) (pc' := 20) rfl (hb hby own_d_prog_6_method_3_code_5) rfl (XT.ll_ge_t hc1) (by decide) (by decide) k) ?_
    refine OGoal.mp (S' := (s₁.setTop (mkF m 21 #[.val (.long n), .second, .unset, .unset] [(.long n)]))) (fun _ k => XT.lloadN X0.here hx rfl (hb hby own_d_prog_6_method_3_code_20) rfl k) ?_
    refine OGoal.mp (S' := (s₁.setTop (mkF m 24 #[.val (.long n), .second, .unset, .unset] [(.long (2 : Int64)), (.long n)]))) (fun _ k => Stand.ldc2J X0 hx hown (mvT hZ (hw _ (List.mem_of_getElem? (i := 12) rfl))) rfl (hb hby own_d_prog_6_method_3_code_21) k) ?_
    refine OGoal.mp (S' := (s₁.setTop (mkF m 25 #[.val (.long n), .second, .unset, .unset] [(.long (n % (2 : Int64)))]))) (fun _ k => oLrem X0 hx rfl (hb hby own_d_prog_6_method_3_code_24) rfl (by decide) k) ?_
    refine OGoal.mp (S' := (s₁.setTop (mkF m 26 #[.val (.long n), .second, .unset, .unset] [(.long (0 : Int64)), (.long (n % (2 : Int64)))]))) (fun _ k => XT.lconst X0.here hx rfl (hb hby own_d_prog_6_method_3_code_25) k) ?_
    refine OGoal.mp (S' := (s₁.setTop (mkF m 27 #[.val (.long n), .second, .unset, .unset] [(.int (XT.cmpL (n % (2 : Int64)) (0 : Int64)))]))) (fun _ k => XT.lcmp X0.here hx rfl (hb hby own_d_prog_6_method_3_code_26) rfl k) ?_
    by_cases hc3 : (n % (2 : Int64)) = (0 : Int64)
    · refine OGoal.mp (S' := (s₁.setTop (mkF m 30 #[.val (.long n), .second, .unset, .unset] []))) (fun _ k => XS.ifNo X0.here hx rfl (hb hby own_d_prog_6_method_3_code_27) rfl (XT.ll_ne_f hc3) k) ?_
      refine OGoal.mp (S' := (s₁.setTop (mkF m 31 #[.val (.long n), .second, .unset, .unset] [(.int (0 : Int32))]))) (fun _ k => XS.iconst X0.here hx rfl (hb hby own_d_prog_6_method_3_code_30) k) ?_
      refine oRetZ X0 hx hlk hret (Or.inl rfl) (hb hby own_d_prog_6_method_3_code_31) ?_ (by decide) (by decide)
      exact ⟨congrArg (fun z => some (Value.int z)) (own_prC n hp hc1 hc3).symm, (Fr.nil n0), e0⟩
    · refine OGoal.mp (S' := (s₁.setTop (mkF m 32 #[.val (.long n), .second, .unset, .unset] []))) (fun _ k => XS.ifYes X0.here hx rfl (pc0 := 27) (pc' := 32) rfl (hb hby own_d_prog_6_method_3_code_27) rfl (XT.ll_ne_t hc3) (by decide) (by decide) k) ?_
      refine OGoal.mp (S' := (s₁.setTop (mkF m 35 #[.val (.long n), .second, .unset, .unset] [(.long (3 : Int64))]))) (fun _ k => Stand.ldc2J X0 hx hown (mvT hZ (hw _ (List.mem_of_getElem? (i := 13) rfl))) rfl (hb hby own_d_prog_6_method_3_code_32) k) ?_
      refine OGoal.mp (S' := (s₁.setTop (mkF m 36 #[.val (.long n), .second, .val (.long (3 : Int64)), .second] []))) (fun _ k => XT.lstoreN X0.here hx rfl (hb hby own_d_prog_6_method_3_code_35) rfl (l' := #[.val (.long n), .second, .val (.long (3 : Int64)), .second]) rfl k) ?_
      have loop : ∀ (f : Nat) (i : Int64), 3 ≤ i.toInt → i.toInt ≤ 50000 → n.toInt.toNat < (i.toInt.toNat + 2 * f) * (i.toInt.toNat + 2 * f) → own_lp n.toInt.toNat f i.toInt.toNat = own_pr n.toInt.toNat → OGoal p e below s (Q_isp n h0 n0) 0 0 (s₁.setTop (mkF m 36 #[.val (.long n), .second, .val (.long i), .second] [])) := by
        intro f
        induction f with
        | zero =>
          intro i h1 h2 h3 h4
          refine OGoal.mp (S' := (s₁.setTop (mkF m 37 #[.val (.long n), .second, .val (.long i), .second] [(.long i)]))) (fun _ k => XT.lloadN X0.here hx rfl (hb hby own_d_prog_6_method_3_code_36) rfl k) ?_
          refine OGoal.mp (S' := (s₁.setTop (mkF m 38 #[.val (.long n), .second, .val (.long i), .second] [(.long i), (.long i)]))) (fun _ k => XT.lloadN X0.here hx rfl (hb hby own_d_prog_6_method_3_code_37) rfl k) ?_
          refine OGoal.mp (S' := (s₁.setTop (mkF m 39 #[.val (.long n), .second, .val (.long i), .second] [(.long (i * i))]))) (fun _ k => XT.lmul X0.here hx rfl (hb hby own_d_prog_6_method_3_code_38) rfl k) ?_
          refine OGoal.mp (S' := (s₁.setTop (mkF m 40 #[.val (.long n), .second, .val (.long i), .second] [(.long n), (.long (i * i))]))) (fun _ k => XT.lloadN X0.here hx rfl (hb hby own_d_prog_6_method_3_code_39) rfl k) ?_
          refine OGoal.mp (S' := (s₁.setTop (mkF m 41 #[.val (.long n), .second, .val (.long i), .second] [(.int (XT.cmpL (i * i) n))]))) (fun _ k => XT.lcmp X0.here hx rfl (hb hby own_d_prog_6_method_3_code_40) rfl k) ?_
          refine OGoal.mp (S' := (s₁.setTop (mkF m 63 #[.val (.long n), .second, .val (.long i), .second] []))) (fun _ k => XS.ifYes X0.here hx rfl (pc0 := 41) (pc' := 63) rfl (hb hby own_d_prog_6_method_3_code_41) rfl (XT.ll_gt_t ((own_sqN n i hp h1 h2).mpr h3)) (by decide) (by decide) k) ?_
          refine OGoal.mp (S' := (s₁.setTop (mkF m 64 #[.val (.long n), .second, .val (.long i), .second] [(.int (1 : Int32))]))) (fun _ k => XS.iconst X0.here hx rfl (hb hby own_d_prog_6_method_3_code_63) k) ?_
          refine oRetZ X0 hx hlk hret (Or.inr rfl) (hb hby own_d_prog_6_method_3_code_64) ?_ (by decide) (by decide)
          exact ⟨congrArg (fun z => some (Value.int z)) (by rw [← h4]; rfl), (Fr.nil n0), e0⟩
        | succ f ih =>
          intro i h1 h2 h3 h4
          refine OGoal.mp (S' := (s₁.setTop (mkF m 37 #[.val (.long n), .second, .val (.long i), .second] [(.long i)]))) (fun _ k => XT.lloadN X0.here hx rfl (hb hby own_d_prog_6_method_3_code_36) rfl k) ?_
          refine OGoal.mp (S' := (s₁.setTop (mkF m 38 #[.val (.long n), .second, .val (.long i), .second] [(.long i), (.long i)]))) (fun _ k => XT.lloadN X0.here hx rfl (hb hby own_d_prog_6_method_3_code_37) rfl k) ?_
          refine OGoal.mp (S' := (s₁.setTop (mkF m 39 #[.val (.long n), .second, .val (.long i), .second] [(.long (i * i))]))) (fun _ k => XT.lmul X0.here hx rfl (hb hby own_d_prog_6_method_3_code_38) rfl k) ?_
          refine OGoal.mp (S' := (s₁.setTop (mkF m 40 #[.val (.long n), .second, .val (.long i), .second] [(.long n), (.long (i * i))]))) (fun _ k => XT.lloadN X0.here hx rfl (hb hby own_d_prog_6_method_3_code_39) rfl k) ?_
          refine OGoal.mp (S' := (s₁.setTop (mkF m 41 #[.val (.long n), .second, .val (.long i), .second] [(.int (XT.cmpL (i * i) n))]))) (fun _ k => XT.lcmp X0.here hx rfl (hb hby own_d_prog_6_method_3_code_40) rfl k) ?_
          by_cases hc4 : n < (i * i)
          · refine OGoal.mp (S' := (s₁.setTop (mkF m 63 #[.val (.long n), .second, .val (.long i), .second] []))) (fun _ k => XS.ifYes X0.here hx rfl (pc0 := 41) (pc' := 63) rfl (hb hby own_d_prog_6_method_3_code_41) rfl (XT.ll_gt_t hc4) (by decide) (by decide) k) ?_
            refine OGoal.mp (S' := (s₁.setTop (mkF m 64 #[.val (.long n), .second, .val (.long i), .second] [(.int (1 : Int32))]))) (fun _ k => XS.iconst X0.here hx rfl (hb hby own_d_prog_6_method_3_code_63) k) ?_
            refine oRetZ X0 hx hlk hret (Or.inr rfl) (hb hby own_d_prog_6_method_3_code_64) ?_ (by decide) (by decide)
            exact ⟨congrArg (fun z => some (Value.int z)) (by rw [← h4, own_lp_stop ((own_sqN n i hp h1 h2).mp hc4)]; rfl), (Fr.nil n0), e0⟩
          · refine OGoal.mp (S' := (s₁.setTop (mkF m 44 #[.val (.long n), .second, .val (.long i), .second] []))) (fun _ k => XS.ifNo X0.here hx rfl (hb hby own_d_prog_6_method_3_code_41) rfl (XT.ll_gt_f hc4) k) ?_
            refine OGoal.mp (S' := (s₁.setTop (mkF m 45 #[.val (.long n), .second, .val (.long i), .second] [(.long n)]))) (fun _ k => XT.lloadN X0.here hx rfl (hb hby own_d_prog_6_method_3_code_44) rfl k) ?_
            refine OGoal.mp (S' := (s₁.setTop (mkF m 46 #[.val (.long n), .second, .val (.long i), .second] [(.long i), (.long n)]))) (fun _ k => XT.lloadN X0.here hx rfl (hb hby own_d_prog_6_method_3_code_45) rfl k) ?_
            refine OGoal.mp (S' := (s₁.setTop (mkF m 47 #[.val (.long n), .second, .val (.long i), .second] [(.long (n % i))]))) (fun _ k => oLrem X0 hx rfl (hb hby own_d_prog_6_method_3_code_46) rfl (fun q => by rw [q] at h1; exact absurd h1 (by decide)) k) ?_
            refine OGoal.mp (S' := (s₁.setTop (mkF m 48 #[.val (.long n), .second, .val (.long i), .second] [(.long (0 : Int64)), (.long (n % i))]))) (fun _ k => XT.lconst X0.here hx rfl (hb hby own_d_prog_6_method_3_code_47) k) ?_
            refine OGoal.mp (S' := (s₁.setTop (mkF m 49 #[.val (.long n), .second, .val (.long i), .second] [(.int (XT.cmpL (n % i) (0 : Int64)))]))) (fun _ k => XT.lcmp X0.here hx rfl (hb hby own_d_prog_6_method_3_code_48) rfl k) ?_
            by_cases hc5 : (n % i) = (0 : Int64)
            · refine OGoal.mp (S' := (s₁.setTop (mkF m 52 #[.val (.long n), .second, .val (.long i), .second] []))) (fun _ k => XS.ifNo X0.here hx rfl (hb hby own_d_prog_6_method_3_code_49) rfl (XT.ll_ne_f hc5) k) ?_
              refine OGoal.mp (S' := (s₁.setTop (mkF m 53 #[.val (.long n), .second, .val (.long i), .second] [(.int (0 : Int32))]))) (fun _ k => XS.iconst X0.here hx rfl (hb hby own_d_prog_6_method_3_code_52) k) ?_
              refine oRetZ X0 hx hlk hret (Or.inl rfl) (hb hby own_d_prog_6_method_3_code_53) ?_ (by decide) (by decide)
              exact ⟨congrArg (fun z => some (Value.int z)) (by rw [← h4, own_lp_div (fun q => hc4 ((own_sqN n i hp h1 h2).mpr q)) ((own_md n i hp (by omega)).mp hc5)]; rfl), (Fr.nil n0), e0⟩
            · refine OGoal.mp (S' := (s₁.setTop (mkF m 54 #[.val (.long n), .second, .val (.long i), .second] []))) (fun _ k => XS.ifYes X0.here hx rfl (pc0 := 49) (pc' := 54) rfl (hb hby own_d_prog_6_method_3_code_49) rfl (XT.ll_ne_t hc5) (by decide) (by decide) k) ?_
              refine OGoal.mp (S' := (s₁.setTop (mkF m 55 #[.val (.long n), .second, .val (.long i), .second] [(.long i)]))) (fun _ k => XT.lloadN X0.here hx rfl (hb hby own_d_prog_6_method_3_code_54) rfl k) ?_
              refine OGoal.mp (S' := (s₁.setTop (mkF m 58 #[.val (.long n), .second, .val (.long i), .second] [(.long (2 : Int64)), (.long i)]))) (fun _ k => Stand.ldc2J X0 hx hown (mvT hZ (hw _ (List.mem_of_getElem? (i := 12) rfl))) rfl (hb hby own_d_prog_6_method_3_code_55) k) ?_
              refine OGoal.mp (S' := (s₁.setTop (mkF m 59 #[.val (.long n), .second, .val (.long i), .second] [(.long (i + (2 : Int64)))]))) (fun _ k => XT.ladd X0.here hx rfl (hb hby own_d_prog_6_method_3_code_58) rfl k) ?_
              refine OGoal.mp (S' := (s₁.setTop (mkF m 60 #[.val (.long n), .second, .val (.long (i + (2 : Int64))), .second] []))) (fun _ k => XT.lstoreN X0.here hx rfl (hb hby own_d_prog_6_method_3_code_59) rfl (l' := #[.val (.long n), .second, .val (.long (i + (2 : Int64))), .second]) rfl k) ?_
              refine OGoal.mp (S' := (s₁.setTop (mkF m 36 #[.val (.long n), .second, .val (.long (i + (2 : Int64))), .second] []))) (fun _ k => XS.goto X0.here hx rfl (pc0 := 60) (pc' := 36) rfl (hb hby own_d_prog_6_method_3_code_60) (by decide) (by decide) k) ?_
              have k1 := fun q => hc4 ((own_sqN n i hp h1 h2).mpr q)
              have k2 := fun q => hc5 ((own_md n i hp (by omega)).mpr q)
              have k3 := own_small i n.toInt h1 h2 hp2 (by have := oNltL hc4; rw [own_sq i h1 h2] at this; exact this)
              have k4 : (i + (2 : Int64)).toInt = i.toInt + 2 := by rw [XT.add64 (by rw [own_i2]; exact ⟨by omega, by omega⟩), own_i2]
              have k5 : (i + (2 : Int64)).toInt.toNat = i.toInt.toNat + 2 := by rw [k4]; omega
              exact ih (i + (2 : Int64)) (by omega) (by omega) (by rw [k5, show i.toInt.toNat + 2 + 2 * f = i.toInt.toNat + 2 * (f + 1) by omega]; exact h3) (by rw [k5, ← own_lp_next k1 k2]; exact h4)
      exact loop n.toInt.toNat 3 (by decide) (by decide) (by rw [own_i3]; exact Nat.lt_of_lt_of_le (by omega : n.toInt.toNat < 1 * ((3 : Int).toNat + 2 * n.toInt.toNat)) (Nat.mul_le_mul (by omega) (Nat.le_refl _))) (own_prD n hp hc1 hc3)
def Q_pb (n : Int64) (h0 : Heap) (n0 : Nat) (v : Option Value) (h : Heap) (L : List Loc) : Prop := v = some (.long (own_r n)) ∧ Fr n0 L ∧ h = h0
theorem own_d_prog_6_method_2_code_0 : decode prog_6_method_2_code 0 = .ok (.lload_n 0, 1) := by decide +kernel
theorem own_d_prog_6_method_2_code_1 : decode prog_6_method_2_code 1 = .ok (.lconst 1, 1) := by decide +kernel
theorem own_d_prog_6_method_2_code_2 : decode prog_6_method_2_code 2 = .ok (.lsub, 1) := by decide +kernel
theorem own_d_prog_6_method_2_code_3 : decode prog_6_method_2_code 3 = .ok (.lstore_n 2, 1) := by decide +kernel
theorem own_d_prog_6_method_2_code_4 : decode prog_6_method_2_code 4 = .ok (.lload_n 2, 1) := by decide +kernel
theorem own_d_prog_6_method_2_code_5 : decode prog_6_method_2_code 5 = .ok (.invokestatic 34, 3) := by decide +kernel
theorem own_pd__J_Z : parseMethodDescriptor "(J)Z" = some ⟨[.long], some .boolean⟩ := by decide +kernel
theorem own_d_prog_6_method_2_code_8 : decode prog_6_method_2_code 8 = .ok (.ifCond .ne 10, 3) := by decide +kernel
theorem own_d_prog_6_method_2_code_11 : decode prog_6_method_2_code 11 = .ok (.lload_n 2, 1) := by decide +kernel
theorem own_d_prog_6_method_2_code_12 : decode prog_6_method_2_code 12 = .ok (.lconst 1, 1) := by decide +kernel
theorem own_d_prog_6_method_2_code_13 : decode prog_6_method_2_code 13 = .ok (.lsub, 1) := by decide +kernel
theorem own_d_prog_6_method_2_code_14 : decode prog_6_method_2_code 14 = .ok (.lstore_n 2, 1) := by decide +kernel
theorem own_d_prog_6_method_2_code_15 : decode prog_6_method_2_code 15 = .ok (.goto (-11), 3) := by decide +kernel
theorem own_d_prog_6_method_2_code_18 : decode prog_6_method_2_code 18 = .ok (.lload_n 2, 1) := by decide +kernel
theorem own_d_prog_6_method_2_code_19 : decode prog_6_method_2_code 19 = .ok (.lreturn, 1) := by decide +kernel
theorem own_ef_rmB (x0 : Int64) (m : MethodId) : entryFrame m #[(.long x0)] 4 = mkF m 0 #[.val (.long x0), .second, .unset, .unset] [] := by first | (simp [entryFrame, mkF, argsToLocals, Value.category]; done) | rfl
set_option maxRecDepth 65536 in
set_option maxHeartbeats 40000000 in
theorem rmB (l : Launch) (Z : State) (a0 : Array Value) (hw : ∀ d ∈ tables_1, d.before a0 Z = true) (n : Int64) (h0 : Heap) (n0 : Nat) (Z0 : n0 ≤ h0.size) (hp : 3 ≤ n.toInt) (hp2 : n.toInt ≤ 2147483648) :
    OCon l Z (⟨"com/example/rigorous_bisim/rigorousbisim/arith/ModularEchelon", "primeBelow", "(J)J"⟩ : MethodName) prog_6_method_2_code 4 (some .long) ({ frames := 1, cells := 0, slots := 0, locals := 15 } : Room) #[(.long n)] h0 (Q_pb n h0 n0) := by
  refine OConK.intro (y := (⟨"com/example/rigorous_bisim/rigorousbisim/arith/ModularEchelon", "primeBelow", "(J)J"⟩ : MethodName)) (plainFor_of_name own_pn_com_example_rigorous_bisim_rigorousbisim_arith_ModularEchelon) (own_ef_rmB n) ?_
  intro p e s m below meth c s₁ hx hby hml hown hnm hret hlk hZ X0 e0
  show OGoal p e below s _ _ _ (s₁.setTop (mkF m 0 #[.val (.long n), .second, .unset, .unset] []))
  refine OGoal.mp (S' := (s₁.setTop (mkF m 1 #[.val (.long n), .second, .unset, .unset] [(.long n)]))) (fun _ k => XT.lloadN X0.here hx rfl (hb hby own_d_prog_6_method_2_code_0) rfl k) ?_
  refine OGoal.mp (S' := (s₁.setTop (mkF m 2 #[.val (.long n), .second, .unset, .unset] [(.long (1 : Int64)), (.long n)]))) (fun _ k => XT.lconst X0.here hx rfl (hb hby own_d_prog_6_method_2_code_1) k) ?_
  refine OGoal.mp (S' := (s₁.setTop (mkF m 3 #[.val (.long n), .second, .unset, .unset] [(.long (n - (1 : Int64)))]))) (fun _ k => XT.lsub X0.here hx rfl (hb hby own_d_prog_6_method_2_code_2) rfl k) ?_
  refine OGoal.mp (S' := (s₁.setTop (mkF m 4 #[.val (.long n), .second, .val (.long (n - (1 : Int64))), .second] []))) (fun _ k => XT.lstoreN X0.here hx rfl (hb hby own_d_prog_6_method_2_code_3) rfl (l' := #[.val (.long n), .second, .val (.long (n - (1 : Int64))), .second]) rfl k) ?_
  have loop : ∀ (c' : Nat) (i : Int64) (T : State) (locs : List Loc), Stand p l e ({ frames := 1, cells := 0, slots := 0, locals := 15 } : Room) s m #[(.long n)] below meth c T locs 0 0 → T.heap = h0 → Fr n0 locs → i.toInt = c' → 2 ≤ c' → c' < 2147483648 → own_down c' = own_down (n.toInt.toNat - 1) → OGoal p e below s (Q_pb n h0 n0) 0 0 (T.setTop (mkF m 4 #[.val (.long n), .second, .val (.long i), .second] [])) := by
    intro c'
    induction c' with
    | zero => intro i T locs X eT N h1 h2; omega
    | succ c' ih =>
      intro i T locs X eT N h1 h2 h3 h4
      refine OGoal.mp (S' := (T.setTop (mkF m 5 #[.val (.long n), .second, .val (.long i), .second] [(.long i)]))) (fun _ k => XT.lloadN X.here hx rfl (hb hby own_d_prog_6_method_2_code_4) rfl k) ?_
      refine oCallS (y := (⟨"com/example/rigorous_bisim/rigorousbisim/arith/ModularEchelon", "isPrime", "(J)Z"⟩ : MethodName)) X hx hZ hown (hw _ (List.mem_of_getElem? (i := 8) rfl)) (hw _ (List.mem_of_getElem? (i := 9) rfl)) (hw _ (List.mem_of_getElem? (i := 6) rfl)) (hw _ (List.mem_of_getElem? (i := 10) rfl)) (by decide) (rmP l Z a0 hw i h0 n0 Z0 (by omega) (by omega)) eT [(.long i)] [] rfl rfl (by rw [hml]; rfl) (lenOf own_pd__J_Z rfl) 0 (Nat.le_of_eq rfl) (by decide) (by decide) (by decide) (by decide) (hb hby own_d_prog_6_method_2_code_5) ?_
      intro v1 T2 L3 X4 q5
      obtain ⟨rfl, N6, e7⟩ := q5
      have N8 := Fr.app N N6
      have hN : i.toInt.toNat = c' + 1 := by omega
      show OGoal p e below s _ _ _ (T2.setTop (mkF m 8 #[.val (.long n), .second, .val (.long i), .second] [(.int (own_res (own_pr i.toInt.toNat)))]))
      by_cases hc9 : (own_res (own_pr i.toInt.toNat)) = 0
      · refine OGoal.mp (S' := (T2.setTop (mkF m 11 #[.val (.long n), .second, .val (.long i), .second] []))) (fun _ k => XS.ifNo X4.here hx rfl (hb hby own_d_prog_6_method_2_code_8) rfl (XT.i0_ne_f hc9) k) ?_
        refine OGoal.mp (S' := (T2.setTop (mkF m 12 #[.val (.long n), .second, .val (.long i), .second] [(.long i)]))) (fun _ k => XT.lloadN X4.here hx rfl (hb hby own_d_prog_6_method_2_code_11) rfl k) ?_
        refine OGoal.mp (S' := (T2.setTop (mkF m 13 #[.val (.long n), .second, .val (.long i), .second] [(.long (1 : Int64)), (.long i)]))) (fun _ k => XT.lconst X4.here hx rfl (hb hby own_d_prog_6_method_2_code_12) k) ?_
        refine OGoal.mp (S' := (T2.setTop (mkF m 14 #[.val (.long n), .second, .val (.long i), .second] [(.long (i - (1 : Int64)))]))) (fun _ k => XT.lsub X4.here hx rfl (hb hby own_d_prog_6_method_2_code_13) rfl k) ?_
        refine OGoal.mp (S' := (T2.setTop (mkF m 15 #[.val (.long n), .second, .val (.long (i - (1 : Int64))), .second] []))) (fun _ k => XT.lstoreN X4.here hx rfl (hb hby own_d_prog_6_method_2_code_14) rfl (l' := #[.val (.long n), .second, .val (.long (i - (1 : Int64))), .second]) rfl k) ?_
        refine OGoal.mp (S' := (T2.setTop (mkF m 4 #[.val (.long n), .second, .val (.long (i - (1 : Int64))), .second] []))) (fun _ k => XS.goto X4.here hx rfl (pc0 := 15) (pc' := 4) rfl (hb hby own_d_prog_6_method_2_code_15) (by decide) (by decide) k) ?_
        have k0 : own_pr (c' + 1) = false := by cases q : own_pr (c' + 1) with | false => rfl | true => rw [hN, q] at hc9; exact absurd hc9 (by decide)
        have k1 : own_down (c' + 1) = own_down c' := if_neg (by rw [k0]; decide)
        have k2 : 2 ≤ c' := by
          apply Nat.not_lt.mp; intro q
          obtain rfl : c' = 1 := by omega
          exact absurd k0 (by decide)
        exact ih (i - (1 : Int64)) T2 _ X4 e7 N8 (by rw [XT.sub64 (by rw [own_i1]; exact ⟨by omega, by omega⟩), own_i1]; omega) k2 (by omega) (by rw [← k1]; exact h4)
      · refine OGoal.mp (S' := (T2.setTop (mkF m 18 #[.val (.long n), .second, .val (.long i), .second] []))) (fun _ k => XS.ifYes X4.here hx rfl (pc0 := 8) (pc' := 18) rfl (hb hby own_d_prog_6_method_2_code_8) rfl (XT.i0_ne_t hc9) (by decide) (by decide) k) ?_
        refine OGoal.mp (S' := (T2.setTop (mkF m 19 #[.val (.long n), .second, .val (.long i), .second] [(.long i)]))) (fun _ k => XT.lloadN X4.here hx rfl (hb hby own_d_prog_6_method_2_code_18) rfl k) ?_
        refine oRetJ X4 hx hlk hret (hb hby own_d_prog_6_method_2_code_19) ?_ (by decide) (by decide)
        have k0 : own_pr (c' + 1) = true := by cases q : own_pr (c' + 1) with | true => rfl | false => rw [hN, q] at hc9; exact absurd rfl hc9
        have k1 : own_down (n.toInt.toNat - 1) = c' + 1 := h4.symm.trans (if_pos k0)
        have k2 : i = own_r n := by unfold own_r; rw [k1, ← hN, ← Int64.ofInt_eq_ofNat, Int.toNat_of_nonneg (by omega), Int64.ofInt_toInt]
        exact ⟨by rw [k2], N8, e7⟩
  exact loop (n.toInt.toNat - 1) (n - 1) s₁ [] X0 e0 (Fr.nil n0) (by rw [XT.sub64 (by rw [own_i1]; exact ⟨by omega, by omega⟩), own_i1]; omega) (by omega) (by omega) rfl
theorem own_pd__J_J : parseMethodDescriptor "(J)J" = some ⟨[.long], some .long⟩ := by decide +kernel
theorem own_pn_com_example_rigorous_bisim_rigorousbisim_arith_ModularEchelonPrimeBelowPinLaw : plainName "com/example/rigorous_bisim/rigorousbisim/arith/ModularEchelonPrimeBelowPinLaw" = true := by first | (simp [plainName, overriddenIn]; done) | decide +kernel
theorem own_ef_rm0 (x0 : Int64) (x1 : Int32) (m : MethodId) : entryFrame m #[(.long x0), (.int x1)] maxLocals = mkF m 0 #[.val (.long x0), .second, .val (.int x1), .unset, .unset, .unset, .unset, .unset, .unset, .unset, .unset, .unset, .unset, .unset, .unset] [] := by first | (simp [entryFrame, mkF, argsToLocals, Value.category, maxLocals]; done) | rfl
set_option maxRecDepth 65536 in
set_option maxHeartbeats 40000000 in
theorem rm0 (l : Launch) (Z : State) (a0 : Array Value) (hw : ∀ d ∈ tables_1, d.before a0 Z = true) (p1 : Int64) (p2 : Int32) (h0 : Heap) (n0 : Nat) (Z0 : n0 ≤ h0.size)  :
    OConK l Z x code maxLocals ret room_1 0 0 #[(.long p1), (.int p2)] h0 (fun v h L => v = some (.int 1) ∧ Fr n0 L) := by
  refine OConK.intro (y := x) (plainFor_of_name own_pn_com_example_rigorous_bisim_rigorousbisim_arith_ModularEchelonPrimeBelowPinLaw) (own_ef_rm0 p1 p2) ?_
  intro p e s m below meth c s₁ hx hby hml hown hnm hret hlk hZ X0 e0
  show OGoal p e below s _ _ _ (s₁.setTop (mkF m 0 #[.val (.long p1), .second, .val (.int p2), .unset, .unset, .unset, .unset, .unset, .unset, .unset, .unset, .unset, .unset, .unset, .unset] []))
  refine OGoal.mp (S' := (s₁.setTop (mkF m 1 #[.val (.long p1), .second, .val (.int p2), .unset, .unset, .unset, .unset, .unset, .unset, .unset, .unset, .unset, .unset, .unset, .unset] [(.int p2)]))) (fun _ k => XS.iloadN X0.here hx rfl (hb hby at_0) rfl k) ?_
  refine OGoal.mp (S' := (s₁.setTop (mkF m 2 #[.val (.long p1), .second, .val (.int p2), .unset, .unset, .unset, .unset, .unset, .unset, .unset, .unset, .unset, .unset, .unset, .unset] [(.int (1 : Int32)), (.int p2)]))) (fun _ k => XS.iconst X0.here hx rfl (hb hby at_1) k) ?_
  refine OGoal.mp (S' := (s₁.setTop (mkF m 3 #[.val (.long p1), .second, .val (.int p2), .unset, .unset, .unset, .unset, .unset, .unset, .unset, .unset, .unset, .unset, .unset, .unset] [(.int (p2 &&& (1 : Int32)))]))) (fun _ k => XS.iand X0.here hx rfl (hb hby at_2) rfl k) ?_
  by_cases hc1 : (p2 &&& (1 : Int32)) = 0
  · refine OGoal.mp (S' := (s₁.setTop (mkF m 34 #[.val (.long p1), .second, .val (.int p2), .unset, .unset, .unset, .unset, .unset, .unset, .unset, .unset, .unset, .unset, .unset, .unset] []))) (fun _ k => XS.ifYes X0.here hx rfl (pc0 := 3) (pc' := 34) rfl (hb hby at_3) rfl (XT.i0_eq_t hc1) (by decide) (by decide) k) ?_
    refine OGoal.mp (S' := (s₁.setTop (mkF m 37 #[.val (.long p1), .second, .val (.int p2), .unset, .unset, .unset, .unset, .unset, .unset, .unset, .unset, .unset, .unset, .unset, .unset] [(.long (2891462833508853932 : Int64))]))) (fun _ k => Stand.ldc2J X0 hx hown (mvT hZ (hw _ (List.mem_of_getElem? (i := 0) rfl))) rfl (hb hby at_34) k) ?_
    refine OGoal.mp (S' := (s₁.setTop (mkF m 38 #[.val (.long p1), .second, .val (.int p2), .val (.long (2891462833508853932 : Int64)), .second, .unset, .unset, .unset, .unset, .unset, .unset, .unset, .unset, .unset, .unset] []))) (fun _ k => XT.lstoreN X0.here hx rfl (hb hby at_37) rfl (l' := #[.val (.long p1), .second, .val (.int p2), .val (.long (2891462833508853932 : Int64)), .second, .unset, .unset, .unset, .unset, .unset, .unset, .unset, .unset, .unset, .unset]) rfl k) ?_
    refine OGoal.mp (S' := (s₁.setTop (mkF m 41 #[.val (.long p1), .second, .val (.int p2), .val (.long (2891462833508853932 : Int64)), .second, .unset, .unset, .unset, .unset, .unset, .unset, .unset, .unset, .unset, .unset] [(.long (3 : Int64))]))) (fun _ k => Stand.ldc2J X0 hx hown (mvT hZ (hw _ (List.mem_of_getElem? (i := 1) rfl))) rfl (hb hby at_38) k) ?_
    refine OGoal.mp (S' := (s₁.setTop (mkF m 42 #[.val (.long p1), .second, .val (.int p2), .val (.long (2891462833508853932 : Int64)), .second, .unset, .unset, .unset, .unset, .unset, .unset, .unset, .unset, .unset, .unset] [(.long p1), (.long (3 : Int64))]))) (fun _ k => XT.lloadN X0.here hx rfl (hb hby at_41) rfl k) ?_
    refine OGoal.mp (S' := (s₁.setTop (mkF m 45 #[.val (.long p1), .second, .val (.int p2), .val (.long (2891462833508853932 : Int64)), .second, .unset, .unset, .unset, .unset, .unset, .unset, .unset, .unset, .unset, .unset] [(.long (9223372036854775807 : Int64)), (.long p1), (.long (3 : Int64))]))) (fun _ k => Stand.ldc2J X0 hx hown (mvT hZ (hw _ (List.mem_of_getElem? (i := 2) rfl))) rfl (hb hby at_42) k) ?_
    refine OGoal.mp (S' := (s₁.setTop (mkF m 46 #[.val (.long p1), .second, .val (.int p2), .val (.long (2891462833508853932 : Int64)), .second, .unset, .unset, .unset, .unset, .unset, .unset, .unset, .unset, .unset, .unset] [(.long (p1 &&& (9223372036854775807 : Int64))), (.long (3 : Int64))]))) (fun _ k => XT.land X0.here hx rfl (hb hby at_45) rfl k) ?_
    refine OGoal.mp (S' := (s₁.setTop (mkF m 49 #[.val (.long p1), .second, .val (.int p2), .val (.long (2891462833508853932 : Int64)), .second, .unset, .unset, .unset, .unset, .unset, .unset, .unset, .unset, .unset, .unset] [(.long (62 : Int64)), (.long (p1 &&& (9223372036854775807 : Int64))), (.long (3 : Int64))]))) (fun _ k => Stand.ldc2J X0 hx hown (mvT hZ (hw _ (List.mem_of_getElem? (i := 3) rfl))) rfl (hb hby at_46) k) ?_
    refine OGoal.mp (S' := (s₁.setTop (mkF m 50 #[.val (.long p1), .second, .val (.int p2), .val (.long (2891462833508853932 : Int64)), .second, .unset, .unset, .unset, .unset, .unset, .unset, .unset, .unset, .unset, .unset] [(.long ((p1 &&& (9223372036854775807 : Int64)) % (62 : Int64))), (.long (3 : Int64))]))) (fun _ k => oLrem X0 hx rfl (hb hby at_49) rfl (by decide) k) ?_
    refine OGoal.mp (S' := (s₁.setTop (mkF m 51 #[.val (.long p1), .second, .val (.int p2), .val (.long (2891462833508853932 : Int64)), .second, .unset, .unset, .unset, .unset, .unset, .unset, .unset, .unset, .unset, .unset] [(.long ((3 : Int64) + ((p1 &&& (9223372036854775807 : Int64)) % (62 : Int64))))]))) (fun _ k => XT.ladd X0.here hx rfl (hb hby at_50) rfl k) ?_
    refine OGoal.mp (S' := (s₁.setTop (mkF m 53 #[.val (.long p1), .second, .val (.int p2), .val (.long (2891462833508853932 : Int64)), .second, .val (.long ((3 : Int64) + ((p1 &&& (9223372036854775807 : Int64)) % (62 : Int64)))), .second, .unset, .unset, .unset, .unset, .unset, .unset, .unset, .unset] []))) (fun _ k => XT.lstore X0.here hx rfl (hb hby at_51) rfl (l' := #[.val (.long p1), .second, .val (.int p2), .val (.long (2891462833508853932 : Int64)), .second, .val (.long ((3 : Int64) + ((p1 &&& (9223372036854775807 : Int64)) % (62 : Int64)))), .second, .unset, .unset, .unset, .unset, .unset, .unset, .unset, .unset]) rfl k) ?_
    obtain ⟨n2, hn2⟩ : ∃ z, z = ((3 : Int64) + ((p1 &&& (9223372036854775807 : Int64)) % (62 : Int64))) := ⟨_, rfl⟩
    rw [← hn2]
    have hm : (p1 &&& (9223372036854775807 : Int64)).toInt = p1.toInt % 9223372036854775808 := c_maskL p1 9223372036854775807 63 (by decide) (by decide)
    have hr := oRemL (p1 &&& (9223372036854775807 : Int64)) 62 (by omega) (by decide)
    have h62 : (62 : Int64).toInt = 62 := by decide
    rw [h62] at hr
    have hn : n2.toInt = 3 + ((p1 &&& (9223372036854775807 : Int64)) % 62).toInt := by rw [hn2, XT.add64 (by rw [own_i3]; exact ⟨by omega, by omega⟩), own_i3]
    obtain ⟨t1, t2, t3, t4⟩ := own_tail n2 (by omega) (by omega)
    refine OGoal.mp (S' := (s₁.setTop (mkF m 55 #[.val (.long p1), .second, .val (.int p2), .val (.long (2891462833508853932 : Int64)), .second, .val (.long n2), .second, .unset, .unset, .unset, .unset, .unset, .unset, .unset, .unset] [(.long n2)]))) (fun _ k => XT.lload X0.here hx rfl (hb hby at_53) rfl k) ?_
    refine oCallS (y := (⟨"com/example/rigorous_bisim/rigorousbisim/arith/ModularEchelon", "primeBelow", "(J)J"⟩ : MethodName)) X0 hx hZ hown (hw _ (List.mem_of_getElem? (i := 4) rfl)) (hw _ (List.mem_of_getElem? (i := 5) rfl)) (hw _ (List.mem_of_getElem? (i := 6) rfl)) (hw _ (List.mem_of_getElem? (i := 7) rfl)) (by decide) (rmB l Z a0 hw n2 h0 n0 Z0 (by omega) (by omega)) e0 [(.long n2)] [] rfl rfl (by rw [hml]; rfl) (lenOf own_pd__J_J rfl) 0 (Nat.le_of_eq rfl) (by decide) (by decide) (by decide) (by decide) (hb hby at_55) ?_
    intro v3 T4 L5 X6 q7
    obtain ⟨rfl, N8, e9⟩ := q7
    have N10 := Fr.app (Fr.nil n0) N8
    show OGoal p e below s _ _ _ (T4.setTop (mkF m 58 #[.val (.long p1), .second, .val (.int p2), .val (.long (2891462833508853932 : Int64)), .second, .val (.long n2), .second, .unset, .unset, .unset, .unset, .unset, .unset, .unset, .unset] [(.long (own_r n2))]))
    refine OGoal.mp (S' := (T4.setTop (mkF m 60 #[.val (.long p1), .second, .val (.int p2), .val (.long (2891462833508853932 : Int64)), .second, .val (.long n2), .second, .val (.long (own_r n2)), .second, .unset, .unset, .unset, .unset, .unset, .unset] []))) (fun _ k => XT.lstore X6.here hx rfl (hb hby at_58) rfl (l' := #[.val (.long p1), .second, .val (.int p2), .val (.long (2891462833508853932 : Int64)), .second, .val (.long n2), .second, .val (.long (own_r n2)), .second, .unset, .unset, .unset, .unset, .unset, .unset]) rfl k) ?_
    refine OGoal.mp (S' := (T4.setTop (mkF m 62 #[.val (.long p1), .second, .val (.int p2), .val (.long (2891462833508853932 : Int64)), .second, .val (.long n2), .second, .val (.long (own_r n2)), .second, .unset, .unset, .unset, .unset, .unset, .unset] [(.long (own_r n2))]))) (fun _ k => XT.lload X6.here hx rfl (hb hby at_60) rfl k) ?_
    refine OGoal.mp (S' := (T4.setTop (mkF m 65 #[.val (.long p1), .second, .val (.int p2), .val (.long (2891462833508853932 : Int64)), .second, .val (.long n2), .second, .val (.long (own_r n2)), .second, .unset, .unset, .unset, .unset, .unset, .unset] [(.long (2 : Int64)), (.long (own_r n2))]))) (fun _ k => Stand.ldc2J X6 hx hown (mvT hZ (hw _ (List.mem_of_getElem? (i := 14) rfl))) rfl (hb hby at_62) k) ?_
    refine OGoal.mp (S' := (T4.setTop (mkF m 66 #[.val (.long p1), .second, .val (.int p2), .val (.long (2891462833508853932 : Int64)), .second, .val (.long n2), .second, .val (.long (own_r n2)), .second, .unset, .unset, .unset, .unset, .unset, .unset] [(.int (XT.cmpL (own_r n2) (2 : Int64)))]))) (fun _ k => XT.lcmp X6.here hx rfl (hb hby at_65) rfl k) ?_
    refine OGoal.mp (S' := (T4.setTop (mkF m 69 #[.val (.long p1), .second, .val (.int p2), .val (.long (2891462833508853932 : Int64)), .second, .val (.long n2), .second, .val (.long (own_r n2)), .second, .unset, .unset, .unset, .unset, .unset, .unset] []))) (fun _ k => XS.ifNo X6.here hx rfl (hb hby at_66) rfl (XT.ll_lt_f t1) k) ?_
    refine OGoal.mp (S' := (T4.setTop (mkF m 71 #[.val (.long p1), .second, .val (.int p2), .val (.long (2891462833508853932 : Int64)), .second, .val (.long n2), .second, .val (.long (own_r n2)), .second, .unset, .unset, .unset, .unset, .unset, .unset] [(.long (own_r n2))]))) (fun _ k => XT.lload X6.here hx rfl (hb hby at_69) rfl k) ?_
    refine OGoal.mp (S' := (T4.setTop (mkF m 73 #[.val (.long p1), .second, .val (.int p2), .val (.long (2891462833508853932 : Int64)), .second, .val (.long n2), .second, .val (.long (own_r n2)), .second, .unset, .unset, .unset, .unset, .unset, .unset] [(.long n2), (.long (own_r n2))]))) (fun _ k => XT.lload X6.here hx rfl (hb hby at_71) rfl k) ?_
    refine OGoal.mp (S' := (T4.setTop (mkF m 74 #[.val (.long p1), .second, .val (.int p2), .val (.long (2891462833508853932 : Int64)), .second, .val (.long n2), .second, .val (.long (own_r n2)), .second, .unset, .unset, .unset, .unset, .unset, .unset] [(.int (XT.cmpL (own_r n2) n2))]))) (fun _ k => XT.lcmp X6.here hx rfl (hb hby at_73) rfl k) ?_
    refine OGoal.mp (S' := (T4.setTop (mkF m 79 #[.val (.long p1), .second, .val (.int p2), .val (.long (2891462833508853932 : Int64)), .second, .val (.long n2), .second, .val (.long (own_r n2)), .second, .unset, .unset, .unset, .unset, .unset, .unset] []))) (fun _ k => XS.ifYes X6.here hx rfl (pc0 := 74) (pc' := 79) rfl (hb hby at_74) rfl (XT.ll_lt_t t2) (by decide) (by decide) k) ?_
    refine OGoal.mp (S' := (T4.setTop (mkF m 81 #[.val (.long p1), .second, .val (.int p2), .val (.long (2891462833508853932 : Int64)), .second, .val (.long n2), .second, .val (.long (own_r n2)), .second, .unset, .unset, .unset, .unset, .unset, .unset] [(.long (own_r n2))]))) (fun _ k => XT.lload X6.here hx rfl (hb hby at_79) rfl k) ?_
    refine OGoal.mp (S' := (T4.setTop (mkF m 82 #[.val (.long p1), .second, .val (.int p2), .val (.long (2891462833508853932 : Int64)), .second, .val (.long n2), .second, .val (.long (own_r n2)), .second, .unset, .unset, .unset, .unset, .unset, .unset] [(.int (((own_r n2)).toInt32))]))) (fun _ k => XT.l2i X6.here hx rfl (hb hby at_81) rfl k) ?_
    refine OGoal.mp (S' := (T4.setTop (mkF m 84 #[.val (.long p1), .second, .val (.int p2), .val (.long (2891462833508853932 : Int64)), .second, .val (.long n2), .second, .val (.long (own_r n2)), .second, .val (.int (((own_r n2)).toInt32)), .unset, .unset, .unset, .unset, .unset] []))) (fun _ k => XS.istore X6.here hx rfl (hb hby at_82) rfl (l' := #[.val (.long p1), .second, .val (.int p2), .val (.long (2891462833508853932 : Int64)), .second, .val (.long n2), .second, .val (.long (own_r n2)), .second, .val (.int (((own_r n2)).toInt32)), .unset, .unset, .unset, .unset, .unset]) rfl k) ?_
    refine OGoal.mp (S' := (T4.setTop (mkF m 86 #[.val (.long p1), .second, .val (.int p2), .val (.long (2891462833508853932 : Int64)), .second, .val (.long n2), .second, .val (.long (own_r n2)), .second, .val (.int (((own_r n2)).toInt32)), .unset, .unset, .unset, .unset, .unset] [(.long n2)]))) (fun _ k => XT.lload X6.here hx rfl (hb hby at_84) rfl k) ?_
    refine OGoal.mp (S' := (T4.setTop (mkF m 87 #[.val (.long p1), .second, .val (.int p2), .val (.long (2891462833508853932 : Int64)), .second, .val (.long n2), .second, .val (.long (own_r n2)), .second, .val (.int (((own_r n2)).toInt32)), .unset, .unset, .unset, .unset, .unset] [(.int ((n2).toInt32))]))) (fun _ k => XT.l2i X6.here hx rfl (hb hby at_86) rfl k) ?_
    refine OGoal.mp (S' := (T4.setTop (mkF m 89 #[.val (.long p1), .second, .val (.int p2), .val (.long (2891462833508853932 : Int64)), .second, .val (.long n2), .second, .val (.long (own_r n2)), .second, .val (.int (((own_r n2)).toInt32)), .val (.int ((n2).toInt32)), .unset, .unset, .unset, .unset] []))) (fun _ k => XS.istore X6.here hx rfl (hb hby at_87) rfl (l' := #[.val (.long p1), .second, .val (.int p2), .val (.long (2891462833508853932 : Int64)), .second, .val (.long n2), .second, .val (.long (own_r n2)), .second, .val (.int (((own_r n2)).toInt32)), .val (.int ((n2).toInt32)), .unset, .unset, .unset, .unset]) rfl k) ?_
    refine OGoal.mp (S' := (T4.setTop (mkF m 90 #[.val (.long p1), .second, .val (.int p2), .val (.long (2891462833508853932 : Int64)), .second, .val (.long n2), .second, .val (.long (own_r n2)), .second, .val (.int (((own_r n2)).toInt32)), .val (.int ((n2).toInt32)), .unset, .unset, .unset, .unset] [(.long (2891462833508853932 : Int64))]))) (fun _ k => XT.lloadN X6.here hx rfl (hb hby at_89) rfl k) ?_
    refine OGoal.mp (S' := (T4.setTop (mkF m 92 #[.val (.long p1), .second, .val (.int p2), .val (.long (2891462833508853932 : Int64)), .second, .val (.long n2), .second, .val (.long (own_r n2)), .second, .val (.int (((own_r n2)).toInt32)), .val (.int ((n2).toInt32)), .unset, .unset, .unset, .unset] [(.int (((own_r n2)).toInt32)), (.long (2891462833508853932 : Int64))]))) (fun _ k => XS.iload X6.here hx rfl (hb hby at_90) rfl k) ?_
    refine OGoal.mp (S' := (T4.setTop (mkF m 93 #[.val (.long p1), .second, .val (.int p2), .val (.long (2891462833508853932 : Int64)), .second, .val (.long n2), .second, .val (.long (own_r n2)), .second, .val (.int (((own_r n2)).toInt32)), .val (.int ((n2).toInt32)), .unset, .unset, .unset, .unset] [(.long (XT.ushrL (2891462833508853932 : Int64) (((own_r n2)).toInt32)))]))) (fun _ k => XT.lushr X6.here hx rfl (hb hby at_92) rfl k) ?_
    refine OGoal.mp (S' := (T4.setTop (mkF m 94 #[.val (.long p1), .second, .val (.int p2), .val (.long (2891462833508853932 : Int64)), .second, .val (.long n2), .second, .val (.long (own_r n2)), .second, .val (.int (((own_r n2)).toInt32)), .val (.int ((n2).toInt32)), .unset, .unset, .unset, .unset] [(.long (1 : Int64)), (.long (XT.ushrL (2891462833508853932 : Int64) (((own_r n2)).toInt32)))]))) (fun _ k => XT.lconst X6.here hx rfl (hb hby at_93) k) ?_
    refine OGoal.mp (S' := (T4.setTop (mkF m 95 #[.val (.long p1), .second, .val (.int p2), .val (.long (2891462833508853932 : Int64)), .second, .val (.long n2), .second, .val (.long (own_r n2)), .second, .val (.int (((own_r n2)).toInt32)), .val (.int ((n2).toInt32)), .unset, .unset, .unset, .unset] [(.long ((XT.ushrL (2891462833508853932 : Int64) (((own_r n2)).toInt32)) &&& (1 : Int64)))]))) (fun _ k => XT.land X6.here hx rfl (hb hby at_94) rfl k) ?_
    refine OGoal.mp (S' := (T4.setTop (mkF m 96 #[.val (.long p1), .second, .val (.int p2), .val (.long (2891462833508853932 : Int64)), .second, .val (.long n2), .second, .val (.long (own_r n2)), .second, .val (.int (((own_r n2)).toInt32)), .val (.int ((n2).toInt32)), .unset, .unset, .unset, .unset] [(.long (0 : Int64)), (.long ((XT.ushrL (2891462833508853932 : Int64) (((own_r n2)).toInt32)) &&& (1 : Int64)))]))) (fun _ k => XT.lconst X6.here hx rfl (hb hby at_95) k) ?_
    refine OGoal.mp (S' := (T4.setTop (mkF m 97 #[.val (.long p1), .second, .val (.int p2), .val (.long (2891462833508853932 : Int64)), .second, .val (.long n2), .second, .val (.long (own_r n2)), .second, .val (.int (((own_r n2)).toInt32)), .val (.int ((n2).toInt32)), .unset, .unset, .unset, .unset] [(.int (XT.cmpL ((XT.ushrL (2891462833508853932 : Int64) (((own_r n2)).toInt32)) &&& (1 : Int64)) (0 : Int64)))]))) (fun _ k => XT.lcmp X6.here hx rfl (hb hby at_96) rfl k) ?_
    refine OGoal.mp (S' := (T4.setTop (mkF m 100 #[.val (.long p1), .second, .val (.int p2), .val (.long (2891462833508853932 : Int64)), .second, .val (.long n2), .second, .val (.long (own_r n2)), .second, .val (.int (((own_r n2)).toInt32)), .val (.int ((n2).toInt32)), .unset, .unset, .unset, .unset] []))) (fun _ k => XS.ifNo X6.here hx rfl (hb hby at_97) rfl (XT.ll_eq_f t3) k) ?_
    refine OGoal.mp (S' := (T4.setTop (mkF m 101 #[.val (.long p1), .second, .val (.int p2), .val (.long (2891462833508853932 : Int64)), .second, .val (.long n2), .second, .val (.long (own_r n2)), .second, .val (.int (((own_r n2)).toInt32)), .val (.int ((n2).toInt32)), .unset, .unset, .unset, .unset] [(.int (1 : Int32))]))) (fun _ k => XS.iconst X6.here hx rfl (hb hby at_100) k) ?_
    refine OGoal.mp (S' := (T4.setTop (mkF m 105 #[.val (.long p1), .second, .val (.int p2), .val (.long (2891462833508853932 : Int64)), .second, .val (.long n2), .second, .val (.long (own_r n2)), .second, .val (.int (((own_r n2)).toInt32)), .val (.int ((n2).toInt32)), .unset, .unset, .unset, .unset] [(.int (1 : Int32))]))) (fun _ k => XS.goto X6.here hx rfl (pc0 := 101) (pc' := 105) rfl (hb hby at_101) (by decide) (by decide) k) ?_
    refine OGoal.mp (S' := (T4.setTop (mkF m 107 #[.val (.long p1), .second, .val (.int p2), .val (.long (2891462833508853932 : Int64)), .second, .val (.long n2), .second, .val (.long (own_r n2)), .second, .val (.int (((own_r n2)).toInt32)), .val (.int ((n2).toInt32)), .val (.int (1 : Int32)), .unset, .unset, .unset] []))) (fun _ k => XS.istore X6.here hx rfl (hb hby at_105) rfl (l' := #[.val (.long p1), .second, .val (.int p2), .val (.long (2891462833508853932 : Int64)), .second, .val (.long n2), .second, .val (.long (own_r n2)), .second, .val (.int (((own_r n2)).toInt32)), .val (.int ((n2).toInt32)), .val (.int (1 : Int32)), .unset, .unset, .unset]) rfl k) ?_
    refine OGoal.mp (S' := (T4.setTop (mkF m 109 #[.val (.long p1), .second, .val (.int p2), .val (.long (2891462833508853932 : Int64)), .second, .val (.long n2), .second, .val (.long (own_r n2)), .second, .val (.int (((own_r n2)).toInt32)), .val (.int ((n2).toInt32)), .val (.int (1 : Int32)), .unset, .unset, .unset] [(.int (1 : Int32))]))) (fun _ k => XS.iload X6.here hx rfl (hb hby at_107) rfl k) ?_
    refine OGoal.mp (S' := (T4.setTop (mkF m 114 #[.val (.long p1), .second, .val (.int p2), .val (.long (2891462833508853932 : Int64)), .second, .val (.long n2), .second, .val (.long (own_r n2)), .second, .val (.int (((own_r n2)).toInt32)), .val (.int ((n2).toInt32)), .val (.int (1 : Int32)), .unset, .unset, .unset] []))) (fun _ k => XS.ifYes X6.here hx rfl (pc0 := 109) (pc' := 114) rfl (hb hby at_109) rfl (XT.i0_ne_t (by decide)) (by decide) (by decide) k) ?_
    refine OGoal.mp (S' := (T4.setTop (mkF m 116 #[.val (.long p1), .second, .val (.int p2), .val (.long (2891462833508853932 : Int64)), .second, .val (.long n2), .second, .val (.long (own_r n2)), .second, .val (.int (((own_r n2)).toInt32)), .val (.int ((n2).toInt32)), .val (.int (1 : Int32)), .unset, .unset, .unset] [(.int ((n2).toInt32))]))) (fun _ k => XS.iload X6.here hx rfl (hb hby at_114) rfl k) ?_
    refine OGoal.mp (S' := (T4.setTop (mkF m 118 #[.val (.long p1), .second, .val (.int p2), .val (.long (2891462833508853932 : Int64)), .second, .val (.long n2), .second, .val (.long (own_r n2)), .second, .val (.int (((own_r n2)).toInt32)), .val (.int ((n2).toInt32)), .val (.int (1 : Int32)), .unset, .unset, .unset] [(.int (((own_r n2)).toInt32)), (.int ((n2).toInt32))]))) (fun _ k => XS.iload X6.here hx rfl (hb hby at_116) rfl k) ?_
    refine OGoal.mp (S' := (T4.setTop (mkF m 119 #[.val (.long p1), .second, .val (.int p2), .val (.long (2891462833508853932 : Int64)), .second, .val (.long n2), .second, .val (.long (own_r n2)), .second, .val (.int (((own_r n2)).toInt32)), .val (.int ((n2).toInt32)), .val (.int (1 : Int32)), .unset, .unset, .unset] [(.int (((n2).toInt32) - (((own_r n2)).toInt32)))]))) (fun _ k => XS.isub X6.here hx rfl (hb hby at_118) rfl k) ?_
    refine OGoal.mp (S' := (T4.setTop (mkF m 120 #[.val (.long p1), .second, .val (.int p2), .val (.long (2891462833508853932 : Int64)), .second, .val (.long n2), .second, .val (.long (own_r n2)), .second, .val (.int (((own_r n2)).toInt32)), .val (.int ((n2).toInt32)), .val (.int (1 : Int32)), .unset, .unset, .unset] [(.int (1 : Int32)), (.int (((n2).toInt32) - (((own_r n2)).toInt32)))]))) (fun _ k => XS.iconst X6.here hx rfl (hb hby at_119) k) ?_
    refine OGoal.mp (S' := (T4.setTop (mkF m 121 #[.val (.long p1), .second, .val (.int p2), .val (.long (2891462833508853932 : Int64)), .second, .val (.long n2), .second, .val (.long (own_r n2)), .second, .val (.int (((own_r n2)).toInt32)), .val (.int ((n2).toInt32)), .val (.int (1 : Int32)), .unset, .unset, .unset] [(.int ((((n2).toInt32) - (((own_r n2)).toInt32)) - (1 : Int32)))]))) (fun _ k => XS.isub X6.here hx rfl (hb hby at_120) rfl k) ?_
    refine OGoal.mp (S' := (T4.setTop (mkF m 123 #[.val (.long p1), .second, .val (.int p2), .val (.long (2891462833508853932 : Int64)), .second, .val (.long n2), .second, .val (.long (own_r n2)), .second, .val (.int (((own_r n2)).toInt32)), .val (.int ((n2).toInt32)), .val (.int (1 : Int32)), .val (.int ((((n2).toInt32) - (((own_r n2)).toInt32)) - (1 : Int32))), .unset, .unset] []))) (fun _ k => XS.istore X6.here hx rfl (hb hby at_121) rfl (l' := #[.val (.long p1), .second, .val (.int p2), .val (.long (2891462833508853932 : Int64)), .second, .val (.long n2), .second, .val (.long (own_r n2)), .second, .val (.int (((own_r n2)).toInt32)), .val (.int ((n2).toInt32)), .val (.int (1 : Int32)), .val (.int ((((n2).toInt32) - (((own_r n2)).toInt32)) - (1 : Int32))), .unset, .unset]) rfl k) ?_
    refine OGoal.mp (S' := (T4.setTop (mkF m 124 #[.val (.long p1), .second, .val (.int p2), .val (.long (2891462833508853932 : Int64)), .second, .val (.long n2), .second, .val (.long (own_r n2)), .second, .val (.int (((own_r n2)).toInt32)), .val (.int ((n2).toInt32)), .val (.int (1 : Int32)), .val (.int ((((n2).toInt32) - (((own_r n2)).toInt32)) - (1 : Int32))), .unset, .unset] [(.long (2891462833508853932 : Int64))]))) (fun _ k => XT.lloadN X6.here hx rfl (hb hby at_123) rfl k) ?_
    refine OGoal.mp (S' := (T4.setTop (mkF m 126 #[.val (.long p1), .second, .val (.int p2), .val (.long (2891462833508853932 : Int64)), .second, .val (.long n2), .second, .val (.long (own_r n2)), .second, .val (.int (((own_r n2)).toInt32)), .val (.int ((n2).toInt32)), .val (.int (1 : Int32)), .val (.int ((((n2).toInt32) - (((own_r n2)).toInt32)) - (1 : Int32))), .unset, .unset] [(.int (((own_r n2)).toInt32)), (.long (2891462833508853932 : Int64))]))) (fun _ k => XS.iload X6.here hx rfl (hb hby at_124) rfl k) ?_
    refine OGoal.mp (S' := (T4.setTop (mkF m 127 #[.val (.long p1), .second, .val (.int p2), .val (.long (2891462833508853932 : Int64)), .second, .val (.long n2), .second, .val (.long (own_r n2)), .second, .val (.int (((own_r n2)).toInt32)), .val (.int ((n2).toInt32)), .val (.int (1 : Int32)), .val (.int ((((n2).toInt32) - (((own_r n2)).toInt32)) - (1 : Int32))), .unset, .unset] [(.int (1 : Int32)), (.int (((own_r n2)).toInt32)), (.long (2891462833508853932 : Int64))]))) (fun _ k => XS.iconst X6.here hx rfl (hb hby at_126) k) ?_
    refine OGoal.mp (S' := (T4.setTop (mkF m 128 #[.val (.long p1), .second, .val (.int p2), .val (.long (2891462833508853932 : Int64)), .second, .val (.long n2), .second, .val (.long (own_r n2)), .second, .val (.int (((own_r n2)).toInt32)), .val (.int ((n2).toInt32)), .val (.int (1 : Int32)), .val (.int ((((n2).toInt32) - (((own_r n2)).toInt32)) - (1 : Int32))), .unset, .unset] [(.int ((((own_r n2)).toInt32) + (1 : Int32))), (.long (2891462833508853932 : Int64))]))) (fun _ k => XS.iadd X6.here hx rfl (hb hby at_127) rfl k) ?_
    refine OGoal.mp (S' := (T4.setTop (mkF m 129 #[.val (.long p1), .second, .val (.int p2), .val (.long (2891462833508853932 : Int64)), .second, .val (.long n2), .second, .val (.long (own_r n2)), .second, .val (.int (((own_r n2)).toInt32)), .val (.int ((n2).toInt32)), .val (.int (1 : Int32)), .val (.int ((((n2).toInt32) - (((own_r n2)).toInt32)) - (1 : Int32))), .unset, .unset] [(.long (XT.ushrL (2891462833508853932 : Int64) ((((own_r n2)).toInt32) + (1 : Int32))))]))) (fun _ k => XT.lushr X6.here hx rfl (hb hby at_128) rfl k) ?_
    refine OGoal.mp (S' := (T4.setTop (mkF m 130 #[.val (.long p1), .second, .val (.int p2), .val (.long (2891462833508853932 : Int64)), .second, .val (.long n2), .second, .val (.long (own_r n2)), .second, .val (.int (((own_r n2)).toInt32)), .val (.int ((n2).toInt32)), .val (.int (1 : Int32)), .val (.int ((((n2).toInt32) - (((own_r n2)).toInt32)) - (1 : Int32))), .unset, .unset] [(.long (1 : Int64)), (.long (XT.ushrL (2891462833508853932 : Int64) ((((own_r n2)).toInt32) + (1 : Int32))))]))) (fun _ k => XT.lconst X6.here hx rfl (hb hby at_129) k) ?_
    refine OGoal.mp (S' := (T4.setTop (mkF m 132 #[.val (.long p1), .second, .val (.int p2), .val (.long (2891462833508853932 : Int64)), .second, .val (.long n2), .second, .val (.long (own_r n2)), .second, .val (.int (((own_r n2)).toInt32)), .val (.int ((n2).toInt32)), .val (.int (1 : Int32)), .val (.int ((((n2).toInt32) - (((own_r n2)).toInt32)) - (1 : Int32))), .unset, .unset] [(.int ((((n2).toInt32) - (((own_r n2)).toInt32)) - (1 : Int32))), (.long (1 : Int64)), (.long (XT.ushrL (2891462833508853932 : Int64) ((((own_r n2)).toInt32) + (1 : Int32))))]))) (fun _ k => XS.iload X6.here hx rfl (hb hby at_130) rfl k) ?_
    refine OGoal.mp (S' := (T4.setTop (mkF m 133 #[.val (.long p1), .second, .val (.int p2), .val (.long (2891462833508853932 : Int64)), .second, .val (.long n2), .second, .val (.long (own_r n2)), .second, .val (.int (((own_r n2)).toInt32)), .val (.int ((n2).toInt32)), .val (.int (1 : Int32)), .val (.int ((((n2).toInt32) - (((own_r n2)).toInt32)) - (1 : Int32))), .unset, .unset] [(.long ((1 : Int64) <<< (Int32.toInt64 ((((n2).toInt32) - (((own_r n2)).toInt32)) - (1 : Int32)) &&& 63))), (.long (XT.ushrL (2891462833508853932 : Int64) ((((own_r n2)).toInt32) + (1 : Int32))))]))) (fun _ k => XT.lshl X6.here hx rfl (hb hby at_132) rfl k) ?_
    refine OGoal.mp (S' := (T4.setTop (mkF m 134 #[.val (.long p1), .second, .val (.int p2), .val (.long (2891462833508853932 : Int64)), .second, .val (.long n2), .second, .val (.long (own_r n2)), .second, .val (.int (((own_r n2)).toInt32)), .val (.int ((n2).toInt32)), .val (.int (1 : Int32)), .val (.int ((((n2).toInt32) - (((own_r n2)).toInt32)) - (1 : Int32))), .unset, .unset] [(.long (1 : Int64)), (.long ((1 : Int64) <<< (Int32.toInt64 ((((n2).toInt32) - (((own_r n2)).toInt32)) - (1 : Int32)) &&& 63))), (.long (XT.ushrL (2891462833508853932 : Int64) ((((own_r n2)).toInt32) + (1 : Int32))))]))) (fun _ k => XT.lconst X6.here hx rfl (hb hby at_133) k) ?_
    refine OGoal.mp (S' := (T4.setTop (mkF m 135 #[.val (.long p1), .second, .val (.int p2), .val (.long (2891462833508853932 : Int64)), .second, .val (.long n2), .second, .val (.long (own_r n2)), .second, .val (.int (((own_r n2)).toInt32)), .val (.int ((n2).toInt32)), .val (.int (1 : Int32)), .val (.int ((((n2).toInt32) - (((own_r n2)).toInt32)) - (1 : Int32))), .unset, .unset] [(.long (((1 : Int64) <<< (Int32.toInt64 ((((n2).toInt32) - (((own_r n2)).toInt32)) - (1 : Int32)) &&& 63)) - (1 : Int64))), (.long (XT.ushrL (2891462833508853932 : Int64) ((((own_r n2)).toInt32) + (1 : Int32))))]))) (fun _ k => XT.lsub X6.here hx rfl (hb hby at_134) rfl k) ?_
    refine OGoal.mp (S' := (T4.setTop (mkF m 136 #[.val (.long p1), .second, .val (.int p2), .val (.long (2891462833508853932 : Int64)), .second, .val (.long n2), .second, .val (.long (own_r n2)), .second, .val (.int (((own_r n2)).toInt32)), .val (.int ((n2).toInt32)), .val (.int (1 : Int32)), .val (.int ((((n2).toInt32) - (((own_r n2)).toInt32)) - (1 : Int32))), .unset, .unset] [(.long ((XT.ushrL (2891462833508853932 : Int64) ((((own_r n2)).toInt32) + (1 : Int32))) &&& (((1 : Int64) <<< (Int32.toInt64 ((((n2).toInt32) - (((own_r n2)).toInt32)) - (1 : Int32)) &&& 63)) - (1 : Int64))))]))) (fun _ k => XT.land X6.here hx rfl (hb hby at_135) rfl k) ?_
    refine OGoal.mp (S' := (T4.setTop (mkF m 138 #[.val (.long p1), .second, .val (.int p2), .val (.long (2891462833508853932 : Int64)), .second, .val (.long n2), .second, .val (.long (own_r n2)), .second, .val (.int (((own_r n2)).toInt32)), .val (.int ((n2).toInt32)), .val (.int (1 : Int32)), .val (.int ((((n2).toInt32) - (((own_r n2)).toInt32)) - (1 : Int32))), .val (.long ((XT.ushrL (2891462833508853932 : Int64) ((((own_r n2)).toInt32) + (1 : Int32))) &&& (((1 : Int64) <<< (Int32.toInt64 ((((n2).toInt32) - (((own_r n2)).toInt32)) - (1 : Int32)) &&& 63)) - (1 : Int64)))), .second] []))) (fun _ k => XT.lstore X6.here hx rfl (hb hby at_136) rfl (l' := #[.val (.long p1), .second, .val (.int p2), .val (.long (2891462833508853932 : Int64)), .second, .val (.long n2), .second, .val (.long (own_r n2)), .second, .val (.int (((own_r n2)).toInt32)), .val (.int ((n2).toInt32)), .val (.int (1 : Int32)), .val (.int ((((n2).toInt32) - (((own_r n2)).toInt32)) - (1 : Int32))), .val (.long ((XT.ushrL (2891462833508853932 : Int64) ((((own_r n2)).toInt32) + (1 : Int32))) &&& (((1 : Int64) <<< (Int32.toInt64 ((((n2).toInt32) - (((own_r n2)).toInt32)) - (1 : Int32)) &&& 63)) - (1 : Int64)))), .second]) rfl k) ?_
    refine OGoal.mp (S' := (T4.setTop (mkF m 140 #[.val (.long p1), .second, .val (.int p2), .val (.long (2891462833508853932 : Int64)), .second, .val (.long n2), .second, .val (.long (own_r n2)), .second, .val (.int (((own_r n2)).toInt32)), .val (.int ((n2).toInt32)), .val (.int (1 : Int32)), .val (.int ((((n2).toInt32) - (((own_r n2)).toInt32)) - (1 : Int32))), .val (.long ((XT.ushrL (2891462833508853932 : Int64) ((((own_r n2)).toInt32) + (1 : Int32))) &&& (((1 : Int64) <<< (Int32.toInt64 ((((n2).toInt32) - (((own_r n2)).toInt32)) - (1 : Int32)) &&& 63)) - (1 : Int64)))), .second] [(.long ((XT.ushrL (2891462833508853932 : Int64) ((((own_r n2)).toInt32) + (1 : Int32))) &&& (((1 : Int64) <<< (Int32.toInt64 ((((n2).toInt32) - (((own_r n2)).toInt32)) - (1 : Int32)) &&& 63)) - (1 : Int64))))]))) (fun _ k => XT.lload X6.here hx rfl (hb hby at_138) rfl k) ?_
    refine OGoal.mp (S' := (T4.setTop (mkF m 141 #[.val (.long p1), .second, .val (.int p2), .val (.long (2891462833508853932 : Int64)), .second, .val (.long n2), .second, .val (.long (own_r n2)), .second, .val (.int (((own_r n2)).toInt32)), .val (.int ((n2).toInt32)), .val (.int (1 : Int32)), .val (.int ((((n2).toInt32) - (((own_r n2)).toInt32)) - (1 : Int32))), .val (.long ((XT.ushrL (2891462833508853932 : Int64) ((((own_r n2)).toInt32) + (1 : Int32))) &&& (((1 : Int64) <<< (Int32.toInt64 ((((n2).toInt32) - (((own_r n2)).toInt32)) - (1 : Int32)) &&& 63)) - (1 : Int64)))), .second] [(.long (0 : Int64)), (.long ((XT.ushrL (2891462833508853932 : Int64) ((((own_r n2)).toInt32) + (1 : Int32))) &&& (((1 : Int64) <<< (Int32.toInt64 ((((n2).toInt32) - (((own_r n2)).toInt32)) - (1 : Int32)) &&& 63)) - (1 : Int64))))]))) (fun _ k => XT.lconst X6.here hx rfl (hb hby at_140) k) ?_
    refine OGoal.mp (S' := (T4.setTop (mkF m 142 #[.val (.long p1), .second, .val (.int p2), .val (.long (2891462833508853932 : Int64)), .second, .val (.long n2), .second, .val (.long (own_r n2)), .second, .val (.int (((own_r n2)).toInt32)), .val (.int ((n2).toInt32)), .val (.int (1 : Int32)), .val (.int ((((n2).toInt32) - (((own_r n2)).toInt32)) - (1 : Int32))), .val (.long ((XT.ushrL (2891462833508853932 : Int64) ((((own_r n2)).toInt32) + (1 : Int32))) &&& (((1 : Int64) <<< (Int32.toInt64 ((((n2).toInt32) - (((own_r n2)).toInt32)) - (1 : Int32)) &&& 63)) - (1 : Int64)))), .second] [(.int (XT.cmpL ((XT.ushrL (2891462833508853932 : Int64) ((((own_r n2)).toInt32) + (1 : Int32))) &&& (((1 : Int64) <<< (Int32.toInt64 ((((n2).toInt32) - (((own_r n2)).toInt32)) - (1 : Int32)) &&& 63)) - (1 : Int64))) (0 : Int64)))]))) (fun _ k => XT.lcmp X6.here hx rfl (hb hby at_141) rfl k) ?_
    refine OGoal.mp (S' := (T4.setTop (mkF m 145 #[.val (.long p1), .second, .val (.int p2), .val (.long (2891462833508853932 : Int64)), .second, .val (.long n2), .second, .val (.long (own_r n2)), .second, .val (.int (((own_r n2)).toInt32)), .val (.int ((n2).toInt32)), .val (.int (1 : Int32)), .val (.int ((((n2).toInt32) - (((own_r n2)).toInt32)) - (1 : Int32))), .val (.long ((XT.ushrL (2891462833508853932 : Int64) ((((own_r n2)).toInt32) + (1 : Int32))) &&& (((1 : Int64) <<< (Int32.toInt64 ((((n2).toInt32) - (((own_r n2)).toInt32)) - (1 : Int32)) &&& 63)) - (1 : Int64)))), .second] []))) (fun _ k => XS.ifNo X6.here hx rfl (hb hby at_142) rfl (XT.ll_ne_f t4) k) ?_
    refine OGoal.mp (S' := (T4.setTop (mkF m 146 #[.val (.long p1), .second, .val (.int p2), .val (.long (2891462833508853932 : Int64)), .second, .val (.long n2), .second, .val (.long (own_r n2)), .second, .val (.int (((own_r n2)).toInt32)), .val (.int ((n2).toInt32)), .val (.int (1 : Int32)), .val (.int ((((n2).toInt32) - (((own_r n2)).toInt32)) - (1 : Int32))), .val (.long ((XT.ushrL (2891462833508853932 : Int64) ((((own_r n2)).toInt32) + (1 : Int32))) &&& (((1 : Int64) <<< (Int32.toInt64 ((((n2).toInt32) - (((own_r n2)).toInt32)) - (1 : Int32)) &&& 63)) - (1 : Int64)))), .second] [(.int (1 : Int32))]))) (fun _ k => XS.iconst X6.here hx rfl (hb hby at_145) k) ?_
    refine OGoal.mp (S' := (T4.setTop (mkF m 150 #[.val (.long p1), .second, .val (.int p2), .val (.long (2891462833508853932 : Int64)), .second, .val (.long n2), .second, .val (.long (own_r n2)), .second, .val (.int (((own_r n2)).toInt32)), .val (.int ((n2).toInt32)), .val (.int (1 : Int32)), .val (.int ((((n2).toInt32) - (((own_r n2)).toInt32)) - (1 : Int32))), .val (.long ((XT.ushrL (2891462833508853932 : Int64) ((((own_r n2)).toInt32) + (1 : Int32))) &&& (((1 : Int64) <<< (Int32.toInt64 ((((n2).toInt32) - (((own_r n2)).toInt32)) - (1 : Int32)) &&& 63)) - (1 : Int64)))), .second] [(.int (1 : Int32))]))) (fun _ k => XS.goto X6.here hx rfl (pc0 := 146) (pc' := 150) rfl (hb hby at_146) (by decide) (by decide) k) ?_
    refine oRetZ X6 hx hlk hret (Or.inr rfl) (hb hby at_150) ?_ (by decide) (by decide)
    exact ⟨rfl, N10⟩
  · refine OGoal.mp (S' := (s₁.setTop (mkF m 6 #[.val (.long p1), .second, .val (.int p2), .unset, .unset, .unset, .unset, .unset, .unset, .unset, .unset, .unset, .unset, .unset, .unset] []))) (fun _ k => XS.ifNo X0.here hx rfl (hb hby at_3) rfl (XT.i0_eq_f hc1) k) ?_
    refine OGoal.mp (S' := (s₁.setTop (mkF m 7 #[.val (.long p1), .second, .val (.int p2), .unset, .unset, .unset, .unset, .unset, .unset, .unset, .unset, .unset, .unset, .unset, .unset] [(.int p2)]))) (fun _ k => XS.iloadN X0.here hx rfl (hb hby at_6) rfl k) ?_
    refine OGoal.mp (S' := (s₁.setTop (mkF m 9 #[.val (.long p1), .second, .val (.int p2), .unset, .unset, .unset, .unset, .unset, .unset, .unset, .unset, .unset, .unset, .unset, .unset] [(.int (6 : Int32)), (.int p2)]))) (fun _ k => XS.bipush X0.here hx rfl (hb hby at_7) k) ?_
    refine OGoal.mp (S' := (s₁.setTop (mkF m 10 #[.val (.long p1), .second, .val (.int p2), .unset, .unset, .unset, .unset, .unset, .unset, .unset, .unset, .unset, .unset, .unset, .unset] [(.int (p2 &&& (6 : Int32)))]))) (fun _ k => XS.iand X0.here hx rfl (hb hby at_9) rfl k) ?_
    refine OGoal.mp (S' := (s₁.setTop (mkF m 12 #[.val (.long p1), .second, .val (.int p2), .unset, .unset, .unset, .unset, .unset, .unset, .unset, .unset, .unset, .unset, .unset, .unset] [(.int (6 : Int32)), (.int (p2 &&& (6 : Int32)))]))) (fun _ k => XS.bipush X0.here hx rfl (hb hby at_10) k) ?_
    by_cases hc11 : (p2 &&& (6 : Int32)) = (6 : Int32)
    · refine OGoal.mp (S' := (s₁.setTop (mkF m 15 #[.val (.long p1), .second, .val (.int p2), .unset, .unset, .unset, .unset, .unset, .unset, .unset, .unset, .unset, .unset, .unset, .unset] []))) (fun _ k => XS.icmpNo X0.here hx rfl (hb hby at_12) rfl (XT.ii_ne_f hc11) k) ?_
      refine OGoal.mp (S' := (s₁.setTop (mkF m 18 #[.val (.long p1), .second, .val (.int p2), .unset, .unset, .unset, .unset, .unset, .unset, .unset, .unset, .unset, .unset, .unset, .unset] [(.long (2147483648 : Int64))]))) (fun _ k => Stand.ldc2J X0 hx hown (mvT hZ (hw _ (List.mem_of_getElem? (i := 15) rfl))) rfl (hb hby at_15) k) ?_
      refine oCallS (y := (⟨"com/example/rigorous_bisim/rigorousbisim/arith/ModularEchelon", "primeBelow", "(J)J"⟩ : MethodName)) X0 hx hZ hown (hw _ (List.mem_of_getElem? (i := 4) rfl)) (hw _ (List.mem_of_getElem? (i := 5) rfl)) (hw _ (List.mem_of_getElem? (i := 6) rfl)) (hw _ (List.mem_of_getElem? (i := 7) rfl)) (by decide) (rmB l Z a0 hw (2147483648 : Int64) h0 n0 Z0 (by decide) (by decide)) e0 [(.long (2147483648 : Int64))] [] rfl rfl (by rw [hml]; rfl) (lenOf own_pd__J_J rfl) 0 (Nat.le_of_eq rfl) (by decide) (by decide) (by decide) (by decide) (hb hby at_18) ?_
      intro v12 T13 L14 X15 q16
      obtain ⟨rfl, N17, e18⟩ := q16
      have N19 := Fr.app (Fr.nil n0) N17
      show OGoal p e below s _ _ _ (T13.setTop (mkF m 21 #[.val (.long p1), .second, .val (.int p2), .unset, .unset, .unset, .unset, .unset, .unset, .unset, .unset, .unset, .unset, .unset, .unset] [(.long (own_r (2147483648 : Int64)))]))
      refine OGoal.mp (S' := (T13.setTop (mkF m 24 #[.val (.long p1), .second, .val (.int p2), .unset, .unset, .unset, .unset, .unset, .unset, .unset, .unset, .unset, .unset, .unset, .unset] [(.long (2147483647 : Int64)), (.long (own_r (2147483648 : Int64)))]))) (fun _ k => Stand.ldc2J X15 hx hown (mvT hZ (hw _ (List.mem_of_getElem? (i := 16) rfl))) rfl (hb hby at_21) k) ?_
      refine OGoal.mp (S' := (T13.setTop (mkF m 25 #[.val (.long p1), .second, .val (.int p2), .unset, .unset, .unset, .unset, .unset, .unset, .unset, .unset, .unset, .unset, .unset, .unset] [(.int (XT.cmpL (own_r (2147483648 : Int64)) (2147483647 : Int64)))]))) (fun _ k => XT.lcmp X15.here hx rfl (hb hby at_24) rfl k) ?_
      refine OGoal.mp (S' := (T13.setTop (mkF m 28 #[.val (.long p1), .second, .val (.int p2), .unset, .unset, .unset, .unset, .unset, .unset, .unset, .unset, .unset, .unset, .unset, .unset] []))) (fun _ k => XS.ifNo X15.here hx rfl (hb hby at_25) rfl (XT.ll_ne_f own_r31) k) ?_
      refine OGoal.mp (S' := (T13.setTop (mkF m 29 #[.val (.long p1), .second, .val (.int p2), .unset, .unset, .unset, .unset, .unset, .unset, .unset, .unset, .unset, .unset, .unset, .unset] [(.int (1 : Int32))]))) (fun _ k => XS.iconst X15.here hx rfl (hb hby at_28) k) ?_
      refine OGoal.mp (S' := (T13.setTop (mkF m 33 #[.val (.long p1), .second, .val (.int p2), .unset, .unset, .unset, .unset, .unset, .unset, .unset, .unset, .unset, .unset, .unset, .unset] [(.int (1 : Int32))]))) (fun _ k => XS.goto X15.here hx rfl (pc0 := 29) (pc' := 33) rfl (hb hby at_29) (by decide) (by decide) k) ?_
      refine oRetZ X15 hx hlk hret (Or.inr rfl) (hb hby at_33) ?_ (by decide) (by decide)
      exact ⟨rfl, N19⟩
    · refine OGoal.mp (S' := (s₁.setTop (mkF m 34 #[.val (.long p1), .second, .val (.int p2), .unset, .unset, .unset, .unset, .unset, .unset, .unset, .unset, .unset, .unset, .unset, .unset] []))) (fun _ k => XS.icmpYes X0.here hx rfl (pc0 := 12) (pc' := 34) rfl (hb hby at_12) rfl (XT.ii_ne_t hc11) (by decide) (by decide) k) ?_
      refine OGoal.mp (S' := (s₁.setTop (mkF m 37 #[.val (.long p1), .second, .val (.int p2), .unset, .unset, .unset, .unset, .unset, .unset, .unset, .unset, .unset, .unset, .unset, .unset] [(.long (2891462833508853932 : Int64))]))) (fun _ k => Stand.ldc2J X0 hx hown (mvT hZ (hw _ (List.mem_of_getElem? (i := 0) rfl))) rfl (hb hby at_34) k) ?_
      refine OGoal.mp (S' := (s₁.setTop (mkF m 38 #[.val (.long p1), .second, .val (.int p2), .val (.long (2891462833508853932 : Int64)), .second, .unset, .unset, .unset, .unset, .unset, .unset, .unset, .unset, .unset, .unset] []))) (fun _ k => XT.lstoreN X0.here hx rfl (hb hby at_37) rfl (l' := #[.val (.long p1), .second, .val (.int p2), .val (.long (2891462833508853932 : Int64)), .second, .unset, .unset, .unset, .unset, .unset, .unset, .unset, .unset, .unset, .unset]) rfl k) ?_
      refine OGoal.mp (S' := (s₁.setTop (mkF m 41 #[.val (.long p1), .second, .val (.int p2), .val (.long (2891462833508853932 : Int64)), .second, .unset, .unset, .unset, .unset, .unset, .unset, .unset, .unset, .unset, .unset] [(.long (3 : Int64))]))) (fun _ k => Stand.ldc2J X0 hx hown (mvT hZ (hw _ (List.mem_of_getElem? (i := 1) rfl))) rfl (hb hby at_38) k) ?_
      refine OGoal.mp (S' := (s₁.setTop (mkF m 42 #[.val (.long p1), .second, .val (.int p2), .val (.long (2891462833508853932 : Int64)), .second, .unset, .unset, .unset, .unset, .unset, .unset, .unset, .unset, .unset, .unset] [(.long p1), (.long (3 : Int64))]))) (fun _ k => XT.lloadN X0.here hx rfl (hb hby at_41) rfl k) ?_
      refine OGoal.mp (S' := (s₁.setTop (mkF m 45 #[.val (.long p1), .second, .val (.int p2), .val (.long (2891462833508853932 : Int64)), .second, .unset, .unset, .unset, .unset, .unset, .unset, .unset, .unset, .unset, .unset] [(.long (9223372036854775807 : Int64)), (.long p1), (.long (3 : Int64))]))) (fun _ k => Stand.ldc2J X0 hx hown (mvT hZ (hw _ (List.mem_of_getElem? (i := 2) rfl))) rfl (hb hby at_42) k) ?_
      refine OGoal.mp (S' := (s₁.setTop (mkF m 46 #[.val (.long p1), .second, .val (.int p2), .val (.long (2891462833508853932 : Int64)), .second, .unset, .unset, .unset, .unset, .unset, .unset, .unset, .unset, .unset, .unset] [(.long (p1 &&& (9223372036854775807 : Int64))), (.long (3 : Int64))]))) (fun _ k => XT.land X0.here hx rfl (hb hby at_45) rfl k) ?_
      refine OGoal.mp (S' := (s₁.setTop (mkF m 49 #[.val (.long p1), .second, .val (.int p2), .val (.long (2891462833508853932 : Int64)), .second, .unset, .unset, .unset, .unset, .unset, .unset, .unset, .unset, .unset, .unset] [(.long (62 : Int64)), (.long (p1 &&& (9223372036854775807 : Int64))), (.long (3 : Int64))]))) (fun _ k => Stand.ldc2J X0 hx hown (mvT hZ (hw _ (List.mem_of_getElem? (i := 3) rfl))) rfl (hb hby at_46) k) ?_
      refine OGoal.mp (S' := (s₁.setTop (mkF m 50 #[.val (.long p1), .second, .val (.int p2), .val (.long (2891462833508853932 : Int64)), .second, .unset, .unset, .unset, .unset, .unset, .unset, .unset, .unset, .unset, .unset] [(.long ((p1 &&& (9223372036854775807 : Int64)) % (62 : Int64))), (.long (3 : Int64))]))) (fun _ k => oLrem X0 hx rfl (hb hby at_49) rfl (by decide) k) ?_
      refine OGoal.mp (S' := (s₁.setTop (mkF m 51 #[.val (.long p1), .second, .val (.int p2), .val (.long (2891462833508853932 : Int64)), .second, .unset, .unset, .unset, .unset, .unset, .unset, .unset, .unset, .unset, .unset] [(.long ((3 : Int64) + ((p1 &&& (9223372036854775807 : Int64)) % (62 : Int64))))]))) (fun _ k => XT.ladd X0.here hx rfl (hb hby at_50) rfl k) ?_
      refine OGoal.mp (S' := (s₁.setTop (mkF m 53 #[.val (.long p1), .second, .val (.int p2), .val (.long (2891462833508853932 : Int64)), .second, .val (.long ((3 : Int64) + ((p1 &&& (9223372036854775807 : Int64)) % (62 : Int64)))), .second, .unset, .unset, .unset, .unset, .unset, .unset, .unset, .unset] []))) (fun _ k => XT.lstore X0.here hx rfl (hb hby at_51) rfl (l' := #[.val (.long p1), .second, .val (.int p2), .val (.long (2891462833508853932 : Int64)), .second, .val (.long ((3 : Int64) + ((p1 &&& (9223372036854775807 : Int64)) % (62 : Int64)))), .second, .unset, .unset, .unset, .unset, .unset, .unset, .unset, .unset]) rfl k) ?_
      obtain ⟨n20, hn20⟩ : ∃ z, z = ((3 : Int64) + ((p1 &&& (9223372036854775807 : Int64)) % (62 : Int64))) := ⟨_, rfl⟩
      rw [← hn20]
      have hm : (p1 &&& (9223372036854775807 : Int64)).toInt = p1.toInt % 9223372036854775808 := c_maskL p1 9223372036854775807 63 (by decide) (by decide)
      have hr := oRemL (p1 &&& (9223372036854775807 : Int64)) 62 (by omega) (by decide)
      have h62 : (62 : Int64).toInt = 62 := by decide
      rw [h62] at hr
      have hn : n20.toInt = 3 + ((p1 &&& (9223372036854775807 : Int64)) % 62).toInt := by rw [hn20, XT.add64 (by rw [own_i3]; exact ⟨by omega, by omega⟩), own_i3]
      obtain ⟨t1, t2, t3, t4⟩ := own_tail n20 (by omega) (by omega)
      refine OGoal.mp (S' := (s₁.setTop (mkF m 55 #[.val (.long p1), .second, .val (.int p2), .val (.long (2891462833508853932 : Int64)), .second, .val (.long n20), .second, .unset, .unset, .unset, .unset, .unset, .unset, .unset, .unset] [(.long n20)]))) (fun _ k => XT.lload X0.here hx rfl (hb hby at_53) rfl k) ?_
      refine oCallS (y := (⟨"com/example/rigorous_bisim/rigorousbisim/arith/ModularEchelon", "primeBelow", "(J)J"⟩ : MethodName)) X0 hx hZ hown (hw _ (List.mem_of_getElem? (i := 4) rfl)) (hw _ (List.mem_of_getElem? (i := 5) rfl)) (hw _ (List.mem_of_getElem? (i := 6) rfl)) (hw _ (List.mem_of_getElem? (i := 7) rfl)) (by decide) (rmB l Z a0 hw n20 h0 n0 Z0 (by omega) (by omega)) e0 [(.long n20)] [] rfl rfl (by rw [hml]; rfl) (lenOf own_pd__J_J rfl) 0 (Nat.le_of_eq rfl) (by decide) (by decide) (by decide) (by decide) (hb hby at_55) ?_
      intro v21 T22 L23 X24 q25
      obtain ⟨rfl, N26, e27⟩ := q25
      have N28 := Fr.app (Fr.nil n0) N26
      show OGoal p e below s _ _ _ (T22.setTop (mkF m 58 #[.val (.long p1), .second, .val (.int p2), .val (.long (2891462833508853932 : Int64)), .second, .val (.long n20), .second, .unset, .unset, .unset, .unset, .unset, .unset, .unset, .unset] [(.long (own_r n20))]))
      refine OGoal.mp (S' := (T22.setTop (mkF m 60 #[.val (.long p1), .second, .val (.int p2), .val (.long (2891462833508853932 : Int64)), .second, .val (.long n20), .second, .val (.long (own_r n20)), .second, .unset, .unset, .unset, .unset, .unset, .unset] []))) (fun _ k => XT.lstore X24.here hx rfl (hb hby at_58) rfl (l' := #[.val (.long p1), .second, .val (.int p2), .val (.long (2891462833508853932 : Int64)), .second, .val (.long n20), .second, .val (.long (own_r n20)), .second, .unset, .unset, .unset, .unset, .unset, .unset]) rfl k) ?_
      refine OGoal.mp (S' := (T22.setTop (mkF m 62 #[.val (.long p1), .second, .val (.int p2), .val (.long (2891462833508853932 : Int64)), .second, .val (.long n20), .second, .val (.long (own_r n20)), .second, .unset, .unset, .unset, .unset, .unset, .unset] [(.long (own_r n20))]))) (fun _ k => XT.lload X24.here hx rfl (hb hby at_60) rfl k) ?_
      refine OGoal.mp (S' := (T22.setTop (mkF m 65 #[.val (.long p1), .second, .val (.int p2), .val (.long (2891462833508853932 : Int64)), .second, .val (.long n20), .second, .val (.long (own_r n20)), .second, .unset, .unset, .unset, .unset, .unset, .unset] [(.long (2 : Int64)), (.long (own_r n20))]))) (fun _ k => Stand.ldc2J X24 hx hown (mvT hZ (hw _ (List.mem_of_getElem? (i := 14) rfl))) rfl (hb hby at_62) k) ?_
      refine OGoal.mp (S' := (T22.setTop (mkF m 66 #[.val (.long p1), .second, .val (.int p2), .val (.long (2891462833508853932 : Int64)), .second, .val (.long n20), .second, .val (.long (own_r n20)), .second, .unset, .unset, .unset, .unset, .unset, .unset] [(.int (XT.cmpL (own_r n20) (2 : Int64)))]))) (fun _ k => XT.lcmp X24.here hx rfl (hb hby at_65) rfl k) ?_
      refine OGoal.mp (S' := (T22.setTop (mkF m 69 #[.val (.long p1), .second, .val (.int p2), .val (.long (2891462833508853932 : Int64)), .second, .val (.long n20), .second, .val (.long (own_r n20)), .second, .unset, .unset, .unset, .unset, .unset, .unset] []))) (fun _ k => XS.ifNo X24.here hx rfl (hb hby at_66) rfl (XT.ll_lt_f t1) k) ?_
      refine OGoal.mp (S' := (T22.setTop (mkF m 71 #[.val (.long p1), .second, .val (.int p2), .val (.long (2891462833508853932 : Int64)), .second, .val (.long n20), .second, .val (.long (own_r n20)), .second, .unset, .unset, .unset, .unset, .unset, .unset] [(.long (own_r n20))]))) (fun _ k => XT.lload X24.here hx rfl (hb hby at_69) rfl k) ?_
      refine OGoal.mp (S' := (T22.setTop (mkF m 73 #[.val (.long p1), .second, .val (.int p2), .val (.long (2891462833508853932 : Int64)), .second, .val (.long n20), .second, .val (.long (own_r n20)), .second, .unset, .unset, .unset, .unset, .unset, .unset] [(.long n20), (.long (own_r n20))]))) (fun _ k => XT.lload X24.here hx rfl (hb hby at_71) rfl k) ?_
      refine OGoal.mp (S' := (T22.setTop (mkF m 74 #[.val (.long p1), .second, .val (.int p2), .val (.long (2891462833508853932 : Int64)), .second, .val (.long n20), .second, .val (.long (own_r n20)), .second, .unset, .unset, .unset, .unset, .unset, .unset] [(.int (XT.cmpL (own_r n20) n20))]))) (fun _ k => XT.lcmp X24.here hx rfl (hb hby at_73) rfl k) ?_
      refine OGoal.mp (S' := (T22.setTop (mkF m 79 #[.val (.long p1), .second, .val (.int p2), .val (.long (2891462833508853932 : Int64)), .second, .val (.long n20), .second, .val (.long (own_r n20)), .second, .unset, .unset, .unset, .unset, .unset, .unset] []))) (fun _ k => XS.ifYes X24.here hx rfl (pc0 := 74) (pc' := 79) rfl (hb hby at_74) rfl (XT.ll_lt_t t2) (by decide) (by decide) k) ?_
      refine OGoal.mp (S' := (T22.setTop (mkF m 81 #[.val (.long p1), .second, .val (.int p2), .val (.long (2891462833508853932 : Int64)), .second, .val (.long n20), .second, .val (.long (own_r n20)), .second, .unset, .unset, .unset, .unset, .unset, .unset] [(.long (own_r n20))]))) (fun _ k => XT.lload X24.here hx rfl (hb hby at_79) rfl k) ?_
      refine OGoal.mp (S' := (T22.setTop (mkF m 82 #[.val (.long p1), .second, .val (.int p2), .val (.long (2891462833508853932 : Int64)), .second, .val (.long n20), .second, .val (.long (own_r n20)), .second, .unset, .unset, .unset, .unset, .unset, .unset] [(.int (((own_r n20)).toInt32))]))) (fun _ k => XT.l2i X24.here hx rfl (hb hby at_81) rfl k) ?_
      refine OGoal.mp (S' := (T22.setTop (mkF m 84 #[.val (.long p1), .second, .val (.int p2), .val (.long (2891462833508853932 : Int64)), .second, .val (.long n20), .second, .val (.long (own_r n20)), .second, .val (.int (((own_r n20)).toInt32)), .unset, .unset, .unset, .unset, .unset] []))) (fun _ k => XS.istore X24.here hx rfl (hb hby at_82) rfl (l' := #[.val (.long p1), .second, .val (.int p2), .val (.long (2891462833508853932 : Int64)), .second, .val (.long n20), .second, .val (.long (own_r n20)), .second, .val (.int (((own_r n20)).toInt32)), .unset, .unset, .unset, .unset, .unset]) rfl k) ?_
      refine OGoal.mp (S' := (T22.setTop (mkF m 86 #[.val (.long p1), .second, .val (.int p2), .val (.long (2891462833508853932 : Int64)), .second, .val (.long n20), .second, .val (.long (own_r n20)), .second, .val (.int (((own_r n20)).toInt32)), .unset, .unset, .unset, .unset, .unset] [(.long n20)]))) (fun _ k => XT.lload X24.here hx rfl (hb hby at_84) rfl k) ?_
      refine OGoal.mp (S' := (T22.setTop (mkF m 87 #[.val (.long p1), .second, .val (.int p2), .val (.long (2891462833508853932 : Int64)), .second, .val (.long n20), .second, .val (.long (own_r n20)), .second, .val (.int (((own_r n20)).toInt32)), .unset, .unset, .unset, .unset, .unset] [(.int ((n20).toInt32))]))) (fun _ k => XT.l2i X24.here hx rfl (hb hby at_86) rfl k) ?_
      refine OGoal.mp (S' := (T22.setTop (mkF m 89 #[.val (.long p1), .second, .val (.int p2), .val (.long (2891462833508853932 : Int64)), .second, .val (.long n20), .second, .val (.long (own_r n20)), .second, .val (.int (((own_r n20)).toInt32)), .val (.int ((n20).toInt32)), .unset, .unset, .unset, .unset] []))) (fun _ k => XS.istore X24.here hx rfl (hb hby at_87) rfl (l' := #[.val (.long p1), .second, .val (.int p2), .val (.long (2891462833508853932 : Int64)), .second, .val (.long n20), .second, .val (.long (own_r n20)), .second, .val (.int (((own_r n20)).toInt32)), .val (.int ((n20).toInt32)), .unset, .unset, .unset, .unset]) rfl k) ?_
      refine OGoal.mp (S' := (T22.setTop (mkF m 90 #[.val (.long p1), .second, .val (.int p2), .val (.long (2891462833508853932 : Int64)), .second, .val (.long n20), .second, .val (.long (own_r n20)), .second, .val (.int (((own_r n20)).toInt32)), .val (.int ((n20).toInt32)), .unset, .unset, .unset, .unset] [(.long (2891462833508853932 : Int64))]))) (fun _ k => XT.lloadN X24.here hx rfl (hb hby at_89) rfl k) ?_
      refine OGoal.mp (S' := (T22.setTop (mkF m 92 #[.val (.long p1), .second, .val (.int p2), .val (.long (2891462833508853932 : Int64)), .second, .val (.long n20), .second, .val (.long (own_r n20)), .second, .val (.int (((own_r n20)).toInt32)), .val (.int ((n20).toInt32)), .unset, .unset, .unset, .unset] [(.int (((own_r n20)).toInt32)), (.long (2891462833508853932 : Int64))]))) (fun _ k => XS.iload X24.here hx rfl (hb hby at_90) rfl k) ?_
      refine OGoal.mp (S' := (T22.setTop (mkF m 93 #[.val (.long p1), .second, .val (.int p2), .val (.long (2891462833508853932 : Int64)), .second, .val (.long n20), .second, .val (.long (own_r n20)), .second, .val (.int (((own_r n20)).toInt32)), .val (.int ((n20).toInt32)), .unset, .unset, .unset, .unset] [(.long (XT.ushrL (2891462833508853932 : Int64) (((own_r n20)).toInt32)))]))) (fun _ k => XT.lushr X24.here hx rfl (hb hby at_92) rfl k) ?_
      refine OGoal.mp (S' := (T22.setTop (mkF m 94 #[.val (.long p1), .second, .val (.int p2), .val (.long (2891462833508853932 : Int64)), .second, .val (.long n20), .second, .val (.long (own_r n20)), .second, .val (.int (((own_r n20)).toInt32)), .val (.int ((n20).toInt32)), .unset, .unset, .unset, .unset] [(.long (1 : Int64)), (.long (XT.ushrL (2891462833508853932 : Int64) (((own_r n20)).toInt32)))]))) (fun _ k => XT.lconst X24.here hx rfl (hb hby at_93) k) ?_
      refine OGoal.mp (S' := (T22.setTop (mkF m 95 #[.val (.long p1), .second, .val (.int p2), .val (.long (2891462833508853932 : Int64)), .second, .val (.long n20), .second, .val (.long (own_r n20)), .second, .val (.int (((own_r n20)).toInt32)), .val (.int ((n20).toInt32)), .unset, .unset, .unset, .unset] [(.long ((XT.ushrL (2891462833508853932 : Int64) (((own_r n20)).toInt32)) &&& (1 : Int64)))]))) (fun _ k => XT.land X24.here hx rfl (hb hby at_94) rfl k) ?_
      refine OGoal.mp (S' := (T22.setTop (mkF m 96 #[.val (.long p1), .second, .val (.int p2), .val (.long (2891462833508853932 : Int64)), .second, .val (.long n20), .second, .val (.long (own_r n20)), .second, .val (.int (((own_r n20)).toInt32)), .val (.int ((n20).toInt32)), .unset, .unset, .unset, .unset] [(.long (0 : Int64)), (.long ((XT.ushrL (2891462833508853932 : Int64) (((own_r n20)).toInt32)) &&& (1 : Int64)))]))) (fun _ k => XT.lconst X24.here hx rfl (hb hby at_95) k) ?_
      refine OGoal.mp (S' := (T22.setTop (mkF m 97 #[.val (.long p1), .second, .val (.int p2), .val (.long (2891462833508853932 : Int64)), .second, .val (.long n20), .second, .val (.long (own_r n20)), .second, .val (.int (((own_r n20)).toInt32)), .val (.int ((n20).toInt32)), .unset, .unset, .unset, .unset] [(.int (XT.cmpL ((XT.ushrL (2891462833508853932 : Int64) (((own_r n20)).toInt32)) &&& (1 : Int64)) (0 : Int64)))]))) (fun _ k => XT.lcmp X24.here hx rfl (hb hby at_96) rfl k) ?_
      refine OGoal.mp (S' := (T22.setTop (mkF m 100 #[.val (.long p1), .second, .val (.int p2), .val (.long (2891462833508853932 : Int64)), .second, .val (.long n20), .second, .val (.long (own_r n20)), .second, .val (.int (((own_r n20)).toInt32)), .val (.int ((n20).toInt32)), .unset, .unset, .unset, .unset] []))) (fun _ k => XS.ifNo X24.here hx rfl (hb hby at_97) rfl (XT.ll_eq_f t3) k) ?_
      refine OGoal.mp (S' := (T22.setTop (mkF m 101 #[.val (.long p1), .second, .val (.int p2), .val (.long (2891462833508853932 : Int64)), .second, .val (.long n20), .second, .val (.long (own_r n20)), .second, .val (.int (((own_r n20)).toInt32)), .val (.int ((n20).toInt32)), .unset, .unset, .unset, .unset] [(.int (1 : Int32))]))) (fun _ k => XS.iconst X24.here hx rfl (hb hby at_100) k) ?_
      refine OGoal.mp (S' := (T22.setTop (mkF m 105 #[.val (.long p1), .second, .val (.int p2), .val (.long (2891462833508853932 : Int64)), .second, .val (.long n20), .second, .val (.long (own_r n20)), .second, .val (.int (((own_r n20)).toInt32)), .val (.int ((n20).toInt32)), .unset, .unset, .unset, .unset] [(.int (1 : Int32))]))) (fun _ k => XS.goto X24.here hx rfl (pc0 := 101) (pc' := 105) rfl (hb hby at_101) (by decide) (by decide) k) ?_
      refine OGoal.mp (S' := (T22.setTop (mkF m 107 #[.val (.long p1), .second, .val (.int p2), .val (.long (2891462833508853932 : Int64)), .second, .val (.long n20), .second, .val (.long (own_r n20)), .second, .val (.int (((own_r n20)).toInt32)), .val (.int ((n20).toInt32)), .val (.int (1 : Int32)), .unset, .unset, .unset] []))) (fun _ k => XS.istore X24.here hx rfl (hb hby at_105) rfl (l' := #[.val (.long p1), .second, .val (.int p2), .val (.long (2891462833508853932 : Int64)), .second, .val (.long n20), .second, .val (.long (own_r n20)), .second, .val (.int (((own_r n20)).toInt32)), .val (.int ((n20).toInt32)), .val (.int (1 : Int32)), .unset, .unset, .unset]) rfl k) ?_
      refine OGoal.mp (S' := (T22.setTop (mkF m 109 #[.val (.long p1), .second, .val (.int p2), .val (.long (2891462833508853932 : Int64)), .second, .val (.long n20), .second, .val (.long (own_r n20)), .second, .val (.int (((own_r n20)).toInt32)), .val (.int ((n20).toInt32)), .val (.int (1 : Int32)), .unset, .unset, .unset] [(.int (1 : Int32))]))) (fun _ k => XS.iload X24.here hx rfl (hb hby at_107) rfl k) ?_
      refine OGoal.mp (S' := (T22.setTop (mkF m 114 #[.val (.long p1), .second, .val (.int p2), .val (.long (2891462833508853932 : Int64)), .second, .val (.long n20), .second, .val (.long (own_r n20)), .second, .val (.int (((own_r n20)).toInt32)), .val (.int ((n20).toInt32)), .val (.int (1 : Int32)), .unset, .unset, .unset] []))) (fun _ k => XS.ifYes X24.here hx rfl (pc0 := 109) (pc' := 114) rfl (hb hby at_109) rfl (XT.i0_ne_t (by decide)) (by decide) (by decide) k) ?_
      refine OGoal.mp (S' := (T22.setTop (mkF m 116 #[.val (.long p1), .second, .val (.int p2), .val (.long (2891462833508853932 : Int64)), .second, .val (.long n20), .second, .val (.long (own_r n20)), .second, .val (.int (((own_r n20)).toInt32)), .val (.int ((n20).toInt32)), .val (.int (1 : Int32)), .unset, .unset, .unset] [(.int ((n20).toInt32))]))) (fun _ k => XS.iload X24.here hx rfl (hb hby at_114) rfl k) ?_
      refine OGoal.mp (S' := (T22.setTop (mkF m 118 #[.val (.long p1), .second, .val (.int p2), .val (.long (2891462833508853932 : Int64)), .second, .val (.long n20), .second, .val (.long (own_r n20)), .second, .val (.int (((own_r n20)).toInt32)), .val (.int ((n20).toInt32)), .val (.int (1 : Int32)), .unset, .unset, .unset] [(.int (((own_r n20)).toInt32)), (.int ((n20).toInt32))]))) (fun _ k => XS.iload X24.here hx rfl (hb hby at_116) rfl k) ?_
      refine OGoal.mp (S' := (T22.setTop (mkF m 119 #[.val (.long p1), .second, .val (.int p2), .val (.long (2891462833508853932 : Int64)), .second, .val (.long n20), .second, .val (.long (own_r n20)), .second, .val (.int (((own_r n20)).toInt32)), .val (.int ((n20).toInt32)), .val (.int (1 : Int32)), .unset, .unset, .unset] [(.int (((n20).toInt32) - (((own_r n20)).toInt32)))]))) (fun _ k => XS.isub X24.here hx rfl (hb hby at_118) rfl k) ?_
      refine OGoal.mp (S' := (T22.setTop (mkF m 120 #[.val (.long p1), .second, .val (.int p2), .val (.long (2891462833508853932 : Int64)), .second, .val (.long n20), .second, .val (.long (own_r n20)), .second, .val (.int (((own_r n20)).toInt32)), .val (.int ((n20).toInt32)), .val (.int (1 : Int32)), .unset, .unset, .unset] [(.int (1 : Int32)), (.int (((n20).toInt32) - (((own_r n20)).toInt32)))]))) (fun _ k => XS.iconst X24.here hx rfl (hb hby at_119) k) ?_
      refine OGoal.mp (S' := (T22.setTop (mkF m 121 #[.val (.long p1), .second, .val (.int p2), .val (.long (2891462833508853932 : Int64)), .second, .val (.long n20), .second, .val (.long (own_r n20)), .second, .val (.int (((own_r n20)).toInt32)), .val (.int ((n20).toInt32)), .val (.int (1 : Int32)), .unset, .unset, .unset] [(.int ((((n20).toInt32) - (((own_r n20)).toInt32)) - (1 : Int32)))]))) (fun _ k => XS.isub X24.here hx rfl (hb hby at_120) rfl k) ?_
      refine OGoal.mp (S' := (T22.setTop (mkF m 123 #[.val (.long p1), .second, .val (.int p2), .val (.long (2891462833508853932 : Int64)), .second, .val (.long n20), .second, .val (.long (own_r n20)), .second, .val (.int (((own_r n20)).toInt32)), .val (.int ((n20).toInt32)), .val (.int (1 : Int32)), .val (.int ((((n20).toInt32) - (((own_r n20)).toInt32)) - (1 : Int32))), .unset, .unset] []))) (fun _ k => XS.istore X24.here hx rfl (hb hby at_121) rfl (l' := #[.val (.long p1), .second, .val (.int p2), .val (.long (2891462833508853932 : Int64)), .second, .val (.long n20), .second, .val (.long (own_r n20)), .second, .val (.int (((own_r n20)).toInt32)), .val (.int ((n20).toInt32)), .val (.int (1 : Int32)), .val (.int ((((n20).toInt32) - (((own_r n20)).toInt32)) - (1 : Int32))), .unset, .unset]) rfl k) ?_
      refine OGoal.mp (S' := (T22.setTop (mkF m 124 #[.val (.long p1), .second, .val (.int p2), .val (.long (2891462833508853932 : Int64)), .second, .val (.long n20), .second, .val (.long (own_r n20)), .second, .val (.int (((own_r n20)).toInt32)), .val (.int ((n20).toInt32)), .val (.int (1 : Int32)), .val (.int ((((n20).toInt32) - (((own_r n20)).toInt32)) - (1 : Int32))), .unset, .unset] [(.long (2891462833508853932 : Int64))]))) (fun _ k => XT.lloadN X24.here hx rfl (hb hby at_123) rfl k) ?_
      refine OGoal.mp (S' := (T22.setTop (mkF m 126 #[.val (.long p1), .second, .val (.int p2), .val (.long (2891462833508853932 : Int64)), .second, .val (.long n20), .second, .val (.long (own_r n20)), .second, .val (.int (((own_r n20)).toInt32)), .val (.int ((n20).toInt32)), .val (.int (1 : Int32)), .val (.int ((((n20).toInt32) - (((own_r n20)).toInt32)) - (1 : Int32))), .unset, .unset] [(.int (((own_r n20)).toInt32)), (.long (2891462833508853932 : Int64))]))) (fun _ k => XS.iload X24.here hx rfl (hb hby at_124) rfl k) ?_
      refine OGoal.mp (S' := (T22.setTop (mkF m 127 #[.val (.long p1), .second, .val (.int p2), .val (.long (2891462833508853932 : Int64)), .second, .val (.long n20), .second, .val (.long (own_r n20)), .second, .val (.int (((own_r n20)).toInt32)), .val (.int ((n20).toInt32)), .val (.int (1 : Int32)), .val (.int ((((n20).toInt32) - (((own_r n20)).toInt32)) - (1 : Int32))), .unset, .unset] [(.int (1 : Int32)), (.int (((own_r n20)).toInt32)), (.long (2891462833508853932 : Int64))]))) (fun _ k => XS.iconst X24.here hx rfl (hb hby at_126) k) ?_
      refine OGoal.mp (S' := (T22.setTop (mkF m 128 #[.val (.long p1), .second, .val (.int p2), .val (.long (2891462833508853932 : Int64)), .second, .val (.long n20), .second, .val (.long (own_r n20)), .second, .val (.int (((own_r n20)).toInt32)), .val (.int ((n20).toInt32)), .val (.int (1 : Int32)), .val (.int ((((n20).toInt32) - (((own_r n20)).toInt32)) - (1 : Int32))), .unset, .unset] [(.int ((((own_r n20)).toInt32) + (1 : Int32))), (.long (2891462833508853932 : Int64))]))) (fun _ k => XS.iadd X24.here hx rfl (hb hby at_127) rfl k) ?_
      refine OGoal.mp (S' := (T22.setTop (mkF m 129 #[.val (.long p1), .second, .val (.int p2), .val (.long (2891462833508853932 : Int64)), .second, .val (.long n20), .second, .val (.long (own_r n20)), .second, .val (.int (((own_r n20)).toInt32)), .val (.int ((n20).toInt32)), .val (.int (1 : Int32)), .val (.int ((((n20).toInt32) - (((own_r n20)).toInt32)) - (1 : Int32))), .unset, .unset] [(.long (XT.ushrL (2891462833508853932 : Int64) ((((own_r n20)).toInt32) + (1 : Int32))))]))) (fun _ k => XT.lushr X24.here hx rfl (hb hby at_128) rfl k) ?_
      refine OGoal.mp (S' := (T22.setTop (mkF m 130 #[.val (.long p1), .second, .val (.int p2), .val (.long (2891462833508853932 : Int64)), .second, .val (.long n20), .second, .val (.long (own_r n20)), .second, .val (.int (((own_r n20)).toInt32)), .val (.int ((n20).toInt32)), .val (.int (1 : Int32)), .val (.int ((((n20).toInt32) - (((own_r n20)).toInt32)) - (1 : Int32))), .unset, .unset] [(.long (1 : Int64)), (.long (XT.ushrL (2891462833508853932 : Int64) ((((own_r n20)).toInt32) + (1 : Int32))))]))) (fun _ k => XT.lconst X24.here hx rfl (hb hby at_129) k) ?_
      refine OGoal.mp (S' := (T22.setTop (mkF m 132 #[.val (.long p1), .second, .val (.int p2), .val (.long (2891462833508853932 : Int64)), .second, .val (.long n20), .second, .val (.long (own_r n20)), .second, .val (.int (((own_r n20)).toInt32)), .val (.int ((n20).toInt32)), .val (.int (1 : Int32)), .val (.int ((((n20).toInt32) - (((own_r n20)).toInt32)) - (1 : Int32))), .unset, .unset] [(.int ((((n20).toInt32) - (((own_r n20)).toInt32)) - (1 : Int32))), (.long (1 : Int64)), (.long (XT.ushrL (2891462833508853932 : Int64) ((((own_r n20)).toInt32) + (1 : Int32))))]))) (fun _ k => XS.iload X24.here hx rfl (hb hby at_130) rfl k) ?_
      refine OGoal.mp (S' := (T22.setTop (mkF m 133 #[.val (.long p1), .second, .val (.int p2), .val (.long (2891462833508853932 : Int64)), .second, .val (.long n20), .second, .val (.long (own_r n20)), .second, .val (.int (((own_r n20)).toInt32)), .val (.int ((n20).toInt32)), .val (.int (1 : Int32)), .val (.int ((((n20).toInt32) - (((own_r n20)).toInt32)) - (1 : Int32))), .unset, .unset] [(.long ((1 : Int64) <<< (Int32.toInt64 ((((n20).toInt32) - (((own_r n20)).toInt32)) - (1 : Int32)) &&& 63))), (.long (XT.ushrL (2891462833508853932 : Int64) ((((own_r n20)).toInt32) + (1 : Int32))))]))) (fun _ k => XT.lshl X24.here hx rfl (hb hby at_132) rfl k) ?_
      refine OGoal.mp (S' := (T22.setTop (mkF m 134 #[.val (.long p1), .second, .val (.int p2), .val (.long (2891462833508853932 : Int64)), .second, .val (.long n20), .second, .val (.long (own_r n20)), .second, .val (.int (((own_r n20)).toInt32)), .val (.int ((n20).toInt32)), .val (.int (1 : Int32)), .val (.int ((((n20).toInt32) - (((own_r n20)).toInt32)) - (1 : Int32))), .unset, .unset] [(.long (1 : Int64)), (.long ((1 : Int64) <<< (Int32.toInt64 ((((n20).toInt32) - (((own_r n20)).toInt32)) - (1 : Int32)) &&& 63))), (.long (XT.ushrL (2891462833508853932 : Int64) ((((own_r n20)).toInt32) + (1 : Int32))))]))) (fun _ k => XT.lconst X24.here hx rfl (hb hby at_133) k) ?_
      refine OGoal.mp (S' := (T22.setTop (mkF m 135 #[.val (.long p1), .second, .val (.int p2), .val (.long (2891462833508853932 : Int64)), .second, .val (.long n20), .second, .val (.long (own_r n20)), .second, .val (.int (((own_r n20)).toInt32)), .val (.int ((n20).toInt32)), .val (.int (1 : Int32)), .val (.int ((((n20).toInt32) - (((own_r n20)).toInt32)) - (1 : Int32))), .unset, .unset] [(.long (((1 : Int64) <<< (Int32.toInt64 ((((n20).toInt32) - (((own_r n20)).toInt32)) - (1 : Int32)) &&& 63)) - (1 : Int64))), (.long (XT.ushrL (2891462833508853932 : Int64) ((((own_r n20)).toInt32) + (1 : Int32))))]))) (fun _ k => XT.lsub X24.here hx rfl (hb hby at_134) rfl k) ?_
      refine OGoal.mp (S' := (T22.setTop (mkF m 136 #[.val (.long p1), .second, .val (.int p2), .val (.long (2891462833508853932 : Int64)), .second, .val (.long n20), .second, .val (.long (own_r n20)), .second, .val (.int (((own_r n20)).toInt32)), .val (.int ((n20).toInt32)), .val (.int (1 : Int32)), .val (.int ((((n20).toInt32) - (((own_r n20)).toInt32)) - (1 : Int32))), .unset, .unset] [(.long ((XT.ushrL (2891462833508853932 : Int64) ((((own_r n20)).toInt32) + (1 : Int32))) &&& (((1 : Int64) <<< (Int32.toInt64 ((((n20).toInt32) - (((own_r n20)).toInt32)) - (1 : Int32)) &&& 63)) - (1 : Int64))))]))) (fun _ k => XT.land X24.here hx rfl (hb hby at_135) rfl k) ?_
      refine OGoal.mp (S' := (T22.setTop (mkF m 138 #[.val (.long p1), .second, .val (.int p2), .val (.long (2891462833508853932 : Int64)), .second, .val (.long n20), .second, .val (.long (own_r n20)), .second, .val (.int (((own_r n20)).toInt32)), .val (.int ((n20).toInt32)), .val (.int (1 : Int32)), .val (.int ((((n20).toInt32) - (((own_r n20)).toInt32)) - (1 : Int32))), .val (.long ((XT.ushrL (2891462833508853932 : Int64) ((((own_r n20)).toInt32) + (1 : Int32))) &&& (((1 : Int64) <<< (Int32.toInt64 ((((n20).toInt32) - (((own_r n20)).toInt32)) - (1 : Int32)) &&& 63)) - (1 : Int64)))), .second] []))) (fun _ k => XT.lstore X24.here hx rfl (hb hby at_136) rfl (l' := #[.val (.long p1), .second, .val (.int p2), .val (.long (2891462833508853932 : Int64)), .second, .val (.long n20), .second, .val (.long (own_r n20)), .second, .val (.int (((own_r n20)).toInt32)), .val (.int ((n20).toInt32)), .val (.int (1 : Int32)), .val (.int ((((n20).toInt32) - (((own_r n20)).toInt32)) - (1 : Int32))), .val (.long ((XT.ushrL (2891462833508853932 : Int64) ((((own_r n20)).toInt32) + (1 : Int32))) &&& (((1 : Int64) <<< (Int32.toInt64 ((((n20).toInt32) - (((own_r n20)).toInt32)) - (1 : Int32)) &&& 63)) - (1 : Int64)))), .second]) rfl k) ?_
      refine OGoal.mp (S' := (T22.setTop (mkF m 140 #[.val (.long p1), .second, .val (.int p2), .val (.long (2891462833508853932 : Int64)), .second, .val (.long n20), .second, .val (.long (own_r n20)), .second, .val (.int (((own_r n20)).toInt32)), .val (.int ((n20).toInt32)), .val (.int (1 : Int32)), .val (.int ((((n20).toInt32) - (((own_r n20)).toInt32)) - (1 : Int32))), .val (.long ((XT.ushrL (2891462833508853932 : Int64) ((((own_r n20)).toInt32) + (1 : Int32))) &&& (((1 : Int64) <<< (Int32.toInt64 ((((n20).toInt32) - (((own_r n20)).toInt32)) - (1 : Int32)) &&& 63)) - (1 : Int64)))), .second] [(.long ((XT.ushrL (2891462833508853932 : Int64) ((((own_r n20)).toInt32) + (1 : Int32))) &&& (((1 : Int64) <<< (Int32.toInt64 ((((n20).toInt32) - (((own_r n20)).toInt32)) - (1 : Int32)) &&& 63)) - (1 : Int64))))]))) (fun _ k => XT.lload X24.here hx rfl (hb hby at_138) rfl k) ?_
      refine OGoal.mp (S' := (T22.setTop (mkF m 141 #[.val (.long p1), .second, .val (.int p2), .val (.long (2891462833508853932 : Int64)), .second, .val (.long n20), .second, .val (.long (own_r n20)), .second, .val (.int (((own_r n20)).toInt32)), .val (.int ((n20).toInt32)), .val (.int (1 : Int32)), .val (.int ((((n20).toInt32) - (((own_r n20)).toInt32)) - (1 : Int32))), .val (.long ((XT.ushrL (2891462833508853932 : Int64) ((((own_r n20)).toInt32) + (1 : Int32))) &&& (((1 : Int64) <<< (Int32.toInt64 ((((n20).toInt32) - (((own_r n20)).toInt32)) - (1 : Int32)) &&& 63)) - (1 : Int64)))), .second] [(.long (0 : Int64)), (.long ((XT.ushrL (2891462833508853932 : Int64) ((((own_r n20)).toInt32) + (1 : Int32))) &&& (((1 : Int64) <<< (Int32.toInt64 ((((n20).toInt32) - (((own_r n20)).toInt32)) - (1 : Int32)) &&& 63)) - (1 : Int64))))]))) (fun _ k => XT.lconst X24.here hx rfl (hb hby at_140) k) ?_
      refine OGoal.mp (S' := (T22.setTop (mkF m 142 #[.val (.long p1), .second, .val (.int p2), .val (.long (2891462833508853932 : Int64)), .second, .val (.long n20), .second, .val (.long (own_r n20)), .second, .val (.int (((own_r n20)).toInt32)), .val (.int ((n20).toInt32)), .val (.int (1 : Int32)), .val (.int ((((n20).toInt32) - (((own_r n20)).toInt32)) - (1 : Int32))), .val (.long ((XT.ushrL (2891462833508853932 : Int64) ((((own_r n20)).toInt32) + (1 : Int32))) &&& (((1 : Int64) <<< (Int32.toInt64 ((((n20).toInt32) - (((own_r n20)).toInt32)) - (1 : Int32)) &&& 63)) - (1 : Int64)))), .second] [(.int (XT.cmpL ((XT.ushrL (2891462833508853932 : Int64) ((((own_r n20)).toInt32) + (1 : Int32))) &&& (((1 : Int64) <<< (Int32.toInt64 ((((n20).toInt32) - (((own_r n20)).toInt32)) - (1 : Int32)) &&& 63)) - (1 : Int64))) (0 : Int64)))]))) (fun _ k => XT.lcmp X24.here hx rfl (hb hby at_141) rfl k) ?_
      refine OGoal.mp (S' := (T22.setTop (mkF m 145 #[.val (.long p1), .second, .val (.int p2), .val (.long (2891462833508853932 : Int64)), .second, .val (.long n20), .second, .val (.long (own_r n20)), .second, .val (.int (((own_r n20)).toInt32)), .val (.int ((n20).toInt32)), .val (.int (1 : Int32)), .val (.int ((((n20).toInt32) - (((own_r n20)).toInt32)) - (1 : Int32))), .val (.long ((XT.ushrL (2891462833508853932 : Int64) ((((own_r n20)).toInt32) + (1 : Int32))) &&& (((1 : Int64) <<< (Int32.toInt64 ((((n20).toInt32) - (((own_r n20)).toInt32)) - (1 : Int32)) &&& 63)) - (1 : Int64)))), .second] []))) (fun _ k => XS.ifNo X24.here hx rfl (hb hby at_142) rfl (XT.ll_ne_f t4) k) ?_
      refine OGoal.mp (S' := (T22.setTop (mkF m 146 #[.val (.long p1), .second, .val (.int p2), .val (.long (2891462833508853932 : Int64)), .second, .val (.long n20), .second, .val (.long (own_r n20)), .second, .val (.int (((own_r n20)).toInt32)), .val (.int ((n20).toInt32)), .val (.int (1 : Int32)), .val (.int ((((n20).toInt32) - (((own_r n20)).toInt32)) - (1 : Int32))), .val (.long ((XT.ushrL (2891462833508853932 : Int64) ((((own_r n20)).toInt32) + (1 : Int32))) &&& (((1 : Int64) <<< (Int32.toInt64 ((((n20).toInt32) - (((own_r n20)).toInt32)) - (1 : Int32)) &&& 63)) - (1 : Int64)))), .second] [(.int (1 : Int32))]))) (fun _ k => XS.iconst X24.here hx rfl (hb hby at_145) k) ?_
      refine OGoal.mp (S' := (T22.setTop (mkF m 150 #[.val (.long p1), .second, .val (.int p2), .val (.long (2891462833508853932 : Int64)), .second, .val (.long n20), .second, .val (.long (own_r n20)), .second, .val (.int (((own_r n20)).toInt32)), .val (.int ((n20).toInt32)), .val (.int (1 : Int32)), .val (.int ((((n20).toInt32) - (((own_r n20)).toInt32)) - (1 : Int32))), .val (.long ((XT.ushrL (2891462833508853932 : Int64) ((((own_r n20)).toInt32) + (1 : Int32))) &&& (((1 : Int64) <<< (Int32.toInt64 ((((n20).toInt32) - (((own_r n20)).toInt32)) - (1 : Int32)) &&& 63)) - (1 : Int64)))), .second] [(.int (1 : Int32))]))) (fun _ k => XS.goto X24.here hx rfl (pc0 := 146) (pc' := 150) rfl (hb hby at_146) (by decide) (by decide) k) ?_
      refine oRetZ X24 hx hlk hret (Or.inr rfl) (hb hby at_150) ?_ (by decide) (by decide)
      exact ⟨rfl, N28⟩
set_option maxRecDepth 65536 in
set_option maxHeartbeats 40000000 in
theorem comes_1 {Post : Tables → Env → Array Value → State → Outcome → State → Prop} (hpost : ∀ tb e args s v u, (limb_1_1.after args s (.returned v) u = true ∧ limb_1_2.after args s (.returned v) u = true ∧ True) → FrameEnd s (.returned v) u (Jvm.fieldLocs frame_1_writes args s ++ Jvm.arrayLocs frame_1_arrays args s ++ Jvm.staticLocs frame_1_statics s) 0 0 → Post tb e args s (.returned v) u) :
    ArmFor flags0 classFile x code maxLocals ret World_1 tables_1 room_1 Calls_1 rest_1 Pre_1 Post := by
  intro l hfl _ _ p e ha hc hk s m args below hf hA hF happ hP
  obtain ⟨hcalls, hrest, hpre⟩ := hP
  obtain ⟨-, -, -, hnamed, -, -, -, hat⟩ := (Spec.applies_iff hf).mp happ
  obtain ⟨hg, hn⟩ := and_e (Cond.before_iff.mp (show (Jvm.Cond.and given_1 narrow_1).before args s = true from hpre))
  obtain ⟨hcnt, hg⟩ := and_e hg
  obtain ⟨w0, w1, rfl⟩ : ∃ w0 w1 : Value, args = #[w0, w1] := by
    have hs : args.size = 2 := by simpa [Cond.value, given_1] using hcnt
    obtain ⟨L⟩ := args
    match L, hs with
    | [w0, w1], _ => exact ⟨w0, w1, rfl⟩
  have hw := fun d (hd : d ∈ tables_1) => atoms_spec (ws := Jvm.Cond.code x code maxLocals ret :: tables_1) hat d (List.mem_cons_of_mem _ hd)
  have hfit : Fit s := fun {y c} hc i hi => by
    obtain ⟨ha, rfl⟩ := Array.getElem?_eq_some_iff.mp hc
    have q := List.all_eq_true.mp ((Array.all_eq_true_iff_forall_mem.mp hF) _ (Array.getElem_mem ha)) i (List.mem_range.mpr hi)
    simpa [Array.getElem?_eq_getElem hi] using q
  obtain ⟨hg0, hg⟩ := and_e hg
  obtain ⟨i0, ei0⟩ := isL_v hg0
  obtain rfl : w0 = (.long i0) := Option.some.inj ei0
  obtain ⟨i1, ei1⟩ := is_v hg
  obtain rfl : w1 = (.int i1) := Option.some.inj ei1
  obtain ⟨n, o, h1, h2, h3, _, L, rfl, ⟨rfl, N⟩, hq⟩ := rm0 l s _ hw i0 i1 s.heap s.heap.size (Nat.le_refl _)  tables_1 p e ha hc hk s m _ below hf ((Spec.applies_iff_loose hf).mp happ).1 ⟨rfl, State.Warmed39.refl s, rfl⟩ trivial
  refine ⟨n, _, h1, h2, h3, hpost _ _ _ _ _ _ ⟨Cond.after_iff.mpr rfl, Cond.after_iff.mpr (eq_i res_at (Term.int_eval (1)) rfl), trivial⟩ ⟨hq.1, hq.2.1, (hq.2.2.sift fun y hy => Or.inr (N y hy)).mono (by decide) (by decide)⟩⟩
theorem main_1_1 : Claimed_1_1 := comes_1 fun _ _ _ _ _ _ h hF => ⟨h.1, hF⟩
theorem main_1_2 : Claimed_1_2 := comes_1 fun _ _ _ _ _ _ h hF => ⟨h.2.1, hF⟩
end Jvm.Pilot.@@N@@
namespace Jvm.Pilot.@@N@@
open Jvm Jvm.ClassFile Sem Op Lib Jvm.Free Jvm.Stand Jvm.Pilot.@@N@@.Jvm.D
/-! MADE BY PROGRAM (witnessworld.py) out of the Statement's table words and the real class files: 9 classes; the members and pool entries that the words name. The judged class is class 1, her method 1. -/
namespace start1
open Jvm.ClassFile
def u (s : String) : CpInfo := .utf8 (stringToUtf16 s)
/-- a pool by its gaps: so many unusable entries, then the entry; so many at the end -/
def gap : Nat → List CpInfo → List CpInfo
  | 0, r => r
  | n + 1, r => .unusable :: gap n r
def poolList (es : List (Nat × CpInfo)) (last : Nat) : List CpInfo := es.foldr (fun e r => gap e.1 (e.2 :: r)) (gap last [])
def pool (es : List (Nat × CpInfo)) (last : Nat) : Array CpInfo := ⟨poolList es last⟩
def fileOf (pool : Array CpInfo) (this : Nat) (attrs : Array Attribute := #[]) (ms : Array MethodInfo := #[]) (fl : Nat := 33) (sup : Nat := 0) (ifs : Array Nat := #[]) (fds : Array FieldInfo := #[]) : ClassFile where
  minorVersion := 0
  majorVersion := 65
  constantPool := pool
  accessFlags := fl
  thisClass := this
  superClass := sup
  interfaces := ifs
  fields := fds
  methods := ms
  attributes := attrs
def plain (name : String) (sup : Option ClassId) : Class where
  name := name
  kind := .ordinary
  loader := none
  accessFlags := 33
  super := sup
  interfaces := #[]
  cf := none
  fields := #[]
  methods := #[]
  instanceTypes := #[]
  staticTypes := #[]
  resolved := #[]
  callSites := []
  init := .initialized
  statics := none
  mirror := none

def pool0 : Array CpInfo := pool [(5, u "<init>"), (0, u "()V"), (1, .class_ 10), (1, u "java/lang/Object")] 113

def k0m0 : Method := { name := "<init>", desc := "()V", sig := { parameters := [], returnType := none }, accessFlags := 1, code := none }
/-- java/lang/Object -/
def k0 : Class := { plain "java/lang/Object" none with
  accessFlags := 33
  interfaces := #[]
  cf := some (fileOf pool0 8 #[] #[{ accessFlags := 1, nameIndex := 5, descriptorIndex := 6, attributes := #[] }] 33 0 #[] #[])
  fields := #[]
  methods := #[k0m0]
  instanceTypes := #[]
  staticTypes := #[]
  resolved := Array.replicate 124 none
  statics := none }

def pool1 : Array CpInfo := pool [(2, .class_ 4), (1, u "java/lang/Object"), (0, u "<init>"), (0, u "()V"), (0, .long 2147483648), (1, .methodref 10 11), (0, .class_ 12), (0, .nameAndType 13 14), (0, u "com/example/rigorous_bisim/rigorousbisim/arith/ModularEchelon"), (0, u "primeBelow"), (0, u "(J)J"), (0, .long 2147483647), (1, .long 2891462833508853932), (1, .long 3), (1, .long 9223372036854775807), (1, .long 62), (1, .long 2), (1, .class_ 28), (0, u "com/example/rigorous_bisim/rigorousbisim/arith/ModularEchelonPrimeBelowPinLaw"), (2, u "law"), (0, u "(JI)Z")] 3

def k1m0 : Method := { name := "<init>", desc := "()V", sig := { parameters := [], returnType := none }, accessFlags := 2, code := none }
def k1c1 : Code := { maxStack := 6, maxLocals := 15, code := code, exceptionTable := #[], attributes := #[] }
def k1m1 : Method := { name := "law", desc := "(JI)Z", sig := { parameters := [.long, .int], returnType := some .boolean }, accessFlags := 9, code := some k1c1 }
/-- com/example/rigorous_bisim/rigorousbisim/arith/ModularEchelonPrimeBelowPinLaw -/
def k1 : Class := { plain "com/example/rigorous_bisim/rigorousbisim/arith/ModularEchelonPrimeBelowPinLaw" (some 0) with
  accessFlags := 49
  interfaces := #[]
  cf := some (fileOf pool1 27 #[] #[{ accessFlags := 2, nameIndex := 5, descriptorIndex := 6, attributes := #[] }, { accessFlags := 9, nameIndex := 31, descriptorIndex := 32, attributes := #[] }] 49 2 #[] #[])
  fields := #[]
  methods := #[k1m0, k1m1]
  instanceTypes := #[]
  staticTypes := #[]
  resolved := Array.replicate 36 none
  statics := none }

def pool2 : Array CpInfo := pool [(2, .class_ 4), (1, u "java/lang/Object"), (6, .class_ 13), (1, u "com/example/rigorous_bisim/rigorousbisim/arith/ModularEchelon"), (0, u "rows"), (0, u "Ljava/util/List;"), (2, u "length"), (0, u "I"), (2, u "prime"), (0, u "J"), (8, u "bigPrime"), (0, u "Ljava/math/BigInteger;"), (0, .methodref 11 35), (0, .nameAndType 36 37), (0, u "isPrime"), (0, u "(J)Z"), (0, .long 4), (1, .long 2), (1, .long 3), (7, .class_ 51), (0, u "com/example/rigorous_bisim/rigorousbisim/arith/ModularEchelon$Row"), (57, u "(J)J"), (3, u "FIRST_PRIME"), (8, u "primeBelow")] 14

def k2c0 : Code := { maxStack := 4, maxLocals := 4, code := prog_6_method_2_code, exceptionTable := #[], attributes := #[] }
def k2m0 : Method := { name := "primeBelow", desc := "(J)J", sig := { parameters := [.long], returnType := some .long }, accessFlags := 8, code := some k2c0 }
def k2c1 : Code := { maxStack := 4, maxLocals := 4, code := prog_6_method_3_code, exceptionTable := #[], attributes := #[] }
def k2m1 : Method := { name := "isPrime", desc := "(J)Z", sig := { parameters := [.long], returnType := some .boolean }, accessFlags := 10, code := some k2c1 }
/-- com/example/rigorous_bisim/rigorousbisim/arith/ModularEchelon -/
def k2 : Class := { plain "com/example/rigorous_bisim/rigorousbisim/arith/ModularEchelon" (some 0) with
  accessFlags := 48
  interfaces := #[]
  cf := some (fileOf pool2 11 #[.nestMembers #[50]] #[{ accessFlags := 8, nameIndex := 122, descriptorIndex := 109, attributes := #[] }, { accessFlags := 10, nameIndex := 36, descriptorIndex := 37, attributes := #[] }] 48 2 #[] #[{ accessFlags := 24, nameIndex := 113, descriptorIndex := 23, attributes := #[] }, { accessFlags := 18, nameIndex := 18, descriptorIndex := 19, attributes := #[] }, { accessFlags := 18, nameIndex := 22, descriptorIndex := 23, attributes := #[] }, { accessFlags := 18, nameIndex := 32, descriptorIndex := 33, attributes := #[] }, { accessFlags := 18, nameIndex := 14, descriptorIndex := 15, attributes := #[] }])
  fields := #[{ name := "FIRST_PRIME", type := .long, accessFlags := 24, slot := 0, constantValue := 0 }, { name := "length", type := .int, accessFlags := 18, slot := 0, constantValue := 0 }, { name := "prime", type := .long, accessFlags := 18, slot := 1, constantValue := 0 }, { name := "bigPrime", type := (.object "java/math/BigInteger"), accessFlags := 18, slot := 2, constantValue := 0 }, { name := "rows", type := (.object "java/util/List"), accessFlags := 18, slot := 3, constantValue := 0 }]
  methods := #[k2m0, k2m1]
  instanceTypes := #[.int, .long, (.object "java/math/BigInteger"), (.object "java/util/List")]
  staticTypes := #[.long]
  resolved := Array.replicate 137 none
  statics := none }

def pool3 : Array CpInfo := pool [(1, u "java/lang/Cloneable"), (0, .class_ 1), (0, u "java/lang/Object"), (0, .class_ 3)] 3

/-- java/lang/Cloneable -/
def k3 : Class := { plain "java/lang/Cloneable" (some 0) with
  accessFlags := 1537
  interfaces := #[]
  cf := some (fileOf pool3 2 #[] #[] 1537 4 #[] #[])
  fields := #[]
  methods := #[]
  instanceTypes := #[]
  staticTypes := #[]
  resolved := Array.replicate 8 none
  statics := none }

def pool4 : Array CpInfo := pool [(1, u "java/io/Serializable"), (0, .class_ 1), (0, u "java/lang/Object"), (0, .class_ 3)] 3

/-- java/io/Serializable -/
def k4 : Class := { plain "java/io/Serializable" (some 0) with
  accessFlags := 1537
  interfaces := #[]
  cf := some (fileOf pool4 2 #[] #[] 1537 4 #[] #[])
  fields := #[]
  methods := #[]
  instanceTypes := #[]
  staticTypes := #[]
  resolved := Array.replicate 8 none
  statics := none }

/-- the primitive byte -/
def k5 : Class := { plain "byte" none with kind := .primitive 'B', accessFlags := 0x411 }
/-- [B -/
def k6 : Class := { plain "[B" (some 0) with kind := .array 5 .byte, interfaces := #[3, 4], accessFlags := 1041 }

/-- the primitive int -/
def k7 : Class := { plain "int" none with kind := .primitive 'I', accessFlags := 0x411 }
/-- [I -/
def k8 : Class := { plain "[I" (some 0) with kind := .array 7 .int, interfaces := #[3, 4], accessFlags := 1041 }

def heap : Heap := #[]
def classes : Array Class := #[k0, k1, k2, k3, k4, k5, k6, k7, k8]
def interned : List (Array UInt16 × Addr) := []
def slotsUsed : Nat := 0
def theMethod : MethodId := ⟨1, 1⟩
def args0 : Array Value := #[.long 20, .int 0]
def aboutOver (below : List Frame) : State where
  vm := { classes := classes, interned := interned.toArray }
  heap := heap
  slotsUsed := slotsUsed
  threads := #[{ frames := .invoking theMethod args0 :: below }]
def below0 : List Frame := [.native { method := ⟨0, 0⟩, args := #[] }]
def about1 : State := aboutOver below0
def p0 : Program := .bare "" "" ""
def e0 : Env := launch0.env 0 0 0
theorem w_frames : about1.frames = Frame.invoking theMethod args0 :: below0 := rfl
set_option maxRecDepth 65536 in
theorem w_args : argsFit about1.vm theMethod args0 = true := by decide +kernel
set_option maxRecDepth 65536 in
theorem w_heap : heapFits about1 = true := by decide +kernel
set_option maxRecDepth 65536 in
theorem w_runnable : about1.curStatus? = some .runnable := by decide +kernel
set_option maxRecDepth 65536 in
theorem w_alone : about1.alone = true := by decide +kernel
set_option maxRecDepth 65536 in
theorem w_named : about1.methodNamed? x = some theMethod := by decide +kernel
set_option maxRecDepth 65536 in
theorem w_hears : about1.hears theMethod below0 = true := by decide +kernel
set_option maxRecDepth 65536 in
theorem w_ripe : about1.ripe theMethod args0 below0 = true := by decide +kernel
theorem w_running : about1.status = .running := rfl
set_option maxRecDepth 65536 in
theorem w_room : about1.hasRoom e0.platform room_1 = true :=
  launch0.hasRoom_least _ room_1 (by decide +kernel) (by decide +kernel) (by decide +kernel) (by decide +kernel) (by decide +kernel) (by decide +kernel)
theorem allAtoms_all (ts : List Jvm.Cond) (a : Array Jvm.Value) (st : Jvm.State) : (allAtoms ts).before a st = ts.all (fun c => c.before a st) := by
  induction ts with
  | nil => rfl
  | cons c t ih =>
    show (Jvm.Cond.and c (allAtoms t)).before a st = _
    rw [Jvm.Cond.before_and, ih, List.all_cons]
def words1 : List Jvm.Cond := Jvm.Cond.code x code maxLocals ret :: tables_1
/-- a 'code' word, met by the world's own term for the bytes: nothing is compared byte by byte -/
theorem code_word {y : MethodName} {bytes : ByteArray} {mx : Nat} {rt : Option FieldType} {a : Array Value} {s : State} {m : MethodId} {meth : Method} {c : Code} (h1 : s.methodNamed? y = some m) (h2 : s.vm.method? m = some meth) (h3 : meth.code = some c) (h4 : c.code = bytes)
    (h5 : (c.maxLocals == mx && c.exceptionTable.isEmpty && decide (c.maxStack ≤ mostOperands) && decide (meth.sig.returnType = rt) && !meth.locks && decide (parseMethodDescriptor y.desc = some meth.sig)) = true) : (Jvm.Cond.code y bytes mx rt).before a s = true := by
  simp only [Bool.and_eq_true, beq_iff_eq, Bool.not_eq_true', decide_eq_true_eq] at h5
  obtain ⟨⟨⟨⟨⟨g1, g2⟩, g3⟩, g4⟩, g5⟩, g6⟩ := h5
  simp [Cond.before, Cond.holds, Cond.value, h1, h2, h3, h4, g1, g2, g3, g4, g5, g6]
def isCode : Jvm.Cond → Bool
  | .code _ _ _ _ => true
  | _ => false
theorem all_split {L : List Jvm.Cond} {P : Jvm.Cond → Bool} (h1 : L.all (fun c => isCode c || P c) = true) (h2 : ∀ c ∈ L.filter isCode, P c = true) : L.all P = true := by
  refine List.all_eq_true.mpr fun c hc => ?_
  have h := List.all_eq_true.mp h1 c hc
  rcases Bool.eq_false_or_eq_true (isCode c) with hi | hi
  · exact h2 c (List.mem_filter.mpr ⟨hc, hi⟩)
  · simpa [hi] using h
set_option maxRecDepth 65536 in
theorem w_c0 : (Jvm.Cond.code x code maxLocals ret).before args0 about1 = true := code_word (m := ⟨1, 1⟩) (meth := k1m1) (c := k1c1) (by decide +kernel) rfl rfl rfl (by decide +kernel)
set_option maxRecDepth 65536 in
theorem w_c1 : (Jvm.Cond.code ({ cls := "com/example/rigorous_bisim/rigorousbisim/arith/ModularEchelon", name := "primeBelow", desc := "(J)J" } : Jvm.MethodName) prog_6_method_2_code (4 : Nat) (Option.some Jvm.ClassFile.FieldType.long)).before args0 about1 = true := code_word (m := ⟨2, 0⟩) (meth := k2m0) (c := k2c0) (by decide +kernel) rfl rfl rfl (by decide +kernel)
set_option maxRecDepth 65536 in
theorem w_c2 : (Jvm.Cond.code ({ cls := "com/example/rigorous_bisim/rigorousbisim/arith/ModularEchelon", name := "isPrime", desc := "(J)Z" } : Jvm.MethodName) prog_6_method_3_code (4 : Nat) (Option.some Jvm.ClassFile.FieldType.boolean)).before args0 about1 = true := code_word (m := ⟨2, 1⟩) (meth := k2m1) (c := k2c1) (by decide +kernel) rfl rfl rfl (by decide +kernel)
def codes1 : List Jvm.Cond := [Jvm.Cond.code x code maxLocals ret, Jvm.Cond.code ({ cls := "com/example/rigorous_bisim/rigorousbisim/arith/ModularEchelon", name := "primeBelow", desc := "(J)J" } : Jvm.MethodName) prog_6_method_2_code (4 : Nat) (Option.some Jvm.ClassFile.FieldType.long), Jvm.Cond.code ({ cls := "com/example/rigorous_bisim/rigorousbisim/arith/ModularEchelon", name := "isPrime", desc := "(J)Z" } : Jvm.MethodName) prog_6_method_3_code (4 : Nat) (Option.some Jvm.ClassFile.FieldType.boolean)]
set_option maxRecDepth 65536 in
theorem codes_eq : words1.filter isCode = codes1 := rfl
theorem w_codes : ∀ c ∈ words1.filter isCode, c.before args0 about1 = true := by
  rw [codes_eq]
  intro c hc
  simp only [codes1, List.mem_cons, List.not_mem_nil, or_false] at hc
  rcases hc with rfl | rfl | rfl
  · exact w_c0
  · exact w_c1
  · exact w_c2
set_option maxRecDepth 65536 in
theorem w_t1 : words1.all (fun c => isCode c || c.before args0 about1) = true := by decide +kernel
theorem w_tables : (allAtoms (Jvm.Cond.code x code maxLocals ret :: tables_1)).before args0 about1 = true := by
  rw [allAtoms_all]
  show words1.all (fun c => c.before args0 about1) = true
  refine all_split ?_ w_codes
  rw [w_t1]
set_option maxRecDepth 65536 in
theorem w_case : (Jvm.Cond.and given_1 narrow_1).before args0 about1 = true := by decide +kernel
theorem w_applies : (headSpec (Jvm.Cond.code x code maxLocals ret :: tables_1) room_1).applies x e0.platform about1 = true :=
  (Spec.applies_iff w_frames).mpr ⟨w_running, w_runnable, w_alone, w_named, w_hears, w_ripe, w_room, w_tables⟩
theorem atStart : AtStart classFile x code maxLocals ret World_1 tables_1 room_1 Calls_1 rest_1 Pre_1 launch0 p0 e0 about1 theMethod args0 below0 :=
  ⟨lists_1, trivial, launch0.admits_env _ _ _, launch0.least_env, fairChoices_fair.cas, fairChoices_fair.clock, w_frames, w_args, w_heap, w_applies, trivial, trivial, w_case⟩
end start1
theorem witness_1 : WitnessClaimed_1 := ⟨start1.p0, start1.e0, start1.about1, start1.theMethod, start1.args0, start1.below0, start1.atStart⟩
end Jvm.Pilot.@@N@@
