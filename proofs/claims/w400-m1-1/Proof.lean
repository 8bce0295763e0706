import JvmDerived
import JvmDerived.Pilot.@@N@@Statement
import JvmDerived.Pilot.@@N@@Code
set_option linter.unusedVariables false
set_option linter.unusedSimpArgs false
namespace Jvm.Pilot.@@N@@
open Jvm Jvm.ClassFile Sem Op Lib Jvm.Free Jvm.Stand Jvm.LawKit Jvm.RoadKit Bundle Jvm.Pilot.@@N@@.Jvm.D
/-! own helpers: the goal of a walk as one predicate, its steps, its calls -/
section OwnKit
variable {p : Program} {l : Launch} {e : Env} {R : Room} {s : State} {m : MethodId} {args : Array Value} {below : List Frame} {meth : Method} {c : Code} {T : State} {locs : List Loc} {cells slots : Nat} {Z : State} {a0 : Array Value} {h : Heap} {Q : Option Value → Heap → List Loc → Prop} {kc ks : Nat}
/-- from S the run ends, returns, and Q holds of what it returns, of the heap and of the places written -/
def OGoal (p : Program) (e : Env) (below : List Frame) (s : State) (Q : Option Value → Heap → List Loc → Prop) (kc ks : Nat) (S : State) : Prop :=
  ∃ s₂ o, Steps p.tables e below S s₂ ∧ s₂.status = .running ∧ Ended s₂ below o ∧ ∃ v L, o = .returned v ∧ Q v s₂.heap L ∧ FrameEnd s o s₂ L kc ks
theorem OGoal.mp {S S' : State} (k : ∀ t, Steps p.tables e below S' t → Steps p.tables e below S t) (g : OGoal p e below s Q kc ks S') : OGoal p e below s Q kc ks S := by
  obtain ⟨s₂, o, h1, h2⟩ := g
  exact ⟨s₂, o, k _ h1, h2⟩
theorem oRet (X : Stand p l e R s m args below meth c T locs cells slots) (hx : p.tables.exec = Jvm.exec) (hlk : meth.locks = false) {pc : Nat} {Ls : Array Slot} {w : Value} {t : FieldType} {i : Instr} {rest : List Value} (hret : meth.sig.returnType = some t) (hn : narrow t w = w)
    (hi : (i = .ireturn ∧ (t = .int ∨ t = .boolean ∨ t = .byte ∨ t = .char ∨ t = .short) ∧ ∃ z, w = .int z) ∨ (i = .lreturn ∧ t = .long ∧ ∃ z, w = .long z) ∨ (i = .dreturn ∧ t = .double ∧ ∃ z, w = .double z) ∨ (i = .freturn ∧ t = .float ∧ ∃ z, w = .float z) ∨ (i = .areturn ∧ t.isReference = true ∧ w.isRef = true))
    (hd : decode c.code pc = .ok (i, 1)) (hQ : Q (some w) T.heap locs) (hc : cells ≤ kc) (hs : slots ≤ ks) : OGoal p e below s Q kc ks (T.setTop (mkF m pc Ls (w :: rest))) := by
  obtain ⟨fs, hr, hrun, hended, hW, hsame⟩ := X.leave (v := some w) (fun q => by rw [hret] at q; cases q) hlk
  exact ⟨_, _, retOut X hx hret hn hi hd hr, hrun, hended, _, _, rfl, hQ, ⟨_, rfl⟩, hW, hsame.mono hc hs⟩
theorem oRetI (X : Stand p l e R s m args below meth c T locs cells slots) (hx : p.tables.exec = Jvm.exec) (hlk : meth.locks = false) {pc : Nat} {Ls : Array Slot} {z : Int32} {rest : List Value} (hret : meth.sig.returnType = some .int)
    (hd : decode c.code pc = .ok (.ireturn, 1)) (hQ : Q (some (.int z)) T.heap locs) (hc : cells ≤ kc) (hs : slots ≤ ks) : OGoal p e below s Q kc ks (T.setTop (mkF m pc Ls (.int z :: rest))) :=
  oRet X hx hlk hret rfl (Or.inl ⟨rfl, Or.inl rfl, _, rfl⟩) hd hQ hc hs
theorem oRetZ (X : Stand p l e R s m args below meth c T locs cells slots) (hx : p.tables.exec = Jvm.exec) (hlk : meth.locks = false) {pc : Nat} {Ls : Array Slot} {z : Int32} {rest : List Value} (hret : meth.sig.returnType = some .boolean) (hz : z = 0 ∨ z = 1)
    (hd : decode c.code pc = .ok (.ireturn, 1)) (hQ : Q (some (.int z)) T.heap locs) (hc : cells ≤ kc) (hs : slots ≤ ks) : OGoal p e below s Q kc ks (T.setTop (mkF m pc Ls (.int z :: rest))) :=
  oRet X hx hlk hret (by rcases hz with rfl | rfl <;> rfl) (Or.inl ⟨rfl, Or.inr (Or.inl rfl), _, rfl⟩) hd hQ hc hs
theorem oRetJ (X : Stand p l e R s m args below meth c T locs cells slots) (hx : p.tables.exec = Jvm.exec) (hlk : meth.locks = false) {pc : Nat} {Ls : Array Slot} {z : Int64} {rest : List Value} (hret : meth.sig.returnType = some .long)
    (hd : decode c.code pc = .ok (.lreturn, 1)) (hQ : Q (some (.long z)) T.heap locs) (hc : cells ≤ kc) (hs : slots ≤ ks) : OGoal p e below s Q kc ks (T.setTop (mkF m pc Ls (.long z :: rest))) :=
  oRet X hx hlk hret rfl (Or.inr (Or.inl ⟨rfl, rfl, _, rfl⟩)) hd hQ hc hs
theorem oRetD (X : Stand p l e R s m args below meth c T locs cells slots) (hx : p.tables.exec = Jvm.exec) (hlk : meth.locks = false) {pc : Nat} {Ls : Array Slot} {z : UInt64} {rest : List Value} (hret : meth.sig.returnType = some .double)
    (hd : decode c.code pc = .ok (.dreturn, 1)) (hQ : Q (some (.double z)) T.heap locs) (hc : cells ≤ kc) (hs : slots ≤ ks) : OGoal p e below s Q kc ks (T.setTop (mkF m pc Ls (.double z :: rest))) :=
  oRet X hx hlk hret rfl (Or.inr (Or.inr (Or.inl ⟨rfl, rfl, _, rfl⟩))) hd hQ hc hs
theorem oRetA (X : Stand p l e R s m args below meth c T locs cells slots) (hx : p.tables.exec = Jvm.exec) (hlk : meth.locks = false) {pc : Nat} {Ls : Array Slot} {w : Value} {t : FieldType} {rest : List Value} (hret : meth.sig.returnType = some t) (ht : t.isReference = true) (hw : w.isRef = true)
    (hd : decode c.code pc = .ok (.areturn, 1)) (hQ : Q (some w) T.heap locs) (hc : cells ≤ kc) (hs : slots ≤ ks) : OGoal p e below s Q kc ks (T.setTop (mkF m pc Ls (w :: rest))) :=
  oRet X hx hlk hret (by cases t <;> cases w <;> first | rfl | (cases ht; done) | (cases hw; done)) (Or.inr (Or.inr (Or.inr (Or.inr ⟨rfl, ht, hw⟩)))) hd hQ hc hs
theorem oRetV (X : Stand p l e R s m args below meth c T locs cells slots) (hx : p.tables.exec = Jvm.exec) (hlk : meth.locks = false) {pc : Nat} {Ls : Array Slot} (hret : meth.sig.returnType = none)
    (hd : decode c.code pc = .ok (.return_, 1)) (hQ : Q none T.heap locs) (hc : cells ≤ kc) (hs : slots ≤ ks) : OGoal p e below s Q kc ks (T.setTop (mkF m pc Ls [])) := by
  obtain ⟨fs, hr, hrun, hended, hW, hsame⟩ := X.leave (v := none) (fun _ => rfl) hlk
  exact ⟨_, _, X.returnOut hx hret hd hr, hrun, hended, _, _, rfl, hQ, ⟨_, rfl⟩, hW, hsame.mono hc hs⟩
/-- the contract of a method: called with as' over the heap h it returns, and Q holds; kc cells and ks slots are made at the most -/
def OConK (l : Launch) (Z : State) (y : MethodName) (bytes : ByteArray) (maxL : Nat) (ret : Option FieldType) (rm : Room) (kc ks : Nat) (as' : Array Value) (h : Heap) (Q : Option Value → Heap → List Loc → Prop) : Prop :=
  ∀ ws : List Jvm.Cond, MetFree l y (head1 (Jvm.Cond.code y bytes maxL ret :: ws) rm) (fun a U => a = as' ∧ Z.Warmed39 U.vm ∧ U.heap = h) (fun _ _ _ _ _ => True) (fun _ U o U' => ∃ v L, o = .returned v ∧ Q v U'.heap L ∧ FrameEnd U o U' L kc ks)
abbrev OCon (l : Launch) (Z : State) (y : MethodName) (bytes : ByteArray) (maxL : Nat) (ret : Option FieldType) (rm : Room) (as' : Array Value) (h : Heap) (Q : Option Value → Heap → List Loc → Prop) : Prop := OConK l Z y bytes maxL ret rm rm.cells rm.slots as' h Q
theorem OConK.intro {y : MethodName} {bytes : ByteArray} {maxL : Nat} {ret : Option FieldType} {rm : Room} {as' : Array Value} {Ls : Array Slot} (hpf : plainFor y = true) (ef : ∀ m, entryFrame m as' maxL = mkF m 0 Ls [])
    (H : ∀ p e s m below meth c s₁, p.tables.exec = Jvm.exec → c.code = bytes → c.maxLocals = maxL → s.vm.findClass y.cls = some m.cls → meth.name = y.name → meth.sig.returnType = ret → meth.locks = false → Z.Warmed39 s.vm →
      Stand p l e rm s m as' below meth c s₁ [] 0 0 → s₁.heap = h → OGoal p e below s Q kc ks (s₁.setTop (mkF m 0 Ls []))) : OConK l Z y bytes maxL ret rm kc ks as' h Q := by
  intro ws
  refine MetFree.of_bodySF hpf hisR ?_
  intro p e s m args below meth c s₁ Bd hml hP hK
  obtain ⟨rfl, hZ, hh⟩ := hP
  obtain ⟨s₂, o, h1, h2, h3, h4⟩ := H p e s m below meth c s₁ Bd.exec Bd.bytes hml (findClass_of_methodNamed Bd.named) (name_of_methodNamed Bd.named Bd.method).1 Bd.returns (BodyLoose.notSynchronized Bd) hZ (Stand.of_body Bd) (by rw [← hh, Bd.state]; rfl)
  exact ⟨s₂, o, castTop (ef m) h1, h2, h3, h4⟩
/-- weaker promise -/
theorem OConK.imp {y : MethodName} {bytes : ByteArray} {maxL : Nat} {ret : Option FieldType} {rm : Room} {as' : Array Value} {Q' : Option Value → Heap → List Loc → Prop} (H : OConK l Z y bytes maxL ret rm kc ks as' h Q) (k : ∀ v h' L, Q v h' L → Q' v h' L) : OConK l Z y bytes maxL ret rm kc ks as' h Q' := by
  intro ws p e ha hc hk s m args below hf happ hP hK
  obtain ⟨n, o, h1, h2, h3, v, L, h4, h5, h6⟩ := H ws p e ha hc hk s m args below hf happ hP hK
  exact ⟨n, o, h1, h2, h3, v, L, h4, k _ _ _ h5, h6⟩
theorem oCallS (X : Stand p l e R s m args below meth c T locs cells slots) (hx : p.tables.exec = Jvm.exec) (hZ : Z.Warmed39 s.vm) {own : String} {index : Nat} {y : MethodName} {bytes : ByteArray} {maxL : Nat} {ret : Option FieldType} {rm : Room} {as' : Array Value} {Qc : Option Value → Heap → List Loc → Prop}
    (hown : s.vm.findClass own = some m.cls) (w1 : (Jvm.Cond.methodLink own index y).before a0 Z = true) (w2 : (Jvm.Cond.static y).before a0 Z = true) (w3 : (Jvm.Cond.initialized y.cls).before a0 Z = true) (w4 : (Jvm.Cond.code y bytes maxL ret).before a0 Z = true)
    (hy : y.cls ≠ "java/lang/invoke/MethodHandle" ∧ y.cls ≠ "java/lang/invoke/VarHandle") (hM : OCon l Z y bytes maxL ret rm as' h Qc) (eT : T.heap = h) {pc : Nat} {Ls : Array Slot} {st : List Value} (argsL rest : List Value) (hst : st = argsL.reverse ++ rest) (has : argsL.toArray = as') (hsize : Ls.size = c.maxLocals)
    (hlen : ∀ sig, parseMethodDescriptor y.desc = some sig → argsL.length = sig.parameters.length) (W : Nat) (hW : (rest.map fun v => v.category).sum ≤ W) (hfr : rm.frames + 1 ≤ R.frames) (hlo : W + (maxL + 11) + rm.locals ≤ R.locals) (hce : cells + rm.cells ≤ R.cells) (hsl : slots + rm.slots ≤ R.slots)
    (hd : decode c.code pc = .ok (.invokestatic index, 3))
    (k : ∀ v T' Lc, Stand p l e R s m args below meth c T' (locs ++ Lc) (cells + rm.cells) (slots + rm.slots) → Qc v T'.heap Lc → OGoal p e below s Q kc ks (T'.setTop (mkF m (pc + 3) Ls (v.toList ++ rest)))) :
    OGoal p e below s Q kc ks (T.setTop (mkF m pc Ls st)) := by
  subst hst has
  obtain ⟨v, _, ⟨T', L', k', n'⟩, -, X', ⟨Lc, hQ, l', y', z'⟩, st⟩ := Jvm.LawKit.callS X hx (y := y) hown (mvT hZ w1) (mvT hZ w2) (mvT hZ w3) (mvT hZ w4) hy (backOf (W := W) (hM []) hZ w4 w3 hfr hlo) (g := mkF m pc Ls (argsL.reverse ++ rest)) rfl hsize (argsL := argsL) (rest := rest) hlen rfl (by show 2 * 0 + _ ≤ _; omega) hd (fun _ _ => ⟨rfl, eT, hce, hsl⟩)
  dsimp only [Pt.U, Pt.locs, Pt.cells, Pt.slots] at X' l' y' z' st hQ
  subst l' y' z'
  exact OGoal.mp st (k v T' Lc X' hQ)
theorem oCallV (X : Stand p l e R s m args below meth c T locs cells slots) (hx : p.tables.exec = Jvm.exec) (hZ : Z.Warmed39 s.vm) {own C : String} {index : Nat} {y z : MethodName} {bytes : ByteArray} {maxL : Nat} {ret : Option FieldType} {rm : Room} {as' : Array Value} {Qc : Option Value → Heap → List Loc → Prop}
    (hown : s.vm.findClass own = some m.cls) (w1 : (Jvm.Cond.methodLink own index y).before a0 Z = true) (w2 : (Jvm.Cond.declares y).before a0 Z = true) (w5 : (Jvm.Cond.selects C y z).before a0 Z = true) (w6 : (Jvm.Cond.instanceMethod z).before a0 Z = true) (w3 : (Jvm.Cond.initialized z.cls).before a0 Z = true) (w4 : (Jvm.Cond.code z bytes maxL ret).before a0 Z = true)
    (hy : y.cls ≠ "java/lang/invoke/MethodHandle" ∧ y.cls ≠ "java/lang/invoke/VarHandle") (hM : OCon l Z z bytes maxL ret rm as' h Qc) (eT : T.heap = h) {a : Addr} (E : Exa Z h a C) {pc : Nat} {Ls : Array Slot} {st : List Value} (argsL rest : List Value) (hst : st = argsL.reverse ++ .ref a :: rest) (has : (.ref a :: argsL).toArray = as') (hsize : Ls.size = c.maxLocals)
    (hnf : NotFace s y) (hlen : ∀ sig, parseMethodDescriptor y.desc = some sig → argsL.length = sig.parameters.length) (W : Nat) (hW : (rest.map fun v => v.category).sum ≤ W) (hfr : rm.frames + 1 ≤ R.frames) (hlo : W + (maxL + 11) + rm.locals ≤ R.locals) (hce : cells + rm.cells ≤ R.cells) (hsl : slots + rm.slots ≤ R.slots)
    (hd : decode c.code pc = .ok (.invokevirtual index, 3))
    (k : ∀ v T' Lc, Stand p l e R s m args below meth c T' (locs ++ Lc) (cells + rm.cells) (slots + rm.slots) → Qc v T'.heap Lc → OGoal p e below s Q kc ks (T'.setTop (mkF m (pc + 3) Ls (v.toList ++ rest)))) :
    OGoal p e below s Q kc ks (T.setTop (mkF m pc Ls st)) := by
  subst hst has
  obtain ⟨cq, kq, qa, qb, qc⟩ := isOf hZ eT E
  obtain ⟨v, _, ⟨T', L', k', n'⟩, -, X', ⟨Lc, hQ, l', y', z'⟩, st⟩ := X.virtualBack hx (y := y) (z := z) hown (mvT hZ w1) (mvT hZ w2) hnf (mvT hZ w5) (mvT hZ w6) hy (backOf (W := W) (hM []) hZ w4 w3 hfr hlo) qa qc (g := mkF m pc Ls (argsL.reverse ++ .ref a :: rest)) rfl hsize (Steps.refl _) (argsL := argsL) (rest := rest) hlen rfl (by show 2 * 0 + _ ≤ _; omega) hd (fun _ _ => ⟨rfl, eT, hce, hsl⟩)
  dsimp only [Pt.U, Pt.locs, Pt.cells, Pt.slots] at X' l' y' z' st hQ
  subst l' y' z'
  exact OGoal.mp (fun t q => st.trans q) (k v T' Lc X' hQ)
theorem oCallN (X : Stand p l e R s m args below meth c T locs cells slots) (hx : p.tables.exec = Jvm.exec) (hZ : Z.Warmed39 s.vm) {own : String} {index : Nat} {y : MethodName} {bytes : ByteArray} {maxL : Nat} {rm : Room} {as' : Array Value} {Qc : Option Value → Heap → List Loc → Prop}
    (hy1 : y.name = "<init>") (hown : s.vm.findClass own = some m.cls) (w1 : (Jvm.Cond.methodLink own index y).before a0 Z = true) (w6 : (Jvm.Cond.instanceMethod y).before a0 Z = true) (w3 : (Jvm.Cond.initialized y.cls).before a0 Z = true) (w4 : (Jvm.Cond.code y bytes maxL none).before a0 Z = true)
    (hy : y.cls ≠ "java/lang/invoke/MethodHandle" ∧ y.cls ≠ "java/lang/invoke/VarHandle") (hM : OCon l Z y bytes maxL none rm as' h Qc) (eT : T.heap = h) {a : Addr} {pc : Nat} {Ls : Array Slot} {st : List Value} (argsL rest : List Value) (hst : st = argsL.reverse ++ .ref a :: rest) (has : (.ref a :: argsL).toArray = as') (hsize : Ls.size = c.maxLocals)
    (hlen : ∀ sig, parseMethodDescriptor y.desc = some sig → argsL.length = sig.parameters.length) (W : Nat) (hW : (rest.map fun v => v.category).sum ≤ W) (hfr : rm.frames + 1 ≤ R.frames) (hlo : W + (maxL + 11) + rm.locals ≤ R.locals) (hce : cells + rm.cells ≤ R.cells) (hsl : slots + rm.slots ≤ R.slots)
    (hd : decode c.code pc = .ok (.invokespecial index, 3))
    (k : ∀ v T' Lc, Stand p l e R s m args below meth c T' (locs ++ Lc) (cells + rm.cells) (slots + rm.slots) → Qc v T'.heap Lc → OGoal p e below s Q kc ks (T'.setTop (mkF m (pc + 3) Ls (v.toList ++ rest)))) :
    OGoal p e below s Q kc ks (T.setTop (mkF m pc Ls st)) := by
  subst hst has
  obtain ⟨v, _, ⟨T', L', k', n'⟩, -, X', ⟨Lc, hQ, l', y', z'⟩, st⟩ := X.specialBack hx (y := y) hy1 hown (mvT hZ w1) (mvT hZ w6) (mvT hZ w4) hy (backOf (W := W) (hM []) hZ w4 w3 hfr hlo) (g := mkF m pc Ls (argsL.reverse ++ .ref a :: rest)) rfl hsize (Steps.refl _) (a := a) (argsL := argsL) (rest := rest) hlen rfl (by show 2 * 0 + _ ≤ _; omega) hd (fun _ _ => ⟨rfl, eT, hce, hsl⟩)
  dsimp only [Pt.U, Pt.locs, Pt.cells, Pt.slots] at X' l' y' z' st hQ
  subst l' y' z'
  exact OGoal.mp (fun t q => st.trans q) (k v T' Lc X' hQ)
theorem oNotFace {s : State} {C : String} {k : Nat} (h : (Jvm.Cond.instantiable C k).before args s = true) : ∃ c kc, s.vm.findClass C = some c ∧ s.vm.classes[c]? = some kc ∧ kc.isInterface = false := by
  obtain ⟨c, kc, h1, h2, -, h3, -, -⟩ := Cond.instantiable_spec h
  exact ⟨c, kc, h1, h2, (Bool.or_eq_false_iff.mp h3).1⟩
theorem oCallP (X : Stand p l e R s m args below meth c T locs cells slots) (hx : p.tables.exec = Jvm.exec) (hZ : Z.Warmed39 s.vm) {own C : String} {index : Nat} {y : MethodName} {bytes : ByteArray} {maxL : Nat} {ret : Option FieldType} {rm : Room} {as' : Array Value} {Qc : Option Value → Heap → List Loc → Prop}
    (hown : s.vm.findClass own = some m.cls) (w1 : (Jvm.Cond.methodLink own index y).before a0 Z = true) {kk : Nat} (w5 : (Jvm.Cond.instantiable y.cls kk).before a0 Z = true) (w6 : (Jvm.Cond.instanceMethod y).before a0 Z = true) (w7 : (Jvm.Cond.privateMethod y).before a0 Z = true) (w3 : (Jvm.Cond.initialized y.cls).before a0 Z = true) (w4 : (Jvm.Cond.code y bytes maxL ret).before a0 Z = true)
    (hy : y.cls ≠ "java/lang/invoke/MethodHandle" ∧ y.cls ≠ "java/lang/invoke/VarHandle") (hM : OCon l Z y bytes maxL ret rm as' h Qc) (eT : T.heap = h) {a : Addr} (E : Exa Z h a C) {pc : Nat} {Ls : Array Slot} {st : List Value} (argsL rest : List Value) (hst : st = argsL.reverse ++ .ref a :: rest) (has : (.ref a :: argsL).toArray = as') (hsize : Ls.size = c.maxLocals)
    (hlen : ∀ sig, parseMethodDescriptor y.desc = some sig → argsL.length = sig.parameters.length) (W : Nat) (hW : (rest.map fun v => v.category).sum ≤ W) (hfr : rm.frames + 1 ≤ R.frames) (hlo : W + (maxL + 11) + rm.locals ≤ R.locals) (hce : cells + rm.cells ≤ R.cells) (hsl : slots + rm.slots ≤ R.slots)
    (hd : decode c.code pc = .ok (.invokevirtual index, 3))
    (k : ∀ v T' Lc, Stand p l e R s m args below meth c T' (locs ++ Lc) (cells + rm.cells) (slots + rm.slots) → Qc v T'.heap Lc → OGoal p e below s Q kc ks (T'.setTop (mkF m (pc + 3) Ls (v.toList ++ rest)))) :
    OGoal p e below s Q kc ks (T.setTop (mkF m pc Ls st)) := by
  subst hst has
  obtain ⟨cq, q1, q2⟩ := E.cell
  obtain ⟨c1, k1, hc1, hk1, hi1⟩ := oNotFace (args := #[]) (mvT hZ w5)
  have hpr : s.PrivateAt y := Cond.privateMethod_at (mvP hZ w7 (args := #[]))
  have hse := selects_self_of_private (args := args) hc1 hk1 hi1 hpr (mvT hZ w6) hy
  obtain ⟨v, _, ⟨T', L', k', n'⟩, -, X', ⟨Lc, hQ, l', y', z'⟩, st⟩ := X.privateBack hx (y := y) hown (mvT hZ w1) (mvT hZ w6) hse hpr (mvT hZ w4) hy (backOf (W := W) (hM []) hZ w4 w3 hfr hlo) (g := mkF m pc Ls (argsL.reverse ++ .ref a :: rest)) rfl hsize (Steps.refl _) (a := a) (by rw [eT]; exact q1) q2 (argsL := argsL) (rest := rest) hlen rfl (by show 2 * 0 + _ ≤ _; omega) hd (fun _ _ => ⟨rfl, eT, hce, hsl⟩)
  dsimp only [Pt.U, Pt.locs, Pt.cells, Pt.slots] at X' l' y' z' st hQ
  subst l' y' z'
  exact OGoal.mp (fun t q => st.trans q) (k v T' Lc X' hQ)
theorem oLrem {g : JFrame} {target : State} (X : Stand p l e R s m args below meth c T locs cells slots) (hx : p.tables.exec = Jvm.exec) (hg : g.method = m) {x y : Int64} {rest : List Value} (hd : decode c.code g.pc = .ok (.lrem, 1)) (hs : g.stack = .long y :: .long x :: rest) (hy : y ≠ 0)
    (hr : Steps p.tables e below (T.setTop { g with pc := g.pc + 1, stack := .long (x % y) :: rest }) target) : Steps p.tables e below (T.setTop g) target := XT.lrem X.here hx hg hd hs hy (by rw [lrem_mod]; exact hr)
theorem oLt {x y : Int32} (h : x < y) : x.toInt < y.toInt := Int32.lt_iff_toInt_lt.mp h
theorem oNlt {x y : Int32} (h : ¬ x < y) : y.toInt ≤ x.toInt := Int.not_lt.mp fun q => h (Int32.lt_iff_toInt_lt.mpr q)
theorem oEq {x y : Int32} (h : x = y) : x.toInt = y.toInt := congrArg _ h
theorem oNe {x y : Int32} (h : ¬ x = y) : x.toInt ≠ y.toInt := fun q => h (Int32.toInt_inj.mp q)
theorem oLtL {x y : Int64} (h : x < y) : x.toInt < y.toInt := Int64.lt_iff_toInt_lt.mp h
theorem oNltL {x y : Int64} (h : ¬ x < y) : y.toInt ≤ x.toInt := Int.not_lt.mp fun q => h (Int64.lt_iff_toInt_lt.mpr q)
theorem oEqL {x y : Int64} (h : x = y) : x.toInt = y.toInt := congrArg _ h
theorem oNeL {x y : Int64} (h : ¬ x = y) : x.toInt ≠ y.toInt := fun q => h (Int64.toInt_inj.mp q)
theorem mLt {x y : Int32} (h : x.toInt < y.toInt) : x < y := Int32.lt_iff_toInt_lt.mpr h
theorem mNlt {x y : Int32} (h : y.toInt ≤ x.toInt) : ¬ x < y := fun q => absurd (oLt q) (Int.not_lt.mpr h)
theorem mEq {x y : Int32} (h : x.toInt = y.toInt) : x = y := Int32.toInt_inj.mp h
theorem mNe {x y : Int32} (h : x.toInt ≠ y.toInt) : ¬ x = y := fun q => h (congrArg _ q)
theorem mLtL {x y : Int64} (h : x.toInt < y.toInt) : x < y := Int64.lt_iff_toInt_lt.mpr h
theorem mNltL {x y : Int64} (h : y.toInt ≤ x.toInt) : ¬ x < y := fun q => absurd (oLtL q) (Int.not_lt.mpr h)
theorem mEqL {x y : Int64} (h : x.toInt = y.toInt) : x = y := Int64.toInt_inj.mp h
theorem mNeL {x y : Int64} (h : x.toInt ≠ y.toInt) : ¬ x = y := fun q => h (congrArg _ q)
theorem oRemL (x y : Int64) : 0 ≤ x.toInt → 0 < y.toInt → 0 ≤ (x % y).toInt ∧ (x % y).toInt < y.toInt := by
  intro h1 h2
  rw [Int64.toInt_mod, Int.tmod_eq_emod_of_nonneg h1]
  exact ⟨Int.emod_nonneg _ (by omega), Int.emod_lt_of_pos _ h2⟩
theorem oRemI (x y : Int32) : 0 ≤ x.toInt → 0 < y.toInt → 0 ≤ (x % y).toInt ∧ (x % y).toInt < y.toInt := by
  intro h1 h2
  rw [Int32.toInt_mod, Int.tmod_eq_emod_of_nonneg h1]
  exact ⟨Int.emod_nonneg _ (by omega), Int.emod_lt_of_pos _ h2⟩
/-- an array of kind ty, of length z, whose i-th component is f i -/
def OArr (Z : State) (h : Heap) (a : Addr) (ty : FieldType) (z : Int32) (f : Nat → Value) : Prop := ∃ c : Cell, Arr Z h a c ty ∧ c.slots.size = z.toNatClampNeg ∧ ¬ z < 0 ∧ ∀ i, i < c.slots.size → c.slots[i]? = some (f i)
section OArrs
variable {h' : Heap} {a b : Addr} {ty : FieldType} {z : Int32} {f : Nat → Value} {sl : Nat} {v : Value}
theorem OArr.lt (F : OArr Z h a ty z f) : a < h.size := by obtain ⟨c, A, -⟩ := F; exact A.lt
theorem OArr.ext (F : OArr Z h a ty z f) (E : Ext h h') : OArr Z h' a ty z f := by obtain ⟨c, A, r⟩ := F; exact ⟨c, A.ext E, r⟩
theorem OArr.other (F : OArr Z h b ty z f) (W : Wr h h' a sl v) (q : b ≠ a) : OArr Z h' b ty z f := by obtain ⟨c, A, r⟩ := F; exact ⟨c, A.other W q, r⟩
theorem OArr.keep {ws : List Addr} (F : OArr Z h a ty z f) (K : Keep h h' ws) (q : a ∉ ws) : OArr Z h' a ty z f := by obtain ⟨c, A, r⟩ := F; exact ⟨c, ⟨K.2.1 a c A.1 q, A.2⟩, r⟩
theorem OArr.imp {g : Nat → Value} (F : OArr Z h a ty z f) (k : ∀ i, i < z.toNatClampNeg → f i = g i) : OArr Z h a ty z g := by
  obtain ⟨c, A, S, r, G⟩ := F
  exact ⟨c, A, S, r, fun i hi => by rw [G i hi, k i (by rw [← S]; exact hi)]⟩
theorem OArr.new {k : ClassId} (A : Arr Z h a (newA k ty z) ty) (q : ¬ z < 0) : OArr Z h a ty z (fun _ => defaultValue ty) :=
  ⟨_, A, sz_new _ _ _, q, fun i hi => by simp only [newA, Array.size_replicate] at hi; simp [newA, hi]⟩
theorem OArr.set (F : OArr Z h a ty z f) (W : Wr h h' a sl v) : OArr Z h' a ty z (fun i => if i = sl then v else f i) := by
  obtain ⟨c, A, S, r, G⟩ := F
  refine ⟨_, A.same W, by rw [sz_set]; exact S, r, fun i hi => ?_⟩
  rw [sz_set] at hi
  show (c.setSlot sl v).slots[i]? = some (if i = sl then v else f i)
  by_cases q : i = sl
  · subst q; simp [Cell.setSlot, hi]
  · rw [if_neg q, ← G i hi]
    simp [Cell.setSlot, Array.getElem?_setIfInBounds, Ne.symm q]
theorem oNeA {C : String} {k : Nat} (E : Exa Z h a C) (wi : (Jvm.Cond.instantiable C k).before a0 Z = true) (F : OArr Z h b ty z f) : a ≠ b := by
  obtain ⟨c, A, -⟩ := F; exact ne_arr E wi A
theorem oIn {j : Int32} {n : Nat} (S : n = z.toNatClampNeg) (h1 : 0 ≤ j.toInt) (h2 : j.toInt < z.toInt) : ¬ (j < 0 ∨ n ≤ j.toNatClampNeg) := by
  intro q
  have e0 : (0 : Int32).toInt = 0 := by decide
  have e1 : j.toNatClampNeg = j.toInt.toNat := rfl
  have e2 : z.toNatClampNeg = z.toInt.toNat := rfl
  rcases q with q | q
  · have := oLt q; omega
  · rw [S, e1, e2] at q; omega
theorem oLen (X : Stand p l e R s m args below meth c T locs cells slots) (hx : p.tables.exec = Jvm.exec) (hZ : Z.Warmed39 s.vm) (eT : T.heap = h) (F : OArr Z h a ty z f) {g : JFrame} (hg : g.method = m) {rest : List Value} (hs : g.stack = .ref a :: rest) (hd : decode c.code g.pc = .ok (.arraylength, 1)) {target : State}
    (k : Steps p.tables e below (T.setTop { g with pc := g.pc + 1, stack := .int z :: rest }) target) : Steps p.tables e below (T.setTop g) target := by
  obtain ⟨cl, A, S, r, -⟩ := F
  refine X.arraylength hx (by rw [eT]; exact A.1) (State.isArrayOf_alike hZ.alike A.2.1) (g := g) hg hs hd _ ?_
  rw [len_of S r]; exact k
theorem oInd (F : OArr Z h a ty z f) {j : Int32} (h1 : 0 ≤ j.toInt) (h2 : j.toInt < z.toInt) : ∃ cl, Arr Z h a cl ty ∧ ¬ (j < 0 ∨ cl.slots.size ≤ j.toNatClampNeg) ∧ cl.slots[j.toNatClampNeg]? = some (f j.toNatClampNeg) := by
  obtain ⟨cl, A, S, r, G⟩ := F
  have q := oIn S h1 h2
  exact ⟨cl, A, q, G _ (Nat.lt_of_not_le fun w => q (Or.inr w))⟩
theorem oLdI (X : Stand p l e R s m args below meth c T locs cells slots) (hx : p.tables.exec = Jvm.exec) (hZ : Z.Warmed39 s.vm) (eT : T.heap = h) (F : OArr Z h a .int z f) {j x : Int32} (h1 : 0 ≤ j.toInt) (h2 : j.toInt < z.toInt) (hv : f j.toNatClampNeg = .int x) {g : JFrame} (hg : g.method = m) {rest : List Value} (hs : g.stack = .int j :: .ref a :: rest) (hd : decode c.code g.pc = .ok (.iaload, 1)) {target : State}
    (k : Steps p.tables e below (T.setTop { g with pc := g.pc + 1, stack := .int x :: rest }) target) : Steps p.tables e below (T.setTop g) target := by
  obtain ⟨cl, A, q, G⟩ := oInd F h1 h2
  rw [hv] at G
  exact X.iaload hx (j := j) (v := .int x) (by rw [eT]; exact A.1) (State.isArrayOf_alike hZ.alike A.2.1) A.2.2 q G (g := g) hg hs hd _ k
theorem oLdD (X : Stand p l e R s m args below meth c T locs cells slots) (hx : p.tables.exec = Jvm.exec) (hZ : Z.Warmed39 s.vm) (eT : T.heap = h) (F : OArr Z h a .double z f) {j : Int32} {x : UInt64} (h1 : 0 ≤ j.toInt) (h2 : j.toInt < z.toInt) (hv : f j.toNatClampNeg = .double x) {g : JFrame} (hg : g.method = m) {rest : List Value} (hs : g.stack = .int j :: .ref a :: rest) (hd : decode c.code g.pc = .ok (.daload, 1)) {target : State}
    (k : Steps p.tables e below (T.setTop { g with pc := g.pc + 1, stack := .double x :: rest }) target) : Steps p.tables e below (T.setTop g) target := by
  obtain ⟨cl, A, q, G⟩ := oInd F h1 h2
  rw [hv] at G
  exact X.daload hx (j := j) (v := .double x) (by rw [eT]; exact A.1) (State.isArrayOf_alike hZ.alike A.2.1) A.2.2 q G (g := g) hg hs hd _ k
theorem oStI (X : Stand p l e R s m args below meth c T locs cells slots) (hx : p.tables.exec = Jvm.exec) (hZ : Z.Warmed39 s.vm) (eT : T.heap = h) (F : OArr Z h a .int z f) {j x : Int32} (h1 : 0 ≤ j.toInt) (h2 : j.toInt < z.toInt) {g : JFrame} (hg : g.method = m) {rest : List Value} (hs : g.stack = .int x :: .int j :: .ref a :: rest) (hd : decode c.code g.pc = .ok (.iastore, 1)) :
    ∃ T' h', Stand p l e R s m args below meth c T' (locs ++ [⟨a, j.toNatClampNeg⟩]) cells slots ∧ T'.heap = h' ∧ Wr h h' a j.toNatClampNeg (.int x) ∧ ∀ target, Steps p.tables e below (T'.setTop { g with pc := g.pc + 1, stack := rest }) target → Steps p.tables e below (T.setTop g) target := by
  obtain ⟨cl, A, q, G⟩ := oInd F h1 h2
  exact stI X hx hZ eT A q hg hs hd
theorem oStD (X : Stand p l e R s m args below meth c T locs cells slots) (hx : p.tables.exec = Jvm.exec) (hZ : Z.Warmed39 s.vm) (eT : T.heap = h) (F : OArr Z h a .double z f) {j : Int32} {x : UInt64} (h1 : 0 ≤ j.toInt) (h2 : j.toInt < z.toInt) {g : JFrame} (hg : g.method = m) {rest : List Value} (hs : g.stack = .double x :: .int j :: .ref a :: rest) (hd : decode c.code g.pc = .ok (.dastore, 1)) :
    ∃ T' h', Stand p l e R s m args below meth c T' (locs ++ [⟨a, j.toNatClampNeg⟩]) cells slots ∧ T'.heap = h' ∧ Wr h h' a j.toNatClampNeg (.double x) ∧ ∀ target, Steps p.tables e below (T'.setTop { g with pc := g.pc + 1, stack := rest }) target → Steps p.tables e below (T.setTop g) target := by
  obtain ⟨cl, A, q, G⟩ := oInd F h1 h2
  exact stD X hx hZ eT A q hg hs hd
theorem oClone (X : Stand p l e R s m args below meth c T locs cells slots) (hx : p.tables.exec = Jvm.exec) (hZ : Z.Warmed39 s.vm) {own ad : String} {index : Nat} (hown : s.vm.findClass own = some m.cls)
    (w1 : (Jvm.Cond.methodLink own index ⟨ad, "clone", "()Ljava/lang/Object;"⟩).before a0 Z = true) (w2 : (Jvm.Cond.sameMethod ad "java/lang/Object" "clone" "()Ljava/lang/Object;").before a0 Z = true) (w3 : (Jvm.Cond.native ⟨"java/lang/Object", "clone", "()Ljava/lang/Object;"⟩).before a0 Z = true)
    (w4 : (Jvm.Cond.instanceMethod ⟨"java/lang/Object", "clone", "()Ljava/lang/Object;"⟩).before a0 Z = true) (w5 : (Jvm.Cond.selects ad ⟨ad, "clone", "()Ljava/lang/Object;"⟩ ⟨"java/lang/Object", "clone", "()Ljava/lang/Object;"⟩).before a0 Z = true) (w6 : (Jvm.Cond.castable ad "java/lang/Cloneable").before a0 Z = true)
    (eT : T.heap = h) (F : OArr Z h a ty z f) (E : Exa Z h a ad) (hfit : ∀ i, i < z.toNatClampNeg → fits ty (f i) = true) {g : JFrame} (hg : g.method = m) (hsize : g.locals.size = c.maxLocals) {rest : List Value} (hst : g.stack = .ref a :: rest) (hd : decode c.code g.pc = .ok (.invokevirtual index, 3))
    (hf : 1 ≤ R.frames) {W cap : Nat} (hW : 2 * g.monitorRoom + (rest.map fun v => v.category).sum ≤ W) (hl : W + 14 ≤ R.locals) (hcap : z.toNatClampNeg ≤ cap) (hc : cells + 1 ≤ R.cells) (hsl : slots + cap ≤ R.slots) :
    ∃ T' h', Stand p l e R s m args below meth c T' locs (cells + 1) (slots + cap) ∧ T'.heap = h' ∧ Ext h h' ∧ OArr Z h' h.size ty z f ∧ Exa Z h' h.size ad ∧
      ∀ target, Steps p.tables e below (T'.setTop { g with pc := g.pc + 3, stack := .ref h.size :: rest }) target → Steps p.tables e below (T.setTop g) target := by
  obtain ⟨cl, A, S, r, G⟩ := F
  have FC : FitC Z cl := fitC_of A fun i hi v hv => by
    rw [G i hi] at hv; cases hv; exact hfit i (by rw [← S]; exact hi)
  obtain ⟨T', h', X', e', ex, A', E', st⟩ := cloneA X hx hZ hown w1 w2 w3 w4 w5 w6 eT A E FC hg hsize hst hd hf hW hl (by rw [S]; exact hcap) hc hsl
  exact ⟨T', h', X', e', ex, ⟨cloneOf cl, A', S, r, G⟩, E', st⟩
end OArrs
/-- from a case's equation to the value -/
theorem oEqv {f s : State} {o : Option Outcome} {idx : List Nat} {a b : Term} (h : (Jvm.Cond.eq a b).value args f o s idx = some true) : ∃ x, a.eval args f o idx s = some x ∧ b.eval args f o idx s = some x := by
  obtain ⟨x, y, h1, h2, -, -⟩ := cmp_v (Or.inl h)
  cases x <;> cases y <;> simp [Cond.value, h1, h2] at h <;> first | (subst h; exact ⟨_, h1, h2⟩) | exact ⟨_, h1, h2⟩
theorem oFeq {s : State} {t u : Term} {x : Addr} {C n d : String} {w : Value} (ht : t.eval args s none [] s = some (.ref x)) (h : (Jvm.Cond.eq (.field t C n d) u).value args s none s [] = some true) (hu : u.eval args s none [] s = some w) : s.fieldOf? x C n d = some w := by
  obtain ⟨v, h1, h2⟩ := oEqv h
  rw [fld_at ht] at h1
  rw [h1, ← h2, hu]
end OwnKit
section Flt
open Jvm.FP.Core
theorem own_two : val64 4611686018427387904 = .fin false (2 ^ 52) (-51) := by decide +kernel
theorem own_q : b64.qmin = -1074 := by decide +kernel
theorem own_sgmul (s : Bool) (a b : Nat) : signed s (a * b) = (a : Int) * signed s b := by cases s <;> simp [signed, Int.mul_neg]
theorem own_units {s : Bool} {c : Nat} {q : Int} (h : b64.qmin ≤ q) : signed (false != s) (inUnits (2 ^ 52 * c) (-51 + q) (b64.qmin - 51)) = ((2 ^ 52 : Nat) : Int) * zval b64 (.fin s c q) := by
  unfold inUnits
  rw [show (-51 + q - (b64.qmin - 51)) = q - b64.qmin by omega, Nat.mul_assoc, own_sgmul]
  congr 1
  cases s <;> rfl
theorem own_dbl_ge {y V : UInt64} (hy : DFin y) (hV : val64 V ≠ .nan) (h : zval b64 (val64 V) ≤ 2 * zval b64 (val64 y)) : zval b64 (val64 V) ≤ zval b64 (val64 (dmul 4611686018427387904 y)) := by
  obtain ⟨s, c, q, hy⟩ := hy
  have hq : b64.qmin ≤ q := by have := val64_fits y; rw [hy] at this; exact this.2.1
  rw [val64_dmul, own_two, hy]
  rw [hy] at h
  refine zval_round_ge good_b64 (val64_fits V) hV (e0 := b64.qmin - 51) (by omega) (by omega) ?_
  rw [own_units hq, show (b64.qmin - (b64.qmin - 51)).toNat = 51 by omega]
  have e1 : ((2 ^ 51 : Nat) : Int) = 2251799813685248 := by decide +kernel
  have e2 : ((2 ^ 52 : Nat) : Int) = 4503599627370496 := by decide +kernel
  rw [e1, e2]; omega
theorem own_dbl_le {y V : UInt64} (hy : DFin y) (hV : val64 V ≠ .nan) (h : 2 * zval b64 (val64 y) ≤ zval b64 (val64 V)) : zval b64 (val64 (dmul 4611686018427387904 y)) ≤ zval b64 (val64 V) := by
  obtain ⟨s, c, q, hy⟩ := hy
  have hq : b64.qmin ≤ q := by have := val64_fits y; rw [hy] at this; exact this.2.1
  rw [val64_dmul, own_two, hy]
  rw [hy] at h
  refine zval_round_le good_b64 (val64_fits V) hV (e0 := b64.qmin - 51) (by omega) (by omega) ?_
  rw [own_units hq, show (b64.qmin - (b64.qmin - 51)).toNat = 51 by omega]
  have e1 : ((2 ^ 51 : Nat) : Int) = 2251799813685248 := by decide +kernel
  have e2 : ((2 ^ 52 : Nat) : Int) = 4503599627370496 := by decide +kernel
  rw [e1, e2]; omega
theorem own_fin {y : UInt64} (h : val64 y ≠ .nan) (h1 : zval b64 (val64 y) ≤ 18446744073709551616 * (one64 : Int)) (h2 : -(18446744073709551616 * (one64 : Int)) ≤ zval b64 (val64 y)) : DFin y := by
  unfold DFin
  cases e : val64 y with
  | nan => exact absurd e h
  | fin s c q => exact ⟨s, c, q, rfl⟩
  | inf s =>
    rw [e] at h1 h2
    cases s
    · exact absurd h1 (by decide +kernel)
    · exact absurd h2 (by decide +kernel)
theorem own_dbl_ex {y : UInt64} (hy : DFin y) (h0 : ((2 ^ 52 : Nat) : Int) ≤ zval b64 (val64 y) ∨ zval b64 (val64 y) ≤ -((2 ^ 52 : Nat) : Int)) (h1 : zval b64 (val64 y) ≤ 9007199254740992 * (one64 : Int)) (h2 : -(9007199254740992 * (one64 : Int)) ≤ zval b64 (val64 y)) :
    zval b64 (val64 (dmul 4611686018427387904 y)) = 2 * zval b64 (val64 y) := by
  obtain ⟨s, c, q, hy⟩ := hy
  have hf := val64_fits y
  rw [hy] at hf h0 h1 h2
  rw [val64_dmul, own_two, hy]
  obtain ⟨f1, f2, f3, f4⟩ := hf
  have em : zmag b64 (.fin s c q) = c * 2 ^ (q - b64.qmin).toNat := rfl
  have hz : zval b64 (.fin s c q) = signed s (c * 2 ^ (q - b64.qmin).toNat) := rfl
  have hc : b64.tails ≤ c := by
    rcases f4 with f4 | f4
    · rw [hz, f4, Int.sub_self] at h0
      have e52 : b64.tails = 2 ^ 52 := by decide +kernel
      rw [e52]
      cases s <;> simp [signed] at h0 <;> omega
    · exact f4
  have hq : q + 1 ≤ b64.qmax := by
    refine Int.not_lt.mp fun z => ?_
    obtain rfl : q = b64.qmax := by omega
    have e1 : 2 ^ 2045 ≤ c * 2 ^ (b64.qmax - b64.qmin).toNat := by
      rw [show (b64.qmax - b64.qmin).toNat = 2045 by decide +kernel]
      have e52 : b64.tails = 2 ^ 52 := by decide +kernel
      exact Nat.le_mul_of_pos_left _ (by omega)
    have e2 : (9007199254740992 * (one64 : Int)) < ((2 ^ 2045 : Nat) : Int) := by decide +kernel
    rw [hz] at h1 h2
    have e3 : ((2 ^ 2045 : Nat) : Int) ≤ ((c * 2 ^ (b64.qmax - b64.qmin).toNat : Nat) : Int) := Int.ofNat_le.mpr e1
    generalize c * 2 ^ (b64.qmax - b64.qmin).toNat = M at *
    generalize ((2 ^ 2045 : Nat) : Int) = B at *
    generalize (9007199254740992 * (one64 : Int)) = C at *
    cases s <;> simp only [signed, Bool.false_eq_true, if_false, if_true] at h1 h2 <;> omega
  have ex : round b64 (exactProduct (.fin false (2 ^ 52) (-51)) (.fin s c q)) = .fin (false != s) c (q + 1) := by
    show roundRatio b64 (false != s) (2 ^ 52 * c) 1 (-51 + q) = _
    refine roundRatio_exact good_b64 (by decide) ⟨f1, by omega, hq, Or.inr hc⟩ ?_
    rw [show (-51 + q - (q + 1)).toNat = 0 by omega, show (q + 1 - (-51 + q)).toNat = 52 by omega]
    rw [Nat.pow_zero, Nat.mul_one, Nat.mul_one, Nat.mul_comm]
  rw [ex, hz]
  show signed (false != s) (c * 2 ^ (q + 1 - b64.qmin).toNat) = _
  rw [show (q + 1 - b64.qmin).toNat = (q - b64.qmin).toNat + 1 by omega, Nat.pow_succ, ← Nat.mul_assoc]
  generalize c * 2 ^ (q - b64.qmin).toNat = M
  cases s <;> simp only [signed, Bool.false_eq_true, if_false, if_true, bne_self_eq_false, Bool.false_bne, Bool.bne_true, Bool.not_false] <;> omega
def own_P (w s : Int32) : Int := w.toInt * s.toInt
theorem own_Pb (w s : Int32) : -4611686018427387904 ≤ own_P w s ∧ own_P w s ≤ 4611686018427387904 := by
  have h1 := rng32 w; have h2 := rng32 s
  have q : (own_P w s).natAbs ≤ 2147483648 * 2147483648 := by
    unfold own_P; rw [Int.natAbs_mul]; exact Nat.mul_le_mul (by omega) (by omega)
  omega
theorem own_y1 (w s : Int32) : DFin (dmul (i2d w) (i2d s)) ∧ (∀ V : UInt64, val64 V ≠ .nan → zval b64 (val64 V) ≤ own_P w s * (one64 : Int) → zval b64 (val64 V) ≤ zval b64 (val64 (dmul (i2d w) (i2d s)))) ∧ (∀ V : UInt64, val64 V ≠ .nan → own_P w s * (one64 : Int) ≤ zval b64 (val64 V) → zval b64 (val64 (dmul (i2d w) (i2d s))) ≤ zval b64 (val64 V)) ∧ ((own_P w s).natAbs ≤ 2 ^ 53 → zval b64 (val64 (dmul (i2d w) (i2d s))) = own_P w s * (one64 : Int)) := by
  have h1 := rng32 w; have h2 := rng32 s
  have ew : w.toInt64.toInt = w.toInt := Int32.toInt_toInt64 w
  have es : s.toInt64.toInt = s.toInt := Int32.toInt_toInt64 s
  have sw : Small53 w.toInt64 := by unfold Small53; rw [ew]; omega
  have ss : Small53 s.toInt64 := by unfold Small53; rw [es]; omega
  have hP := own_Pb w s
  rw [i2d_l2d, i2d_l2d]
  by_cases hz : w.toInt64 = 0 ∨ s.toInt64 = 0
  · have hP0 : own_P w s = 0 := by
      unfold own_P
      rcases hz with z | z
      · rw [← ew, z]; exact Int.zero_mul _
      · rw [← es, z]; exact Int.mul_zero _
    rw [dmul_l2d_zero sw ss hz, hP0, Int.zero_mul]
    split
    · have e0 : zval b64 (val64 9223372036854775808) = 0 := by decide +kernel
      rw [e0]
      exact ⟨⟨true, 0, -1074, by decide +kernel⟩, fun V _ h => h, fun V _ h => h, fun _ => rfl⟩
    · have e0 : zval b64 (val64 (l2d 0)) = 0 := by decide +kernel
      rw [e0]
      exact ⟨⟨false, 0, -1074, by decide +kernel⟩, fun V _ h => h, fun V _ h => h, fun _ => rfl⟩
  · have ep : w.toInt64.toInt * s.toInt64.toInt = own_P w s := by rw [ew, es]; rfl
    have em : (w.toInt64 * s.toInt64).toInt = own_P w s := by rw [int64_mul (by omega) (by omega), ep]
    rw [dmul_l2d sw ss (fun z => hz (Or.inl z)) (fun z => hz (Or.inr z)) (by omega) (by omega), ← em]
    exact ⟨l2d_fin _, fun V hV h => l2d_zval_ge hV h, fun V hV h => l2d_zval_le hV h, fun h => DInt_zval (l2d_int h)⟩
theorem own_two_ge : ((2 ^ 52 : Nat) : Int) ≤ (one64 : Int) := by decide +kernel
theorem own_lt (w s c : Int32) : zval b64 (val64 (dadd (dmul 4611686018427387904 (dmul (i2d w) (i2d s))) (i2d c))) < zval b64 (val64 4845873199050653696) ↔ (own_P w s ≤ 9007199254740992 ∧ (own_P w s < -9007199254740992 ∨ 2 * own_P w s + c.toInt < 9007199254740992)) := by
  obtain ⟨f1, g1, l1, x1⟩ := own_y1 w s
  have hP := own_Pb w s
  have hc := rng32 c
  have hci : zval b64 (val64 (i2d c)) = c.toInt * (one64 : Int) := DInt_zval (i2d_int c)
  have fc : DFin (i2d c) := i2d_fin c
  have u0 := one64_pos
  have n2 : val64 (dmul 4611686018427387904 (dmul (i2d w) (i2d s))) ≠ .nan := (notNaN_iff _).mp (dmul_out ⟨_, _, _, own_two⟩ f1)
  have V53 := zval_two53
  have V54 : zval b64 (val64 4850376798678024192) = 18014398509481984 * (one64 : Int) := by decide +kernel
  have V54n : zval b64 (val64 14073748835532800000) = -(18014398509481984 * (one64 : Int)) := by decide +kernel
  have V53n := zval_two53n
  have V63 : zval b64 (val64 4890909195324358656) = 9223372036854775808 * (one64 : Int) := by decide +kernel
  have V63n : zval b64 (val64 14114281232179134464) = -(9223372036854775808 * (one64 : Int)) := by decide +kernel
  have V62 : zval b64 (val64 4886405595696988160) = 4611686018427387904 * (one64 : Int) := by decide +kernel
  have V62n : zval b64 (val64 14109777632551763968) = -(4611686018427387904 * (one64 : Int)) := by decide +kernel
  have Vm : zval b64 (val64 4845873199050653695) = 9007199254740991 * (one64 : Int) := by decide +kernel
  have up : (∀ k : Int, own_P w s ≤ k → own_P w s * (one64 : Int) ≤ k * (one64 : Int)) := fun k h => Int.mul_le_mul_of_nonneg_right h (Int.natCast_nonneg _)
  have dn : (∀ k : Int, k ≤ own_P w s → k * (one64 : Int) ≤ own_P w s * (one64 : Int)) := fun k h => Int.mul_le_mul_of_nonneg_right h (Int.natCast_nonneg _)
  have b1 := l1 4886405595696988160 (by decide +kernel) (by rw [V62]; exact up _ hP.2)
  have b2 := g1 14109777632551763968 (by decide +kernel) (by rw [V62n]; have := dn _ hP.1; omega)
  have c1 := own_dbl_le f1 (V := 4890909195324358656) (by decide +kernel) (by rw [V63]; rw [V62] at b1; omega)
  have c2 := own_dbl_ge f1 (V := 14114281232179134464) (by decide +kernel) (by rw [V63n]; rw [V62n] at b2; omega)
  rw [V63] at c1; rw [V63n] at c2
  have f2 : DFin (dmul 4611686018427387904 (dmul (i2d w) (i2d s))) := own_fin n2 (by omega) (by omega)
  have k1 : c.toInt * (one64 : Int) ≤ 2147483647 * (one64 : Int) := Int.mul_le_mul_of_nonneg_right (by omega) (Int.natCast_nonneg _)
  have k2 : (-2147483648) * (one64 : Int) ≤ c.toInt * (one64 : Int) := Int.mul_le_mul_of_nonneg_right (by omega) (Int.natCast_nonneg _)
  rw [val64_dadd]
  have sg : ∀ V : UInt64, val64 V ≠ .nan → _ := fun V hV => sum_ge good_b64 f2 fc (val64_fits _) (val64_fits _) (val64_fits V) hV
  have sl : ∀ V : UInt64, val64 V ≠ .nan → _ := fun V hV => sum_le good_b64 f2 fc (val64_fits _) (val64_fits _) (val64_fits V) hV
  rw [hci] at sg sl
  rcases Int.lt_or_le 9007199254740992 (own_P w s) with q | q
  · have b := g1 4845873199050653696 (by decide +kernel) (by rw [V53]; exact dn _ (Int.le_of_lt q))
    have c3 := own_dbl_ge f1 (V := 4850376798678024192) (by decide +kernel) (by rw [V54]; rw [V53] at b; omega)
    rw [V54] at c3
    have d := sg 4845873199050653696 (by decide +kernel) (by rw [V53]; omega)
    exact ⟨fun h => absurd h (Int.not_lt.mpr d), fun h => by omega⟩
  · rcases Int.lt_or_le (own_P w s) (-9007199254740992) with q2 | q2
    · have b := l1 14069245235905429504 (by decide +kernel) (by rw [V53n]; have := up _ (Int.le_of_lt q2); omega)
      have c3 := own_dbl_le f1 (V := 14073748835532800000) (by decide +kernel) (by rw [V54n]; rw [V53n] at b; omega)
      rw [V54n] at c3
      have d := sl 4845873199050653695 (by decide +kernel) (by rw [Vm]; omega)
      rw [Vm] at d
      exact ⟨fun _ => ⟨q, Or.inl q2⟩, fun _ => by rw [V53]; omega⟩
    · have x := x1 (by omega)
      have y : zval b64 (val64 (dmul 4611686018427387904 (dmul (i2d w) (i2d s)))) = 2 * (own_P w s * (one64 : Int)) := by
        by_cases hz : own_P w s = 0
        · rw [hz, Int.zero_mul] at x ⊢
          have z0 : zval b64 (val64 0) = 0 := by decide +kernel
          have p1 := own_dbl_ge f1 (V := 0) (by decide +kernel) (by rw [z0, x]; omega)
          have p2 := own_dbl_le f1 (V := 0) (by decide +kernel) (by rw [z0, x]; omega)
          rw [z0] at p1 p2; omega
        · rw [← x]
          have tg := own_two_ge
          refine own_dbl_ex f1 ?_ ?_ ?_
          · rw [x]
            rcases Int.lt_or_gt_of_ne hz with z | z
            · right; have := up (-1) (by omega); omega
            · left; have := dn 1 (by omega); omega
          · rw [x]; exact up _ q
          · rw [x]; have := dn _ q2; omega
      have e : 2 * (own_P w s * (one64 : Int)) + c.toInt * (one64 : Int) = (2 * own_P w s + c.toInt) * (one64 : Int) := by rw [Int.add_mul, Int.mul_assoc]
      rw [y, e] at sg sl
      rcases Int.lt_or_le (2 * own_P w s + c.toInt) 9007199254740992 with r | r
      · have d := sl 4845873199050653695 (by decide +kernel) (by rw [Vm]; exact Int.mul_le_mul_of_nonneg_right (by omega) (Int.natCast_nonneg _))
        rw [Vm] at d
        exact ⟨fun _ => ⟨q, Or.inr r⟩, fun _ => by rw [V53]; omega⟩
      · have d := sg 4845873199050653696 (by decide +kernel) (by rw [V53]; exact Int.mul_le_mul_of_nonneg_right (by omega) (Int.natCast_nonneg _))
        exact ⟨fun h => absurd h (Int.not_lt.mpr d), fun h => by omega⟩
end Flt

def own_y (a b c : UInt64) : UInt64 := FP.dadd (FP.dmul (4611686018427387904 : UInt64) (FP.dmul a b)) c
def own_ie (a b c : UInt64) : Int32 := if cmpValue (FP.dcmp (own_y a b c) (4845873199050653696 : UInt64)) .g < 0 then 1 else 0
theorem own_n1 (w s : Int32) : Jvm.Free.Fl.NoNaN64 (FP.dmul (FP.i2d w) (FP.i2d s)) := Jvm.Free.Fl.dmul_out (Jvm.Free.Fl.i2d_fin w) (Jvm.Free.Fl.i2d_fin s)
theorem own_nf {y : UInt64} (h : FP.Core.DFin y) : Jvm.Free.Fl.Fin64 y := Jvm.Free.Fl.fin64_core.mpr h
theorem own_n2 (w s : Int32) : Jvm.Free.Fl.NoNaN64 (FP.dmul (4611686018427387904 : UInt64) (FP.dmul (FP.i2d w) (FP.i2d s))) := Jvm.Free.Fl.dmul_out (by unfold Jvm.Free.Fl.Fin64; decide) (own_nf (own_y1 w s).1)
theorem own_n3 (w s c : Int32) : Jvm.Free.Fl.NoNaN64 (own_y (FP.i2d w) (FP.i2d s) (FP.i2d c)) := Jvm.Free.Fl.dadd_out (own_n2 w s) (Jvm.Free.Fl.i2d_fin c)
theorem own_iff (w s c : Int32) : cmpValue (FP.dcmp (own_y (FP.i2d w) (FP.i2d s) (FP.i2d c)) (4845873199050653696 : UInt64)) .g < 0 ↔ (own_P w s ≤ 9007199254740992 ∧ (own_P w s < -9007199254740992 ∨ 2 * own_P w s + c.toInt < 9007199254740992)) := by
  rw [← own_lt w s c]
  have n3 : FP.Core.val64 (own_y (FP.i2d w) (FP.i2d s) (FP.i2d c)) ≠ .nan := (FP.Core.notNaN_iff _).mp (Jvm.Free.Fl.noNaN64_no.mp (own_n3 w s c))
  have q : FP.dcmp (own_y (FP.i2d w) (FP.i2d s) (FP.i2d c)) (4845873199050653696 : UInt64) = some (compare _ _) := FP.Core.dcmp_zval n3 (by decide +kernel)
  rw [q]
  show _ ↔ FP.Core.zval FP.Core.b64 (FP.Core.val64 (own_y (FP.i2d w) (FP.i2d s) (FP.i2d c))) < _
  generalize FP.Core.zval FP.Core.b64 (FP.Core.val64 (own_y (FP.i2d w) (FP.i2d s) (FP.i2d c))) = A
  generalize FP.Core.zval FP.Core.b64 (FP.Core.val64 (4845873199050653696 : UInt64)) = B
  rw [← FP.Core.compare_lt_iff]
  cases compare A B <;> decide
theorem own_p (w s : Int32) : (w.toInt64 * s.toInt64).toInt = own_P w s := by
  have hP := own_Pb w s
  have ew : w.toInt64.toInt = w.toInt := Int32.toInt_toInt64 w
  have es : s.toInt64.toInt = s.toInt := Int32.toInt_toInt64 s
  have ep : w.toInt64.toInt * s.toInt64.toInt = own_P w s := by rw [ew, es]; rfl
  rw [FP.Core.int64_mul (by omega) (by omega), ep]
theorem own_q0 : (9007199254740992 : Int64).toInt = 9007199254740992 := by decide
theorem own_q1 : (-(9007199254740992 : Int64)).toInt = -9007199254740992 := by decide
theorem own_a (w s c : Int32) (h : (9007199254740992 : Int64) < w.toInt64 * s.toInt64) : own_ie (FP.i2d w) (FP.i2d s) (FP.i2d c) = 0 := by
  have h := oLtL h; rw [own_p, own_q0] at h
  exact if_neg (fun q => by have := (own_iff w s c).mp q; omega)
theorem own_b (w s c : Int32) (h0 : ¬ (9007199254740992 : Int64) < w.toInt64 * s.toInt64) (h : w.toInt64 * s.toInt64 < -(9007199254740992 : Int64)) : own_ie (FP.i2d w) (FP.i2d s) (FP.i2d c) = 1 := by
  have h := oLtL h; rw [own_p, own_q1] at h
  exact if_pos ((own_iff w s c).mpr (by omega))
theorem own_s (w s c : Int32) (h0 : ¬ (9007199254740992 : Int64) < w.toInt64 * s.toInt64) (h1 : ¬ w.toInt64 * s.toInt64 < -(9007199254740992 : Int64)) : ((2 : Int64) * (w.toInt64 * s.toInt64) + c.toInt64).toInt = 2 * own_P w s + c.toInt := by
  have h0 := oNltL h0; rw [own_p, own_q0] at h0
  have h1 := oNltL h1; rw [own_p, own_q1] at h1
  have hc := rng32 c
  have ec : c.toInt64.toInt = c.toInt := Int32.toInt_toInt64 c
  have e2 : ((2 : Int64) * (w.toInt64 * s.toInt64)).toInt = 2 * own_P w s := by
    have t2 : (2 : Int64).toInt = 2 := by decide
    rw [FP.Core.int64_mul (by rw [own_p, t2]; omega) (by rw [own_p, t2]; omega), own_p, t2]
  rw [Int64.toInt_add, e2, ec]; exact Int.bmod_eq_of_le (by omega) (by omega)
theorem own_c (w s c : Int32) (h0 : ¬ (9007199254740992 : Int64) < w.toInt64 * s.toInt64) (h1 : ¬ w.toInt64 * s.toInt64 < -(9007199254740992 : Int64)) (h : (2 : Int64) * (w.toInt64 * s.toInt64) + c.toInt64 < (9007199254740992 : Int64)) : own_ie (FP.i2d w) (FP.i2d s) (FP.i2d c) = 1 := by
  have h := oLtL h; rw [own_s w s c h0 h1, own_q0] at h
  have h0 := oNltL h0; rw [own_p, own_q0] at h0
  exact if_pos ((own_iff w s c).mpr (by omega))
theorem own_d (w s c : Int32) (h0 : ¬ (9007199254740992 : Int64) < w.toInt64 * s.toInt64) (h1 : ¬ w.toInt64 * s.toInt64 < -(9007199254740992 : Int64)) (h : ¬ (2 : Int64) * (w.toInt64 * s.toInt64) + c.toInt64 < (9007199254740992 : Int64)) : own_ie (FP.i2d w) (FP.i2d s) (FP.i2d c) = 0 := by
  have h := oNltL h; rw [own_s w s c h0 h1, own_q0] at h
  have h1 := oNltL h1; rw [own_p, own_q1] at h1
  exact if_neg (fun q => by have := (own_iff w s c).mp q; omega)
theorem own_z {a b : UInt64} (h : FP.dmul a b = (0 : UInt64)) (c : Int32) : own_ie a b (FP.i2d c) = 1 := by
  have q := own_iff 0 0 c
  have e : own_y a b (FP.i2d c) = own_y (FP.i2d 0) (FP.i2d 0) (FP.i2d c) := by
    unfold own_y; rw [h, show FP.dmul (FP.i2d 0) (FP.i2d 0) = (0 : UInt64) by decide +kernel]
  unfold own_ie; rw [e]
  have hc := rng32 c
  have z : own_P 0 0 = 0 := by decide
  exact if_pos (q.mpr (by rw [z]; omega))
theorem own_z1 {a b : UInt64} (h : FP.dmul a b = (0 : UInt64)) : Jvm.Free.Fl.NoNaN64 (FP.dmul a b) := by rw [h]; unfold Jvm.Free.Fl.NoNaN64; decide
theorem own_z2 {a b : UInt64} (h : FP.dmul a b = (0 : UInt64)) : Jvm.Free.Fl.NoNaN64 (FP.dmul (4611686018427387904 : UInt64) (FP.dmul a b)) := by
  have q := own_n2 0 0; rw [show FP.dmul (FP.i2d 0) (FP.i2d 0) = (0 : UInt64) by decide +kernel] at q; rw [h]; exact q
theorem own_z3 {a b : UInt64} (h : FP.dmul a b = (0 : UInt64)) (c : Int32) : Jvm.Free.Fl.NoNaN64 (own_y a b (FP.i2d c)) := by
  have q := own_n3 0 0 c; unfold own_y at q ⊢; rw [show FP.dmul (FP.i2d 0) (FP.i2d 0) = (0 : UInt64) by decide +kernel] at q; rw [h]; exact q
theorem own_b0 : FP.dmul (9218868437227405311 : UInt64) (0 : UInt64) = (0 : UInt64) := by decide +kernel
theorem own_0b : FP.dmul (0 : UInt64) (9218868437227405311 : UInt64) = (0 : UInt64) := by decide +kernel
theorem own_d_prog_13_method_2_code_0 : decode prog_13_method_2_code 0 = .ok (.ldc2_w 13, 3) := by decide +kernel
theorem own_d_prog_13_method_2_code_3 : decode prog_13_method_2_code 3 = .ok (.dload_n 0, 1) := by decide +kernel
theorem own_d_prog_13_method_2_code_4 : decode prog_13_method_2_code 4 = .ok (.dload_n 2, 1) := by decide +kernel
theorem own_d_prog_13_method_2_code_5 : decode prog_13_method_2_code 5 = .ok (.dmul, 1) := by decide +kernel
theorem own_d_prog_13_method_2_code_6 : decode prog_13_method_2_code 6 = .ok (.dmul, 1) := by decide +kernel
theorem own_d_prog_13_method_2_code_7 : decode prog_13_method_2_code 7 = .ok (.dload 4, 2) := by decide +kernel
theorem own_d_prog_13_method_2_code_9 : decode prog_13_method_2_code 9 = .ok (.dadd, 1) := by decide +kernel
theorem own_d_prog_13_method_2_code_10 : decode prog_13_method_2_code 10 = .ok (.ldc2_w 15, 3) := by decide +kernel
theorem own_d_prog_13_method_2_code_13 : decode prog_13_method_2_code 13 = .ok (.dcmp .g, 1) := by decide +kernel
theorem own_d_prog_13_method_2_code_14 : decode prog_13_method_2_code 14 = .ok (.ifCond .ge 7, 3) := by decide +kernel
theorem own_d_prog_13_method_2_code_17 : decode prog_13_method_2_code 17 = .ok (.iconst 1, 1) := by decide +kernel
theorem own_d_prog_13_method_2_code_18 : decode prog_13_method_2_code 18 = .ok (.goto 4, 3) := by decide +kernel
theorem own_d_prog_13_method_2_code_22 : decode prog_13_method_2_code 22 = .ok (.ireturn, 1) := by decide +kernel
theorem own_d_prog_13_method_2_code_21 : decode prog_13_method_2_code 21 = .ok (.iconst 0, 1) := by decide +kernel
theorem own_pn_com_example_stepwise_medians_stepwisemedians_engine_LineEngine : plainName "com/example/stepwise_medians/stepwisemedians/engine/LineEngine" = true := by first | (simp [plainName, overriddenIn]; done) | decide +kernel
theorem own_ef_rmE (x0 : UInt64) (x1 : UInt64) (x2 : UInt64) (m : MethodId) : entryFrame m #[(.double x0), (.double x1), (.double x2)] 6 = mkF m 0 #[.val (.double x0), .second, .val (.double x1), .second, .val (.double x2), .second] [] := by first | (simp [entryFrame, mkF, argsToLocals, Value.category]; done) | rfl
set_option maxRecDepth 65536 in
set_option maxHeartbeats 40000000 in
theorem rmE (l : Launch) (Z : State) (a0 : Array Value) (hw : ∀ d ∈ tables_1, d.before a0 Z = true) (da db dc : UInt64) (h0 : Heap) (n0 : Nat) (Z0 : n0 ≤ h0.size) (n1 : Jvm.Free.Fl.NoNaN64 (FP.dmul da db)) (n2 : Jvm.Free.Fl.NoNaN64 (FP.dmul (4611686018427387904 : UInt64) (FP.dmul da db))) (n3 : Jvm.Free.Fl.NoNaN64 (own_y da db dc)) :
    OCon l Z (⟨"com/example/stepwise_medians/stepwisemedians/engine/LineEngine", "isExact", "(DDD)Z"⟩ : MethodName) prog_13_method_2_code 6 (some .boolean) ({ frames := 0, cells := 0, slots := 0, locals := 0 } : Room) #[(.double da), (.double db), (.double dc)] h0 (fun v h L => v = some (.int (own_ie da db dc)) ∧ Fr n0 L ∧ h = h0) := by
  refine OConK.intro (y := (⟨"com/example/stepwise_medians/stepwisemedians/engine/LineEngine", "isExact", "(DDD)Z"⟩ : MethodName)) (plainFor_of_name own_pn_com_example_stepwise_medians_stepwisemedians_engine_LineEngine) (own_ef_rmE da db dc) ?_
  intro p e s m below meth c s₁ hx hby hml hown hnm hret hlk hZ X0 e0
  show OGoal p e below s _ _ _ (s₁.setTop (mkF m 0 #[.val (.double da), .second, .val (.double db), .second, .val (.double dc), .second] []))
  refine OGoal.mp (S' := (s₁.setTop (mkF m 3 #[.val (.double da), .second, .val (.double db), .second, .val (.double dc), .second] [(.double (4611686018427387904 : UInt64))]))) (fun _ k => X0.ldc2DoubleC hx hown (mvT hZ (hw _ (List.mem_of_getElem? (i := 5) rfl))) (g := mkF m 0 #[.val (.double da), .second, .val (.double db), .second, .val (.double dc), .second] []) rfl (hb hby own_d_prog_13_method_2_code_0) _ k) ?_
  refine OGoal.mp (S' := (s₁.setTop (mkF m 4 #[.val (.double da), .second, .val (.double db), .second, .val (.double dc), .second] [(.double da), (.double (4611686018427387904 : UInt64))]))) (fun _ k => XS.dloadN X0.here hx rfl (hb hby own_d_prog_13_method_2_code_3) rfl k) ?_
  refine OGoal.mp (S' := (s₁.setTop (mkF m 5 #[.val (.double da), .second, .val (.double db), .second, .val (.double dc), .second] [(.double db), (.double da), (.double (4611686018427387904 : UInt64))]))) (fun _ k => XS.dloadN X0.here hx rfl (hb hby own_d_prog_13_method_2_code_4) rfl k) ?_
  refine OGoal.mp (S' := (s₁.setTop (mkF m 6 #[.val (.double da), .second, .val (.double db), .second, .val (.double dc), .second] [(.double (FP.dmul da db)), (.double (4611686018427387904 : UInt64))]))) (fun _ k => XS.dmulS X0.here hx rfl (hb hby own_d_prog_13_method_2_code_5) rfl n1 rfl k) ?_
  refine OGoal.mp (S' := (s₁.setTop (mkF m 7 #[.val (.double da), .second, .val (.double db), .second, .val (.double dc), .second] [(.double (FP.dmul (4611686018427387904 : UInt64) (FP.dmul da db)))]))) (fun _ k => XS.dmulS X0.here hx rfl (hb hby own_d_prog_13_method_2_code_6) rfl n2 rfl k) ?_
  refine OGoal.mp (S' := (s₁.setTop (mkF m 9 #[.val (.double da), .second, .val (.double db), .second, .val (.double dc), .second] [(.double dc), (.double (FP.dmul (4611686018427387904 : UInt64) (FP.dmul da db)))]))) (fun _ k => XS.dload X0.here hx rfl (hb hby own_d_prog_13_method_2_code_7) rfl k) ?_
  refine OGoal.mp (S' := (s₁.setTop (mkF m 10 #[.val (.double da), .second, .val (.double db), .second, .val (.double dc), .second] [(.double (FP.dadd (FP.dmul (4611686018427387904 : UInt64) (FP.dmul da db)) dc))]))) (fun _ k => XS.daddS X0.here hx rfl (hb hby own_d_prog_13_method_2_code_9) rfl n3 rfl k) ?_
  refine OGoal.mp (S' := (s₁.setTop (mkF m 13 #[.val (.double da), .second, .val (.double db), .second, .val (.double dc), .second] [(.double (4845873199050653696 : UInt64)), (.double (FP.dadd (FP.dmul (4611686018427387904 : UInt64) (FP.dmul da db)) dc))]))) (fun _ k => X0.ldc2DoubleC hx hown (mvT hZ (hw _ (List.mem_of_getElem? (i := 6) rfl))) (g := mkF m 10 #[.val (.double da), .second, .val (.double db), .second, .val (.double dc), .second] [(.double (FP.dadd (FP.dmul (4611686018427387904 : UInt64) (FP.dmul da db)) dc))]) rfl (hb hby own_d_prog_13_method_2_code_10) _ k) ?_
  refine OGoal.mp (S' := (s₁.setTop (mkF m 14 #[.val (.double da), .second, .val (.double db), .second, .val (.double dc), .second] [(.int (cmpValue (FP.dcmp (FP.dadd (FP.dmul (4611686018427387904 : UInt64) (FP.dmul da db)) dc) (4845873199050653696 : UInt64)) .g))]))) (fun _ k => XS.dcmpS X0.here hx rfl (hb hby own_d_prog_13_method_2_code_13) rfl rfl k) ?_
  by_cases hc1 : (cmpValue (FP.dcmp (FP.dadd (FP.dmul (4611686018427387904 : UInt64) (FP.dmul da db)) dc) (4845873199050653696 : UInt64)) .g) < 0
  · refine OGoal.mp (S' := (s₁.setTop (mkF m 17 #[.val (.double da), .second, .val (.double db), .second, .val (.double dc), .second] []))) (fun _ k => XS.ifNo X0.here hx rfl (hb hby own_d_prog_13_method_2_code_14) rfl (XT.i0_ge_f hc1) k) ?_
    refine OGoal.mp (S' := (s₁.setTop (mkF m 18 #[.val (.double da), .second, .val (.double db), .second, .val (.double dc), .second] [(.int (1 : Int32))]))) (fun _ k => XS.iconst X0.here hx rfl (hb hby own_d_prog_13_method_2_code_17) k) ?_
    refine OGoal.mp (S' := (s₁.setTop (mkF m 22 #[.val (.double da), .second, .val (.double db), .second, .val (.double dc), .second] [(.int (1 : Int32))]))) (fun _ k => XS.goto X0.here hx rfl (pc0 := 18) (pc' := 22) rfl (hb hby own_d_prog_13_method_2_code_18) (by decide) (by decide) k) ?_
    refine oRetZ X0 hx hlk hret (Or.inr rfl) (hb hby own_d_prog_13_method_2_code_22) ?_ (by decide) (by decide)
    exact ⟨by unfold own_ie own_y; rw [if_pos hc1], (Fr.nil n0), e0⟩
  · refine OGoal.mp (S' := (s₁.setTop (mkF m 21 #[.val (.double da), .second, .val (.double db), .second, .val (.double dc), .second] []))) (fun _ k => XS.ifYes X0.here hx rfl (pc0 := 14) (pc' := 21) rfl (hb hby own_d_prog_13_method_2_code_14) rfl (XT.i0_ge_t hc1) (by decide) (by decide) k) ?_
    refine OGoal.mp (S' := (s₁.setTop (mkF m 22 #[.val (.double da), .second, .val (.double db), .second, .val (.double dc), .second] [(.int (0 : Int32))]))) (fun _ k => XS.iconst X0.here hx rfl (hb hby own_d_prog_13_method_2_code_21) k) ?_
    refine oRetZ X0 hx hlk hret (Or.inl rfl) (hb hby own_d_prog_13_method_2_code_22) ?_ (by decide) (by decide)
    exact ⟨by unfold own_ie own_y; rw [if_neg hc1], (Fr.nil n0), e0⟩
theorem own_pd__DDD_Z : parseMethodDescriptor "(DDD)Z" = some ⟨[.double, .double, .double], some .boolean⟩ := by decide +kernel
theorem own_pn_com_example_stepwise_medians_stepwisemedians_engine_LineEngineIsExactPinLaw : plainName "com/example/stepwise_medians/stepwisemedians/engine/LineEngineIsExactPinLaw" = true := by first | (simp [plainName, overriddenIn]; done) | decide +kernel
theorem own_ef_rm0 (x0 : Int32) (x1 : Int32) (x2 : Int32) (x3 : Int32) (m : MethodId) : entryFrame m #[(.int x0), (.int x1), (.int x2), (.int x3)] maxLocals = mkF m 0 #[.val (.int x0), .val (.int x1), .val (.int x2), .val (.int x3), .unset, .unset, .unset, .unset, .unset, .unset, .unset, .unset, .unset] [] := by first | (simp [entryFrame, mkF, argsToLocals, Value.category, maxLocals]; done) | rfl
set_option maxRecDepth 65536 in
set_option maxHeartbeats 40000000 in
theorem rm0 (l : Launch) (Z : State) (a0 : Array Value) (hw : ∀ d ∈ tables_1, d.before a0 Z = true) (p1 p2 p3 p4 : Int32) (h0 : Heap) (n0 : Nat) (Z0 : n0 ≤ h0.size)  :
    OConK l Z x code maxLocals ret room_1 0 0 #[(.int p1), (.int p2), (.int p3), (.int p4)] h0 (fun v h L => v = some (.int 1) ∧ Fr n0 L) := by
  refine OConK.intro (y := x) (plainFor_of_name own_pn_com_example_stepwise_medians_stepwisemedians_engine_LineEngineIsExactPinLaw) (own_ef_rm0 p1 p2 p3 p4) ?_
  intro p e s m below meth c s₁ hx hby hml hown hnm hret hlk hZ X0 e0
  show OGoal p e below s _ _ _ (s₁.setTop (mkF m 0 #[.val (.int p1), .val (.int p2), .val (.int p3), .val (.int p4), .unset, .unset, .unset, .unset, .unset, .unset, .unset, .unset, .unset] []))
  refine OGoal.mp (S' := (s₁.setTop (mkF m 1 #[.val (.int p1), .val (.int p2), .val (.int p3), .val (.int p4), .unset, .unset, .unset, .unset, .unset, .unset, .unset, .unset, .unset] [(.int p4)]))) (fun _ k => XS.iloadN X0.here hx rfl (hb hby at_0) rfl k) ?_
  refine OGoal.mp (S' := (s₁.setTop (mkF m 2 #[.val (.int p1), .val (.int p2), .val (.int p3), .val (.int p4), .unset, .unset, .unset, .unset, .unset, .unset, .unset, .unset, .unset] [(.int (1 : Int32)), (.int p4)]))) (fun _ k => XS.iconst X0.here hx rfl (hb hby at_1) k) ?_
  refine OGoal.mp (S' := (s₁.setTop (mkF m 3 #[.val (.int p1), .val (.int p2), .val (.int p3), .val (.int p4), .unset, .unset, .unset, .unset, .unset, .unset, .unset, .unset, .unset] [(.int (p4 &&& (1 : Int32)))]))) (fun _ k => XS.iand X0.here hx rfl (hb hby at_2) rfl k) ?_
  by_cases hc1 : (p4 &&& (1 : Int32)) = 0
  · refine OGoal.mp (S' := (s₁.setTop (mkF m 40 #[.val (.int p1), .val (.int p2), .val (.int p3), .val (.int p4), .unset, .unset, .unset, .unset, .unset, .unset, .unset, .unset, .unset] []))) (fun _ k => XS.ifYes X0.here hx rfl (pc0 := 3) (pc' := 40) rfl (hb hby at_3) rfl (XT.i0_eq_t hc1) (by decide) (by decide) k) ?_
    refine OGoal.mp (S' := (s₁.setTop (mkF m 41 #[.val (.int p1), .val (.int p2), .val (.int p3), .val (.int p4), .unset, .unset, .unset, .unset, .unset, .unset, .unset, .unset, .unset] [(.int p1)]))) (fun _ k => XS.iloadN X0.here hx rfl (hb hby at_40) rfl k) ?_
    refine OGoal.mp (S' := (s₁.setTop (mkF m 42 #[.val (.int p1), .val (.int p2), .val (.int p3), .val (.int p4), .unset, .unset, .unset, .unset, .unset, .unset, .unset, .unset, .unset] [(.double (FP.i2d p1))]))) (fun _ k => XS.i2dS X0.here hx rfl (hb hby at_41) rfl rfl k) ?_
    refine OGoal.mp (S' := (s₁.setTop (mkF m 44 #[.val (.int p1), .val (.int p2), .val (.int p3), .val (.int p4), .val (.double (FP.i2d p1)), .second, .unset, .unset, .unset, .unset, .unset, .unset, .unset] []))) (fun _ k => XS.dstore X0.here hx rfl (hb hby at_42) rfl (l' := #[.val (.int p1), .val (.int p2), .val (.int p3), .val (.int p4), .val (.double (FP.i2d p1)), .second, .unset, .unset, .unset, .unset, .unset, .unset, .unset]) rfl k) ?_
    refine OGoal.mp (S' := (s₁.setTop (mkF m 45 #[.val (.int p1), .val (.int p2), .val (.int p3), .val (.int p4), .val (.double (FP.i2d p1)), .second, .unset, .unset, .unset, .unset, .unset, .unset, .unset] [(.int p2)]))) (fun _ k => XS.iloadN X0.here hx rfl (hb hby at_44) rfl k) ?_
    refine OGoal.mp (S' := (s₁.setTop (mkF m 46 #[.val (.int p1), .val (.int p2), .val (.int p3), .val (.int p4), .val (.double (FP.i2d p1)), .second, .unset, .unset, .unset, .unset, .unset, .unset, .unset] [(.double (FP.i2d p2))]))) (fun _ k => XS.i2dS X0.here hx rfl (hb hby at_45) rfl rfl k) ?_
    refine OGoal.mp (S' := (s₁.setTop (mkF m 48 #[.val (.int p1), .val (.int p2), .val (.int p3), .val (.int p4), .val (.double (FP.i2d p1)), .second, .val (.double (FP.i2d p2)), .second, .unset, .unset, .unset, .unset, .unset] []))) (fun _ k => XS.dstore X0.here hx rfl (hb hby at_46) rfl (l' := #[.val (.int p1), .val (.int p2), .val (.int p3), .val (.int p4), .val (.double (FP.i2d p1)), .second, .val (.double (FP.i2d p2)), .second, .unset, .unset, .unset, .unset, .unset]) rfl k) ?_
    refine OGoal.mp (S' := (s₁.setTop (mkF m 51 #[.val (.int p1), .val (.int p2), .val (.int p3), .val (.int p4), .val (.double (FP.i2d p1)), .second, .val (.double (FP.i2d p2)), .second, .unset, .unset, .unset, .unset, .unset] [(.long (9007199254740992 : Int64))]))) (fun _ k => Stand.ldc2J X0 hx hown (mvT hZ (hw _ (List.mem_of_getElem? (i := 7) rfl))) rfl (hb hby at_48) k) ?_
    refine OGoal.mp (S' := (s₁.setTop (mkF m 53 #[.val (.int p1), .val (.int p2), .val (.int p3), .val (.int p4), .val (.double (FP.i2d p1)), .second, .val (.double (FP.i2d p2)), .second, .unset, .val (.long (9007199254740992 : Int64)), .second, .unset, .unset] []))) (fun _ k => XT.lstore X0.here hx rfl (hb hby at_51) rfl (l' := #[.val (.int p1), .val (.int p2), .val (.int p3), .val (.int p4), .val (.double (FP.i2d p1)), .second, .val (.double (FP.i2d p2)), .second, .unset, .val (.long (9007199254740992 : Int64)), .second, .unset, .unset]) rfl k) ?_
    refine OGoal.mp (S' := (s₁.setTop (mkF m 54 #[.val (.int p1), .val (.int p2), .val (.int p3), .val (.int p4), .val (.double (FP.i2d p1)), .second, .val (.double (FP.i2d p2)), .second, .unset, .val (.long (9007199254740992 : Int64)), .second, .unset, .unset] [(.int p1)]))) (fun _ k => XS.iloadN X0.here hx rfl (hb hby at_53) rfl k) ?_
    refine OGoal.mp (S' := (s₁.setTop (mkF m 55 #[.val (.int p1), .val (.int p2), .val (.int p3), .val (.int p4), .val (.double (FP.i2d p1)), .second, .val (.double (FP.i2d p2)), .second, .unset, .val (.long (9007199254740992 : Int64)), .second, .unset, .unset] [(.long ((p1).toInt64))]))) (fun _ k => XT.i2l X0.here hx rfl (hb hby at_54) rfl k) ?_
    refine OGoal.mp (S' := (s₁.setTop (mkF m 56 #[.val (.int p1), .val (.int p2), .val (.int p3), .val (.int p4), .val (.double (FP.i2d p1)), .second, .val (.double (FP.i2d p2)), .second, .unset, .val (.long (9007199254740992 : Int64)), .second, .unset, .unset] [(.int p2), (.long ((p1).toInt64))]))) (fun _ k => XS.iloadN X0.here hx rfl (hb hby at_55) rfl k) ?_
    refine OGoal.mp (S' := (s₁.setTop (mkF m 57 #[.val (.int p1), .val (.int p2), .val (.int p3), .val (.int p4), .val (.double (FP.i2d p1)), .second, .val (.double (FP.i2d p2)), .second, .unset, .val (.long (9007199254740992 : Int64)), .second, .unset, .unset] [(.long ((p2).toInt64)), (.long ((p1).toInt64))]))) (fun _ k => XT.i2l X0.here hx rfl (hb hby at_56) rfl k) ?_
    refine OGoal.mp (S' := (s₁.setTop (mkF m 58 #[.val (.int p1), .val (.int p2), .val (.int p3), .val (.int p4), .val (.double (FP.i2d p1)), .second, .val (.double (FP.i2d p2)), .second, .unset, .val (.long (9007199254740992 : Int64)), .second, .unset, .unset] [(.long (((p1).toInt64) * ((p2).toInt64)))]))) (fun _ k => XT.lmul X0.here hx rfl (hb hby at_57) rfl k) ?_
    refine OGoal.mp (S' := (s₁.setTop (mkF m 60 #[.val (.int p1), .val (.int p2), .val (.int p3), .val (.int p4), .val (.double (FP.i2d p1)), .second, .val (.double (FP.i2d p2)), .second, .unset, .val (.long (9007199254740992 : Int64)), .second, .val (.long (((p1).toInt64) * ((p2).toInt64))), .second] []))) (fun _ k => XT.lstore X0.here hx rfl (hb hby at_58) rfl (l' := #[.val (.int p1), .val (.int p2), .val (.int p3), .val (.int p4), .val (.double (FP.i2d p1)), .second, .val (.double (FP.i2d p2)), .second, .unset, .val (.long (9007199254740992 : Int64)), .second, .val (.long (((p1).toInt64) * ((p2).toInt64))), .second]) rfl k) ?_
    refine OGoal.mp (S' := (s₁.setTop (mkF m 62 #[.val (.int p1), .val (.int p2), .val (.int p3), .val (.int p4), .val (.double (FP.i2d p1)), .second, .val (.double (FP.i2d p2)), .second, .unset, .val (.long (9007199254740992 : Int64)), .second, .val (.long (((p1).toInt64) * ((p2).toInt64))), .second] [(.long (((p1).toInt64) * ((p2).toInt64)))]))) (fun _ k => XT.lload X0.here hx rfl (hb hby at_60) rfl k) ?_
    refine OGoal.mp (S' := (s₁.setTop (mkF m 64 #[.val (.int p1), .val (.int p2), .val (.int p3), .val (.int p4), .val (.double (FP.i2d p1)), .second, .val (.double (FP.i2d p2)), .second, .unset, .val (.long (9007199254740992 : Int64)), .second, .val (.long (((p1).toInt64) * ((p2).toInt64))), .second] [(.long (9007199254740992 : Int64)), (.long (((p1).toInt64) * ((p2).toInt64)))]))) (fun _ k => XT.lload X0.here hx rfl (hb hby at_62) rfl k) ?_
    refine OGoal.mp (S' := (s₁.setTop (mkF m 65 #[.val (.int p1), .val (.int p2), .val (.int p3), .val (.int p4), .val (.double (FP.i2d p1)), .second, .val (.double (FP.i2d p2)), .second, .unset, .val (.long (9007199254740992 : Int64)), .second, .val (.long (((p1).toInt64) * ((p2).toInt64))), .second] [(.int (XT.cmpL (((p1).toInt64) * ((p2).toInt64)) (9007199254740992 : Int64)))]))) (fun _ k => XT.lcmp X0.here hx rfl (hb hby at_64) rfl k) ?_
    by_cases hc2 : (9007199254740992 : Int64) < (((p1).toInt64) * ((p2).toInt64))
    · refine OGoal.mp (S' := (s₁.setTop (mkF m 68 #[.val (.int p1), .val (.int p2), .val (.int p3), .val (.int p4), .val (.double (FP.i2d p1)), .second, .val (.double (FP.i2d p2)), .second, .unset, .val (.long (9007199254740992 : Int64)), .second, .val (.long (((p1).toInt64) * ((p2).toInt64))), .second] []))) (fun _ k => XS.ifNo X0.here hx rfl (hb hby at_65) rfl (XT.ll_le_f hc2) k) ?_
      refine OGoal.mp (S' := (s₁.setTop (mkF m 69 #[.val (.int p1), .val (.int p2), .val (.int p3), .val (.int p4), .val (.double (FP.i2d p1)), .second, .val (.double (FP.i2d p2)), .second, .unset, .val (.long (9007199254740992 : Int64)), .second, .val (.long (((p1).toInt64) * ((p2).toInt64))), .second] [(.int (0 : Int32))]))) (fun _ k => XS.iconst X0.here hx rfl (hb hby at_68) k) ?_
      refine OGoal.mp (S' := (s₁.setTop (mkF m 71 #[.val (.int p1), .val (.int p2), .val (.int p3), .val (.int p4), .val (.double (FP.i2d p1)), .second, .val (.double (FP.i2d p2)), .second, .val (.int (0 : Int32)), .val (.long (9007199254740992 : Int64)), .second, .val (.long (((p1).toInt64) * ((p2).toInt64))), .second] []))) (fun _ k => XS.istore X0.here hx rfl (hb hby at_69) rfl (l' := #[.val (.int p1), .val (.int p2), .val (.int p3), .val (.int p4), .val (.double (FP.i2d p1)), .second, .val (.double (FP.i2d p2)), .second, .val (.int (0 : Int32)), .val (.long (9007199254740992 : Int64)), .second, .val (.long (((p1).toInt64) * ((p2).toInt64))), .second]) rfl k) ?_
      refine OGoal.mp (S' := (s₁.setTop (mkF m 111 #[.val (.int p1), .val (.int p2), .val (.int p3), .val (.int p4), .val (.double (FP.i2d p1)), .second, .val (.double (FP.i2d p2)), .second, .val (.int (0 : Int32)), .val (.long (9007199254740992 : Int64)), .second, .val (.long (((p1).toInt64) * ((p2).toInt64))), .second] []))) (fun _ k => XS.goto X0.here hx rfl (pc0 := 71) (pc' := 111) rfl (hb hby at_71) (by decide) (by decide) k) ?_
      refine OGoal.mp (S' := (s₁.setTop (mkF m 113 #[.val (.int p1), .val (.int p2), .val (.int p3), .val (.int p4), .val (.double (FP.i2d p1)), .second, .val (.double (FP.i2d p2)), .second, .val (.int (0 : Int32)), .val (.long (9007199254740992 : Int64)), .second, .val (.long (((p1).toInt64) * ((p2).toInt64))), .second] [(.double (FP.i2d p1))]))) (fun _ k => XS.dload X0.here hx rfl (hb hby at_111) rfl k) ?_
      refine OGoal.mp (S' := (s₁.setTop (mkF m 115 #[.val (.int p1), .val (.int p2), .val (.int p3), .val (.int p4), .val (.double (FP.i2d p1)), .second, .val (.double (FP.i2d p2)), .second, .val (.int (0 : Int32)), .val (.long (9007199254740992 : Int64)), .second, .val (.long (((p1).toInt64) * ((p2).toInt64))), .second] [(.double (FP.i2d p2)), (.double (FP.i2d p1))]))) (fun _ k => XS.dload X0.here hx rfl (hb hby at_113) rfl k) ?_
      refine OGoal.mp (S' := (s₁.setTop (mkF m 116 #[.val (.int p1), .val (.int p2), .val (.int p3), .val (.int p4), .val (.double (FP.i2d p1)), .second, .val (.double (FP.i2d p2)), .second, .val (.int (0 : Int32)), .val (.long (9007199254740992 : Int64)), .second, .val (.long (((p1).toInt64) * ((p2).toInt64))), .second] [(.int p3), (.double (FP.i2d p2)), (.double (FP.i2d p1))]))) (fun _ k => XS.iloadN X0.here hx rfl (hb hby at_115) rfl k) ?_
      refine OGoal.mp (S' := (s₁.setTop (mkF m 117 #[.val (.int p1), .val (.int p2), .val (.int p3), .val (.int p4), .val (.double (FP.i2d p1)), .second, .val (.double (FP.i2d p2)), .second, .val (.int (0 : Int32)), .val (.long (9007199254740992 : Int64)), .second, .val (.long (((p1).toInt64) * ((p2).toInt64))), .second] [(.double (FP.i2d p3)), (.double (FP.i2d p2)), (.double (FP.i2d p1))]))) (fun _ k => XS.i2dS X0.here hx rfl (hb hby at_116) rfl rfl k) ?_
      refine oCallS (y := (⟨"com/example/stepwise_medians/stepwisemedians/engine/LineEngine", "isExact", "(DDD)Z"⟩ : MethodName)) X0 hx hZ hown (hw _ (List.mem_of_getElem? (i := 1) rfl)) (hw _ (List.mem_of_getElem? (i := 2) rfl)) (hw _ (List.mem_of_getElem? (i := 3) rfl)) (hw _ (List.mem_of_getElem? (i := 4) rfl)) (by decide) (rmE l Z a0 hw (FP.i2d p1) (FP.i2d p2) (FP.i2d p3) h0 n0 Z0 (own_n1 p1 p2) (own_n2 p1 p2) (own_n3 p1 p2 p3)) e0 [(.double (FP.i2d p1)), (.double (FP.i2d p2)), (.double (FP.i2d p3))] [] rfl rfl (by rw [hml]; rfl) (lenOf own_pd__DDD_Z rfl) 0 (Nat.le_of_eq rfl) (by decide) (by decide) (by decide) (by decide) (hb hby at_117) ?_
      intro v3 T4 L5 X6 q7
      obtain ⟨rfl, N8, e9⟩ := q7
      have N10 := Fr.app (Fr.nil n0) N8
      show OGoal p e below s _ _ _ (T4.setTop (mkF m 120 #[.val (.int p1), .val (.int p2), .val (.int p3), .val (.int p4), .val (.double (FP.i2d p1)), .second, .val (.double (FP.i2d p2)), .second, .val (.int (0 : Int32)), .val (.long (9007199254740992 : Int64)), .second, .val (.long (((p1).toInt64) * ((p2).toInt64))), .second] [(.int (own_ie (FP.i2d p1) (FP.i2d p2) (FP.i2d p3)))]))
      refine OGoal.mp (S' := (T4.setTop (mkF m 122 #[.val (.int p1), .val (.int p2), .val (.int p3), .val (.int p4), .val (.double (FP.i2d p1)), .second, .val (.double (FP.i2d p2)), .second, .val (.int (0 : Int32)), .val (.long (9007199254740992 : Int64)), .second, .val (.long (((p1).toInt64) * ((p2).toInt64))), .second] [(.int (0 : Int32)), (.int (own_ie (FP.i2d p1) (FP.i2d p2) (FP.i2d p3)))]))) (fun _ k => XS.iload X6.here hx rfl (hb hby at_120) rfl k) ?_
      refine OGoal.mp (S' := (T4.setTop (mkF m 125 #[.val (.int p1), .val (.int p2), .val (.int p3), .val (.int p4), .val (.double (FP.i2d p1)), .second, .val (.double (FP.i2d p2)), .second, .val (.int (0 : Int32)), .val (.long (9007199254740992 : Int64)), .second, .val (.long (((p1).toInt64) * ((p2).toInt64))), .second] []))) (fun _ k => XS.icmpNo X6.here hx rfl (hb hby at_122) rfl (XT.ii_ne_f (own_a p1 p2 p3 hc2)) k) ?_
      refine OGoal.mp (S' := (T4.setTop (mkF m 126 #[.val (.int p1), .val (.int p2), .val (.int p3), .val (.int p4), .val (.double (FP.i2d p1)), .second, .val (.double (FP.i2d p2)), .second, .val (.int (0 : Int32)), .val (.long (9007199254740992 : Int64)), .second, .val (.long (((p1).toInt64) * ((p2).toInt64))), .second] [(.int (1 : Int32))]))) (fun _ k => XS.iconst X6.here hx rfl (hb hby at_125) k) ?_
      refine OGoal.mp (S' := (T4.setTop (mkF m 130 #[.val (.int p1), .val (.int p2), .val (.int p3), .val (.int p4), .val (.double (FP.i2d p1)), .second, .val (.double (FP.i2d p2)), .second, .val (.int (0 : Int32)), .val (.long (9007199254740992 : Int64)), .second, .val (.long (((p1).toInt64) * ((p2).toInt64))), .second] [(.int (1 : Int32))]))) (fun _ k => XS.goto X6.here hx rfl (pc0 := 126) (pc' := 130) rfl (hb hby at_126) (by decide) (by decide) k) ?_
      refine oRetZ X6 hx hlk hret (Or.inr rfl) (hb hby at_130) ?_ (by decide) (by decide)
      exact ⟨rfl, N10⟩
    · refine OGoal.mp (S' := (s₁.setTop (mkF m 74 #[.val (.int p1), .val (.int p2), .val (.int p3), .val (.int p4), .val (.double (FP.i2d p1)), .second, .val (.double (FP.i2d p2)), .second, .unset, .val (.long (9007199254740992 : Int64)), .second, .val (.long (((p1).toInt64) * ((p2).toInt64))), .second] []))) (fun _ k => XS.ifYes X0.here hx rfl (pc0 := 65) (pc' := 74) rfl (hb hby at_65) rfl (XT.ll_le_t hc2) (by decide) (by decide) k) ?_
      refine OGoal.mp (S' := (s₁.setTop (mkF m 76 #[.val (.int p1), .val (.int p2), .val (.int p3), .val (.int p4), .val (.double (FP.i2d p1)), .second, .val (.double (FP.i2d p2)), .second, .unset, .val (.long (9007199254740992 : Int64)), .second, .val (.long (((p1).toInt64) * ((p2).toInt64))), .second] [(.long (((p1).toInt64) * ((p2).toInt64)))]))) (fun _ k => XT.lload X0.here hx rfl (hb hby at_74) rfl k) ?_
      refine OGoal.mp (S' := (s₁.setTop (mkF m 78 #[.val (.int p1), .val (.int p2), .val (.int p3), .val (.int p4), .val (.double (FP.i2d p1)), .second, .val (.double (FP.i2d p2)), .second, .unset, .val (.long (9007199254740992 : Int64)), .second, .val (.long (((p1).toInt64) * ((p2).toInt64))), .second] [(.long (9007199254740992 : Int64)), (.long (((p1).toInt64) * ((p2).toInt64)))]))) (fun _ k => XT.lload X0.here hx rfl (hb hby at_76) rfl k) ?_
      refine OGoal.mp (S' := (s₁.setTop (mkF m 79 #[.val (.int p1), .val (.int p2), .val (.int p3), .val (.int p4), .val (.double (FP.i2d p1)), .second, .val (.double (FP.i2d p2)), .second, .unset, .val (.long (9007199254740992 : Int64)), .second, .val (.long (((p1).toInt64) * ((p2).toInt64))), .second] [(.long (-(9007199254740992 : Int64))), (.long (((p1).toInt64) * ((p2).toInt64)))]))) (fun _ k => XT.lneg X0.here hx rfl (hb hby at_78) rfl k) ?_
      refine OGoal.mp (S' := (s₁.setTop (mkF m 80 #[.val (.int p1), .val (.int p2), .val (.int p3), .val (.int p4), .val (.double (FP.i2d p1)), .second, .val (.double (FP.i2d p2)), .second, .unset, .val (.long (9007199254740992 : Int64)), .second, .val (.long (((p1).toInt64) * ((p2).toInt64))), .second] [(.int (XT.cmpL (((p1).toInt64) * ((p2).toInt64)) (-(9007199254740992 : Int64))))]))) (fun _ k => XT.lcmp X0.here hx rfl (hb hby at_79) rfl k) ?_
      by_cases hc11 : (((p1).toInt64) * ((p2).toInt64)) < (-(9007199254740992 : Int64))
      · refine OGoal.mp (S' := (s₁.setTop (mkF m 83 #[.val (.int p1), .val (.int p2), .val (.int p3), .val (.int p4), .val (.double (FP.i2d p1)), .second, .val (.double (FP.i2d p2)), .second, .unset, .val (.long (9007199254740992 : Int64)), .second, .val (.long (((p1).toInt64) * ((p2).toInt64))), .second] []))) (fun _ k => XS.ifNo X0.here hx rfl (hb hby at_80) rfl (XT.ll_ge_f hc11) k) ?_
        refine OGoal.mp (S' := (s₁.setTop (mkF m 84 #[.val (.int p1), .val (.int p2), .val (.int p3), .val (.int p4), .val (.double (FP.i2d p1)), .second, .val (.double (FP.i2d p2)), .second, .unset, .val (.long (9007199254740992 : Int64)), .second, .val (.long (((p1).toInt64) * ((p2).toInt64))), .second] [(.int (1 : Int32))]))) (fun _ k => XS.iconst X0.here hx rfl (hb hby at_83) k) ?_
        refine OGoal.mp (S' := (s₁.setTop (mkF m 86 #[.val (.int p1), .val (.int p2), .val (.int p3), .val (.int p4), .val (.double (FP.i2d p1)), .second, .val (.double (FP.i2d p2)), .second, .val (.int (1 : Int32)), .val (.long (9007199254740992 : Int64)), .second, .val (.long (((p1).toInt64) * ((p2).toInt64))), .second] []))) (fun _ k => XS.istore X0.here hx rfl (hb hby at_84) rfl (l' := #[.val (.int p1), .val (.int p2), .val (.int p3), .val (.int p4), .val (.double (FP.i2d p1)), .second, .val (.double (FP.i2d p2)), .second, .val (.int (1 : Int32)), .val (.long (9007199254740992 : Int64)), .second, .val (.long (((p1).toInt64) * ((p2).toInt64))), .second]) rfl k) ?_
        refine OGoal.mp (S' := (s₁.setTop (mkF m 111 #[.val (.int p1), .val (.int p2), .val (.int p3), .val (.int p4), .val (.double (FP.i2d p1)), .second, .val (.double (FP.i2d p2)), .second, .val (.int (1 : Int32)), .val (.long (9007199254740992 : Int64)), .second, .val (.long (((p1).toInt64) * ((p2).toInt64))), .second] []))) (fun _ k => XS.goto X0.here hx rfl (pc0 := 86) (pc' := 111) rfl (hb hby at_86) (by decide) (by decide) k) ?_
        refine OGoal.mp (S' := (s₁.setTop (mkF m 113 #[.val (.int p1), .val (.int p2), .val (.int p3), .val (.int p4), .val (.double (FP.i2d p1)), .second, .val (.double (FP.i2d p2)), .second, .val (.int (1 : Int32)), .val (.long (9007199254740992 : Int64)), .second, .val (.long (((p1).toInt64) * ((p2).toInt64))), .second] [(.double (FP.i2d p1))]))) (fun _ k => XS.dload X0.here hx rfl (hb hby at_111) rfl k) ?_
        refine OGoal.mp (S' := (s₁.setTop (mkF m 115 #[.val (.int p1), .val (.int p2), .val (.int p3), .val (.int p4), .val (.double (FP.i2d p1)), .second, .val (.double (FP.i2d p2)), .second, .val (.int (1 : Int32)), .val (.long (9007199254740992 : Int64)), .second, .val (.long (((p1).toInt64) * ((p2).toInt64))), .second] [(.double (FP.i2d p2)), (.double (FP.i2d p1))]))) (fun _ k => XS.dload X0.here hx rfl (hb hby at_113) rfl k) ?_
        refine OGoal.mp (S' := (s₁.setTop (mkF m 116 #[.val (.int p1), .val (.int p2), .val (.int p3), .val (.int p4), .val (.double (FP.i2d p1)), .second, .val (.double (FP.i2d p2)), .second, .val (.int (1 : Int32)), .val (.long (9007199254740992 : Int64)), .second, .val (.long (((p1).toInt64) * ((p2).toInt64))), .second] [(.int p3), (.double (FP.i2d p2)), (.double (FP.i2d p1))]))) (fun _ k => XS.iloadN X0.here hx rfl (hb hby at_115) rfl k) ?_
        refine OGoal.mp (S' := (s₁.setTop (mkF m 117 #[.val (.int p1), .val (.int p2), .val (.int p3), .val (.int p4), .val (.double (FP.i2d p1)), .second, .val (.double (FP.i2d p2)), .second, .val (.int (1 : Int32)), .val (.long (9007199254740992 : Int64)), .second, .val (.long (((p1).toInt64) * ((p2).toInt64))), .second] [(.double (FP.i2d p3)), (.double (FP.i2d p2)), (.double (FP.i2d p1))]))) (fun _ k => XS.i2dS X0.here hx rfl (hb hby at_116) rfl rfl k) ?_
        refine oCallS (y := (⟨"com/example/stepwise_medians/stepwisemedians/engine/LineEngine", "isExact", "(DDD)Z"⟩ : MethodName)) X0 hx hZ hown (hw _ (List.mem_of_getElem? (i := 1) rfl)) (hw _ (List.mem_of_getElem? (i := 2) rfl)) (hw _ (List.mem_of_getElem? (i := 3) rfl)) (hw _ (List.mem_of_getElem? (i := 4) rfl)) (by decide) (rmE l Z a0 hw (FP.i2d p1) (FP.i2d p2) (FP.i2d p3) h0 n0 Z0 (own_n1 p1 p2) (own_n2 p1 p2) (own_n3 p1 p2 p3)) e0 [(.double (FP.i2d p1)), (.double (FP.i2d p2)), (.double (FP.i2d p3))] [] rfl rfl (by rw [hml]; rfl) (lenOf own_pd__DDD_Z rfl) 0 (Nat.le_of_eq rfl) (by decide) (by decide) (by decide) (by decide) (hb hby at_117) ?_
        intro v12 T13 L14 X15 q16
        obtain ⟨rfl, N17, e18⟩ := q16
        have N19 := Fr.app (Fr.nil n0) N17
        show OGoal p e below s _ _ _ (T13.setTop (mkF m 120 #[.val (.int p1), .val (.int p2), .val (.int p3), .val (.int p4), .val (.double (FP.i2d p1)), .second, .val (.double (FP.i2d p2)), .second, .val (.int (1 : Int32)), .val (.long (9007199254740992 : Int64)), .second, .val (.long (((p1).toInt64) * ((p2).toInt64))), .second] [(.int (own_ie (FP.i2d p1) (FP.i2d p2) (FP.i2d p3)))]))
        refine OGoal.mp (S' := (T13.setTop (mkF m 122 #[.val (.int p1), .val (.int p2), .val (.int p3), .val (.int p4), .val (.double (FP.i2d p1)), .second, .val (.double (FP.i2d p2)), .second, .val (.int (1 : Int32)), .val (.long (9007199254740992 : Int64)), .second, .val (.long (((p1).toInt64) * ((p2).toInt64))), .second] [(.int (1 : Int32)), (.int (own_ie (FP.i2d p1) (FP.i2d p2) (FP.i2d p3)))]))) (fun _ k => XS.iload X15.here hx rfl (hb hby at_120) rfl k) ?_
        refine OGoal.mp (S' := (T13.setTop (mkF m 125 #[.val (.int p1), .val (.int p2), .val (.int p3), .val (.int p4), .val (.double (FP.i2d p1)), .second, .val (.double (FP.i2d p2)), .second, .val (.int (1 : Int32)), .val (.long (9007199254740992 : Int64)), .second, .val (.long (((p1).toInt64) * ((p2).toInt64))), .second] []))) (fun _ k => XS.icmpNo X15.here hx rfl (hb hby at_122) rfl (XT.ii_ne_f (own_b p1 p2 p3 hc2 hc11)) k) ?_
        refine OGoal.mp (S' := (T13.setTop (mkF m 126 #[.val (.int p1), .val (.int p2), .val (.int p3), .val (.int p4), .val (.double (FP.i2d p1)), .second, .val (.double (FP.i2d p2)), .second, .val (.int (1 : Int32)), .val (.long (9007199254740992 : Int64)), .second, .val (.long (((p1).toInt64) * ((p2).toInt64))), .second] [(.int (1 : Int32))]))) (fun _ k => XS.iconst X15.here hx rfl (hb hby at_125) k) ?_
        refine OGoal.mp (S' := (T13.setTop (mkF m 130 #[.val (.int p1), .val (.int p2), .val (.int p3), .val (.int p4), .val (.double (FP.i2d p1)), .second, .val (.double (FP.i2d p2)), .second, .val (.int (1 : Int32)), .val (.long (9007199254740992 : Int64)), .second, .val (.long (((p1).toInt64) * ((p2).toInt64))), .second] [(.int (1 : Int32))]))) (fun _ k => XS.goto X15.here hx rfl (pc0 := 126) (pc' := 130) rfl (hb hby at_126) (by decide) (by decide) k) ?_
        refine oRetZ X15 hx hlk hret (Or.inr rfl) (hb hby at_130) ?_ (by decide) (by decide)
        exact ⟨rfl, N19⟩
      · refine OGoal.mp (S' := (s₁.setTop (mkF m 89 #[.val (.int p1), .val (.int p2), .val (.int p3), .val (.int p4), .val (.double (FP.i2d p1)), .second, .val (.double (FP.i2d p2)), .second, .unset, .val (.long (9007199254740992 : Int64)), .second, .val (.long (((p1).toInt64) * ((p2).toInt64))), .second] []))) (fun _ k => XS.ifYes X0.here hx rfl (pc0 := 80) (pc' := 89) rfl (hb hby at_80) rfl (XT.ll_ge_t hc11) (by decide) (by decide) k) ?_
        refine OGoal.mp (S' := (s₁.setTop (mkF m 92 #[.val (.int p1), .val (.int p2), .val (.int p3), .val (.int p4), .val (.double (FP.i2d p1)), .second, .val (.double (FP.i2d p2)), .second, .unset, .val (.long (9007199254740992 : Int64)), .second, .val (.long (((p1).toInt64) * ((p2).toInt64))), .second] [(.long (2 : Int64))]))) (fun _ k => Stand.ldc2J X0 hx hown (mvT hZ (hw _ (List.mem_of_getElem? (i := 8) rfl))) rfl (hb hby at_89) k) ?_
        refine OGoal.mp (S' := (s₁.setTop (mkF m 94 #[.val (.int p1), .val (.int p2), .val (.int p3), .val (.int p4), .val (.double (FP.i2d p1)), .second, .val (.double (FP.i2d p2)), .second, .unset, .val (.long (9007199254740992 : Int64)), .second, .val (.long (((p1).toInt64) * ((p2).toInt64))), .second] [(.long (((p1).toInt64) * ((p2).toInt64))), (.long (2 : Int64))]))) (fun _ k => XT.lload X0.here hx rfl (hb hby at_92) rfl k) ?_
        refine OGoal.mp (S' := (s₁.setTop (mkF m 95 #[.val (.int p1), .val (.int p2), .val (.int p3), .val (.int p4), .val (.double (FP.i2d p1)), .second, .val (.double (FP.i2d p2)), .second, .unset, .val (.long (9007199254740992 : Int64)), .second, .val (.long (((p1).toInt64) * ((p2).toInt64))), .second] [(.long ((2 : Int64) * (((p1).toInt64) * ((p2).toInt64))))]))) (fun _ k => XT.lmul X0.here hx rfl (hb hby at_94) rfl k) ?_
        refine OGoal.mp (S' := (s₁.setTop (mkF m 96 #[.val (.int p1), .val (.int p2), .val (.int p3), .val (.int p4), .val (.double (FP.i2d p1)), .second, .val (.double (FP.i2d p2)), .second, .unset, .val (.long (9007199254740992 : Int64)), .second, .val (.long (((p1).toInt64) * ((p2).toInt64))), .second] [(.int p3), (.long ((2 : Int64) * (((p1).toInt64) * ((p2).toInt64))))]))) (fun _ k => XS.iloadN X0.here hx rfl (hb hby at_95) rfl k) ?_
        refine OGoal.mp (S' := (s₁.setTop (mkF m 97 #[.val (.int p1), .val (.int p2), .val (.int p3), .val (.int p4), .val (.double (FP.i2d p1)), .second, .val (.double (FP.i2d p2)), .second, .unset, .val (.long (9007199254740992 : Int64)), .second, .val (.long (((p1).toInt64) * ((p2).toInt64))), .second] [(.long ((p3).toInt64)), (.long ((2 : Int64) * (((p1).toInt64) * ((p2).toInt64))))]))) (fun _ k => XT.i2l X0.here hx rfl (hb hby at_96) rfl k) ?_
        refine OGoal.mp (S' := (s₁.setTop (mkF m 98 #[.val (.int p1), .val (.int p2), .val (.int p3), .val (.int p4), .val (.double (FP.i2d p1)), .second, .val (.double (FP.i2d p2)), .second, .unset, .val (.long (9007199254740992 : Int64)), .second, .val (.long (((p1).toInt64) * ((p2).toInt64))), .second] [(.long (((2 : Int64) * (((p1).toInt64) * ((p2).toInt64))) + ((p3).toInt64)))]))) (fun _ k => XT.ladd X0.here hx rfl (hb hby at_97) rfl k) ?_
        refine OGoal.mp (S' := (s₁.setTop (mkF m 100 #[.val (.int p1), .val (.int p2), .val (.int p3), .val (.int p4), .val (.double (FP.i2d p1)), .second, .val (.double (FP.i2d p2)), .second, .unset, .val (.long (9007199254740992 : Int64)), .second, .val (.long (((p1).toInt64) * ((p2).toInt64))), .second] [(.long (9007199254740992 : Int64)), (.long (((2 : Int64) * (((p1).toInt64) * ((p2).toInt64))) + ((p3).toInt64)))]))) (fun _ k => XT.lload X0.here hx rfl (hb hby at_98) rfl k) ?_
        refine OGoal.mp (S' := (s₁.setTop (mkF m 101 #[.val (.int p1), .val (.int p2), .val (.int p3), .val (.int p4), .val (.double (FP.i2d p1)), .second, .val (.double (FP.i2d p2)), .second, .unset, .val (.long (9007199254740992 : Int64)), .second, .val (.long (((p1).toInt64) * ((p2).toInt64))), .second] [(.int (XT.cmpL (((2 : Int64) * (((p1).toInt64) * ((p2).toInt64))) + ((p3).toInt64)) (9007199254740992 : Int64)))]))) (fun _ k => XT.lcmp X0.here hx rfl (hb hby at_100) rfl k) ?_
        by_cases hc20 : (((2 : Int64) * (((p1).toInt64) * ((p2).toInt64))) + ((p3).toInt64)) < (9007199254740992 : Int64)
        · refine OGoal.mp (S' := (s₁.setTop (mkF m 104 #[.val (.int p1), .val (.int p2), .val (.int p3), .val (.int p4), .val (.double (FP.i2d p1)), .second, .val (.double (FP.i2d p2)), .second, .unset, .val (.long (9007199254740992 : Int64)), .second, .val (.long (((p1).toInt64) * ((p2).toInt64))), .second] []))) (fun _ k => XS.ifNo X0.here hx rfl (hb hby at_101) rfl (XT.ll_ge_f hc20) k) ?_
          refine OGoal.mp (S' := (s₁.setTop (mkF m 105 #[.val (.int p1), .val (.int p2), .val (.int p3), .val (.int p4), .val (.double (FP.i2d p1)), .second, .val (.double (FP.i2d p2)), .second, .unset, .val (.long (9007199254740992 : Int64)), .second, .val (.long (((p1).toInt64) * ((p2).toInt64))), .second] [(.int (1 : Int32))]))) (fun _ k => XS.iconst X0.here hx rfl (hb hby at_104) k) ?_
          refine OGoal.mp (S' := (s₁.setTop (mkF m 109 #[.val (.int p1), .val (.int p2), .val (.int p3), .val (.int p4), .val (.double (FP.i2d p1)), .second, .val (.double (FP.i2d p2)), .second, .unset, .val (.long (9007199254740992 : Int64)), .second, .val (.long (((p1).toInt64) * ((p2).toInt64))), .second] [(.int (1 : Int32))]))) (fun _ k => XS.goto X0.here hx rfl (pc0 := 105) (pc' := 109) rfl (hb hby at_105) (by decide) (by decide) k) ?_
          refine OGoal.mp (S' := (s₁.setTop (mkF m 111 #[.val (.int p1), .val (.int p2), .val (.int p3), .val (.int p4), .val (.double (FP.i2d p1)), .second, .val (.double (FP.i2d p2)), .second, .val (.int (1 : Int32)), .val (.long (9007199254740992 : Int64)), .second, .val (.long (((p1).toInt64) * ((p2).toInt64))), .second] []))) (fun _ k => XS.istore X0.here hx rfl (hb hby at_109) rfl (l' := #[.val (.int p1), .val (.int p2), .val (.int p3), .val (.int p4), .val (.double (FP.i2d p1)), .second, .val (.double (FP.i2d p2)), .second, .val (.int (1 : Int32)), .val (.long (9007199254740992 : Int64)), .second, .val (.long (((p1).toInt64) * ((p2).toInt64))), .second]) rfl k) ?_
          refine OGoal.mp (S' := (s₁.setTop (mkF m 113 #[.val (.int p1), .val (.int p2), .val (.int p3), .val (.int p4), .val (.double (FP.i2d p1)), .second, .val (.double (FP.i2d p2)), .second, .val (.int (1 : Int32)), .val (.long (9007199254740992 : Int64)), .second, .val (.long (((p1).toInt64) * ((p2).toInt64))), .second] [(.double (FP.i2d p1))]))) (fun _ k => XS.dload X0.here hx rfl (hb hby at_111) rfl k) ?_
          refine OGoal.mp (S' := (s₁.setTop (mkF m 115 #[.val (.int p1), .val (.int p2), .val (.int p3), .val (.int p4), .val (.double (FP.i2d p1)), .second, .val (.double (FP.i2d p2)), .second, .val (.int (1 : Int32)), .val (.long (9007199254740992 : Int64)), .second, .val (.long (((p1).toInt64) * ((p2).toInt64))), .second] [(.double (FP.i2d p2)), (.double (FP.i2d p1))]))) (fun _ k => XS.dload X0.here hx rfl (hb hby at_113) rfl k) ?_
          refine OGoal.mp (S' := (s₁.setTop (mkF m 116 #[.val (.int p1), .val (.int p2), .val (.int p3), .val (.int p4), .val (.double (FP.i2d p1)), .second, .val (.double (FP.i2d p2)), .second, .val (.int (1 : Int32)), .val (.long (9007199254740992 : Int64)), .second, .val (.long (((p1).toInt64) * ((p2).toInt64))), .second] [(.int p3), (.double (FP.i2d p2)), (.double (FP.i2d p1))]))) (fun _ k => XS.iloadN X0.here hx rfl (hb hby at_115) rfl k) ?_
          refine OGoal.mp (S' := (s₁.setTop (mkF m 117 #[.val (.int p1), .val (.int p2), .val (.int p3), .val (.int p4), .val (.double (FP.i2d p1)), .second, .val (.double (FP.i2d p2)), .second, .val (.int (1 : Int32)), .val (.long (9007199254740992 : Int64)), .second, .val (.long (((p1).toInt64) * ((p2).toInt64))), .second] [(.double (FP.i2d p3)), (.double (FP.i2d p2)), (.double (FP.i2d p1))]))) (fun _ k => XS.i2dS X0.here hx rfl (hb hby at_116) rfl rfl k) ?_
          refine oCallS (y := (⟨"com/example/stepwise_medians/stepwisemedians/engine/LineEngine", "isExact", "(DDD)Z"⟩ : MethodName)) X0 hx hZ hown (hw _ (List.mem_of_getElem? (i := 1) rfl)) (hw _ (List.mem_of_getElem? (i := 2) rfl)) (hw _ (List.mem_of_getElem? (i := 3) rfl)) (hw _ (List.mem_of_getElem? (i := 4) rfl)) (by decide) (rmE l Z a0 hw (FP.i2d p1) (FP.i2d p2) (FP.i2d p3) h0 n0 Z0 (own_n1 p1 p2) (own_n2 p1 p2) (own_n3 p1 p2 p3)) e0 [(.double (FP.i2d p1)), (.double (FP.i2d p2)), (.double (FP.i2d p3))] [] rfl rfl (by rw [hml]; rfl) (lenOf own_pd__DDD_Z rfl) 0 (Nat.le_of_eq rfl) (by decide) (by decide) (by decide) (by decide) (hb hby at_117) ?_
          intro v21 T22 L23 X24 q25
          obtain ⟨rfl, N26, e27⟩ := q25
          have N28 := Fr.app (Fr.nil n0) N26
          show OGoal p e below s _ _ _ (T22.setTop (mkF m 120 #[.val (.int p1), .val (.int p2), .val (.int p3), .val (.int p4), .val (.double (FP.i2d p1)), .second, .val (.double (FP.i2d p2)), .second, .val (.int (1 : Int32)), .val (.long (9007199254740992 : Int64)), .second, .val (.long (((p1).toInt64) * ((p2).toInt64))), .second] [(.int (own_ie (FP.i2d p1) (FP.i2d p2) (FP.i2d p3)))]))
          refine OGoal.mp (S' := (T22.setTop (mkF m 122 #[.val (.int p1), .val (.int p2), .val (.int p3), .val (.int p4), .val (.double (FP.i2d p1)), .second, .val (.double (FP.i2d p2)), .second, .val (.int (1 : Int32)), .val (.long (9007199254740992 : Int64)), .second, .val (.long (((p1).toInt64) * ((p2).toInt64))), .second] [(.int (1 : Int32)), (.int (own_ie (FP.i2d p1) (FP.i2d p2) (FP.i2d p3)))]))) (fun _ k => XS.iload X24.here hx rfl (hb hby at_120) rfl k) ?_
          refine OGoal.mp (S' := (T22.setTop (mkF m 125 #[.val (.int p1), .val (.int p2), .val (.int p3), .val (.int p4), .val (.double (FP.i2d p1)), .second, .val (.double (FP.i2d p2)), .second, .val (.int (1 : Int32)), .val (.long (9007199254740992 : Int64)), .second, .val (.long (((p1).toInt64) * ((p2).toInt64))), .second] []))) (fun _ k => XS.icmpNo X24.here hx rfl (hb hby at_122) rfl (XT.ii_ne_f (own_c p1 p2 p3 hc2 hc11 hc20)) k) ?_
          refine OGoal.mp (S' := (T22.setTop (mkF m 126 #[.val (.int p1), .val (.int p2), .val (.int p3), .val (.int p4), .val (.double (FP.i2d p1)), .second, .val (.double (FP.i2d p2)), .second, .val (.int (1 : Int32)), .val (.long (9007199254740992 : Int64)), .second, .val (.long (((p1).toInt64) * ((p2).toInt64))), .second] [(.int (1 : Int32))]))) (fun _ k => XS.iconst X24.here hx rfl (hb hby at_125) k) ?_
          refine OGoal.mp (S' := (T22.setTop (mkF m 130 #[.val (.int p1), .val (.int p2), .val (.int p3), .val (.int p4), .val (.double (FP.i2d p1)), .second, .val (.double (FP.i2d p2)), .second, .val (.int (1 : Int32)), .val (.long (9007199254740992 : Int64)), .second, .val (.long (((p1).toInt64) * ((p2).toInt64))), .second] [(.int (1 : Int32))]))) (fun _ k => XS.goto X24.here hx rfl (pc0 := 126) (pc' := 130) rfl (hb hby at_126) (by decide) (by decide) k) ?_
          refine oRetZ X24 hx hlk hret (Or.inr rfl) (hb hby at_130) ?_ (by decide) (by decide)
          exact ⟨rfl, N28⟩
        · refine OGoal.mp (S' := (s₁.setTop (mkF m 108 #[.val (.int p1), .val (.int p2), .val (.int p3), .val (.int p4), .val (.double (FP.i2d p1)), .second, .val (.double (FP.i2d p2)), .second, .unset, .val (.long (9007199254740992 : Int64)), .second, .val (.long (((p1).toInt64) * ((p2).toInt64))), .second] []))) (fun _ k => XS.ifYes X0.here hx rfl (pc0 := 101) (pc' := 108) rfl (hb hby at_101) rfl (XT.ll_ge_t hc20) (by decide) (by decide) k) ?_
          refine OGoal.mp (S' := (s₁.setTop (mkF m 109 #[.val (.int p1), .val (.int p2), .val (.int p3), .val (.int p4), .val (.double (FP.i2d p1)), .second, .val (.double (FP.i2d p2)), .second, .unset, .val (.long (9007199254740992 : Int64)), .second, .val (.long (((p1).toInt64) * ((p2).toInt64))), .second] [(.int (0 : Int32))]))) (fun _ k => XS.iconst X0.here hx rfl (hb hby at_108) k) ?_
          refine OGoal.mp (S' := (s₁.setTop (mkF m 111 #[.val (.int p1), .val (.int p2), .val (.int p3), .val (.int p4), .val (.double (FP.i2d p1)), .second, .val (.double (FP.i2d p2)), .second, .val (.int (0 : Int32)), .val (.long (9007199254740992 : Int64)), .second, .val (.long (((p1).toInt64) * ((p2).toInt64))), .second] []))) (fun _ k => XS.istore X0.here hx rfl (hb hby at_109) rfl (l' := #[.val (.int p1), .val (.int p2), .val (.int p3), .val (.int p4), .val (.double (FP.i2d p1)), .second, .val (.double (FP.i2d p2)), .second, .val (.int (0 : Int32)), .val (.long (9007199254740992 : Int64)), .second, .val (.long (((p1).toInt64) * ((p2).toInt64))), .second]) rfl k) ?_
          refine OGoal.mp (S' := (s₁.setTop (mkF m 113 #[.val (.int p1), .val (.int p2), .val (.int p3), .val (.int p4), .val (.double (FP.i2d p1)), .second, .val (.double (FP.i2d p2)), .second, .val (.int (0 : Int32)), .val (.long (9007199254740992 : Int64)), .second, .val (.long (((p1).toInt64) * ((p2).toInt64))), .second] [(.double (FP.i2d p1))]))) (fun _ k => XS.dload X0.here hx rfl (hb hby at_111) rfl k) ?_
          refine OGoal.mp (S' := (s₁.setTop (mkF m 115 #[.val (.int p1), .val (.int p2), .val (.int p3), .val (.int p4), .val (.double (FP.i2d p1)), .second, .val (.double (FP.i2d p2)), .second, .val (.int (0 : Int32)), .val (.long (9007199254740992 : Int64)), .second, .val (.long (((p1).toInt64) * ((p2).toInt64))), .second] [(.double (FP.i2d p2)), (.double (FP.i2d p1))]))) (fun _ k => XS.dload X0.here hx rfl (hb hby at_113) rfl k) ?_
          refine OGoal.mp (S' := (s₁.setTop (mkF m 116 #[.val (.int p1), .val (.int p2), .val (.int p3), .val (.int p4), .val (.double (FP.i2d p1)), .second, .val (.double (FP.i2d p2)), .second, .val (.int (0 : Int32)), .val (.long (9007199254740992 : Int64)), .second, .val (.long (((p1).toInt64) * ((p2).toInt64))), .second] [(.int p3), (.double (FP.i2d p2)), (.double (FP.i2d p1))]))) (fun _ k => XS.iloadN X0.here hx rfl (hb hby at_115) rfl k) ?_
          refine OGoal.mp (S' := (s₁.setTop (mkF m 117 #[.val (.int p1), .val (.int p2), .val (.int p3), .val (.int p4), .val (.double (FP.i2d p1)), .second, .val (.double (FP.i2d p2)), .second, .val (.int (0 : Int32)), .val (.long (9007199254740992 : Int64)), .second, .val (.long (((p1).toInt64) * ((p2).toInt64))), .second] [(.double (FP.i2d p3)), (.double (FP.i2d p2)), (.double (FP.i2d p1))]))) (fun _ k => XS.i2dS X0.here hx rfl (hb hby at_116) rfl rfl k) ?_
          refine oCallS (y := (⟨"com/example/stepwise_medians/stepwisemedians/engine/LineEngine", "isExact", "(DDD)Z"⟩ : MethodName)) X0 hx hZ hown (hw _ (List.mem_of_getElem? (i := 1) rfl)) (hw _ (List.mem_of_getElem? (i := 2) rfl)) (hw _ (List.mem_of_getElem? (i := 3) rfl)) (hw _ (List.mem_of_getElem? (i := 4) rfl)) (by decide) (rmE l Z a0 hw (FP.i2d p1) (FP.i2d p2) (FP.i2d p3) h0 n0 Z0 (own_n1 p1 p2) (own_n2 p1 p2) (own_n3 p1 p2 p3)) e0 [(.double (FP.i2d p1)), (.double (FP.i2d p2)), (.double (FP.i2d p3))] [] rfl rfl (by rw [hml]; rfl) (lenOf own_pd__DDD_Z rfl) 0 (Nat.le_of_eq rfl) (by decide) (by decide) (by decide) (by decide) (hb hby at_117) ?_
          intro v29 T30 L31 X32 q33
          obtain ⟨rfl, N34, e35⟩ := q33
          have N36 := Fr.app (Fr.nil n0) N34
          show OGoal p e below s _ _ _ (T30.setTop (mkF m 120 #[.val (.int p1), .val (.int p2), .val (.int p3), .val (.int p4), .val (.double (FP.i2d p1)), .second, .val (.double (FP.i2d p2)), .second, .val (.int (0 : Int32)), .val (.long (9007199254740992 : Int64)), .second, .val (.long (((p1).toInt64) * ((p2).toInt64))), .second] [(.int (own_ie (FP.i2d p1) (FP.i2d p2) (FP.i2d p3)))]))
          refine OGoal.mp (S' := (T30.setTop (mkF m 122 #[.val (.int p1), .val (.int p2), .val (.int p3), .val (.int p4), .val (.double (FP.i2d p1)), .second, .val (.double (FP.i2d p2)), .second, .val (.int (0 : Int32)), .val (.long (9007199254740992 : Int64)), .second, .val (.long (((p1).toInt64) * ((p2).toInt64))), .second] [(.int (0 : Int32)), (.int (own_ie (FP.i2d p1) (FP.i2d p2) (FP.i2d p3)))]))) (fun _ k => XS.iload X32.here hx rfl (hb hby at_120) rfl k) ?_
          refine OGoal.mp (S' := (T30.setTop (mkF m 125 #[.val (.int p1), .val (.int p2), .val (.int p3), .val (.int p4), .val (.double (FP.i2d p1)), .second, .val (.double (FP.i2d p2)), .second, .val (.int (0 : Int32)), .val (.long (9007199254740992 : Int64)), .second, .val (.long (((p1).toInt64) * ((p2).toInt64))), .second] []))) (fun _ k => XS.icmpNo X32.here hx rfl (hb hby at_122) rfl (XT.ii_ne_f (own_d p1 p2 p3 hc2 hc11 hc20)) k) ?_
          refine OGoal.mp (S' := (T30.setTop (mkF m 126 #[.val (.int p1), .val (.int p2), .val (.int p3), .val (.int p4), .val (.double (FP.i2d p1)), .second, .val (.double (FP.i2d p2)), .second, .val (.int (0 : Int32)), .val (.long (9007199254740992 : Int64)), .second, .val (.long (((p1).toInt64) * ((p2).toInt64))), .second] [(.int (1 : Int32))]))) (fun _ k => XS.iconst X32.here hx rfl (hb hby at_125) k) ?_
          refine OGoal.mp (S' := (T30.setTop (mkF m 130 #[.val (.int p1), .val (.int p2), .val (.int p3), .val (.int p4), .val (.double (FP.i2d p1)), .second, .val (.double (FP.i2d p2)), .second, .val (.int (0 : Int32)), .val (.long (9007199254740992 : Int64)), .second, .val (.long (((p1).toInt64) * ((p2).toInt64))), .second] [(.int (1 : Int32))]))) (fun _ k => XS.goto X32.here hx rfl (pc0 := 126) (pc' := 130) rfl (hb hby at_126) (by decide) (by decide) k) ?_
          refine oRetZ X32 hx hlk hret (Or.inr rfl) (hb hby at_130) ?_ (by decide) (by decide)
          exact ⟨rfl, N36⟩
  · refine OGoal.mp (S' := (s₁.setTop (mkF m 6 #[.val (.int p1), .val (.int p2), .val (.int p3), .val (.int p4), .unset, .unset, .unset, .unset, .unset, .unset, .unset, .unset, .unset] []))) (fun _ k => XS.ifNo X0.here hx rfl (hb hby at_3) rfl (XT.i0_eq_f hc1) k) ?_
    refine OGoal.mp (S' := (s₁.setTop (mkF m 9 #[.val (.int p1), .val (.int p2), .val (.int p3), .val (.int p4), .unset, .unset, .unset, .unset, .unset, .unset, .unset, .unset, .unset] [(.double (9218868437227405311 : UInt64))]))) (fun _ k => X0.ldc2DoubleC hx hown (mvT hZ (hw _ (List.mem_of_getElem? (i := 0) rfl))) (g := mkF m 6 #[.val (.int p1), .val (.int p2), .val (.int p3), .val (.int p4), .unset, .unset, .unset, .unset, .unset, .unset, .unset, .unset, .unset] []) rfl (hb hby at_6) _ k) ?_
    refine OGoal.mp (S' := (s₁.setTop (mkF m 11 #[.val (.int p1), .val (.int p2), .val (.int p3), .val (.int p4), .unset, .unset, .unset, .unset, .unset, .val (.double (9218868437227405311 : UInt64)), .second, .unset, .unset] []))) (fun _ k => XS.dstore X0.here hx rfl (hb hby at_9) rfl (l' := #[.val (.int p1), .val (.int p2), .val (.int p3), .val (.int p4), .unset, .unset, .unset, .unset, .unset, .val (.double (9218868437227405311 : UInt64)), .second, .unset, .unset]) rfl k) ?_
    refine OGoal.mp (S' := (s₁.setTop (mkF m 12 #[.val (.int p1), .val (.int p2), .val (.int p3), .val (.int p4), .unset, .unset, .unset, .unset, .unset, .val (.double (9218868437227405311 : UInt64)), .second, .unset, .unset] [(.int p4)]))) (fun _ k => XS.iloadN X0.here hx rfl (hb hby at_11) rfl k) ?_
    refine OGoal.mp (S' := (s₁.setTop (mkF m 13 #[.val (.int p1), .val (.int p2), .val (.int p3), .val (.int p4), .unset, .unset, .unset, .unset, .unset, .val (.double (9218868437227405311 : UInt64)), .second, .unset, .unset] [(.int (2 : Int32)), (.int p4)]))) (fun _ k => XS.iconst X0.here hx rfl (hb hby at_12) k) ?_
    refine OGoal.mp (S' := (s₁.setTop (mkF m 14 #[.val (.int p1), .val (.int p2), .val (.int p3), .val (.int p4), .unset, .unset, .unset, .unset, .unset, .val (.double (9218868437227405311 : UInt64)), .second, .unset, .unset] [(.int (p4 &&& (2 : Int32)))]))) (fun _ k => XS.iand X0.here hx rfl (hb hby at_13) rfl k) ?_
    by_cases hc37 : (p4 &&& (2 : Int32)) = 0
    · refine OGoal.mp (S' := (s₁.setTop (mkF m 27 #[.val (.int p1), .val (.int p2), .val (.int p3), .val (.int p4), .unset, .unset, .unset, .unset, .unset, .val (.double (9218868437227405311 : UInt64)), .second, .unset, .unset] []))) (fun _ k => XS.ifYes X0.here hx rfl (pc0 := 14) (pc' := 27) rfl (hb hby at_14) rfl (XT.i0_eq_t hc37) (by decide) (by decide) k) ?_
      refine OGoal.mp (S' := (s₁.setTop (mkF m 28 #[.val (.int p1), .val (.int p2), .val (.int p3), .val (.int p4), .unset, .unset, .unset, .unset, .unset, .val (.double (9218868437227405311 : UInt64)), .second, .unset, .unset] [(.double (0 : UInt64))]))) (fun _ k => XS.dconst0 X0.here hx rfl (hb hby at_27) rfl k) ?_
      refine OGoal.mp (S' := (s₁.setTop (mkF m 30 #[.val (.int p1), .val (.int p2), .val (.int p3), .val (.int p4), .val (.double (0 : UInt64)), .second, .unset, .unset, .unset, .val (.double (9218868437227405311 : UInt64)), .second, .unset, .unset] []))) (fun _ k => XS.dstore X0.here hx rfl (hb hby at_28) rfl (l' := #[.val (.int p1), .val (.int p2), .val (.int p3), .val (.int p4), .val (.double (0 : UInt64)), .second, .unset, .unset, .unset, .val (.double (9218868437227405311 : UInt64)), .second, .unset, .unset]) rfl k) ?_
      refine OGoal.mp (S' := (s₁.setTop (mkF m 32 #[.val (.int p1), .val (.int p2), .val (.int p3), .val (.int p4), .val (.double (0 : UInt64)), .second, .unset, .unset, .unset, .val (.double (9218868437227405311 : UInt64)), .second, .unset, .unset] [(.double (9218868437227405311 : UInt64))]))) (fun _ k => XS.dload X0.here hx rfl (hb hby at_30) rfl k) ?_
      refine OGoal.mp (S' := (s₁.setTop (mkF m 34 #[.val (.int p1), .val (.int p2), .val (.int p3), .val (.int p4), .val (.double (0 : UInt64)), .second, .val (.double (9218868437227405311 : UInt64)), .second, .unset, .val (.double (9218868437227405311 : UInt64)), .second, .unset, .unset] []))) (fun _ k => XS.dstore X0.here hx rfl (hb hby at_32) rfl (l' := #[.val (.int p1), .val (.int p2), .val (.int p3), .val (.int p4), .val (.double (0 : UInt64)), .second, .val (.double (9218868437227405311 : UInt64)), .second, .unset, .val (.double (9218868437227405311 : UInt64)), .second, .unset, .unset]) rfl k) ?_
      refine OGoal.mp (S' := (s₁.setTop (mkF m 35 #[.val (.int p1), .val (.int p2), .val (.int p3), .val (.int p4), .val (.double (0 : UInt64)), .second, .val (.double (9218868437227405311 : UInt64)), .second, .unset, .val (.double (9218868437227405311 : UInt64)), .second, .unset, .unset] [(.int (1 : Int32))]))) (fun _ k => XS.iconst X0.here hx rfl (hb hby at_34) k) ?_
      refine OGoal.mp (S' := (s₁.setTop (mkF m 37 #[.val (.int p1), .val (.int p2), .val (.int p3), .val (.int p4), .val (.double (0 : UInt64)), .second, .val (.double (9218868437227405311 : UInt64)), .second, .val (.int (1 : Int32)), .val (.double (9218868437227405311 : UInt64)), .second, .unset, .unset] []))) (fun _ k => XS.istore X0.here hx rfl (hb hby at_35) rfl (l' := #[.val (.int p1), .val (.int p2), .val (.int p3), .val (.int p4), .val (.double (0 : UInt64)), .second, .val (.double (9218868437227405311 : UInt64)), .second, .val (.int (1 : Int32)), .val (.double (9218868437227405311 : UInt64)), .second, .unset, .unset]) rfl k) ?_
      refine OGoal.mp (S' := (s₁.setTop (mkF m 111 #[.val (.int p1), .val (.int p2), .val (.int p3), .val (.int p4), .val (.double (0 : UInt64)), .second, .val (.double (9218868437227405311 : UInt64)), .second, .val (.int (1 : Int32)), .val (.double (9218868437227405311 : UInt64)), .second, .unset, .unset] []))) (fun _ k => XS.goto X0.here hx rfl (pc0 := 37) (pc' := 111) rfl (hb hby at_37) (by decide) (by decide) k) ?_
      refine OGoal.mp (S' := (s₁.setTop (mkF m 113 #[.val (.int p1), .val (.int p2), .val (.int p3), .val (.int p4), .val (.double (0 : UInt64)), .second, .val (.double (9218868437227405311 : UInt64)), .second, .val (.int (1 : Int32)), .val (.double (9218868437227405311 : UInt64)), .second, .unset, .unset] [(.double (0 : UInt64))]))) (fun _ k => XS.dload X0.here hx rfl (hb hby at_111) rfl k) ?_
      refine OGoal.mp (S' := (s₁.setTop (mkF m 115 #[.val (.int p1), .val (.int p2), .val (.int p3), .val (.int p4), .val (.double (0 : UInt64)), .second, .val (.double (9218868437227405311 : UInt64)), .second, .val (.int (1 : Int32)), .val (.double (9218868437227405311 : UInt64)), .second, .unset, .unset] [(.double (9218868437227405311 : UInt64)), (.double (0 : UInt64))]))) (fun _ k => XS.dload X0.here hx rfl (hb hby at_113) rfl k) ?_
      refine OGoal.mp (S' := (s₁.setTop (mkF m 116 #[.val (.int p1), .val (.int p2), .val (.int p3), .val (.int p4), .val (.double (0 : UInt64)), .second, .val (.double (9218868437227405311 : UInt64)), .second, .val (.int (1 : Int32)), .val (.double (9218868437227405311 : UInt64)), .second, .unset, .unset] [(.int p3), (.double (9218868437227405311 : UInt64)), (.double (0 : UInt64))]))) (fun _ k => XS.iloadN X0.here hx rfl (hb hby at_115) rfl k) ?_
      refine OGoal.mp (S' := (s₁.setTop (mkF m 117 #[.val (.int p1), .val (.int p2), .val (.int p3), .val (.int p4), .val (.double (0 : UInt64)), .second, .val (.double (9218868437227405311 : UInt64)), .second, .val (.int (1 : Int32)), .val (.double (9218868437227405311 : UInt64)), .second, .unset, .unset] [(.double (FP.i2d p3)), (.double (9218868437227405311 : UInt64)), (.double (0 : UInt64))]))) (fun _ k => XS.i2dS X0.here hx rfl (hb hby at_116) rfl rfl k) ?_
      refine oCallS (y := (⟨"com/example/stepwise_medians/stepwisemedians/engine/LineEngine", "isExact", "(DDD)Z"⟩ : MethodName)) X0 hx hZ hown (hw _ (List.mem_of_getElem? (i := 1) rfl)) (hw _ (List.mem_of_getElem? (i := 2) rfl)) (hw _ (List.mem_of_getElem? (i := 3) rfl)) (hw _ (List.mem_of_getElem? (i := 4) rfl)) (by decide) (rmE l Z a0 hw (0 : UInt64) (9218868437227405311 : UInt64) (FP.i2d p3) h0 n0 Z0 (own_z1 own_0b) (own_z2 own_0b) (own_z3 own_0b p3)) e0 [(.double (0 : UInt64)), (.double (9218868437227405311 : UInt64)), (.double (FP.i2d p3))] [] rfl rfl (by rw [hml]; rfl) (lenOf own_pd__DDD_Z rfl) 0 (Nat.le_of_eq rfl) (by decide) (by decide) (by decide) (by decide) (hb hby at_117) ?_
      intro v38 T39 L40 X41 q42
      obtain ⟨rfl, N43, e44⟩ := q42
      have N45 := Fr.app (Fr.nil n0) N43
      show OGoal p e below s _ _ _ (T39.setTop (mkF m 120 #[.val (.int p1), .val (.int p2), .val (.int p3), .val (.int p4), .val (.double (0 : UInt64)), .second, .val (.double (9218868437227405311 : UInt64)), .second, .val (.int (1 : Int32)), .val (.double (9218868437227405311 : UInt64)), .second, .unset, .unset] [(.int (own_ie (0 : UInt64) (9218868437227405311 : UInt64) (FP.i2d p3)))]))
      refine OGoal.mp (S' := (T39.setTop (mkF m 122 #[.val (.int p1), .val (.int p2), .val (.int p3), .val (.int p4), .val (.double (0 : UInt64)), .second, .val (.double (9218868437227405311 : UInt64)), .second, .val (.int (1 : Int32)), .val (.double (9218868437227405311 : UInt64)), .second, .unset, .unset] [(.int (1 : Int32)), (.int (own_ie (0 : UInt64) (9218868437227405311 : UInt64) (FP.i2d p3)))]))) (fun _ k => XS.iload X41.here hx rfl (hb hby at_120) rfl k) ?_
      refine OGoal.mp (S' := (T39.setTop (mkF m 125 #[.val (.int p1), .val (.int p2), .val (.int p3), .val (.int p4), .val (.double (0 : UInt64)), .second, .val (.double (9218868437227405311 : UInt64)), .second, .val (.int (1 : Int32)), .val (.double (9218868437227405311 : UInt64)), .second, .unset, .unset] []))) (fun _ k => XS.icmpNo X41.here hx rfl (hb hby at_122) rfl (XT.ii_ne_f (own_z own_0b p3)) k) ?_
      refine OGoal.mp (S' := (T39.setTop (mkF m 126 #[.val (.int p1), .val (.int p2), .val (.int p3), .val (.int p4), .val (.double (0 : UInt64)), .second, .val (.double (9218868437227405311 : UInt64)), .second, .val (.int (1 : Int32)), .val (.double (9218868437227405311 : UInt64)), .second, .unset, .unset] [(.int (1 : Int32))]))) (fun _ k => XS.iconst X41.here hx rfl (hb hby at_125) k) ?_
      refine OGoal.mp (S' := (T39.setTop (mkF m 130 #[.val (.int p1), .val (.int p2), .val (.int p3), .val (.int p4), .val (.double (0 : UInt64)), .second, .val (.double (9218868437227405311 : UInt64)), .second, .val (.int (1 : Int32)), .val (.double (9218868437227405311 : UInt64)), .second, .unset, .unset] [(.int (1 : Int32))]))) (fun _ k => XS.goto X41.here hx rfl (pc0 := 126) (pc' := 130) rfl (hb hby at_126) (by decide) (by decide) k) ?_
      refine oRetZ X41 hx hlk hret (Or.inr rfl) (hb hby at_130) ?_ (by decide) (by decide)
      exact ⟨rfl, N45⟩
    · refine OGoal.mp (S' := (s₁.setTop (mkF m 17 #[.val (.int p1), .val (.int p2), .val (.int p3), .val (.int p4), .unset, .unset, .unset, .unset, .unset, .val (.double (9218868437227405311 : UInt64)), .second, .unset, .unset] []))) (fun _ k => XS.ifNo X0.here hx rfl (hb hby at_14) rfl (XT.i0_eq_f hc37) k) ?_
      refine OGoal.mp (S' := (s₁.setTop (mkF m 19 #[.val (.int p1), .val (.int p2), .val (.int p3), .val (.int p4), .unset, .unset, .unset, .unset, .unset, .val (.double (9218868437227405311 : UInt64)), .second, .unset, .unset] [(.double (9218868437227405311 : UInt64))]))) (fun _ k => XS.dload X0.here hx rfl (hb hby at_17) rfl k) ?_
      refine OGoal.mp (S' := (s₁.setTop (mkF m 21 #[.val (.int p1), .val (.int p2), .val (.int p3), .val (.int p4), .val (.double (9218868437227405311 : UInt64)), .second, .unset, .unset, .unset, .val (.double (9218868437227405311 : UInt64)), .second, .unset, .unset] []))) (fun _ k => XS.dstore X0.here hx rfl (hb hby at_19) rfl (l' := #[.val (.int p1), .val (.int p2), .val (.int p3), .val (.int p4), .val (.double (9218868437227405311 : UInt64)), .second, .unset, .unset, .unset, .val (.double (9218868437227405311 : UInt64)), .second, .unset, .unset]) rfl k) ?_
      refine OGoal.mp (S' := (s₁.setTop (mkF m 22 #[.val (.int p1), .val (.int p2), .val (.int p3), .val (.int p4), .val (.double (9218868437227405311 : UInt64)), .second, .unset, .unset, .unset, .val (.double (9218868437227405311 : UInt64)), .second, .unset, .unset] [(.double (0 : UInt64))]))) (fun _ k => XS.dconst0 X0.here hx rfl (hb hby at_21) rfl k) ?_
      refine OGoal.mp (S' := (s₁.setTop (mkF m 24 #[.val (.int p1), .val (.int p2), .val (.int p3), .val (.int p4), .val (.double (9218868437227405311 : UInt64)), .second, .val (.double (0 : UInt64)), .second, .unset, .val (.double (9218868437227405311 : UInt64)), .second, .unset, .unset] []))) (fun _ k => XS.dstore X0.here hx rfl (hb hby at_22) rfl (l' := #[.val (.int p1), .val (.int p2), .val (.int p3), .val (.int p4), .val (.double (9218868437227405311 : UInt64)), .second, .val (.double (0 : UInt64)), .second, .unset, .val (.double (9218868437227405311 : UInt64)), .second, .unset, .unset]) rfl k) ?_
      refine OGoal.mp (S' := (s₁.setTop (mkF m 34 #[.val (.int p1), .val (.int p2), .val (.int p3), .val (.int p4), .val (.double (9218868437227405311 : UInt64)), .second, .val (.double (0 : UInt64)), .second, .unset, .val (.double (9218868437227405311 : UInt64)), .second, .unset, .unset] []))) (fun _ k => XS.goto X0.here hx rfl (pc0 := 24) (pc' := 34) rfl (hb hby at_24) (by decide) (by decide) k) ?_
      refine OGoal.mp (S' := (s₁.setTop (mkF m 35 #[.val (.int p1), .val (.int p2), .val (.int p3), .val (.int p4), .val (.double (9218868437227405311 : UInt64)), .second, .val (.double (0 : UInt64)), .second, .unset, .val (.double (9218868437227405311 : UInt64)), .second, .unset, .unset] [(.int (1 : Int32))]))) (fun _ k => XS.iconst X0.here hx rfl (hb hby at_34) k) ?_
      refine OGoal.mp (S' := (s₁.setTop (mkF m 37 #[.val (.int p1), .val (.int p2), .val (.int p3), .val (.int p4), .val (.double (9218868437227405311 : UInt64)), .second, .val (.double (0 : UInt64)), .second, .val (.int (1 : Int32)), .val (.double (9218868437227405311 : UInt64)), .second, .unset, .unset] []))) (fun _ k => XS.istore X0.here hx rfl (hb hby at_35) rfl (l' := #[.val (.int p1), .val (.int p2), .val (.int p3), .val (.int p4), .val (.double (9218868437227405311 : UInt64)), .second, .val (.double (0 : UInt64)), .second, .val (.int (1 : Int32)), .val (.double (9218868437227405311 : UInt64)), .second, .unset, .unset]) rfl k) ?_
      refine OGoal.mp (S' := (s₁.setTop (mkF m 111 #[.val (.int p1), .val (.int p2), .val (.int p3), .val (.int p4), .val (.double (9218868437227405311 : UInt64)), .second, .val (.double (0 : UInt64)), .second, .val (.int (1 : Int32)), .val (.double (9218868437227405311 : UInt64)), .second, .unset, .unset] []))) (fun _ k => XS.goto X0.here hx rfl (pc0 := 37) (pc' := 111) rfl (hb hby at_37) (by decide) (by decide) k) ?_
      refine OGoal.mp (S' := (s₁.setTop (mkF m 113 #[.val (.int p1), .val (.int p2), .val (.int p3), .val (.int p4), .val (.double (9218868437227405311 : UInt64)), .second, .val (.double (0 : UInt64)), .second, .val (.int (1 : Int32)), .val (.double (9218868437227405311 : UInt64)), .second, .unset, .unset] [(.double (9218868437227405311 : UInt64))]))) (fun _ k => XS.dload X0.here hx rfl (hb hby at_111) rfl k) ?_
      refine OGoal.mp (S' := (s₁.setTop (mkF m 115 #[.val (.int p1), .val (.int p2), .val (.int p3), .val (.int p4), .val (.double (9218868437227405311 : UInt64)), .second, .val (.double (0 : UInt64)), .second, .val (.int (1 : Int32)), .val (.double (9218868437227405311 : UInt64)), .second, .unset, .unset] [(.double (0 : UInt64)), (.double (9218868437227405311 : UInt64))]))) (fun _ k => XS.dload X0.here hx rfl (hb hby at_113) rfl k) ?_
      refine OGoal.mp (S' := (s₁.setTop (mkF m 116 #[.val (.int p1), .val (.int p2), .val (.int p3), .val (.int p4), .val (.double (9218868437227405311 : UInt64)), .second, .val (.double (0 : UInt64)), .second, .val (.int (1 : Int32)), .val (.double (9218868437227405311 : UInt64)), .second, .unset, .unset] [(.int p3), (.double (0 : UInt64)), (.double (9218868437227405311 : UInt64))]))) (fun _ k => XS.iloadN X0.here hx rfl (hb hby at_115) rfl k) ?_
      refine OGoal.mp (S' := (s₁.setTop (mkF m 117 #[.val (.int p1), .val (.int p2), .val (.int p3), .val (.int p4), .val (.double (9218868437227405311 : UInt64)), .second, .val (.double (0 : UInt64)), .second, .val (.int (1 : Int32)), .val (.double (9218868437227405311 : UInt64)), .second, .unset, .unset] [(.double (FP.i2d p3)), (.double (0 : UInt64)), (.double (9218868437227405311 : UInt64))]))) (fun _ k => XS.i2dS X0.here hx rfl (hb hby at_116) rfl rfl k) ?_
      refine oCallS (y := (⟨"com/example/stepwise_medians/stepwisemedians/engine/LineEngine", "isExact", "(DDD)Z"⟩ : MethodName)) X0 hx hZ hown (hw _ (List.mem_of_getElem? (i := 1) rfl)) (hw _ (List.mem_of_getElem? (i := 2) rfl)) (hw _ (List.mem_of_getElem? (i := 3) rfl)) (hw _ (List.mem_of_getElem? (i := 4) rfl)) (by decide) (rmE l Z a0 hw (9218868437227405311 : UInt64) (0 : UInt64) (FP.i2d p3) h0 n0 Z0 (own_z1 own_b0) (own_z2 own_b0) (own_z3 own_b0 p3)) e0 [(.double (9218868437227405311 : UInt64)), (.double (0 : UInt64)), (.double (FP.i2d p3))] [] rfl rfl (by rw [hml]; rfl) (lenOf own_pd__DDD_Z rfl) 0 (Nat.le_of_eq rfl) (by decide) (by decide) (by decide) (by decide) (hb hby at_117) ?_
      intro v46 T47 L48 X49 q50
      obtain ⟨rfl, N51, e52⟩ := q50
      have N53 := Fr.app (Fr.nil n0) N51
      show OGoal p e below s _ _ _ (T47.setTop (mkF m 120 #[.val (.int p1), .val (.int p2), .val (.int p3), .val (.int p4), .val (.double (9218868437227405311 : UInt64)), .second, .val (.double (0 : UInt64)), .second, .val (.int (1 : Int32)), .val (.double (9218868437227405311 : UInt64)), .second, .unset, .unset] [(.int (own_ie (9218868437227405311 : UInt64) (0 : UInt64) (FP.i2d p3)))]))
      refine OGoal.mp (S' := (T47.setTop (mkF m 122 #[.val (.int p1), .val (.int p2), .val (.int p3), .val (.int p4), .val (.double (9218868437227405311 : UInt64)), .second, .val (.double (0 : UInt64)), .second, .val (.int (1 : Int32)), .val (.double (9218868437227405311 : UInt64)), .second, .unset, .unset] [(.int (1 : Int32)), (.int (own_ie (9218868437227405311 : UInt64) (0 : UInt64) (FP.i2d p3)))]))) (fun _ k => XS.iload X49.here hx rfl (hb hby at_120) rfl k) ?_
      refine OGoal.mp (S' := (T47.setTop (mkF m 125 #[.val (.int p1), .val (.int p2), .val (.int p3), .val (.int p4), .val (.double (9218868437227405311 : UInt64)), .second, .val (.double (0 : UInt64)), .second, .val (.int (1 : Int32)), .val (.double (9218868437227405311 : UInt64)), .second, .unset, .unset] []))) (fun _ k => XS.icmpNo X49.here hx rfl (hb hby at_122) rfl (XT.ii_ne_f (own_z own_b0 p3)) k) ?_
      refine OGoal.mp (S' := (T47.setTop (mkF m 126 #[.val (.int p1), .val (.int p2), .val (.int p3), .val (.int p4), .val (.double (9218868437227405311 : UInt64)), .second, .val (.double (0 : UInt64)), .second, .val (.int (1 : Int32)), .val (.double (9218868437227405311 : UInt64)), .second, .unset, .unset] [(.int (1 : Int32))]))) (fun _ k => XS.iconst X49.here hx rfl (hb hby at_125) k) ?_
      refine OGoal.mp (S' := (T47.setTop (mkF m 130 #[.val (.int p1), .val (.int p2), .val (.int p3), .val (.int p4), .val (.double (9218868437227405311 : UInt64)), .second, .val (.double (0 : UInt64)), .second, .val (.int (1 : Int32)), .val (.double (9218868437227405311 : UInt64)), .second, .unset, .unset] [(.int (1 : Int32))]))) (fun _ k => XS.goto X49.here hx rfl (pc0 := 126) (pc' := 130) rfl (hb hby at_126) (by decide) (by decide) k) ?_
      refine oRetZ X49 hx hlk hret (Or.inr rfl) (hb hby at_130) ?_ (by decide) (by decide)
      exact ⟨rfl, N53⟩
set_option maxRecDepth 65536 in
set_option maxHeartbeats 40000000 in
theorem comes_1 {Post : Tables → Env → Array Value → State → Outcome → State → Prop} (hpost : ∀ tb e args s v u, (limb_1_1.after args s (.returned v) u = true ∧ limb_1_2.after args s (.returned v) u = true ∧ True) → FrameEnd s (.returned v) u (Jvm.fieldLocs frame_1_writes args s ++ Jvm.arrayLocs frame_1_arrays args s ++ Jvm.staticLocs frame_1_statics s) 0 0 → Post tb e args s (.returned v) u) :
    ArmFor flags0 classFile x code maxLocals ret World_1 tables_1 room_1 Calls_1 rest_1 Pre_1 Post := by
  intro l hfl _ _ p e ha hc hk s m args below hf hA hF happ hP
  obtain ⟨hcalls, hrest, hpre⟩ := hP
  obtain ⟨-, -, -, hnamed, -, -, -, hat⟩ := (Spec.applies_iff hf).mp happ
  obtain ⟨hg, hn⟩ := and_e (Cond.before_iff.mp (show (Jvm.Cond.and given_1 narrow_1).before args s = true from hpre))
  obtain ⟨hcnt, hg⟩ := and_e hg
  obtain ⟨w0, w1, w2, w3, rfl⟩ : ∃ w0 w1 w2 w3 : Value, args = #[w0, w1, w2, w3] := by
    have hs : args.size = 4 := by simpa [Cond.value, given_1] using hcnt
    obtain ⟨L⟩ := args
    match L, hs with
    | [w0, w1, w2, w3], _ => exact ⟨w0, w1, w2, w3, rfl⟩
  have hw := fun d (hd : d ∈ tables_1) => atoms_spec (ws := Jvm.Cond.code x code maxLocals ret :: tables_1) hat d (List.mem_cons_of_mem _ hd)
  have hfit : Fit s := fun {y c} hc i hi => by
    obtain ⟨ha, rfl⟩ := Array.getElem?_eq_some_iff.mp hc
    have q := List.all_eq_true.mp ((Array.all_eq_true_iff_forall_mem.mp hF) _ (Array.getElem_mem ha)) i (List.mem_range.mpr hi)
    simpa [Array.getElem?_eq_getElem hi] using q
  obtain ⟨hg0, hg⟩ := and_e hg
  obtain ⟨i0, ei0⟩ := is_v hg0
  obtain rfl : w0 = (.int i0) := Option.some.inj ei0
  obtain ⟨hg1, hg⟩ := and_e hg
  obtain ⟨i1, ei1⟩ := is_v hg1
  obtain rfl : w1 = (.int i1) := Option.some.inj ei1
  obtain ⟨hg2, hg⟩ := and_e hg
  obtain ⟨i2, ei2⟩ := is_v hg2
  obtain rfl : w2 = (.int i2) := Option.some.inj ei2
  obtain ⟨i3, ei3⟩ := is_v hg
  obtain rfl : w3 = (.int i3) := Option.some.inj ei3
  obtain ⟨n, o, h1, h2, h3, _, L, rfl, ⟨rfl, N⟩, hq⟩ := rm0 l s _ hw i0 i1 i2 i3 s.heap s.heap.size (Nat.le_refl _)  tables_1 p e ha hc hk s m _ below hf ((Spec.applies_iff_loose hf).mp happ).1 ⟨rfl, State.Warmed39.refl s, rfl⟩ trivial
  refine ⟨n, _, h1, h2, h3, hpost _ _ _ _ _ _ ⟨Cond.after_iff.mpr rfl, Cond.after_iff.mpr (eq_i res_at (Term.int_eval (1)) rfl), trivial⟩ ⟨hq.1, hq.2.1, (hq.2.2.sift fun y hy => Or.inr (N y hy)).mono (by decide) (by decide)⟩⟩
theorem main_1_1 : Claimed_1_1 := comes_1 fun _ _ _ _ _ _ h hF => ⟨h.1, hF⟩
theorem main_1_2 : Claimed_1_2 := comes_1 fun _ _ _ _ _ _ h hF => ⟨h.2.1, hF⟩
end Jvm.Pilot.@@N@@
namespace Jvm.Pilot.@@N@@
open Jvm Jvm.ClassFile Sem Op Lib Jvm.Free Jvm.Stand Jvm.Pilot.@@N@@.Jvm.D
/-! MADE BY PROGRAM (witnessworld.py) out of the Statement's table words and the real class files: 9 classes; the members and pool entries that the words name. The judged class is class 1, her method 1. -/
namespace start1
open Jvm.ClassFile
def u (s : String) : CpInfo := .utf8 (stringToUtf16 s)
/-- a pool by its gaps: so many unusable entries, then the entry; so many at the end -/
def gap : Nat → List CpInfo → List CpInfo
  | 0, r => r
  | n + 1, r => .unusable :: gap n r
def poolList (es : List (Nat × CpInfo)) (last : Nat) : List CpInfo := es.foldr (fun e r => gap e.1 (e.2 :: r)) (gap last [])
def pool (es : List (Nat × CpInfo)) (last : Nat) : Array CpInfo := ⟨poolList es last⟩
def fileOf (pool : Array CpInfo) (this : Nat) (attrs : Array Attribute := #[]) (ms : Array MethodInfo := #[]) (fl : Nat := 33) (sup : Nat := 0) (ifs : Array Nat := #[]) (fds : Array FieldInfo := #[]) : ClassFile where
  minorVersion := 0
  majorVersion := 65
  constantPool := pool
  accessFlags := fl
  thisClass := this
  superClass := sup
  interfaces := ifs
  fields := fds
  methods := ms
  attributes := attrs
def plain (name : String) (sup : Option ClassId) : Class where
  name := name
  kind := .ordinary
  loader := none
  accessFlags := 33
  super := sup
  interfaces := #[]
  cf := none
  fields := #[]
  methods := #[]
  instanceTypes := #[]
  staticTypes := #[]
  resolved := #[]
  callSites := []
  init := .initialized
  statics := none
  mirror := none

def pool0 : Array CpInfo := pool [(5, u "<init>"), (0, u "()V"), (1, .class_ 10), (1, u "java/lang/Object")] 113

def k0m0 : Method := { name := "<init>", desc := "()V", sig := { parameters := [], returnType := none }, accessFlags := 1, code := none }
/-- java/lang/Object -/
def k0 : Class := { plain "java/lang/Object" none with
  accessFlags := 33
  interfaces := #[]
  cf := some (fileOf pool0 8 #[] #[{ accessFlags := 1, nameIndex := 5, descriptorIndex := 6, attributes := #[] }] 33 0 #[] #[])
  fields := #[]
  methods := #[k0m0]
  instanceTypes := #[]
  staticTypes := #[]
  resolved := Array.replicate 124 none
  statics := none }

def pool1 : Array CpInfo := pool [(2, .class_ 4), (1, u "java/lang/Object"), (0, u "<init>"), (0, u "()V"), (0, .double 9218868437227405311), (1, .long 9007199254740992), (1, .long 2), (1, .methodref 14 15), (0, .class_ 16), (0, .nameAndType 17 18), (0, u "com/example/stepwise_medians/stepwisemedians/engine/LineEngine"), (0, u "isExact"), (0, u "(DDD)Z"), (0, .class_ 20), (0, u "com/example/stepwise_medians/stepwisemedians/engine/LineEngineIsExactPinLaw"), (2, u "law"), (0, u "(IIII)Z")] 3

def k1m0 : Method := { name := "<init>", desc := "()V", sig := { parameters := [], returnType := none }, accessFlags := 1, code := none }
def k1c1 : Code := { maxStack := 6, maxLocals := 13, code := code, exceptionTable := #[], attributes := #[] }
def k1m1 : Method := { name := "law", desc := "(IIII)Z", sig := { parameters := [.int, .int, .int, .int], returnType := some .boolean }, accessFlags := 9, code := some k1c1 }
/-- com/example/stepwise_medians/stepwisemedians/engine/LineEngineIsExactPinLaw -/
def k1 : Class := { plain "com/example/stepwise_medians/stepwisemedians/engine/LineEngineIsExactPinLaw" (some 0) with
  accessFlags := 49
  interfaces := #[]
  cf := some (fileOf pool1 19 #[] #[{ accessFlags := 1, nameIndex := 5, descriptorIndex := 6, attributes := #[] }, { accessFlags := 9, nameIndex := 23, descriptorIndex := 24, attributes := #[] }] 49 2 #[] #[])
  fields := #[]
  methods := #[k1m0, k1m1]
  instanceTypes := #[]
  staticTypes := #[]
  resolved := Array.replicate 28 none
  statics := none }

def pool2 : Array CpInfo := pool [(2, .class_ 4), (1, u "java/lang/Object"), (3, .class_ 10), (1, u "com/example/stepwise_medians/stepwisemedians/engine/LineEngine"), (0, u "refusal"), (0, u "Ljava/lang/String;"), (0, .double 4611686018427387904), (1, .double 4845873199050653696), (3, u "count"), (0, u "I"), (2, u "ended"), (0, u "Z"), (15, u "lastPosition"), (0, u "D"), (30, u "OVERFLOW"), (3, u "EXACT_LIMIT"), (0, u "INEXACT_SPAN"), (4, u "isExact"), (0, u "(DDD)Z")] 7

def k2c0 : Code := { maxStack := 6, maxLocals := 6, code := prog_13_method_2_code, exceptionTable := #[], attributes := #[] }
def k2m0 : Method := { name := "isExact", desc := "(DDD)Z", sig := { parameters := [.double, .double, .double], returnType := some .boolean }, accessFlags := 8, code := some k2c0 }
/-- com/example/stepwise_medians/stepwisemedians/engine/LineEngine -/
def k2 : Class := { plain "com/example/stepwise_medians/stepwisemedians/engine/LineEngine" (some 0) with
  accessFlags := 1057
  interfaces := #[]
  cf := some (fileOf pool2 8 #[] #[{ accessFlags := 8, nameIndex := 82, descriptorIndex := 83, attributes := #[] }] 1057 2 #[] #[{ accessFlags := 24, nameIndex := 72, descriptorIndex := 12, attributes := #[] }, { accessFlags := 24, nameIndex := 76, descriptorIndex := 41, attributes := #[] }, { accessFlags := 24, nameIndex := 77, descriptorIndex := 12, attributes := #[] }, { accessFlags := 18, nameIndex := 11, descriptorIndex := 12, attributes := #[] }, { accessFlags := 2, nameIndex := 19, descriptorIndex := 20, attributes := #[] }, { accessFlags := 2, nameIndex := 40, descriptorIndex := 41, attributes := #[] }, { accessFlags := 2, nameIndex := 23, descriptorIndex := 24, attributes := #[] }])
  fields := #[{ name := "OVERFLOW", type := (.object "java/lang/String"), accessFlags := 24, slot := 0, constantValue := 0 }, { name := "EXACT_LIMIT", type := .double, accessFlags := 24, slot := 1, constantValue := 0 }, { name := "INEXACT_SPAN", type := (.object "java/lang/String"), accessFlags := 24, slot := 2, constantValue := 0 }, { name := "refusal", type := (.object "java/lang/String"), accessFlags := 18, slot := 0, constantValue := 0 }, { name := "count", type := .int, accessFlags := 2, slot := 1, constantValue := 0 }, { name := "lastPosition", type := .double, accessFlags := 2, slot := 2, constantValue := 0 }, { name := "ended", type := .boolean, accessFlags := 2, slot := 3, constantValue := 0 }]
  methods := #[k2m0]
  instanceTypes := #[(.object "java/lang/String"), .int, .double, .boolean]
  staticTypes := #[(.object "java/lang/String"), .double, (.object "java/lang/String")]
  resolved := Array.replicate 91 none
  statics := none }

def pool3 : Array CpInfo := pool [(1, u "java/lang/Cloneable"), (0, .class_ 1), (0, u "java/lang/Object"), (0, .class_ 3)] 3

/-- java/lang/Cloneable -/
def k3 : Class := { plain "java/lang/Cloneable" (some 0) with
  accessFlags := 1537
  interfaces := #[]
  cf := some (fileOf pool3 2 #[] #[] 1537 4 #[] #[])
  fields := #[]
  methods := #[]
  instanceTypes := #[]
  staticTypes := #[]
  resolved := Array.replicate 8 none
  statics := none }

def pool4 : Array CpInfo := pool [(1, u "java/io/Serializable"), (0, .class_ 1), (0, u "java/lang/Object"), (0, .class_ 3)] 3

/-- java/io/Serializable -/
def k4 : Class := { plain "java/io/Serializable" (some 0) with
  accessFlags := 1537
  interfaces := #[]
  cf := some (fileOf pool4 2 #[] #[] 1537 4 #[] #[])
  fields := #[]
  methods := #[]
  instanceTypes := #[]
  staticTypes := #[]
  resolved := Array.replicate 8 none
  statics := none }

/-- the primitive byte -/
def k5 : Class := { plain "byte" none with kind := .primitive 'B', accessFlags := 0x411 }
/-- [B -/
def k6 : Class := { plain "[B" (some 0) with kind := .array 5 .byte, interfaces := #[3, 4], accessFlags := 1041 }

/-- the primitive int -/
def k7 : Class := { plain "int" none with kind := .primitive 'I', accessFlags := 0x411 }
/-- [I -/
def k8 : Class := { plain "[I" (some 0) with kind := .array 7 .int, interfaces := #[3, 4], accessFlags := 1041 }

def heap : Heap := #[]
def classes : Array Class := #[k0, k1, k2, k3, k4, k5, k6, k7, k8]
def interned : List (Array UInt16 × Addr) := []
def slotsUsed : Nat := 0
def theMethod : MethodId := ⟨1, 1⟩
def args0 : Array Value := #[.int 3, .int 4, .int 5, .int 0]
def aboutOver (below : List Frame) : State where
  vm := { classes := classes, interned := interned.toArray }
  heap := heap
  slotsUsed := slotsUsed
  threads := #[{ frames := .invoking theMethod args0 :: below }]
def below0 : List Frame := [.native { method := ⟨0, 0⟩, args := #[] }]
def about1 : State := aboutOver below0
def p0 : Program := .bare "" "" ""
def e0 : Env := launch0.env 0 0 0
theorem w_frames : about1.frames = Frame.invoking theMethod args0 :: below0 := rfl
set_option maxRecDepth 65536 in
theorem w_args : argsFit about1.vm theMethod args0 = true := by decide +kernel
set_option maxRecDepth 65536 in
theorem w_heap : heapFits about1 = true := by decide +kernel
set_option maxRecDepth 65536 in
theorem w_runnable : about1.curStatus? = some .runnable := by decide +kernel
set_option maxRecDepth 65536 in
theorem w_alone : about1.alone = true := by decide +kernel
set_option maxRecDepth 65536 in
theorem w_named : about1.methodNamed? x = some theMethod := by decide +kernel
set_option maxRecDepth 65536 in
theorem w_hears : about1.hears theMethod below0 = true := by decide +kernel
set_option maxRecDepth 65536 in
theorem w_ripe : about1.ripe theMethod args0 below0 = true := by decide +kernel
theorem w_running : about1.status = .running := rfl
set_option maxRecDepth 65536 in
theorem w_room : about1.hasRoom e0.platform room_1 = true :=
  launch0.hasRoom_least _ room_1 (by decide +kernel) (by decide +kernel) (by decide +kernel) (by decide +kernel) (by decide +kernel) (by decide +kernel)
theorem allAtoms_all (ts : List Jvm.Cond) (a : Array Jvm.Value) (st : Jvm.State) : (allAtoms ts).before a st = ts.all (fun c => c.before a st) := by
  induction ts with
  | nil => rfl
  | cons c t ih =>
    show (Jvm.Cond.and c (allAtoms t)).before a st = _
    rw [Jvm.Cond.before_and, ih, List.all_cons]
def words1 : List Jvm.Cond := Jvm.Cond.code x code maxLocals ret :: tables_1
/-- a 'code' word, met by the world's own term for the bytes: nothing is compared byte by byte -/
theorem code_word {y : MethodName} {bytes : ByteArray} {mx : Nat} {rt : Option FieldType} {a : Array Value} {s : State} {m : MethodId} {meth : Method} {c : Code} (h1 : s.methodNamed? y = some m) (h2 : s.vm.method? m = some meth) (h3 : meth.code = some c) (h4 : c.code = bytes)
    (h5 : (c.maxLocals == mx && c.exceptionTable.isEmpty && decide (c.maxStack ≤ mostOperands) && decide (meth.sig.returnType = rt) && !meth.locks && decide (parseMethodDescriptor y.desc = some meth.sig)) = true) : (Jvm.Cond.code y bytes mx rt).before a s = true := by
  simp only [Bool.and_eq_true, beq_iff_eq, Bool.not_eq_true', decide_eq_true_eq] at h5
  obtain ⟨⟨⟨⟨⟨g1, g2⟩, g3⟩, g4⟩, g5⟩, g6⟩ := h5
  simp [Cond.before, Cond.holds, Cond.value, h1, h2, h3, h4, g1, g2, g3, g4, g5, g6]
def isCode : Jvm.Cond → Bool
  | .code _ _ _ _ => true
  | _ => false
theorem all_split {L : List Jvm.Cond} {P : Jvm.Cond → Bool} (h1 : L.all (fun c => isCode c || P c) = true) (h2 : ∀ c ∈ L.filter isCode, P c = true) : L.all P = true := by
  refine List.all_eq_true.mpr fun c hc => ?_
  have h := List.all_eq_true.mp h1 c hc
  rcases Bool.eq_false_or_eq_true (isCode c) with hi | hi
  · exact h2 c (List.mem_filter.mpr ⟨hc, hi⟩)
  · simpa [hi] using h
set_option maxRecDepth 65536 in
theorem w_c0 : (Jvm.Cond.code x code maxLocals ret).before args0 about1 = true := code_word (m := ⟨1, 1⟩) (meth := k1m1) (c := k1c1) (by decide +kernel) rfl rfl rfl (by decide +kernel)
set_option maxRecDepth 65536 in
theorem w_c1 : (Jvm.Cond.code ({ cls := "com/example/stepwise_medians/stepwisemedians/engine/LineEngine", name := "isExact", desc := "(DDD)Z" } : Jvm.MethodName) prog_13_method_2_code (6 : Nat) (Option.some Jvm.ClassFile.FieldType.boolean)).before args0 about1 = true := code_word (m := ⟨2, 0⟩) (meth := k2m0) (c := k2c0) (by decide +kernel) rfl rfl rfl (by decide +kernel)
def codes1 : List Jvm.Cond := [Jvm.Cond.code x code maxLocals ret, Jvm.Cond.code ({ cls := "com/example/stepwise_medians/stepwisemedians/engine/LineEngine", name := "isExact", desc := "(DDD)Z" } : Jvm.MethodName) prog_13_method_2_code (6 : Nat) (Option.some Jvm.ClassFile.FieldType.boolean)]
set_option maxRecDepth 65536 in
theorem codes_eq : words1.filter isCode = codes1 := rfl
theorem w_codes : ∀ c ∈ words1.filter isCode, c.before args0 about1 = true := by
  rw [codes_eq]
  intro c hc
  simp only [codes1, List.mem_cons, List.not_mem_nil, or_false] at hc
  rcases hc with rfl | rfl
  · exact w_c0
  · exact w_c1
set_option maxRecDepth 65536 in
theorem w_t1 : words1.all (fun c => isCode c || c.before args0 about1) = true := by decide +kernel
theorem w_tables : (allAtoms (Jvm.Cond.code x code maxLocals ret :: tables_1)).before args0 about1 = true := by
  rw [allAtoms_all]
  show words1.all (fun c => c.before args0 about1) = true
  refine all_split ?_ w_codes
  rw [w_t1]
set_option maxRecDepth 65536 in
theorem w_case : (Jvm.Cond.and given_1 narrow_1).before args0 about1 = true := by decide +kernel
theorem w_applies : (headSpec (Jvm.Cond.code x code maxLocals ret :: tables_1) room_1).applies x e0.platform about1 = true :=
  (Spec.applies_iff w_frames).mpr ⟨w_running, w_runnable, w_alone, w_named, w_hears, w_ripe, w_room, w_tables⟩
theorem atStart : AtStart classFile x code maxLocals ret World_1 tables_1 room_1 Calls_1 rest_1 Pre_1 launch0 p0 e0 about1 theMethod args0 below0 :=
  ⟨lists_1, trivial, launch0.admits_env _ _ _, launch0.least_env, fairChoices_fair.cas, fairChoices_fair.clock, w_frames, w_args, w_heap, w_applies, trivial, trivial, w_case⟩
end start1
theorem witness_1 : WitnessClaimed_1 := ⟨start1.p0, start1.e0, start1.about1, start1.theMethod, start1.args0, start1.below0, start1.atStart⟩
end Jvm.Pilot.@@N@@
