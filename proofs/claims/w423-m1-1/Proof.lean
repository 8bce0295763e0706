import JvmDerived
import JvmDerived.Pilot.@@N@@Statement
import JvmDerived.Pilot.@@N@@Code
set_option linter.unusedVariables false
set_option linter.unusedSimpArgs false
namespace Jvm.Pilot.@@N@@
open Jvm Jvm.ClassFile Sem Op Lib Jvm.Free Jvm.Stand Jvm.LawKit Jvm.RoadKit Bundle Jvm.Pilot.@@N@@.Jvm.D
/-! own helpers: the goal of a walk as one predicate, its steps, its calls -/
section OwnKit
variable {p : Program} {l : Launch} {e : Env} {R : Room} {s : State} {m : MethodId} {args : Array Value} {below : List Frame} {meth : Method} {c : Code} {T : State} {locs : List Loc} {cells slots : Nat} {Z : State} {a0 : Array Value} {h : Heap} {Q : Option Value → Heap → List Loc → Prop} {kc ks : Nat}
/-- from S the run ends, returns, and Q holds of what it returns, of the heap and of the places written -/
def OGoal (p : Program) (e : Env) (below : List Frame) (s : State) (Q : Option Value → Heap → List Loc → Prop) (kc ks : Nat) (S : State) : Prop :=
  ∃ s₂ o, Steps p.tables e below S s₂ ∧ s₂.status = .running ∧ Ended s₂ below o ∧ ∃ v L, o = .returned v ∧ Q v s₂.heap L ∧ FrameEnd s o s₂ L kc ks
theorem OGoal.mp {S S' : State} (k : ∀ t, Steps p.tables e below S' t → Steps p.tables e below S t) (g : OGoal p e below s Q kc ks S') : OGoal p e below s Q kc ks S := by
  obtain ⟨s₂, o, h1, h2⟩ := g
  exact ⟨s₂, o, k _ h1, h2⟩
theorem oRet (X : Stand p l e R s m args below meth c T locs cells slots) (hx : p.tables.exec = Jvm.exec) (hlk : meth.locks = false) {pc : Nat} {Ls : Array Slot} {w : Value} {t : FieldType} {i : Instr} {rest : List Value} (hret : meth.sig.returnType = some t) (hn : narrow t w = w)
    (hi : (i = .ireturn ∧ (t = .int ∨ t = .boolean ∨ t = .byte ∨ t = .char ∨ t = .short) ∧ ∃ z, w = .int z) ∨ (i = .lreturn ∧ t = .long ∧ ∃ z, w = .long z) ∨ (i = .dreturn ∧ t = .double ∧ ∃ z, w = .double z) ∨ (i = .freturn ∧ t = .float ∧ ∃ z, w = .float z) ∨ (i = .areturn ∧ t.isReference = true ∧ w.isRef = true))
    (hd : decode c.code pc = .ok (i, 1)) (hQ : Q (some w) T.heap locs) (hc : cells ≤ kc) (hs : slots ≤ ks) : OGoal p e below s Q kc ks (T.setTop (mkF m pc Ls (w :: rest))) := by
  obtain ⟨fs, hr, hrun, hended, hW, hsame⟩ := X.leave (v := some w) (fun q => by rw [hret] at q; cases q) hlk
  exact ⟨_, _, retOut X hx hret hn hi hd hr, hrun, hended, _, _, rfl, hQ, ⟨_, rfl⟩, hW, hsame.mono hc hs⟩
theorem oRetI (X : Stand p l e R s m args below meth c T locs cells slots) (hx : p.tables.exec = Jvm.exec) (hlk : meth.locks = false) {pc : Nat} {Ls : Array Slot} {z : Int32} {rest : List Value} (hret : meth.sig.returnType = some .int)
    (hd : decode c.code pc = .ok (.ireturn, 1)) (hQ : Q (some (.int z)) T.heap locs) (hc : cells ≤ kc) (hs : slots ≤ ks) : OGoal p e below s Q kc ks (T.setTop (mkF m pc Ls (.int z :: rest))) :=
  oRet X hx hlk hret rfl (Or.inl ⟨rfl, Or.inl rfl, _, rfl⟩) hd hQ hc hs
theorem oRetZ (X : Stand p l e R s m args below meth c T locs cells slots) (hx : p.tables.exec = Jvm.exec) (hlk : meth.locks = false) {pc : Nat} {Ls : Array Slot} {z : Int32} {rest : List Value} (hret : meth.sig.returnType = some .boolean) (hz : z = 0 ∨ z = 1)
    (hd : decode c.code pc = .ok (.ireturn, 1)) (hQ : Q (some (.int z)) T.heap locs) (hc : cells ≤ kc) (hs : slots ≤ ks) : OGoal p e below s Q kc ks (T.setTop (mkF m pc Ls (.int z :: rest))) :=
  oRet X hx hlk hret (by rcases hz with rfl | rfl <;> rfl) (Or.inl ⟨rfl, Or.inr (Or.inl rfl), _, rfl⟩) hd hQ hc hs
theorem oRetJ (X : Stand p l e R s m args below meth c T locs cells slots) (hx : p.tables.exec = Jvm.exec) (hlk : meth.locks = false) {pc : Nat} {Ls : Array Slot} {z : Int64} {rest : List Value} (hret : meth.sig.returnType = some .long)
    (hd : decode c.code pc = .ok (.lreturn, 1)) (hQ : Q (some (.long z)) T.heap locs) (hc : cells ≤ kc) (hs : slots ≤ ks) : OGoal p e below s Q kc ks (T.setTop (mkF m pc Ls (.long z :: rest))) :=
  oRet X hx hlk hret rfl (Or.inr (Or.inl ⟨rfl, rfl, _, rfl⟩)) hd hQ hc hs
theorem oRetD (X : Stand p l e R s m args below meth c T locs cells slots) (hx : p.tables.exec = Jvm.exec) (hlk : meth.locks = false) {pc : Nat} {Ls : Array Slot} {z : UInt64} {rest : List Value} (hret : meth.sig.returnType = some .double)
    (hd : decode c.code pc = .ok (.dreturn, 1)) (hQ : Q (some (.double z)) T.heap locs) (hc : cells ≤ kc) (hs : slots ≤ ks) : OGoal p e below s Q kc ks (T.setTop (mkF m pc Ls (.double z :: rest))) :=
  oRet X hx hlk hret rfl (Or.inr (Or.inr (Or.inl ⟨rfl, rfl, _, rfl⟩))) hd hQ hc hs
theorem oRetA (X : Stand p l e R s m args below meth c T locs cells slots) (hx : p.tables.exec = Jvm.exec) (hlk : meth.locks = false) {pc : Nat} {Ls : Array Slot} {w : Value} {t : FieldType} {rest : List Value} (hret : meth.sig.returnType = some t) (ht : t.isReference = true) (hw : w.isRef = true)
    (hd : decode c.code pc = .ok (.areturn, 1)) (hQ : Q (some w) T.heap locs) (hc : cells ≤ kc) (hs : slots ≤ ks) : OGoal p e below s Q kc ks (T.setTop (mkF m pc Ls (w :: rest))) :=
  oRet X hx hlk hret (by cases t <;> cases w <;> first | rfl | (cases ht; done) | (cases hw; done)) (Or.inr (Or.inr (Or.inr (Or.inr ⟨rfl, ht, hw⟩)))) hd hQ hc hs
theorem oRetV (X : Stand p l e R s m args below meth c T locs cells slots) (hx : p.tables.exec = Jvm.exec) (hlk : meth.locks = false) {pc : Nat} {Ls : Array Slot} (hret : meth.sig.returnType = none)
    (hd : decode c.code pc = .ok (.return_, 1)) (hQ : Q none T.heap locs) (hc : cells ≤ kc) (hs : slots ≤ ks) : OGoal p e below s Q kc ks (T.setTop (mkF m pc Ls [])) := by
  obtain ⟨fs, hr, hrun, hended, hW, hsame⟩ := X.leave (v := none) (fun _ => rfl) hlk
  exact ⟨_, _, X.returnOut hx hret hd hr, hrun, hended, _, _, rfl, hQ, ⟨_, rfl⟩, hW, hsame.mono hc hs⟩
/-- the contract of a method: called with as' over the heap h it returns, and Q holds; kc cells and ks slots are made at the most -/
def OConK (l : Launch) (Z : State) (y : MethodName) (bytes : ByteArray) (maxL : Nat) (ret : Option FieldType) (rm : Room) (kc ks : Nat) (as' : Array Value) (h : Heap) (Q : Option Value → Heap → List Loc → Prop) : Prop :=
  ∀ ws : List Jvm.Cond, MetFree l y (head1 (Jvm.Cond.code y bytes maxL ret :: ws) rm) (fun a U => a = as' ∧ Z.Warmed39 U.vm ∧ U.heap = h) (fun _ _ _ _ _ => True) (fun _ U o U' => ∃ v L, o = .returned v ∧ Q v U'.heap L ∧ FrameEnd U o U' L kc ks)
abbrev OCon (l : Launch) (Z : State) (y : MethodName) (bytes : ByteArray) (maxL : Nat) (ret : Option FieldType) (rm : Room) (as' : Array Value) (h : Heap) (Q : Option Value → Heap → List Loc → Prop) : Prop := OConK l Z y bytes maxL ret rm rm.cells rm.slots as' h Q
theorem OConK.intro {y : MethodName} {bytes : ByteArray} {maxL : Nat} {ret : Option FieldType} {rm : Room} {as' : Array Value} {Ls : Array Slot} (hpf : plainFor y = true) (ef : ∀ m, entryFrame m as' maxL = mkF m 0 Ls [])
    (H : ∀ p e s m below meth c s₁, p.tables.exec = Jvm.exec → c.code = bytes → c.maxLocals = maxL → s.vm.findClass y.cls = some m.cls → meth.name = y.name → meth.sig.returnType = ret → meth.locks = false → Z.Warmed39 s.vm →
      Stand p l e rm s m as' below meth c s₁ [] 0 0 → s₁.heap = h → OGoal p e below s Q kc ks (s₁.setTop (mkF m 0 Ls []))) : OConK l Z y bytes maxL ret rm kc ks as' h Q := by
  intro ws
  refine MetFree.of_bodySF hpf hisR ?_
  intro p e s m args below meth c s₁ Bd hml hP hK
  obtain ⟨rfl, hZ, hh⟩ := hP
  obtain ⟨s₂, o, h1, h2, h3, h4⟩ := H p e s m below meth c s₁ Bd.exec Bd.bytes hml (findClass_of_methodNamed Bd.named) (name_of_methodNamed Bd.named Bd.method).1 Bd.returns (BodyLoose.notSynchronized Bd) hZ (Stand.of_body Bd) (by rw [← hh, Bd.state]; rfl)
  exact ⟨s₂, o, castTop (ef m) h1, h2, h3, h4⟩
/-- weaker promise -/
theorem OConK.imp {y : MethodName} {bytes : ByteArray} {maxL : Nat} {ret : Option FieldType} {rm : Room} {as' : Array Value} {Q' : Option Value → Heap → List Loc → Prop} (H : OConK l Z y bytes maxL ret rm kc ks as' h Q) (k : ∀ v h' L, Q v h' L → Q' v h' L) : OConK l Z y bytes maxL ret rm kc ks as' h Q' := by
  intro ws p e ha hc hk s m args below hf happ hP hK
  obtain ⟨n, o, h1, h2, h3, v, L, h4, h5, h6⟩ := H ws p e ha hc hk s m args below hf happ hP hK
  exact ⟨n, o, h1, h2, h3, v, L, h4, k _ _ _ h5, h6⟩
theorem oCallS (X : Stand p l e R s m args below meth c T locs cells slots) (hx : p.tables.exec = Jvm.exec) (hZ : Z.Warmed39 s.vm) {own : String} {index : Nat} {y : MethodName} {bytes : ByteArray} {maxL : Nat} {ret : Option FieldType} {rm : Room} {as' : Array Value} {Qc : Option Value → Heap → List Loc → Prop}
    (hown : s.vm.findClass own = some m.cls) (w1 : (Jvm.Cond.methodLink own index y).before a0 Z = true) (w2 : (Jvm.Cond.static y).before a0 Z = true) (w3 : (Jvm.Cond.initialized y.cls).before a0 Z = true) (w4 : (Jvm.Cond.code y bytes maxL ret).before a0 Z = true)
    (hy : y.cls ≠ "java/lang/invoke/MethodHandle" ∧ y.cls ≠ "java/lang/invoke/VarHandle") (hM : OCon l Z y bytes maxL ret rm as' h Qc) (eT : T.heap = h) {pc : Nat} {Ls : Array Slot} {st : List Value} (argsL rest : List Value) (hst : st = argsL.reverse ++ rest) (has : argsL.toArray = as') (hsize : Ls.size = c.maxLocals)
    (hlen : ∀ sig, parseMethodDescriptor y.desc = some sig → argsL.length = sig.parameters.length) (W : Nat) (hW : (rest.map fun v => v.category).sum ≤ W) (hfr : rm.frames + 1 ≤ R.frames) (hlo : W + (maxL + 11) + rm.locals ≤ R.locals) (hce : cells + rm.cells ≤ R.cells) (hsl : slots + rm.slots ≤ R.slots)
    (hd : decode c.code pc = .ok (.invokestatic index, 3))
    (k : ∀ v T' Lc, Stand p l e R s m args below meth c T' (locs ++ Lc) (cells + rm.cells) (slots + rm.slots) → Qc v T'.heap Lc → OGoal p e below s Q kc ks (T'.setTop (mkF m (pc + 3) Ls (v.toList ++ rest)))) :
    OGoal p e below s Q kc ks (T.setTop (mkF m pc Ls st)) := by
  subst hst has
  obtain ⟨v, _, ⟨T', L', k', n'⟩, -, X', ⟨Lc, hQ, l', y', z'⟩, st⟩ := Jvm.LawKit.callS X hx (y := y) hown (mvT hZ w1) (mvT hZ w2) (mvT hZ w3) (mvT hZ w4) hy (backOf (W := W) (hM []) hZ w4 w3 hfr hlo) (g := mkF m pc Ls (argsL.reverse ++ rest)) rfl hsize (argsL := argsL) (rest := rest) hlen rfl (by show 2 * 0 + _ ≤ _; omega) hd (fun _ _ => ⟨rfl, eT, hce, hsl⟩)
  dsimp only [Pt.U, Pt.locs, Pt.cells, Pt.slots] at X' l' y' z' st hQ
  subst l' y' z'
  exact OGoal.mp st (k v T' Lc X' hQ)
theorem oCallV (X : Stand p l e R s m args below meth c T locs cells slots) (hx : p.tables.exec = Jvm.exec) (hZ : Z.Warmed39 s.vm) {own C : String} {index : Nat} {y z : MethodName} {bytes : ByteArray} {maxL : Nat} {ret : Option FieldType} {rm : Room} {as' : Array Value} {Qc : Option Value → Heap → List Loc → Prop}
    (hown : s.vm.findClass own = some m.cls) (w1 : (Jvm.Cond.methodLink own index y).before a0 Z = true) (w2 : (Jvm.Cond.declares y).before a0 Z = true) (w5 : (Jvm.Cond.selects C y z).before a0 Z = true) (w6 : (Jvm.Cond.instanceMethod z).before a0 Z = true) (w3 : (Jvm.Cond.initialized z.cls).before a0 Z = true) (w4 : (Jvm.Cond.code z bytes maxL ret).before a0 Z = true)
    (hy : y.cls ≠ "java/lang/invoke/MethodHandle" ∧ y.cls ≠ "java/lang/invoke/VarHandle") (hM : OCon l Z z bytes maxL ret rm as' h Qc) (eT : T.heap = h) {a : Addr} (E : Exa Z h a C) {pc : Nat} {Ls : Array Slot} {st : List Value} (argsL rest : List Value) (hst : st = argsL.reverse ++ .ref a :: rest) (has : (.ref a :: argsL).toArray = as') (hsize : Ls.size = c.maxLocals)
    (hnf : NotFace s y) (hlen : ∀ sig, parseMethodDescriptor y.desc = some sig → argsL.length = sig.parameters.length) (W : Nat) (hW : (rest.map fun v => v.category).sum ≤ W) (hfr : rm.frames + 1 ≤ R.frames) (hlo : W + (maxL + 11) + rm.locals ≤ R.locals) (hce : cells + rm.cells ≤ R.cells) (hsl : slots + rm.slots ≤ R.slots)
    (hd : decode c.code pc = .ok (.invokevirtual index, 3))
    (k : ∀ v T' Lc, Stand p l e R s m args below meth c T' (locs ++ Lc) (cells + rm.cells) (slots + rm.slots) → Qc v T'.heap Lc → OGoal p e below s Q kc ks (T'.setTop (mkF m (pc + 3) Ls (v.toList ++ rest)))) :
    OGoal p e below s Q kc ks (T.setTop (mkF m pc Ls st)) := by
  subst hst has
  obtain ⟨cq, kq, qa, qb, qc⟩ := isOf hZ eT E
  obtain ⟨v, _, ⟨T', L', k', n'⟩, -, X', ⟨Lc, hQ, l', y', z'⟩, st⟩ := X.virtualBack hx (y := y) (z := z) hown (mvT hZ w1) (mvT hZ w2) hnf (mvT hZ w5) (mvT hZ w6) hy (backOf (W := W) (hM []) hZ w4 w3 hfr hlo) qa qc (g := mkF m pc Ls (argsL.reverse ++ .ref a :: rest)) rfl hsize (Steps.refl _) (argsL := argsL) (rest := rest) hlen rfl (by show 2 * 0 + _ ≤ _; omega) hd (fun _ _ => ⟨rfl, eT, hce, hsl⟩)
  dsimp only [Pt.U, Pt.locs, Pt.cells, Pt.slots] at X' l' y' z' st hQ
  subst l' y' z'
  exact OGoal.mp (fun t q => st.trans q) (k v T' Lc X' hQ)
theorem oCallN (X : Stand p l e R s m args below meth c T locs cells slots) (hx : p.tables.exec = Jvm.exec) (hZ : Z.Warmed39 s.vm) {own : String} {index : Nat} {y : MethodName} {bytes : ByteArray} {maxL : Nat} {rm : Room} {as' : Array Value} {Qc : Option Value → Heap → List Loc → Prop}
    (hy1 : y.name = "<init>") (hown : s.vm.findClass own = some m.cls) (w1 : (Jvm.Cond.methodLink own index y).before a0 Z = true) (w6 : (Jvm.Cond.instanceMethod y).before a0 Z = true) (w3 : (Jvm.Cond.initialized y.cls).before a0 Z = true) (w4 : (Jvm.Cond.code y bytes maxL none).before a0 Z = true)
    (hy : y.cls ≠ "java/lang/invoke/MethodHandle" ∧ y.cls ≠ "java/lang/invoke/VarHandle") (hM : OCon l Z y bytes maxL none rm as' h Qc) (eT : T.heap = h) {a : Addr} {pc : Nat} {Ls : Array Slot} {st : List Value} (argsL rest : List Value) (hst : st = argsL.reverse ++ .ref a :: rest) (has : (.ref a :: argsL).toArray = as') (hsize : Ls.size = c.maxLocals)
    (hlen : ∀ sig, parseMethodDescriptor y.desc = some sig → argsL.length = sig.parameters.length) (W : Nat) (hW : (rest.map fun v => v.category).sum ≤ W) (hfr : rm.frames + 1 ≤ R.frames) (hlo : W + (maxL + 11) + rm.locals ≤ R.locals) (hce : cells + rm.cells ≤ R.cells) (hsl : slots + rm.slots ≤ R.slots)
    (hd : decode c.code pc = .ok (.invokespecial index, 3))
    (k : ∀ v T' Lc, Stand p l e R s m args below meth c T' (locs ++ Lc) (cells + rm.cells) (slots + rm.slots) → Qc v T'.heap Lc → OGoal p e below s Q kc ks (T'.setTop (mkF m (pc + 3) Ls (v.toList ++ rest)))) :
    OGoal p e below s Q kc ks (T.setTop (mkF m pc Ls st)) := by
  subst hst has
  obtain ⟨v, _, ⟨T', L', k', n'⟩, -, X', ⟨Lc, hQ, l', y', z'⟩, st⟩ := X.specialBack hx (y := y) hy1 hown (mvT hZ w1) (mvT hZ w6) (mvT hZ w4) hy (backOf (W := W) (hM []) hZ w4 w3 hfr hlo) (g := mkF m pc Ls (argsL.reverse ++ .ref a :: rest)) rfl hsize (Steps.refl _) (a := a) (argsL := argsL) (rest := rest) hlen rfl (by show 2 * 0 + _ ≤ _; omega) hd (fun _ _ => ⟨rfl, eT, hce, hsl⟩)
  dsimp only [Pt.U, Pt.locs, Pt.cells, Pt.slots] at X' l' y' z' st hQ
  subst l' y' z'
  exact OGoal.mp (fun t q => st.trans q) (k v T' Lc X' hQ)
theorem oNotFace {s : State} {C : String} {k : Nat} (h : (Jvm.Cond.instantiable C k).before args s = true) : ∃ c kc, s.vm.findClass C = some c ∧ s.vm.classes[c]? = some kc ∧ kc.isInterface = false := by
  obtain ⟨c, kc, h1, h2, -, h3, -, -⟩ := Cond.instantiable_spec h
  exact ⟨c, kc, h1, h2, (Bool.or_eq_false_iff.mp h3).1⟩
theorem oCallP (X : Stand p l e R s m args below meth c T locs cells slots) (hx : p.tables.exec = Jvm.exec) (hZ : Z.Warmed39 s.vm) {own C : String} {index : Nat} {y : MethodName} {bytes : ByteArray} {maxL : Nat} {ret : Option FieldType} {rm : Room} {as' : Array Value} {Qc : Option Value → Heap → List Loc → Prop}
    (hown : s.vm.findClass own = some m.cls) (w1 : (Jvm.Cond.methodLink own index y).before a0 Z = true) {kk : Nat} (w5 : (Jvm.Cond.instantiable y.cls kk).before a0 Z = true) (w6 : (Jvm.Cond.instanceMethod y).before a0 Z = true) (w7 : (Jvm.Cond.privateMethod y).before a0 Z = true) (w3 : (Jvm.Cond.initialized y.cls).before a0 Z = true) (w4 : (Jvm.Cond.code y bytes maxL ret).before a0 Z = true)
    (hy : y.cls ≠ "java/lang/invoke/MethodHandle" ∧ y.cls ≠ "java/lang/invoke/VarHandle") (hM : OCon l Z y bytes maxL ret rm as' h Qc) (eT : T.heap = h) {a : Addr} (E : Exa Z h a C) {pc : Nat} {Ls : Array Slot} {st : List Value} (argsL rest : List Value) (hst : st = argsL.reverse ++ .ref a :: rest) (has : (.ref a :: argsL).toArray = as') (hsize : Ls.size = c.maxLocals)
    (hlen : ∀ sig, parseMethodDescriptor y.desc = some sig → argsL.length = sig.parameters.length) (W : Nat) (hW : (rest.map fun v => v.category).sum ≤ W) (hfr : rm.frames + 1 ≤ R.frames) (hlo : W + (maxL + 11) + rm.locals ≤ R.locals) (hce : cells + rm.cells ≤ R.cells) (hsl : slots + rm.slots ≤ R.slots)
    (hd : decode c.code pc = .ok (.invokevirtual index, 3))
    (k : ∀ v T' Lc, Stand p l e R s m args below meth c T' (locs ++ Lc) (cells + rm.cells) (slots + rm.slots) → Qc v T'.heap Lc → OGoal p e below s Q kc ks (T'.setTop (mkF m (pc + 3) Ls (v.toList ++ rest)))) :
    OGoal p e below s Q kc ks (T.setTop (mkF m pc Ls st)) := by
  subst hst has
  obtain ⟨cq, q1, q2⟩ := E.cell
  obtain ⟨c1, k1, hc1, hk1, hi1⟩ := oNotFace (args := #[]) (mvT hZ w5)
  have hpr : s.PrivateAt y := Cond.privateMethod_at (mvP hZ w7 (args := #[]))
  have hse := selects_self_of_private (args := args) hc1 hk1 hi1 hpr (mvT hZ w6) hy
  obtain ⟨v, _, ⟨T', L', k', n'⟩, -, X', ⟨Lc, hQ, l', y', z'⟩, st⟩ := X.privateBack hx (y := y) hown (mvT hZ w1) (mvT hZ w6) hse hpr (mvT hZ w4) hy (backOf (W := W) (hM []) hZ w4 w3 hfr hlo) (g := mkF m pc Ls (argsL.reverse ++ .ref a :: rest)) rfl hsize (Steps.refl _) (a := a) (by rw [eT]; exact q1) q2 (argsL := argsL) (rest := rest) hlen rfl (by show 2 * 0 + _ ≤ _; omega) hd (fun _ _ => ⟨rfl, eT, hce, hsl⟩)
  dsimp only [Pt.U, Pt.locs, Pt.cells, Pt.slots] at X' l' y' z' st hQ
  subst l' y' z'
  exact OGoal.mp (fun t q => st.trans q) (k v T' Lc X' hQ)
theorem oLrem {g : JFrame} {target : State} (X : Stand p l e R s m args below meth c T locs cells slots) (hx : p.tables.exec = Jvm.exec) (hg : g.method = m) {x y : Int64} {rest : List Value} (hd : decode c.code g.pc = .ok (.lrem, 1)) (hs : g.stack = .long y :: .long x :: rest) (hy : y ≠ 0)
    (hr : Steps p.tables e below (T.setTop { g with pc := g.pc + 1, stack := .long (x % y) :: rest }) target) : Steps p.tables e below (T.setTop g) target := XT.lrem X.here hx hg hd hs hy (by rw [lrem_mod]; exact hr)
theorem oLt {x y : Int32} (h : x < y) : x.toInt < y.toInt := Int32.lt_iff_toInt_lt.mp h
theorem oNlt {x y : Int32} (h : ¬ x < y) : y.toInt ≤ x.toInt := Int.not_lt.mp fun q => h (Int32.lt_iff_toInt_lt.mpr q)
theorem oEq {x y : Int32} (h : x = y) : x.toInt = y.toInt := congrArg _ h
theorem oNe {x y : Int32} (h : ¬ x = y) : x.toInt ≠ y.toInt := fun q => h (Int32.toInt_inj.mp q)
theorem oLtL {x y : Int64} (h : x < y) : x.toInt < y.toInt := Int64.lt_iff_toInt_lt.mp h
theorem oNltL {x y : Int64} (h : ¬ x < y) : y.toInt ≤ x.toInt := Int.not_lt.mp fun q => h (Int64.lt_iff_toInt_lt.mpr q)
theorem oEqL {x y : Int64} (h : x = y) : x.toInt = y.toInt := congrArg _ h
theorem oNeL {x y : Int64} (h : ¬ x = y) : x.toInt ≠ y.toInt := fun q => h (Int64.toInt_inj.mp q)
theorem mLt {x y : Int32} (h : x.toInt < y.toInt) : x < y := Int32.lt_iff_toInt_lt.mpr h
theorem mNlt {x y : Int32} (h : y.toInt ≤ x.toInt) : ¬ x < y := fun q => absurd (oLt q) (Int.not_lt.mpr h)
theorem mEq {x y : Int32} (h : x.toInt = y.toInt) : x = y := Int32.toInt_inj.mp h
theorem mNe {x y : Int32} (h : x.toInt ≠ y.toInt) : ¬ x = y := fun q => h (congrArg _ q)
theorem mLtL {x y : Int64} (h : x.toInt < y.toInt) : x < y := Int64.lt_iff_toInt_lt.mpr h
theorem mNltL {x y : Int64} (h : y.toInt ≤ x.toInt) : ¬ x < y := fun q => absurd (oLtL q) (Int.not_lt.mpr h)
theorem mEqL {x y : Int64} (h : x.toInt = y.toInt) : x = y := Int64.toInt_inj.mp h
theorem mNeL {x y : Int64} (h : x.toInt ≠ y.toInt) : ¬ x = y := fun q => h (congrArg _ q)
theorem oRemL (x y : Int64) : 0 ≤ x.toInt → 0 < y.toInt → 0 ≤ (x % y).toInt ∧ (x % y).toInt < y.toInt := by
  intro h1 h2
  rw [Int64.toInt_mod, Int.tmod_eq_emod_of_nonneg h1]
  exact ⟨Int.emod_nonneg _ (by omega), Int.emod_lt_of_pos _ h2⟩
theorem oRemI (x y : Int32) : 0 ≤ x.toInt → 0 < y.toInt → 0 ≤ (x % y).toInt ∧ (x % y).toInt < y.toInt := by
  intro h1 h2
  rw [Int32.toInt_mod, Int.tmod_eq_emod_of_nonneg h1]
  exact ⟨Int.emod_nonneg _ (by omega), Int.emod_lt_of_pos _ h2⟩
/-- an array of kind ty, of length z, whose i-th component is f i -/
def OArr (Z : State) (h : Heap) (a : Addr) (ty : FieldType) (z : Int32) (f : Nat → Value) : Prop := ∃ c : Cell, Arr Z h a c ty ∧ c.slots.size = z.toNatClampNeg ∧ ¬ z < 0 ∧ ∀ i, i < c.slots.size → c.slots[i]? = some (f i)
section OArrs
variable {h' : Heap} {a b : Addr} {ty : FieldType} {z : Int32} {f : Nat → Value} {sl : Nat} {v : Value}
theorem OArr.lt (F : OArr Z h a ty z f) : a < h.size := by obtain ⟨c, A, -⟩ := F; exact A.lt
theorem OArr.ext (F : OArr Z h a ty z f) (E : Ext h h') : OArr Z h' a ty z f := by obtain ⟨c, A, r⟩ := F; exact ⟨c, A.ext E, r⟩
theorem OArr.other (F : OArr Z h b ty z f) (W : Wr h h' a sl v) (q : b ≠ a) : OArr Z h' b ty z f := by obtain ⟨c, A, r⟩ := F; exact ⟨c, A.other W q, r⟩
theorem OArr.keep {ws : List Addr} (F : OArr Z h a ty z f) (K : Keep h h' ws) (q : a ∉ ws) : OArr Z h' a ty z f := by obtain ⟨c, A, r⟩ := F; exact ⟨c, ⟨K.2.1 a c A.1 q, A.2⟩, r⟩
theorem OArr.imp {g : Nat → Value} (F : OArr Z h a ty z f) (k : ∀ i, i < z.toNatClampNeg → f i = g i) : OArr Z h a ty z g := by
  obtain ⟨c, A, S, r, G⟩ := F
  exact ⟨c, A, S, r, fun i hi => by rw [G i hi, k i (by rw [← S]; exact hi)]⟩
theorem OArr.new {k : ClassId} (A : Arr Z h a (newA k ty z) ty) (q : ¬ z < 0) : OArr Z h a ty z (fun _ => defaultValue ty) :=
  ⟨_, A, sz_new _ _ _, q, fun i hi => by simp only [newA, Array.size_replicate] at hi; simp [newA, hi]⟩
theorem OArr.set (F : OArr Z h a ty z f) (W : Wr h h' a sl v) : OArr Z h' a ty z (fun i => if i = sl then v else f i) := by
  obtain ⟨c, A, S, r, G⟩ := F
  refine ⟨_, A.same W, by rw [sz_set]; exact S, r, fun i hi => ?_⟩
  rw [sz_set] at hi
  show (c.setSlot sl v).slots[i]? = some (if i = sl then v else f i)
  by_cases q : i = sl
  · subst q; simp [Cell.setSlot, hi]
  · rw [if_neg q, ← G i hi]
    simp [Cell.setSlot, Array.getElem?_setIfInBounds, Ne.symm q]
theorem oNeA {C : String} {k : Nat} (E : Exa Z h a C) (wi : (Jvm.Cond.instantiable C k).before a0 Z = true) (F : OArr Z h b ty z f) : a ≠ b := by
  obtain ⟨c, A, -⟩ := F; exact ne_arr E wi A
theorem oIn {j : Int32} {n : Nat} (S : n = z.toNatClampNeg) (h1 : 0 ≤ j.toInt) (h2 : j.toInt < z.toInt) : ¬ (j < 0 ∨ n ≤ j.toNatClampNeg) := by
  intro q
  have e0 : (0 : Int32).toInt = 0 := by decide
  have e1 : j.toNatClampNeg = j.toInt.toNat := rfl
  have e2 : z.toNatClampNeg = z.toInt.toNat := rfl
  rcases q with q | q
  · have := oLt q; omega
  · rw [S, e1, e2] at q; omega
theorem oLen (X : Stand p l e R s m args below meth c T locs cells slots) (hx : p.tables.exec = Jvm.exec) (hZ : Z.Warmed39 s.vm) (eT : T.heap = h) (F : OArr Z h a ty z f) {g : JFrame} (hg : g.method = m) {rest : List Value} (hs : g.stack = .ref a :: rest) (hd : decode c.code g.pc = .ok (.arraylength, 1)) {target : State}
    (k : Steps p.tables e below (T.setTop { g with pc := g.pc + 1, stack := .int z :: rest }) target) : Steps p.tables e below (T.setTop g) target := by
  obtain ⟨cl, A, S, r, -⟩ := F
  refine X.arraylength hx (by rw [eT]; exact A.1) (State.isArrayOf_alike hZ.alike A.2.1) (g := g) hg hs hd _ ?_
  rw [len_of S r]; exact k
theorem oInd (F : OArr Z h a ty z f) {j : Int32} (h1 : 0 ≤ j.toInt) (h2 : j.toInt < z.toInt) : ∃ cl, Arr Z h a cl ty ∧ ¬ (j < 0 ∨ cl.slots.size ≤ j.toNatClampNeg) ∧ cl.slots[j.toNatClampNeg]? = some (f j.toNatClampNeg) := by
  obtain ⟨cl, A, S, r, G⟩ := F
  have q := oIn S h1 h2
  exact ⟨cl, A, q, G _ (Nat.lt_of_not_le fun w => q (Or.inr w))⟩
theorem oLdI (X : Stand p l e R s m args below meth c T locs cells slots) (hx : p.tables.exec = Jvm.exec) (hZ : Z.Warmed39 s.vm) (eT : T.heap = h) (F : OArr Z h a .int z f) {j x : Int32} (h1 : 0 ≤ j.toInt) (h2 : j.toInt < z.toInt) (hv : f j.toNatClampNeg = .int x) {g : JFrame} (hg : g.method = m) {rest : List Value} (hs : g.stack = .int j :: .ref a :: rest) (hd : decode c.code g.pc = .ok (.iaload, 1)) {target : State}
    (k : Steps p.tables e below (T.setTop { g with pc := g.pc + 1, stack := .int x :: rest }) target) : Steps p.tables e below (T.setTop g) target := by
  obtain ⟨cl, A, q, G⟩ := oInd F h1 h2
  rw [hv] at G
  exact X.iaload hx (j := j) (v := .int x) (by rw [eT]; exact A.1) (State.isArrayOf_alike hZ.alike A.2.1) A.2.2 q G (g := g) hg hs hd _ k
theorem oLdD (X : Stand p l e R s m args below meth c T locs cells slots) (hx : p.tables.exec = Jvm.exec) (hZ : Z.Warmed39 s.vm) (eT : T.heap = h) (F : OArr Z h a .double z f) {j : Int32} {x : UInt64} (h1 : 0 ≤ j.toInt) (h2 : j.toInt < z.toInt) (hv : f j.toNatClampNeg = .double x) {g : JFrame} (hg : g.method = m) {rest : List Value} (hs : g.stack = .int j :: .ref a :: rest) (hd : decode c.code g.pc = .ok (.daload, 1)) {target : State}
    (k : Steps p.tables e below (T.setTop { g with pc := g.pc + 1, stack := .double x :: rest }) target) : Steps p.tables e below (T.setTop g) target := by
  obtain ⟨cl, A, q, G⟩ := oInd F h1 h2
  rw [hv] at G
  exact X.daload hx (j := j) (v := .double x) (by rw [eT]; exact A.1) (State.isArrayOf_alike hZ.alike A.2.1) A.2.2 q G (g := g) hg hs hd _ k
theorem oStI (X : Stand p l e R s m args below meth c T locs cells slots) (hx : p.tables.exec = Jvm.exec) (hZ : Z.Warmed39 s.vm) (eT : T.heap = h) (F : OArr Z h a .int z f) {j x : Int32} (h1 : 0 ≤ j.toInt) (h2 : j.toInt < z.toInt) {g : JFrame} (hg : g.method = m) {rest : List Value} (hs : g.stack = .int x :: .int j :: .ref a :: rest) (hd : decode c.code g.pc = .ok (.iastore, 1)) :
    ∃ T' h', Stand p l e R s m args below meth c T' (locs ++ [⟨a, j.toNatClampNeg⟩]) cells slots ∧ T'.heap = h' ∧ Wr h h' a j.toNatClampNeg (.int x) ∧ ∀ target, Steps p.tables e below (T'.setTop { g with pc := g.pc + 1, stack := rest }) target → Steps p.tables e below (T.setTop g) target := by
  obtain ⟨cl, A, q, G⟩ := oInd F h1 h2
  exact stI X hx hZ eT A q hg hs hd
theorem oStD (X : Stand p l e R s m args below meth c T locs cells slots) (hx : p.tables.exec = Jvm.exec) (hZ : Z.Warmed39 s.vm) (eT : T.heap = h) (F : OArr Z h a .double z f) {j : Int32} {x : UInt64} (h1 : 0 ≤ j.toInt) (h2 : j.toInt < z.toInt) {g : JFrame} (hg : g.method = m) {rest : List Value} (hs : g.stack = .double x :: .int j :: .ref a :: rest) (hd : decode c.code g.pc = .ok (.dastore, 1)) :
    ∃ T' h', Stand p l e R s m args below meth c T' (locs ++ [⟨a, j.toNatClampNeg⟩]) cells slots ∧ T'.heap = h' ∧ Wr h h' a j.toNatClampNeg (.double x) ∧ ∀ target, Steps p.tables e below (T'.setTop { g with pc := g.pc + 1, stack := rest }) target → Steps p.tables e below (T.setTop g) target := by
  obtain ⟨cl, A, q, G⟩ := oInd F h1 h2
  exact stD X hx hZ eT A q hg hs hd
theorem oClone (X : Stand p l e R s m args below meth c T locs cells slots) (hx : p.tables.exec = Jvm.exec) (hZ : Z.Warmed39 s.vm) {own ad : String} {index : Nat} (hown : s.vm.findClass own = some m.cls)
    (w1 : (Jvm.Cond.methodLink own index ⟨ad, "clone", "()Ljava/lang/Object;"⟩).before a0 Z = true) (w2 : (Jvm.Cond.sameMethod ad "java/lang/Object" "clone" "()Ljava/lang/Object;").before a0 Z = true) (w3 : (Jvm.Cond.native ⟨"java/lang/Object", "clone", "()Ljava/lang/Object;"⟩).before a0 Z = true)
    (w4 : (Jvm.Cond.instanceMethod ⟨"java/lang/Object", "clone", "()Ljava/lang/Object;"⟩).before a0 Z = true) (w5 : (Jvm.Cond.selects ad ⟨ad, "clone", "()Ljava/lang/Object;"⟩ ⟨"java/lang/Object", "clone", "()Ljava/lang/Object;"⟩).before a0 Z = true) (w6 : (Jvm.Cond.castable ad "java/lang/Cloneable").before a0 Z = true)
    (eT : T.heap = h) (F : OArr Z h a ty z f) (E : Exa Z h a ad) (hfit : ∀ i, i < z.toNatClampNeg → fits ty (f i) = true) {g : JFrame} (hg : g.method = m) (hsize : g.locals.size = c.maxLocals) {rest : List Value} (hst : g.stack = .ref a :: rest) (hd : decode c.code g.pc = .ok (.invokevirtual index, 3))
    (hf : 1 ≤ R.frames) {W cap : Nat} (hW : 2 * g.monitorRoom + (rest.map fun v => v.category).sum ≤ W) (hl : W + 14 ≤ R.locals) (hcap : z.toNatClampNeg ≤ cap) (hc : cells + 1 ≤ R.cells) (hsl : slots + cap ≤ R.slots) :
    ∃ T' h', Stand p l e R s m args below meth c T' locs (cells + 1) (slots + cap) ∧ T'.heap = h' ∧ Ext h h' ∧ OArr Z h' h.size ty z f ∧ Exa Z h' h.size ad ∧
      ∀ target, Steps p.tables e below (T'.setTop { g with pc := g.pc + 3, stack := .ref h.size :: rest }) target → Steps p.tables e below (T.setTop g) target := by
  obtain ⟨cl, A, S, r, G⟩ := F
  have FC : FitC Z cl := fitC_of A fun i hi v hv => by
    rw [G i hi] at hv; cases hv; exact hfit i (by rw [← S]; exact hi)
  obtain ⟨T', h', X', e', ex, A', E', st⟩ := cloneA X hx hZ hown w1 w2 w3 w4 w5 w6 eT A E FC hg hsize hst hd hf hW hl (by rw [S]; exact hcap) hc hsl
  exact ⟨T', h', X', e', ex, ⟨cloneOf cl, A', S, r, G⟩, E', st⟩
end OArrs
/-- from a case's equation to the value -/
theorem oEqv {f s : State} {o : Option Outcome} {idx : List Nat} {a b : Term} (h : (Jvm.Cond.eq a b).value args f o s idx = some true) : ∃ x, a.eval args f o idx s = some x ∧ b.eval args f o idx s = some x := by
  obtain ⟨x, y, h1, h2, -, -⟩ := cmp_v (Or.inl h)
  cases x <;> cases y <;> simp [Cond.value, h1, h2] at h <;> first | (subst h; exact ⟨_, h1, h2⟩) | exact ⟨_, h1, h2⟩
theorem oFeq {s : State} {t u : Term} {x : Addr} {C n d : String} {w : Value} (ht : t.eval args s none [] s = some (.ref x)) (h : (Jvm.Cond.eq (.field t C n d) u).value args s none s [] = some true) (hu : u.eval args s none [] s = some w) : s.fieldOf? x C n d = some w := by
  obtain ⟨v, h1, h2⟩ := oEqv h
  rw [fld_at ht] at h1
  rw [h1, ← h2, hu]
end OwnKit
def own_step (c x : Int64) : Int64 := x * ((2 : Int64) - c * x)
def own_inv (c : Int64) : Int64 := own_step c (own_step c (own_step c (own_step c (own_step c c))))
def own_x (k : Int32) (z : Int64) : Int64 := z ^^^ XT.ushrL z k
def own_y (k j : Int32) (z : Int64) : Int64 := (z ^^^ XT.ushrL z k) ^^^ XT.ushrL z j
def own_mix (z : Int64) : Int64 := own_x 31 (own_x 27 (own_x 30 z * (-4658895280553007687 : Int64)) * (-7723592293110705685 : Int64))
def own_unmix (z : Int64) : Int64 := own_y 30 60 (own_y 27 54 (own_y 31 62 z * own_inv (-7723592293110705685 : Int64)) * own_inv (-4658895280553007687 : Int64))
theorem own_inv1 : (-4658895280553007687 : Int64) * own_inv (-4658895280553007687 : Int64) = 1 := by decide +kernel
theorem own_inv2 : (-7723592293110705685 : Int64) * own_inv (-7723592293110705685 : Int64) = 1 := by decide +kernel
theorem own_sh (z : Int64) (k : Int32) (n : Nat) (h : (k.toInt64.toUInt64 &&& Int64.toUInt64 63) = UInt64.ofNat n) (hn : n < 64) : (XT.ushrL z k).toBitVec = z.toBitVec >>> n := by
  unfold XT.ushrL
  rw [h]
  show (z.toUInt64 >>> UInt64.ofNat n).toBitVec = _
  rw [UInt64.toBitVec_shiftRight]
  show z.toBitVec >>> ((UInt64.ofNat n).toBitVec % 64) = _
  have e : ((UInt64.ofNat n).toBitVec % 64).toNat = n := by
    simp [BitVec.toNat_umod]; omega
  rw [BitVec.ushiftRight_eq', e]
theorem own_bv (z : BitVec 64) (k : Nat) (hk : 64 ≤ 3 * k) : ((z ^^^ z >>> k) ^^^ (z ^^^ z >>> k) >>> k) ^^^ (z ^^^ z >>> k) >>> (2 * k) = z := by
  apply BitVec.eq_of_getLsbD_eq
  intro i hi
  have h0 : z.getLsbD (2 * k + (k + i)) = false := BitVec.getLsbD_of_ge _ _ (by omega)
  have e1 : k + (k + i) = 2 * k + i := by omega
  have e2 : k + (2 * k + i) = 2 * k + (k + i) := by omega
  simp only [BitVec.getLsbD_xor, BitVec.getLsbD_ushiftRight, e1, e2, h0]
  cases z.getLsbD i <;> cases z.getLsbD (k + i) <;> cases z.getLsbD (2 * k + i) <;> rfl
theorem own_back (k j : Int32) (n : Nat) (hk : (k.toInt64.toUInt64 &&& Int64.toUInt64 63) = UInt64.ofNat n) (hj : (j.toInt64.toUInt64 &&& Int64.toUInt64 63) = UInt64.ofNat (2 * n)) (hn : 64 ≤ 3 * n) (h2 : 2 * n < 64) (z : Int64) : own_y k j (own_x k z) = z := by
  apply Int64.toBitVec_inj.mp
  unfold own_y own_x
  rw [Int64.toBitVec_xor, Int64.toBitVec_xor, own_sh _ k n hk (by omega), own_sh _ j (2 * n) hj h2, Int64.toBitVec_xor, own_sh _ k n hk (by omega)]
  exact own_bv z.toBitVec n hn
theorem own_round (z : Int64) : own_unmix (own_mix z) = z := by
  unfold own_unmix own_mix
  rw [own_back 31 62 31 (by decide) (by decide) (by decide) (by decide), Int64.mul_assoc, own_inv2, Int64.mul_one, own_back 27 54 27 (by decide) (by decide) (by decide) (by decide), Int64.mul_assoc, own_inv1, Int64.mul_one, own_back 30 60 30 (by decide) (by decide) (by decide) (by decide)]
def Q_init (Z : State) (q : Int64) (a : Addr) (n0 : Nat) (v : Option Value) (h : Heap) (L : List Loc) : Prop := v = none ∧ Fr n0 L ∧ Exa Z h a "com/example/haggle/haggle/random/SplitMix64" ∧ Fld Z h a "com/example/haggle/haggle/random/SplitMix64" "state" "J" (.long q)
def Q_next (Z : State) (q : Int64) (a : Addr) (n0 : Nat) (v : Option Value) (h : Heap) (L : List Loc) : Prop := v = some (.long (own_mix (q + (-7046029254386353131 : Int64)))) ∧ Fr n0 L ∧ Exa Z h a "com/example/haggle/haggle/random/SplitMix64" ∧ Fld Z h a "com/example/haggle/haggle/random/SplitMix64" "state" "J" (.long (q + (-7046029254386353131 : Int64)))
theorem own_d_prog_36_method_1_code_0 : decode prog_36_method_1_code 0 = .ok (.aload_n 0, 1) := by decide +kernel
theorem own_d_prog_36_method_1_code_1 : decode prog_36_method_1_code 1 = .ok (.invokespecial 1, 3) := by decide +kernel
theorem own_d_prog_36_method_1_code_4 : decode prog_36_method_1_code 4 = .ok (.aload_n 0, 1) := by decide +kernel
theorem own_d_prog_36_method_1_code_5 : decode prog_36_method_1_code 5 = .ok (.lload_n 1, 1) := by decide +kernel
theorem own_d_prog_36_method_1_code_6 : decode prog_36_method_1_code 6 = .ok (.putfield 7, 3) := by decide +kernel
theorem own_d_prog_36_method_1_code_9 : decode prog_36_method_1_code 9 = .ok (.return_, 1) := by decide +kernel
theorem own_pn_com_example_haggle_haggle_random_SplitMix64 : plainName "com/example/haggle/haggle/random/SplitMix64" = true := by first | (simp [plainName, overriddenIn]; done) | decide +kernel
theorem own_ef_rmI (x0 : Addr) (x1 : Int64) (m : MethodId) : entryFrame m #[(.ref x0), (.long x1)] 3 = mkF m 0 #[.val (.ref x0), .val (.long x1), .second] [] := by first | (simp [entryFrame, mkF, argsToLocals, Value.category]; done) | rfl
set_option maxRecDepth 65536 in
set_option maxHeartbeats 40000000 in
theorem rmI (l : Launch) (Z : State) (a0 : Array Value) (hw : ∀ d ∈ tables_1, d.before a0 Z = true) (a : Addr) (p1 : Int64) (h0 : Heap) (n0 : Nat) (Z0 : n0 ≤ h0.size) (u : Value) (E : Exa Z h0 a "com/example/haggle/haggle/random/SplitMix64") (F : Fld Z h0 a "com/example/haggle/haggle/random/SplitMix64" "state" "J" u) (ab : n0 ≤ a) :
    OCon l Z (⟨"com/example/haggle/haggle/random/SplitMix64", "<init>", "(J)V"⟩ : MethodName) prog_36_method_1_code 3 none ({ frames := 1, cells := 0, slots := 0, locals := 12 } : Room) #[(.ref a), (.long p1)] h0 (Q_init Z p1 a n0) := by
  refine OConK.intro (y := (⟨"com/example/haggle/haggle/random/SplitMix64", "<init>", "(J)V"⟩ : MethodName)) (plainFor_of_name own_pn_com_example_haggle_haggle_random_SplitMix64) (own_ef_rmI a p1) ?_
  intro p e s m below meth c s₁ hx hby hml hown hnm hret hlk hZ X0 e0
  show OGoal p e below s _ _ _ (s₁.setTop (mkF m 0 #[.val (.ref a), .val (.long p1), .second] []))
  refine OGoal.mp (S' := (s₁.setTop (mkF m 1 #[.val (.ref a), .val (.long p1), .second] [(.ref a)]))) (fun _ k => XS.aloadN X0.here hx rfl (hb hby own_d_prog_36_method_1_code_0) rfl rfl k) ?_
  obtain ⟨T1, X2, e3, st4⟩ := initO X0 hx hZ hown (hw _ (List.mem_of_getElem? (i := 6) rfl)) (hw _ (List.mem_of_getElem? (i := 7) rfl)) (hw _ (List.mem_of_getElem? (i := 8) rfl)) e0 (g := mkF m 1 #[.val (.ref a), .val (.long p1), .second] [(.ref a)]) rfl (by rw [hml]; rfl) rfl (hb hby own_d_prog_36_method_1_code_1) (by decide) (W := 0) (by show 2 * 0 + _ ≤ _; exact Nat.le_of_eq rfl) (by decide)
  refine OGoal.mp (S' := (T1.setTop (mkF m 4 #[.val (.ref a), .val (.long p1), .second] []))) (fun _ k => st4 _ k) ?_
  refine OGoal.mp (S' := (T1.setTop (mkF m 5 #[.val (.ref a), .val (.long p1), .second] [(.ref a)]))) (fun _ k => XS.aloadN X2.here hx rfl (hb hby own_d_prog_36_method_1_code_4) rfl rfl k) ?_
  refine OGoal.mp (S' := (T1.setTop (mkF m 6 #[.val (.ref a), .val (.long p1), .second] [(.long p1), (.ref a)]))) (fun _ k => XT.lloadN X2.here hx rfl (hb hby own_d_prog_36_method_1_code_5) rfl k) ?_
  obtain ⟨T5, h9, X6, e7, W10, st8⟩ := putF X2 hx hZ hown (host := "") (Or.inl (hw _ (List.mem_of_getElem? (i := 9) rfl))) Via.refl e3 F E (Or.inl (hw _ (List.mem_of_getElem? (i := 10) rfl))) (hw _ (List.mem_of_getElem? (i := 1) rfl)) (ty := .long) (by decide) rfl rfl (g := mkF m 6 #[.val (.ref a), .val (.long p1), .second] [(.long p1), (.ref a)]) rfl rfl (hb hby own_d_prog_36_method_1_code_6)
  have N11 := Fr.snoc X6 (Fr.nil n0) ab
  have F12 := E.wr W10
  have F13 := F.same W10
  refine OGoal.mp (S' := (T5.setTop (mkF m 9 #[.val (.ref a), .val (.long p1), .second] []))) (fun _ k => st8 _ k) ?_
  refine oRetV X6 hx hlk hret (hb hby own_d_prog_36_method_1_code_9) ?_ (by decide) (by decide)
  show Q_init Z p1 a n0 _ T5.heap _
  rw [e7]
  exact ⟨rfl, N11, F12, F13⟩
theorem own_d_prog_36_method_2_code_0 : decode prog_36_method_2_code 0 = .ok (.aload_n 0, 1) := by decide +kernel
theorem own_d_prog_36_method_2_code_1 : decode prog_36_method_2_code 1 = .ok (.dup, 1) := by decide +kernel
theorem own_d_prog_36_method_2_code_2 : decode prog_36_method_2_code 2 = .ok (.getfield 7, 3) := by decide +kernel
theorem own_d_prog_36_method_2_code_5 : decode prog_36_method_2_code 5 = .ok (.ldc2_w 13, 3) := by decide +kernel
theorem own_d_prog_36_method_2_code_8 : decode prog_36_method_2_code 8 = .ok (.ladd, 1) := by decide +kernel
theorem own_d_prog_36_method_2_code_9 : decode prog_36_method_2_code 9 = .ok (.putfield 7, 3) := by decide +kernel
theorem own_d_prog_36_method_2_code_12 : decode prog_36_method_2_code 12 = .ok (.aload_n 0, 1) := by decide +kernel
theorem own_d_prog_36_method_2_code_13 : decode prog_36_method_2_code 13 = .ok (.getfield 7, 3) := by decide +kernel
theorem own_d_prog_36_method_2_code_16 : decode prog_36_method_2_code 16 = .ok (.lstore_n 1, 1) := by decide +kernel
theorem own_d_prog_36_method_2_code_17 : decode prog_36_method_2_code 17 = .ok (.lload_n 1, 1) := by decide +kernel
theorem own_d_prog_36_method_2_code_18 : decode prog_36_method_2_code 18 = .ok (.lload_n 1, 1) := by decide +kernel
theorem own_d_prog_36_method_2_code_19 : decode prog_36_method_2_code 19 = .ok (.bipush 30, 2) := by decide +kernel
theorem own_d_prog_36_method_2_code_21 : decode prog_36_method_2_code 21 = .ok (.lushr, 1) := by decide +kernel
theorem own_d_prog_36_method_2_code_22 : decode prog_36_method_2_code 22 = .ok (.lxor, 1) := by decide +kernel
theorem own_d_prog_36_method_2_code_23 : decode prog_36_method_2_code 23 = .ok (.ldc2_w 15, 3) := by decide +kernel
theorem own_d_prog_36_method_2_code_26 : decode prog_36_method_2_code 26 = .ok (.lmul, 1) := by decide +kernel
theorem own_d_prog_36_method_2_code_27 : decode prog_36_method_2_code 27 = .ok (.lstore_n 1, 1) := by decide +kernel
theorem own_d_prog_36_method_2_code_28 : decode prog_36_method_2_code 28 = .ok (.lload_n 1, 1) := by decide +kernel
theorem own_d_prog_36_method_2_code_29 : decode prog_36_method_2_code 29 = .ok (.lload_n 1, 1) := by decide +kernel
theorem own_d_prog_36_method_2_code_30 : decode prog_36_method_2_code 30 = .ok (.bipush 27, 2) := by decide +kernel
theorem own_d_prog_36_method_2_code_32 : decode prog_36_method_2_code 32 = .ok (.lushr, 1) := by decide +kernel
theorem own_d_prog_36_method_2_code_33 : decode prog_36_method_2_code 33 = .ok (.lxor, 1) := by decide +kernel
theorem own_d_prog_36_method_2_code_34 : decode prog_36_method_2_code 34 = .ok (.ldc2_w 17, 3) := by decide +kernel
theorem own_d_prog_36_method_2_code_37 : decode prog_36_method_2_code 37 = .ok (.lmul, 1) := by decide +kernel
theorem own_d_prog_36_method_2_code_38 : decode prog_36_method_2_code 38 = .ok (.lstore_n 1, 1) := by decide +kernel
theorem own_d_prog_36_method_2_code_39 : decode prog_36_method_2_code 39 = .ok (.lload_n 1, 1) := by decide +kernel
theorem own_d_prog_36_method_2_code_40 : decode prog_36_method_2_code 40 = .ok (.lload_n 1, 1) := by decide +kernel
theorem own_d_prog_36_method_2_code_41 : decode prog_36_method_2_code 41 = .ok (.bipush 31, 2) := by decide +kernel
theorem own_d_prog_36_method_2_code_43 : decode prog_36_method_2_code 43 = .ok (.lushr, 1) := by decide +kernel
theorem own_d_prog_36_method_2_code_44 : decode prog_36_method_2_code 44 = .ok (.lxor, 1) := by decide +kernel
theorem own_d_prog_36_method_2_code_45 : decode prog_36_method_2_code 45 = .ok (.lreturn, 1) := by decide +kernel
theorem own_ef_rmN (x0 : Addr) (m : MethodId) : entryFrame m #[(.ref x0)] 3 = mkF m 0 #[.val (.ref x0), .unset, .unset] [] := by first | (simp [entryFrame, mkF, argsToLocals, Value.category]; done) | rfl
set_option maxRecDepth 65536 in
set_option maxHeartbeats 40000000 in
theorem rmN (l : Launch) (Z : State) (a0 : Array Value) (hw : ∀ d ∈ tables_1, d.before a0 Z = true) (a : Addr) (q : Int64) (h0 : Heap) (n0 : Nat) (Z0 : n0 ≤ h0.size) (E : Exa Z h0 a "com/example/haggle/haggle/random/SplitMix64") (F : Fld Z h0 a "com/example/haggle/haggle/random/SplitMix64" "state" "J" (.long q)) (ab : n0 ≤ a) :
    OCon l Z (⟨"com/example/haggle/haggle/random/SplitMix64", "nextLong", "()J"⟩ : MethodName) prog_36_method_2_code 3 (some .long) ({ frames := 0, cells := 0, slots := 0, locals := 0 } : Room) #[(.ref a)] h0 (Q_next Z q a n0) := by
  refine OConK.intro (y := (⟨"com/example/haggle/haggle/random/SplitMix64", "nextLong", "()J"⟩ : MethodName)) (plainFor_of_name own_pn_com_example_haggle_haggle_random_SplitMix64) (own_ef_rmN a) ?_
  intro p e s m below meth c s₁ hx hby hml hown hnm hret hlk hZ X0 e0
  show OGoal p e below s _ _ _ (s₁.setTop (mkF m 0 #[.val (.ref a), .unset, .unset] []))
  refine OGoal.mp (S' := (s₁.setTop (mkF m 1 #[.val (.ref a), .unset, .unset] [(.ref a)]))) (fun _ k => XS.aloadN X0.here hx rfl (hb hby own_d_prog_36_method_2_code_0) rfl rfl k) ?_
  refine OGoal.mp (S' := (s₁.setTop (mkF m 2 #[.val (.ref a), .unset, .unset] [(.ref a), (.ref a)]))) (fun _ k => XS.dup X0.here hx rfl (hb hby own_d_prog_36_method_2_code_1) rfl rfl k) ?_
  obtain ⟨T1, X2, e3, st4⟩ := getF X0 hx hZ hown (host := "") (Or.inl (hw _ (List.mem_of_getElem? (i := 9) rfl))) Via.refl e0 F (g := mkF m 2 #[.val (.ref a), .unset, .unset] [(.ref a), (.ref a)]) rfl rfl (hb hby own_d_prog_36_method_2_code_2)
  refine OGoal.mp (S' := (T1.setTop (mkF m 5 #[.val (.ref a), .unset, .unset] [(.long q), (.ref a)]))) (fun _ k => st4 _ k) ?_
  refine OGoal.mp (S' := (T1.setTop (mkF m 8 #[.val (.ref a), .unset, .unset] [(.long (-7046029254386353131 : Int64)), (.long q), (.ref a)]))) (fun _ k => Stand.ldc2J X2 hx hown (mvT hZ (hw _ (List.mem_of_getElem? (i := 16) rfl))) rfl (hb hby own_d_prog_36_method_2_code_5) k) ?_
  refine OGoal.mp (S' := (T1.setTop (mkF m 9 #[.val (.ref a), .unset, .unset] [(.long (q + (-7046029254386353131 : Int64))), (.ref a)]))) (fun _ k => XT.ladd X2.here hx rfl (hb hby own_d_prog_36_method_2_code_8) rfl k) ?_
  obtain ⟨T5, h9, X6, e7, W10, st8⟩ := putF X2 hx hZ hown (host := "") (Or.inl (hw _ (List.mem_of_getElem? (i := 9) rfl))) Via.refl e3 F E (Or.inl (hw _ (List.mem_of_getElem? (i := 10) rfl))) (hw _ (List.mem_of_getElem? (i := 1) rfl)) (ty := .long) (by decide) rfl rfl (g := mkF m 9 #[.val (.ref a), .unset, .unset] [(.long (q + (-7046029254386353131 : Int64))), (.ref a)]) rfl rfl (hb hby own_d_prog_36_method_2_code_9)
  have N11 := Fr.snoc X6 (Fr.nil n0) ab
  have F12 := E.wr W10
  have F13 := F.same W10
  refine OGoal.mp (S' := (T5.setTop (mkF m 12 #[.val (.ref a), .unset, .unset] []))) (fun _ k => st8 _ k) ?_
  refine OGoal.mp (S' := (T5.setTop (mkF m 13 #[.val (.ref a), .unset, .unset] [(.ref a)]))) (fun _ k => XS.aloadN X6.here hx rfl (hb hby own_d_prog_36_method_2_code_12) rfl rfl k) ?_
  obtain ⟨T14, X15, e16, st17⟩ := getF X6 hx hZ hown (host := "") (Or.inl (hw _ (List.mem_of_getElem? (i := 9) rfl))) Via.refl e7 F13 (g := mkF m 13 #[.val (.ref a), .unset, .unset] [(.ref a)]) rfl rfl (hb hby own_d_prog_36_method_2_code_13)
  refine OGoal.mp (S' := (T14.setTop (mkF m 16 #[.val (.ref a), .unset, .unset] [(.long (q + (-7046029254386353131 : Int64)))]))) (fun _ k => st17 _ k) ?_
  refine OGoal.mp (S' := (T14.setTop (mkF m 17 #[.val (.ref a), .val (.long (q + (-7046029254386353131 : Int64))), .second] []))) (fun _ k => XT.lstoreN X15.here hx rfl (hb hby own_d_prog_36_method_2_code_16) rfl (l' := #[.val (.ref a), .val (.long (q + (-7046029254386353131 : Int64))), .second]) rfl k) ?_
  refine OGoal.mp (S' := (T14.setTop (mkF m 18 #[.val (.ref a), .val (.long (q + (-7046029254386353131 : Int64))), .second] [(.long (q + (-7046029254386353131 : Int64)))]))) (fun _ k => XT.lloadN X15.here hx rfl (hb hby own_d_prog_36_method_2_code_17) rfl k) ?_
  refine OGoal.mp (S' := (T14.setTop (mkF m 19 #[.val (.ref a), .val (.long (q + (-7046029254386353131 : Int64))), .second] [(.long (q + (-7046029254386353131 : Int64))), (.long (q + (-7046029254386353131 : Int64)))]))) (fun _ k => XT.lloadN X15.here hx rfl (hb hby own_d_prog_36_method_2_code_18) rfl k) ?_
  refine OGoal.mp (S' := (T14.setTop (mkF m 21 #[.val (.ref a), .val (.long (q + (-7046029254386353131 : Int64))), .second] [(.int (30 : Int32)), (.long (q + (-7046029254386353131 : Int64))), (.long (q + (-7046029254386353131 : Int64)))]))) (fun _ k => XS.bipush X15.here hx rfl (hb hby own_d_prog_36_method_2_code_19) k) ?_
  refine OGoal.mp (S' := (T14.setTop (mkF m 22 #[.val (.ref a), .val (.long (q + (-7046029254386353131 : Int64))), .second] [(.long (XT.ushrL (q + (-7046029254386353131 : Int64)) (30 : Int32))), (.long (q + (-7046029254386353131 : Int64)))]))) (fun _ k => XT.lushr X15.here hx rfl (hb hby own_d_prog_36_method_2_code_21) rfl k) ?_
  refine OGoal.mp (S' := (T14.setTop (mkF m 23 #[.val (.ref a), .val (.long (q + (-7046029254386353131 : Int64))), .second] [(.long (own_x 30 (q + (-7046029254386353131 : Int64))))]))) (fun _ k => XT.lxor X15.here hx rfl (hb hby own_d_prog_36_method_2_code_22) rfl k) ?_
  refine OGoal.mp (S' := (T14.setTop (mkF m 26 #[.val (.ref a), .val (.long (q + (-7046029254386353131 : Int64))), .second] [(.long (-4658895280553007687 : Int64)), (.long (own_x 30 (q + (-7046029254386353131 : Int64))))]))) (fun _ k => Stand.ldc2J X15 hx hown (mvT hZ (hw _ (List.mem_of_getElem? (i := 17) rfl))) rfl (hb hby own_d_prog_36_method_2_code_23) k) ?_
  refine OGoal.mp (S' := (T14.setTop (mkF m 27 #[.val (.ref a), .val (.long (q + (-7046029254386353131 : Int64))), .second] [(.long ((own_x 30 (q + (-7046029254386353131 : Int64))) * (-4658895280553007687 : Int64)))]))) (fun _ k => XT.lmul X15.here hx rfl (hb hby own_d_prog_36_method_2_code_26) rfl k) ?_
  refine OGoal.mp (S' := (T14.setTop (mkF m 28 #[.val (.ref a), .val (.long ((own_x 30 (q + (-7046029254386353131 : Int64))) * (-4658895280553007687 : Int64))), .second] []))) (fun _ k => XT.lstoreN X15.here hx rfl (hb hby own_d_prog_36_method_2_code_27) rfl (l' := #[.val (.ref a), .val (.long ((own_x 30 (q + (-7046029254386353131 : Int64))) * (-4658895280553007687 : Int64))), .second]) rfl k) ?_
  refine OGoal.mp (S' := (T14.setTop (mkF m 29 #[.val (.ref a), .val (.long ((own_x 30 (q + (-7046029254386353131 : Int64))) * (-4658895280553007687 : Int64))), .second] [(.long ((own_x 30 (q + (-7046029254386353131 : Int64))) * (-4658895280553007687 : Int64)))]))) (fun _ k => XT.lloadN X15.here hx rfl (hb hby own_d_prog_36_method_2_code_28) rfl k) ?_
  refine OGoal.mp (S' := (T14.setTop (mkF m 30 #[.val (.ref a), .val (.long ((own_x 30 (q + (-7046029254386353131 : Int64))) * (-4658895280553007687 : Int64))), .second] [(.long ((own_x 30 (q + (-7046029254386353131 : Int64))) * (-4658895280553007687 : Int64))), (.long ((own_x 30 (q + (-7046029254386353131 : Int64))) * (-4658895280553007687 : Int64)))]))) (fun _ k => XT.lloadN X15.here hx rfl (hb hby own_d_prog_36_method_2_code_29) rfl k) ?_
  refine OGoal.mp (S' := (T14.setTop (mkF m 32 #[.val (.ref a), .val (.long ((own_x 30 (q + (-7046029254386353131 : Int64))) * (-4658895280553007687 : Int64))), .second] [(.int (27 : Int32)), (.long ((own_x 30 (q + (-7046029254386353131 : Int64))) * (-4658895280553007687 : Int64))), (.long ((own_x 30 (q + (-7046029254386353131 : Int64))) * (-4658895280553007687 : Int64)))]))) (fun _ k => XS.bipush X15.here hx rfl (hb hby own_d_prog_36_method_2_code_30) k) ?_
  refine OGoal.mp (S' := (T14.setTop (mkF m 33 #[.val (.ref a), .val (.long ((own_x 30 (q + (-7046029254386353131 : Int64))) * (-4658895280553007687 : Int64))), .second] [(.long (XT.ushrL ((own_x 30 (q + (-7046029254386353131 : Int64))) * (-4658895280553007687 : Int64)) (27 : Int32))), (.long ((own_x 30 (q + (-7046029254386353131 : Int64))) * (-4658895280553007687 : Int64)))]))) (fun _ k => XT.lushr X15.here hx rfl (hb hby own_d_prog_36_method_2_code_32) rfl k) ?_
  refine OGoal.mp (S' := (T14.setTop (mkF m 34 #[.val (.ref a), .val (.long ((own_x 30 (q + (-7046029254386353131 : Int64))) * (-4658895280553007687 : Int64))), .second] [(.long (own_x 27 ((own_x 30 (q + (-7046029254386353131 : Int64))) * (-4658895280553007687 : Int64))))]))) (fun _ k => XT.lxor X15.here hx rfl (hb hby own_d_prog_36_method_2_code_33) rfl k) ?_
  refine OGoal.mp (S' := (T14.setTop (mkF m 37 #[.val (.ref a), .val (.long ((own_x 30 (q + (-7046029254386353131 : Int64))) * (-4658895280553007687 : Int64))), .second] [(.long (-7723592293110705685 : Int64)), (.long (own_x 27 ((own_x 30 (q + (-7046029254386353131 : Int64))) * (-4658895280553007687 : Int64))))]))) (fun _ k => Stand.ldc2J X15 hx hown (mvT hZ (hw _ (List.mem_of_getElem? (i := 18) rfl))) rfl (hb hby own_d_prog_36_method_2_code_34) k) ?_
  refine OGoal.mp (S' := (T14.setTop (mkF m 38 #[.val (.ref a), .val (.long ((own_x 30 (q + (-7046029254386353131 : Int64))) * (-4658895280553007687 : Int64))), .second] [(.long ((own_x 27 ((own_x 30 (q + (-7046029254386353131 : Int64))) * (-4658895280553007687 : Int64))) * (-7723592293110705685 : Int64)))]))) (fun _ k => XT.lmul X15.here hx rfl (hb hby own_d_prog_36_method_2_code_37) rfl k) ?_
  refine OGoal.mp (S' := (T14.setTop (mkF m 39 #[.val (.ref a), .val (.long ((own_x 27 ((own_x 30 (q + (-7046029254386353131 : Int64))) * (-4658895280553007687 : Int64))) * (-7723592293110705685 : Int64))), .second] []))) (fun _ k => XT.lstoreN X15.here hx rfl (hb hby own_d_prog_36_method_2_code_38) rfl (l' := #[.val (.ref a), .val (.long ((own_x 27 ((own_x 30 (q + (-7046029254386353131 : Int64))) * (-4658895280553007687 : Int64))) * (-7723592293110705685 : Int64))), .second]) rfl k) ?_
  refine OGoal.mp (S' := (T14.setTop (mkF m 40 #[.val (.ref a), .val (.long ((own_x 27 ((own_x 30 (q + (-7046029254386353131 : Int64))) * (-4658895280553007687 : Int64))) * (-7723592293110705685 : Int64))), .second] [(.long ((own_x 27 ((own_x 30 (q + (-7046029254386353131 : Int64))) * (-4658895280553007687 : Int64))) * (-7723592293110705685 : Int64)))]))) (fun _ k => XT.lloadN X15.here hx rfl (hb hby own_d_prog_36_method_2_code_39) rfl k) ?_
  refine OGoal.mp (S' := (T14.setTop (mkF m 41 #[.val (.ref a), .val (.long ((own_x 27 ((own_x 30 (q + (-7046029254386353131 : Int64))) * (-4658895280553007687 : Int64))) * (-7723592293110705685 : Int64))), .second] [(.long ((own_x 27 ((own_x 30 (q + (-7046029254386353131 : Int64))) * (-4658895280553007687 : Int64))) * (-7723592293110705685 : Int64))), (.long ((own_x 27 ((own_x 30 (q + (-7046029254386353131 : Int64))) * (-4658895280553007687 : Int64))) * (-7723592293110705685 : Int64)))]))) (fun _ k => XT.lloadN X15.here hx rfl (hb hby own_d_prog_36_method_2_code_40) rfl k) ?_
  refine OGoal.mp (S' := (T14.setTop (mkF m 43 #[.val (.ref a), .val (.long ((own_x 27 ((own_x 30 (q + (-7046029254386353131 : Int64))) * (-4658895280553007687 : Int64))) * (-7723592293110705685 : Int64))), .second] [(.int (31 : Int32)), (.long ((own_x 27 ((own_x 30 (q + (-7046029254386353131 : Int64))) * (-4658895280553007687 : Int64))) * (-7723592293110705685 : Int64))), (.long ((own_x 27 ((own_x 30 (q + (-7046029254386353131 : Int64))) * (-4658895280553007687 : Int64))) * (-7723592293110705685 : Int64)))]))) (fun _ k => XS.bipush X15.here hx rfl (hb hby own_d_prog_36_method_2_code_41) k) ?_
  refine OGoal.mp (S' := (T14.setTop (mkF m 44 #[.val (.ref a), .val (.long ((own_x 27 ((own_x 30 (q + (-7046029254386353131 : Int64))) * (-4658895280553007687 : Int64))) * (-7723592293110705685 : Int64))), .second] [(.long (XT.ushrL ((own_x 27 ((own_x 30 (q + (-7046029254386353131 : Int64))) * (-4658895280553007687 : Int64))) * (-7723592293110705685 : Int64)) (31 : Int32))), (.long ((own_x 27 ((own_x 30 (q + (-7046029254386353131 : Int64))) * (-4658895280553007687 : Int64))) * (-7723592293110705685 : Int64)))]))) (fun _ k => XT.lushr X15.here hx rfl (hb hby own_d_prog_36_method_2_code_43) rfl k) ?_
  refine OGoal.mp (S' := (T14.setTop (mkF m 45 #[.val (.ref a), .val (.long ((own_x 27 ((own_x 30 (q + (-7046029254386353131 : Int64))) * (-4658895280553007687 : Int64))) * (-7723592293110705685 : Int64))), .second] [(.long (own_x 31 ((own_x 27 ((own_x 30 (q + (-7046029254386353131 : Int64))) * (-4658895280553007687 : Int64))) * (-7723592293110705685 : Int64))))]))) (fun _ k => XT.lxor X15.here hx rfl (hb hby own_d_prog_36_method_2_code_44) rfl k) ?_
  refine oRetJ X15 hx hlk hret (hb hby own_d_prog_36_method_2_code_45) ?_ (by decide) (by decide)
  show Q_next Z q a n0 _ T14.heap _
  rw [e16]
  exact ⟨rfl, N11, F12, F13⟩
theorem own_d_method_2_code_0 : decode method_2_code 0 = .ok (.lload_n 0, 1) := by decide +kernel
theorem own_d_method_2_code_1 : decode method_2_code 1 = .ok (.lstore_n 2, 1) := by decide +kernel
theorem own_d_method_2_code_2 : decode method_2_code 2 = .ok (.lload_n 2, 1) := by decide +kernel
theorem own_d_method_2_code_3 : decode method_2_code 3 = .ok (.ldc2_w 7, 3) := by decide +kernel
theorem own_d_method_2_code_6 : decode method_2_code 6 = .ok (.lload_n 0, 1) := by decide +kernel
theorem own_d_method_2_code_7 : decode method_2_code 7 = .ok (.lload_n 2, 1) := by decide +kernel
theorem own_d_method_2_code_8 : decode method_2_code 8 = .ok (.lmul, 1) := by decide +kernel
theorem own_d_method_2_code_9 : decode method_2_code 9 = .ok (.lsub, 1) := by decide +kernel
theorem own_d_method_2_code_10 : decode method_2_code 10 = .ok (.lmul, 1) := by decide +kernel
theorem own_d_method_2_code_11 : decode method_2_code 11 = .ok (.lstore_n 2, 1) := by decide +kernel
theorem own_d_method_2_code_12 : decode method_2_code 12 = .ok (.lload_n 2, 1) := by decide +kernel
theorem own_d_method_2_code_13 : decode method_2_code 13 = .ok (.ldc2_w 7, 3) := by decide +kernel
theorem own_d_method_2_code_16 : decode method_2_code 16 = .ok (.lload_n 0, 1) := by decide +kernel
theorem own_d_method_2_code_17 : decode method_2_code 17 = .ok (.lload_n 2, 1) := by decide +kernel
theorem own_d_method_2_code_18 : decode method_2_code 18 = .ok (.lmul, 1) := by decide +kernel
theorem own_d_method_2_code_19 : decode method_2_code 19 = .ok (.lsub, 1) := by decide +kernel
theorem own_d_method_2_code_20 : decode method_2_code 20 = .ok (.lmul, 1) := by decide +kernel
theorem own_d_method_2_code_21 : decode method_2_code 21 = .ok (.lstore_n 2, 1) := by decide +kernel
theorem own_d_method_2_code_22 : decode method_2_code 22 = .ok (.lload_n 2, 1) := by decide +kernel
theorem own_d_method_2_code_23 : decode method_2_code 23 = .ok (.ldc2_w 7, 3) := by decide +kernel
theorem own_d_method_2_code_26 : decode method_2_code 26 = .ok (.lload_n 0, 1) := by decide +kernel
theorem own_d_method_2_code_27 : decode method_2_code 27 = .ok (.lload_n 2, 1) := by decide +kernel
theorem own_d_method_2_code_28 : decode method_2_code 28 = .ok (.lmul, 1) := by decide +kernel
theorem own_d_method_2_code_29 : decode method_2_code 29 = .ok (.lsub, 1) := by decide +kernel
theorem own_d_method_2_code_30 : decode method_2_code 30 = .ok (.lmul, 1) := by decide +kernel
theorem own_d_method_2_code_31 : decode method_2_code 31 = .ok (.lstore_n 2, 1) := by decide +kernel
theorem own_d_method_2_code_32 : decode method_2_code 32 = .ok (.lload_n 2, 1) := by decide +kernel
theorem own_d_method_2_code_33 : decode method_2_code 33 = .ok (.ldc2_w 7, 3) := by decide +kernel
theorem own_d_method_2_code_36 : decode method_2_code 36 = .ok (.lload_n 0, 1) := by decide +kernel
theorem own_d_method_2_code_37 : decode method_2_code 37 = .ok (.lload_n 2, 1) := by decide +kernel
theorem own_d_method_2_code_38 : decode method_2_code 38 = .ok (.lmul, 1) := by decide +kernel
theorem own_d_method_2_code_39 : decode method_2_code 39 = .ok (.lsub, 1) := by decide +kernel
theorem own_d_method_2_code_40 : decode method_2_code 40 = .ok (.lmul, 1) := by decide +kernel
theorem own_d_method_2_code_41 : decode method_2_code 41 = .ok (.lstore_n 2, 1) := by decide +kernel
theorem own_d_method_2_code_42 : decode method_2_code 42 = .ok (.lload_n 2, 1) := by decide +kernel
theorem own_d_method_2_code_43 : decode method_2_code 43 = .ok (.ldc2_w 7, 3) := by decide +kernel
theorem own_d_method_2_code_46 : decode method_2_code 46 = .ok (.lload_n 0, 1) := by decide +kernel
theorem own_d_method_2_code_47 : decode method_2_code 47 = .ok (.lload_n 2, 1) := by decide +kernel
theorem own_d_method_2_code_48 : decode method_2_code 48 = .ok (.lmul, 1) := by decide +kernel
theorem own_d_method_2_code_49 : decode method_2_code 49 = .ok (.lsub, 1) := by decide +kernel
theorem own_d_method_2_code_50 : decode method_2_code 50 = .ok (.lmul, 1) := by decide +kernel
theorem own_d_method_2_code_51 : decode method_2_code 51 = .ok (.lstore_n 2, 1) := by decide +kernel
theorem own_d_method_2_code_52 : decode method_2_code 52 = .ok (.lload_n 2, 1) := by decide +kernel
theorem own_d_method_2_code_53 : decode method_2_code 53 = .ok (.lreturn, 1) := by decide +kernel
theorem own_pn_com_example_haggle_haggle_random_SplitMix64NextLongPinLaw : plainName "com/example/haggle/haggle/random/SplitMix64NextLongPinLaw" = true := by first | (simp [plainName, overriddenIn]; done) | decide +kernel
theorem own_ef_rmV (x0 : Int64) (m : MethodId) : entryFrame m #[(.long x0)] 4 = mkF m 0 #[.val (.long x0), .second, .unset, .unset] [] := by first | (simp [entryFrame, mkF, argsToLocals, Value.category]; done) | rfl
set_option maxRecDepth 65536 in
set_option maxHeartbeats 40000000 in
theorem rmV (l : Launch) (Z : State) (a0 : Array Value) (hw : ∀ d ∈ tables_1, d.before a0 Z = true) (p1 : Int64) (h0 : Heap) (n0 : Nat) (Z0 : n0 ≤ h0.size)  :
    OCon l Z (⟨"com/example/haggle/haggle/random/SplitMix64NextLongPinLaw", "inverse", "(J)J"⟩ : MethodName) method_2_code 4 (some .long) ({ frames := 0, cells := 0, slots := 0, locals := 0 } : Room) #[(.long p1)] h0 (fun v h L => v = some (.long (own_inv p1)) ∧ Fr n0 L ∧ h = h0) := by
  refine OConK.intro (y := (⟨"com/example/haggle/haggle/random/SplitMix64NextLongPinLaw", "inverse", "(J)J"⟩ : MethodName)) (plainFor_of_name own_pn_com_example_haggle_haggle_random_SplitMix64NextLongPinLaw) (own_ef_rmV p1) ?_
  intro p e s m below meth c s₁ hx hby hml hown hnm hret hlk hZ X0 e0
  show OGoal p e below s _ _ _ (s₁.setTop (mkF m 0 #[.val (.long p1), .second, .unset, .unset] []))
  refine OGoal.mp (S' := (s₁.setTop (mkF m 1 #[.val (.long p1), .second, .unset, .unset] [(.long p1)]))) (fun _ k => XT.lloadN X0.here hx rfl (hb hby own_d_method_2_code_0) rfl k) ?_
  refine OGoal.mp (S' := (s₁.setTop (mkF m 2 #[.val (.long p1), .second, .val (.long p1), .second] []))) (fun _ k => XT.lstoreN X0.here hx rfl (hb hby own_d_method_2_code_1) rfl (l' := #[.val (.long p1), .second, .val (.long p1), .second]) rfl k) ?_
  refine OGoal.mp (S' := (s₁.setTop (mkF m 3 #[.val (.long p1), .second, .val (.long p1), .second] [(.long p1)]))) (fun _ k => XT.lloadN X0.here hx rfl (hb hby own_d_method_2_code_2) rfl k) ?_
  refine OGoal.mp (S' := (s₁.setTop (mkF m 6 #[.val (.long p1), .second, .val (.long p1), .second] [(.long (2 : Int64)), (.long p1)]))) (fun _ k => Stand.ldc2J X0 hx hown (mvT hZ (hw _ (List.mem_of_getElem? (i := 24) rfl))) rfl (hb hby own_d_method_2_code_3) k) ?_
  refine OGoal.mp (S' := (s₁.setTop (mkF m 7 #[.val (.long p1), .second, .val (.long p1), .second] [(.long p1), (.long (2 : Int64)), (.long p1)]))) (fun _ k => XT.lloadN X0.here hx rfl (hb hby own_d_method_2_code_6) rfl k) ?_
  refine OGoal.mp (S' := (s₁.setTop (mkF m 8 #[.val (.long p1), .second, .val (.long p1), .second] [(.long p1), (.long p1), (.long (2 : Int64)), (.long p1)]))) (fun _ k => XT.lloadN X0.here hx rfl (hb hby own_d_method_2_code_7) rfl k) ?_
  refine OGoal.mp (S' := (s₁.setTop (mkF m 9 #[.val (.long p1), .second, .val (.long p1), .second] [(.long (p1 * p1)), (.long (2 : Int64)), (.long p1)]))) (fun _ k => XT.lmul X0.here hx rfl (hb hby own_d_method_2_code_8) rfl k) ?_
  refine OGoal.mp (S' := (s₁.setTop (mkF m 10 #[.val (.long p1), .second, .val (.long p1), .second] [(.long ((2 : Int64) - (p1 * p1))), (.long p1)]))) (fun _ k => XT.lsub X0.here hx rfl (hb hby own_d_method_2_code_9) rfl k) ?_
  refine OGoal.mp (S' := (s₁.setTop (mkF m 11 #[.val (.long p1), .second, .val (.long p1), .second] [(.long (own_step p1 p1))]))) (fun _ k => XT.lmul X0.here hx rfl (hb hby own_d_method_2_code_10) rfl k) ?_
  refine OGoal.mp (S' := (s₁.setTop (mkF m 12 #[.val (.long p1), .second, .val (.long (own_step p1 p1)), .second] []))) (fun _ k => XT.lstoreN X0.here hx rfl (hb hby own_d_method_2_code_11) rfl (l' := #[.val (.long p1), .second, .val (.long (own_step p1 p1)), .second]) rfl k) ?_
  refine OGoal.mp (S' := (s₁.setTop (mkF m 13 #[.val (.long p1), .second, .val (.long (own_step p1 p1)), .second] [(.long (own_step p1 p1))]))) (fun _ k => XT.lloadN X0.here hx rfl (hb hby own_d_method_2_code_12) rfl k) ?_
  refine OGoal.mp (S' := (s₁.setTop (mkF m 16 #[.val (.long p1), .second, .val (.long (own_step p1 p1)), .second] [(.long (2 : Int64)), (.long (own_step p1 p1))]))) (fun _ k => Stand.ldc2J X0 hx hown (mvT hZ (hw _ (List.mem_of_getElem? (i := 24) rfl))) rfl (hb hby own_d_method_2_code_13) k) ?_
  refine OGoal.mp (S' := (s₁.setTop (mkF m 17 #[.val (.long p1), .second, .val (.long (own_step p1 p1)), .second] [(.long p1), (.long (2 : Int64)), (.long (own_step p1 p1))]))) (fun _ k => XT.lloadN X0.here hx rfl (hb hby own_d_method_2_code_16) rfl k) ?_
  refine OGoal.mp (S' := (s₁.setTop (mkF m 18 #[.val (.long p1), .second, .val (.long (own_step p1 p1)), .second] [(.long (own_step p1 p1)), (.long p1), (.long (2 : Int64)), (.long (own_step p1 p1))]))) (fun _ k => XT.lloadN X0.here hx rfl (hb hby own_d_method_2_code_17) rfl k) ?_
  refine OGoal.mp (S' := (s₁.setTop (mkF m 19 #[.val (.long p1), .second, .val (.long (own_step p1 p1)), .second] [(.long (p1 * (own_step p1 p1))), (.long (2 : Int64)), (.long (own_step p1 p1))]))) (fun _ k => XT.lmul X0.here hx rfl (hb hby own_d_method_2_code_18) rfl k) ?_
  refine OGoal.mp (S' := (s₁.setTop (mkF m 20 #[.val (.long p1), .second, .val (.long (own_step p1 p1)), .second] [(.long ((2 : Int64) - (p1 * (own_step p1 p1)))), (.long (own_step p1 p1))]))) (fun _ k => XT.lsub X0.here hx rfl (hb hby own_d_method_2_code_19) rfl k) ?_
  refine OGoal.mp (S' := (s₁.setTop (mkF m 21 #[.val (.long p1), .second, .val (.long (own_step p1 p1)), .second] [(.long (own_step p1 (own_step p1 p1)))]))) (fun _ k => XT.lmul X0.here hx rfl (hb hby own_d_method_2_code_20) rfl k) ?_
  refine OGoal.mp (S' := (s₁.setTop (mkF m 22 #[.val (.long p1), .second, .val (.long (own_step p1 (own_step p1 p1))), .second] []))) (fun _ k => XT.lstoreN X0.here hx rfl (hb hby own_d_method_2_code_21) rfl (l' := #[.val (.long p1), .second, .val (.long (own_step p1 (own_step p1 p1))), .second]) rfl k) ?_
  refine OGoal.mp (S' := (s₁.setTop (mkF m 23 #[.val (.long p1), .second, .val (.long (own_step p1 (own_step p1 p1))), .second] [(.long (own_step p1 (own_step p1 p1)))]))) (fun _ k => XT.lloadN X0.here hx rfl (hb hby own_d_method_2_code_22) rfl k) ?_
  refine OGoal.mp (S' := (s₁.setTop (mkF m 26 #[.val (.long p1), .second, .val (.long (own_step p1 (own_step p1 p1))), .second] [(.long (2 : Int64)), (.long (own_step p1 (own_step p1 p1)))]))) (fun _ k => Stand.ldc2J X0 hx hown (mvT hZ (hw _ (List.mem_of_getElem? (i := 24) rfl))) rfl (hb hby own_d_method_2_code_23) k) ?_
  refine OGoal.mp (S' := (s₁.setTop (mkF m 27 #[.val (.long p1), .second, .val (.long (own_step p1 (own_step p1 p1))), .second] [(.long p1), (.long (2 : Int64)), (.long (own_step p1 (own_step p1 p1)))]))) (fun _ k => XT.lloadN X0.here hx rfl (hb hby own_d_method_2_code_26) rfl k) ?_
  refine OGoal.mp (S' := (s₁.setTop (mkF m 28 #[.val (.long p1), .second, .val (.long (own_step p1 (own_step p1 p1))), .second] [(.long (own_step p1 (own_step p1 p1))), (.long p1), (.long (2 : Int64)), (.long (own_step p1 (own_step p1 p1)))]))) (fun _ k => XT.lloadN X0.here hx rfl (hb hby own_d_method_2_code_27) rfl k) ?_
  refine OGoal.mp (S' := (s₁.setTop (mkF m 29 #[.val (.long p1), .second, .val (.long (own_step p1 (own_step p1 p1))), .second] [(.long (p1 * (own_step p1 (own_step p1 p1)))), (.long (2 : Int64)), (.long (own_step p1 (own_step p1 p1)))]))) (fun _ k => XT.lmul X0.here hx rfl (hb hby own_d_method_2_code_28) rfl k) ?_
  refine OGoal.mp (S' := (s₁.setTop (mkF m 30 #[.val (.long p1), .second, .val (.long (own_step p1 (own_step p1 p1))), .second] [(.long ((2 : Int64) - (p1 * (own_step p1 (own_step p1 p1))))), (.long (own_step p1 (own_step p1 p1)))]))) (fun _ k => XT.lsub X0.here hx rfl (hb hby own_d_method_2_code_29) rfl k) ?_
  refine OGoal.mp (S' := (s₁.setTop (mkF m 31 #[.val (.long p1), .second, .val (.long (own_step p1 (own_step p1 p1))), .second] [(.long (own_step p1 (own_step p1 (own_step p1 p1))))]))) (fun _ k => XT.lmul X0.here hx rfl (hb hby own_d_method_2_code_30) rfl k) ?_
  refine OGoal.mp (S' := (s₁.setTop (mkF m 32 #[.val (.long p1), .second, .val (.long (own_step p1 (own_step p1 (own_step p1 p1)))), .second] []))) (fun _ k => XT.lstoreN X0.here hx rfl (hb hby own_d_method_2_code_31) rfl (l' := #[.val (.long p1), .second, .val (.long (own_step p1 (own_step p1 (own_step p1 p1)))), .second]) rfl k) ?_
  refine OGoal.mp (S' := (s₁.setTop (mkF m 33 #[.val (.long p1), .second, .val (.long (own_step p1 (own_step p1 (own_step p1 p1)))), .second] [(.long (own_step p1 (own_step p1 (own_step p1 p1))))]))) (fun _ k => XT.lloadN X0.here hx rfl (hb hby own_d_method_2_code_32) rfl k) ?_
  refine OGoal.mp (S' := (s₁.setTop (mkF m 36 #[.val (.long p1), .second, .val (.long (own_step p1 (own_step p1 (own_step p1 p1)))), .second] [(.long (2 : Int64)), (.long (own_step p1 (own_step p1 (own_step p1 p1))))]))) (fun _ k => Stand.ldc2J X0 hx hown (mvT hZ (hw _ (List.mem_of_getElem? (i := 24) rfl))) rfl (hb hby own_d_method_2_code_33) k) ?_
  refine OGoal.mp (S' := (s₁.setTop (mkF m 37 #[.val (.long p1), .second, .val (.long (own_step p1 (own_step p1 (own_step p1 p1)))), .second] [(.long p1), (.long (2 : Int64)), (.long (own_step p1 (own_step p1 (own_step p1 p1))))]))) (fun _ k => XT.lloadN X0.here hx rfl (hb hby own_d_method_2_code_36) rfl k) ?_
  refine OGoal.mp (S' := (s₁.setTop (mkF m 38 #[.val (.long p1), .second, .val (.long (own_step p1 (own_step p1 (own_step p1 p1)))), .second] [(.long (own_step p1 (own_step p1 (own_step p1 p1)))), (.long p1), (.long (2 : Int64)), (.long (own_step p1 (own_step p1 (own_step p1 p1))))]))) (fun _ k => XT.lloadN X0.here hx rfl (hb hby own_d_method_2_code_37) rfl k) ?_
  refine OGoal.mp (S' := (s₁.setTop (mkF m 39 #[.val (.long p1), .second, .val (.long (own_step p1 (own_step p1 (own_step p1 p1)))), .second] [(.long (p1 * (own_step p1 (own_step p1 (own_step p1 p1))))), (.long (2 : Int64)), (.long (own_step p1 (own_step p1 (own_step p1 p1))))]))) (fun _ k => XT.lmul X0.here hx rfl (hb hby own_d_method_2_code_38) rfl k) ?_
  refine OGoal.mp (S' := (s₁.setTop (mkF m 40 #[.val (.long p1), .second, .val (.long (own_step p1 (own_step p1 (own_step p1 p1)))), .second] [(.long ((2 : Int64) - (p1 * (own_step p1 (own_step p1 (own_step p1 p1)))))), (.long (own_step p1 (own_step p1 (own_step p1 p1))))]))) (fun _ k => XT.lsub X0.here hx rfl (hb hby own_d_method_2_code_39) rfl k) ?_
  refine OGoal.mp (S' := (s₁.setTop (mkF m 41 #[.val (.long p1), .second, .val (.long (own_step p1 (own_step p1 (own_step p1 p1)))), .second] [(.long (own_step p1 (own_step p1 (own_step p1 (own_step p1 p1)))))]))) (fun _ k => XT.lmul X0.here hx rfl (hb hby own_d_method_2_code_40) rfl k) ?_
  refine OGoal.mp (S' := (s₁.setTop (mkF m 42 #[.val (.long p1), .second, .val (.long (own_step p1 (own_step p1 (own_step p1 (own_step p1 p1))))), .second] []))) (fun _ k => XT.lstoreN X0.here hx rfl (hb hby own_d_method_2_code_41) rfl (l' := #[.val (.long p1), .second, .val (.long (own_step p1 (own_step p1 (own_step p1 (own_step p1 p1))))), .second]) rfl k) ?_
  refine OGoal.mp (S' := (s₁.setTop (mkF m 43 #[.val (.long p1), .second, .val (.long (own_step p1 (own_step p1 (own_step p1 (own_step p1 p1))))), .second] [(.long (own_step p1 (own_step p1 (own_step p1 (own_step p1 p1)))))]))) (fun _ k => XT.lloadN X0.here hx rfl (hb hby own_d_method_2_code_42) rfl k) ?_
  refine OGoal.mp (S' := (s₁.setTop (mkF m 46 #[.val (.long p1), .second, .val (.long (own_step p1 (own_step p1 (own_step p1 (own_step p1 p1))))), .second] [(.long (2 : Int64)), (.long (own_step p1 (own_step p1 (own_step p1 (own_step p1 p1)))))]))) (fun _ k => Stand.ldc2J X0 hx hown (mvT hZ (hw _ (List.mem_of_getElem? (i := 24) rfl))) rfl (hb hby own_d_method_2_code_43) k) ?_
  refine OGoal.mp (S' := (s₁.setTop (mkF m 47 #[.val (.long p1), .second, .val (.long (own_step p1 (own_step p1 (own_step p1 (own_step p1 p1))))), .second] [(.long p1), (.long (2 : Int64)), (.long (own_step p1 (own_step p1 (own_step p1 (own_step p1 p1)))))]))) (fun _ k => XT.lloadN X0.here hx rfl (hb hby own_d_method_2_code_46) rfl k) ?_
  refine OGoal.mp (S' := (s₁.setTop (mkF m 48 #[.val (.long p1), .second, .val (.long (own_step p1 (own_step p1 (own_step p1 (own_step p1 p1))))), .second] [(.long (own_step p1 (own_step p1 (own_step p1 (own_step p1 p1))))), (.long p1), (.long (2 : Int64)), (.long (own_step p1 (own_step p1 (own_step p1 (own_step p1 p1)))))]))) (fun _ k => XT.lloadN X0.here hx rfl (hb hby own_d_method_2_code_47) rfl k) ?_
  refine OGoal.mp (S' := (s₁.setTop (mkF m 49 #[.val (.long p1), .second, .val (.long (own_step p1 (own_step p1 (own_step p1 (own_step p1 p1))))), .second] [(.long (p1 * (own_step p1 (own_step p1 (own_step p1 (own_step p1 p1)))))), (.long (2 : Int64)), (.long (own_step p1 (own_step p1 (own_step p1 (own_step p1 p1)))))]))) (fun _ k => XT.lmul X0.here hx rfl (hb hby own_d_method_2_code_48) rfl k) ?_
  refine OGoal.mp (S' := (s₁.setTop (mkF m 50 #[.val (.long p1), .second, .val (.long (own_step p1 (own_step p1 (own_step p1 (own_step p1 p1))))), .second] [(.long ((2 : Int64) - (p1 * (own_step p1 (own_step p1 (own_step p1 (own_step p1 p1))))))), (.long (own_step p1 (own_step p1 (own_step p1 (own_step p1 p1)))))]))) (fun _ k => XT.lsub X0.here hx rfl (hb hby own_d_method_2_code_49) rfl k) ?_
  refine OGoal.mp (S' := (s₁.setTop (mkF m 51 #[.val (.long p1), .second, .val (.long (own_step p1 (own_step p1 (own_step p1 (own_step p1 p1))))), .second] [(.long (own_step p1 (own_step p1 (own_step p1 (own_step p1 (own_step p1 p1))))))]))) (fun _ k => XT.lmul X0.here hx rfl (hb hby own_d_method_2_code_50) rfl k) ?_
  refine OGoal.mp (S' := (s₁.setTop (mkF m 52 #[.val (.long p1), .second, .val (.long (own_step p1 (own_step p1 (own_step p1 (own_step p1 (own_step p1 p1)))))), .second] []))) (fun _ k => XT.lstoreN X0.here hx rfl (hb hby own_d_method_2_code_51) rfl (l' := #[.val (.long p1), .second, .val (.long (own_step p1 (own_step p1 (own_step p1 (own_step p1 (own_step p1 p1)))))), .second]) rfl k) ?_
  refine OGoal.mp (S' := (s₁.setTop (mkF m 53 #[.val (.long p1), .second, .val (.long (own_step p1 (own_step p1 (own_step p1 (own_step p1 (own_step p1 p1)))))), .second] [(.long (own_step p1 (own_step p1 (own_step p1 (own_step p1 (own_step p1 p1))))))]))) (fun _ k => XT.lloadN X0.here hx rfl (hb hby own_d_method_2_code_52) rfl k) ?_
  refine oRetJ X0 hx hlk hret (hb hby own_d_method_2_code_53) ?_ (by decide) (by decide)
  exact ⟨rfl, (Fr.nil n0), e0⟩
theorem own_d_method_3_code_0 : decode method_3_code 0 = .ok (.lload_n 0, 1) := by decide +kernel
theorem own_d_method_3_code_1 : decode method_3_code 1 = .ok (.lstore_n 2, 1) := by decide +kernel
theorem own_d_method_3_code_2 : decode method_3_code 2 = .ok (.lload_n 2, 1) := by decide +kernel
theorem own_d_method_3_code_3 : decode method_3_code 3 = .ok (.lload_n 2, 1) := by decide +kernel
theorem own_d_method_3_code_4 : decode method_3_code 4 = .ok (.bipush 31, 2) := by decide +kernel
theorem own_d_method_3_code_6 : decode method_3_code 6 = .ok (.lushr, 1) := by decide +kernel
theorem own_d_method_3_code_7 : decode method_3_code 7 = .ok (.lxor, 1) := by decide +kernel
theorem own_d_method_3_code_8 : decode method_3_code 8 = .ok (.lload_n 2, 1) := by decide +kernel
theorem own_d_method_3_code_9 : decode method_3_code 9 = .ok (.bipush 62, 2) := by decide +kernel
theorem own_d_method_3_code_11 : decode method_3_code 11 = .ok (.lushr, 1) := by decide +kernel
theorem own_d_method_3_code_12 : decode method_3_code 12 = .ok (.lxor, 1) := by decide +kernel
theorem own_d_method_3_code_13 : decode method_3_code 13 = .ok (.lstore_n 2, 1) := by decide +kernel
theorem own_d_method_3_code_14 : decode method_3_code 14 = .ok (.lload_n 2, 1) := by decide +kernel
theorem own_d_method_3_code_15 : decode method_3_code 15 = .ok (.ldc2_w 9, 3) := by decide +kernel
theorem own_d_method_3_code_18 : decode method_3_code 18 = .ok (.invokestatic 11, 3) := by decide +kernel
theorem own_pd__J_J : parseMethodDescriptor "(J)J" = some ⟨[.long], some .long⟩ := by decide +kernel
theorem own_d_method_3_code_21 : decode method_3_code 21 = .ok (.lmul, 1) := by decide +kernel
theorem own_d_method_3_code_22 : decode method_3_code 22 = .ok (.lstore_n 2, 1) := by decide +kernel
theorem own_d_method_3_code_23 : decode method_3_code 23 = .ok (.lload_n 2, 1) := by decide +kernel
theorem own_d_method_3_code_24 : decode method_3_code 24 = .ok (.lload_n 2, 1) := by decide +kernel
theorem own_d_method_3_code_25 : decode method_3_code 25 = .ok (.bipush 27, 2) := by decide +kernel
theorem own_d_method_3_code_27 : decode method_3_code 27 = .ok (.lushr, 1) := by decide +kernel
theorem own_d_method_3_code_28 : decode method_3_code 28 = .ok (.lxor, 1) := by decide +kernel
theorem own_d_method_3_code_29 : decode method_3_code 29 = .ok (.lload_n 2, 1) := by decide +kernel
theorem own_d_method_3_code_30 : decode method_3_code 30 = .ok (.bipush 54, 2) := by decide +kernel
theorem own_d_method_3_code_32 : decode method_3_code 32 = .ok (.lushr, 1) := by decide +kernel
theorem own_d_method_3_code_33 : decode method_3_code 33 = .ok (.lxor, 1) := by decide +kernel
theorem own_d_method_3_code_34 : decode method_3_code 34 = .ok (.lstore_n 2, 1) := by decide +kernel
theorem own_d_method_3_code_35 : decode method_3_code 35 = .ok (.lload_n 2, 1) := by decide +kernel
theorem own_d_method_3_code_36 : decode method_3_code 36 = .ok (.ldc2_w 17, 3) := by decide +kernel
theorem own_d_method_3_code_39 : decode method_3_code 39 = .ok (.invokestatic 11, 3) := by decide +kernel
theorem own_d_method_3_code_42 : decode method_3_code 42 = .ok (.lmul, 1) := by decide +kernel
theorem own_d_method_3_code_43 : decode method_3_code 43 = .ok (.lstore_n 2, 1) := by decide +kernel
theorem own_d_method_3_code_44 : decode method_3_code 44 = .ok (.lload_n 2, 1) := by decide +kernel
theorem own_d_method_3_code_45 : decode method_3_code 45 = .ok (.lload_n 2, 1) := by decide +kernel
theorem own_d_method_3_code_46 : decode method_3_code 46 = .ok (.bipush 30, 2) := by decide +kernel
theorem own_d_method_3_code_48 : decode method_3_code 48 = .ok (.lushr, 1) := by decide +kernel
theorem own_d_method_3_code_49 : decode method_3_code 49 = .ok (.lxor, 1) := by decide +kernel
theorem own_d_method_3_code_50 : decode method_3_code 50 = .ok (.lload_n 2, 1) := by decide +kernel
theorem own_d_method_3_code_51 : decode method_3_code 51 = .ok (.bipush 60, 2) := by decide +kernel
theorem own_d_method_3_code_53 : decode method_3_code 53 = .ok (.lushr, 1) := by decide +kernel
theorem own_d_method_3_code_54 : decode method_3_code 54 = .ok (.lxor, 1) := by decide +kernel
theorem own_d_method_3_code_55 : decode method_3_code 55 = .ok (.lstore_n 2, 1) := by decide +kernel
theorem own_d_method_3_code_56 : decode method_3_code 56 = .ok (.lload_n 2, 1) := by decide +kernel
theorem own_d_method_3_code_57 : decode method_3_code 57 = .ok (.lreturn, 1) := by decide +kernel
theorem own_ef_rmU (x0 : Int64) (m : MethodId) : entryFrame m #[(.long x0)] 4 = mkF m 0 #[.val (.long x0), .second, .unset, .unset] [] := by first | (simp [entryFrame, mkF, argsToLocals, Value.category]; done) | rfl
set_option maxRecDepth 65536 in
set_option maxHeartbeats 40000000 in
theorem rmU (l : Launch) (Z : State) (a0 : Array Value) (hw : ∀ d ∈ tables_1, d.before a0 Z = true) (p1 : Int64) (h0 : Heap) (n0 : Nat) (Z0 : n0 ≤ h0.size)  :
    OCon l Z (⟨"com/example/haggle/haggle/random/SplitMix64NextLongPinLaw", "unmix", "(J)J"⟩ : MethodName) method_3_code 4 (some .long) ({ frames := 1, cells := 0, slots := 0, locals := 17 } : Room) #[(.long p1)] h0 (fun v h L => v = some (.long (own_unmix p1)) ∧ Fr n0 L ∧ h = h0) := by
  refine OConK.intro (y := (⟨"com/example/haggle/haggle/random/SplitMix64NextLongPinLaw", "unmix", "(J)J"⟩ : MethodName)) (plainFor_of_name own_pn_com_example_haggle_haggle_random_SplitMix64NextLongPinLaw) (own_ef_rmU p1) ?_
  intro p e s m below meth c s₁ hx hby hml hown hnm hret hlk hZ X0 e0
  show OGoal p e below s _ _ _ (s₁.setTop (mkF m 0 #[.val (.long p1), .second, .unset, .unset] []))
  refine OGoal.mp (S' := (s₁.setTop (mkF m 1 #[.val (.long p1), .second, .unset, .unset] [(.long p1)]))) (fun _ k => XT.lloadN X0.here hx rfl (hb hby own_d_method_3_code_0) rfl k) ?_
  refine OGoal.mp (S' := (s₁.setTop (mkF m 2 #[.val (.long p1), .second, .val (.long p1), .second] []))) (fun _ k => XT.lstoreN X0.here hx rfl (hb hby own_d_method_3_code_1) rfl (l' := #[.val (.long p1), .second, .val (.long p1), .second]) rfl k) ?_
  refine OGoal.mp (S' := (s₁.setTop (mkF m 3 #[.val (.long p1), .second, .val (.long p1), .second] [(.long p1)]))) (fun _ k => XT.lloadN X0.here hx rfl (hb hby own_d_method_3_code_2) rfl k) ?_
  refine OGoal.mp (S' := (s₁.setTop (mkF m 4 #[.val (.long p1), .second, .val (.long p1), .second] [(.long p1), (.long p1)]))) (fun _ k => XT.lloadN X0.here hx rfl (hb hby own_d_method_3_code_3) rfl k) ?_
  refine OGoal.mp (S' := (s₁.setTop (mkF m 6 #[.val (.long p1), .second, .val (.long p1), .second] [(.int (31 : Int32)), (.long p1), (.long p1)]))) (fun _ k => XS.bipush X0.here hx rfl (hb hby own_d_method_3_code_4) k) ?_
  refine OGoal.mp (S' := (s₁.setTop (mkF m 7 #[.val (.long p1), .second, .val (.long p1), .second] [(.long (XT.ushrL p1 (31 : Int32))), (.long p1)]))) (fun _ k => XT.lushr X0.here hx rfl (hb hby own_d_method_3_code_6) rfl k) ?_
  refine OGoal.mp (S' := (s₁.setTop (mkF m 8 #[.val (.long p1), .second, .val (.long p1), .second] [(.long (p1 ^^^ (XT.ushrL p1 (31 : Int32))))]))) (fun _ k => XT.lxor X0.here hx rfl (hb hby own_d_method_3_code_7) rfl k) ?_
  refine OGoal.mp (S' := (s₁.setTop (mkF m 9 #[.val (.long p1), .second, .val (.long p1), .second] [(.long p1), (.long (p1 ^^^ (XT.ushrL p1 (31 : Int32))))]))) (fun _ k => XT.lloadN X0.here hx rfl (hb hby own_d_method_3_code_8) rfl k) ?_
  refine OGoal.mp (S' := (s₁.setTop (mkF m 11 #[.val (.long p1), .second, .val (.long p1), .second] [(.int (62 : Int32)), (.long p1), (.long (p1 ^^^ (XT.ushrL p1 (31 : Int32))))]))) (fun _ k => XS.bipush X0.here hx rfl (hb hby own_d_method_3_code_9) k) ?_
  refine OGoal.mp (S' := (s₁.setTop (mkF m 12 #[.val (.long p1), .second, .val (.long p1), .second] [(.long (XT.ushrL p1 (62 : Int32))), (.long (p1 ^^^ (XT.ushrL p1 (31 : Int32))))]))) (fun _ k => XT.lushr X0.here hx rfl (hb hby own_d_method_3_code_11) rfl k) ?_
  refine OGoal.mp (S' := (s₁.setTop (mkF m 13 #[.val (.long p1), .second, .val (.long p1), .second] [(.long (own_y 31 62 p1))]))) (fun _ k => XT.lxor X0.here hx rfl (hb hby own_d_method_3_code_12) rfl k) ?_
  refine OGoal.mp (S' := (s₁.setTop (mkF m 14 #[.val (.long p1), .second, .val (.long (own_y 31 62 p1)), .second] []))) (fun _ k => XT.lstoreN X0.here hx rfl (hb hby own_d_method_3_code_13) rfl (l' := #[.val (.long p1), .second, .val (.long (own_y 31 62 p1)), .second]) rfl k) ?_
  refine OGoal.mp (S' := (s₁.setTop (mkF m 15 #[.val (.long p1), .second, .val (.long (own_y 31 62 p1)), .second] [(.long (own_y 31 62 p1))]))) (fun _ k => XT.lloadN X0.here hx rfl (hb hby own_d_method_3_code_14) rfl k) ?_
  refine OGoal.mp (S' := (s₁.setTop (mkF m 18 #[.val (.long p1), .second, .val (.long (own_y 31 62 p1)), .second] [(.long (-7723592293110705685 : Int64)), (.long (own_y 31 62 p1))]))) (fun _ k => Stand.ldc2J X0 hx hown (mvT hZ (hw _ (List.mem_of_getElem? (i := 25) rfl))) rfl (hb hby own_d_method_3_code_15) k) ?_
  refine oCallS (y := (⟨"com/example/haggle/haggle/random/SplitMix64NextLongPinLaw", "inverse", "(J)J"⟩ : MethodName)) X0 hx hZ hown (hw _ (List.mem_of_getElem? (i := 20) rfl)) (hw _ (List.mem_of_getElem? (i := 21) rfl)) (hw _ (List.mem_of_getElem? (i := 22) rfl)) (hw _ (List.mem_of_getElem? (i := 23) rfl)) (by decide) (rmV l Z a0 hw (-7723592293110705685 : Int64) h0 n0 Z0) e0 [(.long (-7723592293110705685 : Int64))] [(.long (own_y 31 62 p1))] rfl rfl (by rw [hml]; rfl) (lenOf own_pd__J_J rfl) 2 (Nat.le_of_eq rfl) (by decide) (by decide) (by decide) (by decide) (hb hby own_d_method_3_code_18) ?_
  intro v1 T2 L3 X4 q5
  obtain ⟨rfl, N6, e7⟩ := q5
  have N8 := Fr.app (Fr.nil n0) N6
  show OGoal p e below s _ _ _ (T2.setTop (mkF m 21 #[.val (.long p1), .second, .val (.long (own_y 31 62 p1)), .second] [(.long (own_inv (-7723592293110705685 : Int64))), (.long (own_y 31 62 p1))]))
  refine OGoal.mp (S' := (T2.setTop (mkF m 22 #[.val (.long p1), .second, .val (.long (own_y 31 62 p1)), .second] [(.long ((own_y 31 62 p1) * (own_inv (-7723592293110705685 : Int64))))]))) (fun _ k => XT.lmul X4.here hx rfl (hb hby own_d_method_3_code_21) rfl k) ?_
  refine OGoal.mp (S' := (T2.setTop (mkF m 23 #[.val (.long p1), .second, .val (.long ((own_y 31 62 p1) * (own_inv (-7723592293110705685 : Int64)))), .second] []))) (fun _ k => XT.lstoreN X4.here hx rfl (hb hby own_d_method_3_code_22) rfl (l' := #[.val (.long p1), .second, .val (.long ((own_y 31 62 p1) * (own_inv (-7723592293110705685 : Int64)))), .second]) rfl k) ?_
  refine OGoal.mp (S' := (T2.setTop (mkF m 24 #[.val (.long p1), .second, .val (.long ((own_y 31 62 p1) * (own_inv (-7723592293110705685 : Int64)))), .second] [(.long ((own_y 31 62 p1) * (own_inv (-7723592293110705685 : Int64))))]))) (fun _ k => XT.lloadN X4.here hx rfl (hb hby own_d_method_3_code_23) rfl k) ?_
  refine OGoal.mp (S' := (T2.setTop (mkF m 25 #[.val (.long p1), .second, .val (.long ((own_y 31 62 p1) * (own_inv (-7723592293110705685 : Int64)))), .second] [(.long ((own_y 31 62 p1) * (own_inv (-7723592293110705685 : Int64)))), (.long ((own_y 31 62 p1) * (own_inv (-7723592293110705685 : Int64))))]))) (fun _ k => XT.lloadN X4.here hx rfl (hb hby own_d_method_3_code_24) rfl k) ?_
  refine OGoal.mp (S' := (T2.setTop (mkF m 27 #[.val (.long p1), .second, .val (.long ((own_y 31 62 p1) * (own_inv (-7723592293110705685 : Int64)))), .second] [(.int (27 : Int32)), (.long ((own_y 31 62 p1) * (own_inv (-7723592293110705685 : Int64)))), (.long ((own_y 31 62 p1) * (own_inv (-7723592293110705685 : Int64))))]))) (fun _ k => XS.bipush X4.here hx rfl (hb hby own_d_method_3_code_25) k) ?_
  refine OGoal.mp (S' := (T2.setTop (mkF m 28 #[.val (.long p1), .second, .val (.long ((own_y 31 62 p1) * (own_inv (-7723592293110705685 : Int64)))), .second] [(.long (XT.ushrL ((own_y 31 62 p1) * (own_inv (-7723592293110705685 : Int64))) (27 : Int32))), (.long ((own_y 31 62 p1) * (own_inv (-7723592293110705685 : Int64))))]))) (fun _ k => XT.lushr X4.here hx rfl (hb hby own_d_method_3_code_27) rfl k) ?_
  refine OGoal.mp (S' := (T2.setTop (mkF m 29 #[.val (.long p1), .second, .val (.long ((own_y 31 62 p1) * (own_inv (-7723592293110705685 : Int64)))), .second] [(.long (((own_y 31 62 p1) * (own_inv (-7723592293110705685 : Int64))) ^^^ (XT.ushrL ((own_y 31 62 p1) * (own_inv (-7723592293110705685 : Int64))) (27 : Int32))))]))) (fun _ k => XT.lxor X4.here hx rfl (hb hby own_d_method_3_code_28) rfl k) ?_
  refine OGoal.mp (S' := (T2.setTop (mkF m 30 #[.val (.long p1), .second, .val (.long ((own_y 31 62 p1) * (own_inv (-7723592293110705685 : Int64)))), .second] [(.long ((own_y 31 62 p1) * (own_inv (-7723592293110705685 : Int64)))), (.long (((own_y 31 62 p1) * (own_inv (-7723592293110705685 : Int64))) ^^^ (XT.ushrL ((own_y 31 62 p1) * (own_inv (-7723592293110705685 : Int64))) (27 : Int32))))]))) (fun _ k => XT.lloadN X4.here hx rfl (hb hby own_d_method_3_code_29) rfl k) ?_
  refine OGoal.mp (S' := (T2.setTop (mkF m 32 #[.val (.long p1), .second, .val (.long ((own_y 31 62 p1) * (own_inv (-7723592293110705685 : Int64)))), .second] [(.int (54 : Int32)), (.long ((own_y 31 62 p1) * (own_inv (-7723592293110705685 : Int64)))), (.long (((own_y 31 62 p1) * (own_inv (-7723592293110705685 : Int64))) ^^^ (XT.ushrL ((own_y 31 62 p1) * (own_inv (-7723592293110705685 : Int64))) (27 : Int32))))]))) (fun _ k => XS.bipush X4.here hx rfl (hb hby own_d_method_3_code_30) k) ?_
  refine OGoal.mp (S' := (T2.setTop (mkF m 33 #[.val (.long p1), .second, .val (.long ((own_y 31 62 p1) * (own_inv (-7723592293110705685 : Int64)))), .second] [(.long (XT.ushrL ((own_y 31 62 p1) * (own_inv (-7723592293110705685 : Int64))) (54 : Int32))), (.long (((own_y 31 62 p1) * (own_inv (-7723592293110705685 : Int64))) ^^^ (XT.ushrL ((own_y 31 62 p1) * (own_inv (-7723592293110705685 : Int64))) (27 : Int32))))]))) (fun _ k => XT.lushr X4.here hx rfl (hb hby own_d_method_3_code_32) rfl k) ?_
  refine OGoal.mp (S' := (T2.setTop (mkF m 34 #[.val (.long p1), .second, .val (.long ((own_y 31 62 p1) * (own_inv (-7723592293110705685 : Int64)))), .second] [(.long (own_y 27 54 ((own_y 31 62 p1) * (own_inv (-7723592293110705685 : Int64)))))]))) (fun _ k => XT.lxor X4.here hx rfl (hb hby own_d_method_3_code_33) rfl k) ?_
  refine OGoal.mp (S' := (T2.setTop (mkF m 35 #[.val (.long p1), .second, .val (.long (own_y 27 54 ((own_y 31 62 p1) * (own_inv (-7723592293110705685 : Int64))))), .second] []))) (fun _ k => XT.lstoreN X4.here hx rfl (hb hby own_d_method_3_code_34) rfl (l' := #[.val (.long p1), .second, .val (.long (own_y 27 54 ((own_y 31 62 p1) * (own_inv (-7723592293110705685 : Int64))))), .second]) rfl k) ?_
  refine OGoal.mp (S' := (T2.setTop (mkF m 36 #[.val (.long p1), .second, .val (.long (own_y 27 54 ((own_y 31 62 p1) * (own_inv (-7723592293110705685 : Int64))))), .second] [(.long (own_y 27 54 ((own_y 31 62 p1) * (own_inv (-7723592293110705685 : Int64)))))]))) (fun _ k => XT.lloadN X4.here hx rfl (hb hby own_d_method_3_code_35) rfl k) ?_
  refine OGoal.mp (S' := (T2.setTop (mkF m 39 #[.val (.long p1), .second, .val (.long (own_y 27 54 ((own_y 31 62 p1) * (own_inv (-7723592293110705685 : Int64))))), .second] [(.long (-4658895280553007687 : Int64)), (.long (own_y 27 54 ((own_y 31 62 p1) * (own_inv (-7723592293110705685 : Int64)))))]))) (fun _ k => Stand.ldc2J X4 hx hown (mvT hZ (hw _ (List.mem_of_getElem? (i := 19) rfl))) rfl (hb hby own_d_method_3_code_36) k) ?_
  refine oCallS (y := (⟨"com/example/haggle/haggle/random/SplitMix64NextLongPinLaw", "inverse", "(J)J"⟩ : MethodName)) X4 hx hZ hown (hw _ (List.mem_of_getElem? (i := 20) rfl)) (hw _ (List.mem_of_getElem? (i := 21) rfl)) (hw _ (List.mem_of_getElem? (i := 22) rfl)) (hw _ (List.mem_of_getElem? (i := 23) rfl)) (by decide) (rmV l Z a0 hw (-4658895280553007687 : Int64) h0 n0 Z0) e7 [(.long (-4658895280553007687 : Int64))] [(.long (own_y 27 54 ((own_y 31 62 p1) * (own_inv (-7723592293110705685 : Int64)))))] rfl rfl (by rw [hml]; rfl) (lenOf own_pd__J_J rfl) 2 (Nat.le_of_eq rfl) (by decide) (by decide) (by decide) (by decide) (hb hby own_d_method_3_code_39) ?_
  intro v9 T10 L11 X12 q13
  obtain ⟨rfl, N14, e15⟩ := q13
  have N16 := Fr.app N8 N14
  show OGoal p e below s _ _ _ (T10.setTop (mkF m 42 #[.val (.long p1), .second, .val (.long (own_y 27 54 ((own_y 31 62 p1) * (own_inv (-7723592293110705685 : Int64))))), .second] [(.long (own_inv (-4658895280553007687 : Int64))), (.long (own_y 27 54 ((own_y 31 62 p1) * (own_inv (-7723592293110705685 : Int64)))))]))
  refine OGoal.mp (S' := (T10.setTop (mkF m 43 #[.val (.long p1), .second, .val (.long (own_y 27 54 ((own_y 31 62 p1) * (own_inv (-7723592293110705685 : Int64))))), .second] [(.long ((own_y 27 54 ((own_y 31 62 p1) * (own_inv (-7723592293110705685 : Int64)))) * (own_inv (-4658895280553007687 : Int64))))]))) (fun _ k => XT.lmul X12.here hx rfl (hb hby own_d_method_3_code_42) rfl k) ?_
  refine OGoal.mp (S' := (T10.setTop (mkF m 44 #[.val (.long p1), .second, .val (.long ((own_y 27 54 ((own_y 31 62 p1) * (own_inv (-7723592293110705685 : Int64)))) * (own_inv (-4658895280553007687 : Int64)))), .second] []))) (fun _ k => XT.lstoreN X12.here hx rfl (hb hby own_d_method_3_code_43) rfl (l' := #[.val (.long p1), .second, .val (.long ((own_y 27 54 ((own_y 31 62 p1) * (own_inv (-7723592293110705685 : Int64)))) * (own_inv (-4658895280553007687 : Int64)))), .second]) rfl k) ?_
  refine OGoal.mp (S' := (T10.setTop (mkF m 45 #[.val (.long p1), .second, .val (.long ((own_y 27 54 ((own_y 31 62 p1) * (own_inv (-7723592293110705685 : Int64)))) * (own_inv (-4658895280553007687 : Int64)))), .second] [(.long ((own_y 27 54 ((own_y 31 62 p1) * (own_inv (-7723592293110705685 : Int64)))) * (own_inv (-4658895280553007687 : Int64))))]))) (fun _ k => XT.lloadN X12.here hx rfl (hb hby own_d_method_3_code_44) rfl k) ?_
  refine OGoal.mp (S' := (T10.setTop (mkF m 46 #[.val (.long p1), .second, .val (.long ((own_y 27 54 ((own_y 31 62 p1) * (own_inv (-7723592293110705685 : Int64)))) * (own_inv (-4658895280553007687 : Int64)))), .second] [(.long ((own_y 27 54 ((own_y 31 62 p1) * (own_inv (-7723592293110705685 : Int64)))) * (own_inv (-4658895280553007687 : Int64)))), (.long ((own_y 27 54 ((own_y 31 62 p1) * (own_inv (-7723592293110705685 : Int64)))) * (own_inv (-4658895280553007687 : Int64))))]))) (fun _ k => XT.lloadN X12.here hx rfl (hb hby own_d_method_3_code_45) rfl k) ?_
  refine OGoal.mp (S' := (T10.setTop (mkF m 48 #[.val (.long p1), .second, .val (.long ((own_y 27 54 ((own_y 31 62 p1) * (own_inv (-7723592293110705685 : Int64)))) * (own_inv (-4658895280553007687 : Int64)))), .second] [(.int (30 : Int32)), (.long ((own_y 27 54 ((own_y 31 62 p1) * (own_inv (-7723592293110705685 : Int64)))) * (own_inv (-4658895280553007687 : Int64)))), (.long ((own_y 27 54 ((own_y 31 62 p1) * (own_inv (-7723592293110705685 : Int64)))) * (own_inv (-4658895280553007687 : Int64))))]))) (fun _ k => XS.bipush X12.here hx rfl (hb hby own_d_method_3_code_46) k) ?_
  refine OGoal.mp (S' := (T10.setTop (mkF m 49 #[.val (.long p1), .second, .val (.long ((own_y 27 54 ((own_y 31 62 p1) * (own_inv (-7723592293110705685 : Int64)))) * (own_inv (-4658895280553007687 : Int64)))), .second] [(.long (XT.ushrL ((own_y 27 54 ((own_y 31 62 p1) * (own_inv (-7723592293110705685 : Int64)))) * (own_inv (-4658895280553007687 : Int64))) (30 : Int32))), (.long ((own_y 27 54 ((own_y 31 62 p1) * (own_inv (-7723592293110705685 : Int64)))) * (own_inv (-4658895280553007687 : Int64))))]))) (fun _ k => XT.lushr X12.here hx rfl (hb hby own_d_method_3_code_48) rfl k) ?_
  refine OGoal.mp (S' := (T10.setTop (mkF m 50 #[.val (.long p1), .second, .val (.long ((own_y 27 54 ((own_y 31 62 p1) * (own_inv (-7723592293110705685 : Int64)))) * (own_inv (-4658895280553007687 : Int64)))), .second] [(.long (((own_y 27 54 ((own_y 31 62 p1) * (own_inv (-7723592293110705685 : Int64)))) * (own_inv (-4658895280553007687 : Int64))) ^^^ (XT.ushrL ((own_y 27 54 ((own_y 31 62 p1) * (own_inv (-7723592293110705685 : Int64)))) * (own_inv (-4658895280553007687 : Int64))) (30 : Int32))))]))) (fun _ k => XT.lxor X12.here hx rfl (hb hby own_d_method_3_code_49) rfl k) ?_
  refine OGoal.mp (S' := (T10.setTop (mkF m 51 #[.val (.long p1), .second, .val (.long ((own_y 27 54 ((own_y 31 62 p1) * (own_inv (-7723592293110705685 : Int64)))) * (own_inv (-4658895280553007687 : Int64)))), .second] [(.long ((own_y 27 54 ((own_y 31 62 p1) * (own_inv (-7723592293110705685 : Int64)))) * (own_inv (-4658895280553007687 : Int64)))), (.long (((own_y 27 54 ((own_y 31 62 p1) * (own_inv (-7723592293110705685 : Int64)))) * (own_inv (-4658895280553007687 : Int64))) ^^^ (XT.ushrL ((own_y 27 54 ((own_y 31 62 p1) * (own_inv (-7723592293110705685 : Int64)))) * (own_inv (-4658895280553007687 : Int64))) (30 : Int32))))]))) (fun _ k => XT.lloadN X12.here hx rfl (hb hby own_d_method_3_code_50) rfl k) ?_
  refine OGoal.mp (S' := (T10.setTop (mkF m 53 #[.val (.long p1), .second, .val (.long ((own_y 27 54 ((own_y 31 62 p1) * (own_inv (-7723592293110705685 : Int64)))) * (own_inv (-4658895280553007687 : Int64)))), .second] [(.int (60 : Int32)), (.long ((own_y 27 54 ((own_y 31 62 p1) * (own_inv (-7723592293110705685 : Int64)))) * (own_inv (-4658895280553007687 : Int64)))), (.long (((own_y 27 54 ((own_y 31 62 p1) * (own_inv (-7723592293110705685 : Int64)))) * (own_inv (-4658895280553007687 : Int64))) ^^^ (XT.ushrL ((own_y 27 54 ((own_y 31 62 p1) * (own_inv (-7723592293110705685 : Int64)))) * (own_inv (-4658895280553007687 : Int64))) (30 : Int32))))]))) (fun _ k => XS.bipush X12.here hx rfl (hb hby own_d_method_3_code_51) k) ?_
  refine OGoal.mp (S' := (T10.setTop (mkF m 54 #[.val (.long p1), .second, .val (.long ((own_y 27 54 ((own_y 31 62 p1) * (own_inv (-7723592293110705685 : Int64)))) * (own_inv (-4658895280553007687 : Int64)))), .second] [(.long (XT.ushrL ((own_y 27 54 ((own_y 31 62 p1) * (own_inv (-7723592293110705685 : Int64)))) * (own_inv (-4658895280553007687 : Int64))) (60 : Int32))), (.long (((own_y 27 54 ((own_y 31 62 p1) * (own_inv (-7723592293110705685 : Int64)))) * (own_inv (-4658895280553007687 : Int64))) ^^^ (XT.ushrL ((own_y 27 54 ((own_y 31 62 p1) * (own_inv (-7723592293110705685 : Int64)))) * (own_inv (-4658895280553007687 : Int64))) (30 : Int32))))]))) (fun _ k => XT.lushr X12.here hx rfl (hb hby own_d_method_3_code_53) rfl k) ?_
  refine OGoal.mp (S' := (T10.setTop (mkF m 55 #[.val (.long p1), .second, .val (.long ((own_y 27 54 ((own_y 31 62 p1) * (own_inv (-7723592293110705685 : Int64)))) * (own_inv (-4658895280553007687 : Int64)))), .second] [(.long (own_y 30 60 ((own_y 27 54 ((own_y 31 62 p1) * (own_inv (-7723592293110705685 : Int64)))) * (own_inv (-4658895280553007687 : Int64)))))]))) (fun _ k => XT.lxor X12.here hx rfl (hb hby own_d_method_3_code_54) rfl k) ?_
  refine OGoal.mp (S' := (T10.setTop (mkF m 56 #[.val (.long p1), .second, .val (.long (own_y 30 60 ((own_y 27 54 ((own_y 31 62 p1) * (own_inv (-7723592293110705685 : Int64)))) * (own_inv (-4658895280553007687 : Int64))))), .second] []))) (fun _ k => XT.lstoreN X12.here hx rfl (hb hby own_d_method_3_code_55) rfl (l' := #[.val (.long p1), .second, .val (.long (own_y 30 60 ((own_y 27 54 ((own_y 31 62 p1) * (own_inv (-7723592293110705685 : Int64)))) * (own_inv (-4658895280553007687 : Int64))))), .second]) rfl k) ?_
  refine OGoal.mp (S' := (T10.setTop (mkF m 57 #[.val (.long p1), .second, .val (.long (own_y 30 60 ((own_y 27 54 ((own_y 31 62 p1) * (own_inv (-7723592293110705685 : Int64)))) * (own_inv (-4658895280553007687 : Int64))))), .second] [(.long (own_y 30 60 ((own_y 27 54 ((own_y 31 62 p1) * (own_inv (-7723592293110705685 : Int64)))) * (own_inv (-4658895280553007687 : Int64)))))]))) (fun _ k => XT.lloadN X12.here hx rfl (hb hby own_d_method_3_code_56) rfl k) ?_
  refine oRetJ X12 hx hlk hret (hb hby own_d_method_3_code_57) ?_ (by decide) (by decide)
  exact ⟨rfl, N16, e15⟩
theorem own_pd__J_V : parseMethodDescriptor "(J)V" = some ⟨[.long], none⟩ := by decide +kernel
theorem own_pd___J : parseMethodDescriptor "()J" = some ⟨[], some .long⟩ := by decide +kernel
theorem own_ef_rm0 (x0 : Int64) (m : MethodId) : entryFrame m #[(.long x0)] maxLocals = mkF m 0 #[.val (.long x0), .second, .unset, .unset, .unset, .unset, .unset, .unset] [] := by first | (simp [entryFrame, mkF, argsToLocals, Value.category, maxLocals]; done) | rfl
set_option maxRecDepth 65536 in
set_option maxHeartbeats 40000000 in
theorem rm0 (l : Launch) (Z : State) (a0 : Array Value) (hw : ∀ d ∈ tables_1, d.before a0 Z = true) (p1 : Int64) (h0 : Heap) (n0 : Nat) (Z0 : n0 ≤ h0.size)  :
    OConK l Z x code maxLocals ret room_1 16 128 #[(.long p1)] h0 (fun v h L => v = some (.int 1) ∧ Fr n0 L) := by
  refine OConK.intro (y := x) (plainFor_of_name own_pn_com_example_haggle_haggle_random_SplitMix64NextLongPinLaw) (own_ef_rm0 p1) ?_
  intro p e s m below meth c s₁ hx hby hml hown hnm hret hlk hZ X0 e0
  show OGoal p e below s _ _ _ (s₁.setTop (mkF m 0 #[.val (.long p1), .second, .unset, .unset, .unset, .unset, .unset, .unset] []))
  obtain ⟨T1, h5, X2, e3, E6, A7, D8, -, st4⟩ := newO X0 hx hZ hown (hw _ (List.mem_of_getElem? (i := 0) rfl)) (hw _ (List.mem_of_getElem? (i := 1) rfl)) (hw _ (List.mem_of_getElem? (i := 2) rfl)) e0 (g := mkF m 0 #[.val (.long p1), .second, .unset, .unset, .unset, .unset, .unset, .unset] []) rfl (hb hby at_0) (by decide) (by decide)
  obtain ⟨a9, g10⟩ : ∃ z, z = h0.size := ⟨_, rfl⟩
  rw [← g10] at A7 D8 st4
  have F11 : Fld Z h5 a9 "com/example/haggle/haggle/random/SplitMix64" "state" "J" (.long (0 : Int64)) := D8 (Or.inl (hw _ (List.mem_of_getElem? (i := 10) rfl))) (ty := .long) (by decide)
  have Z12 : n0 ≤ h5.size := Nat.le_trans Z0 E6.1
  have ab13 : n0 ≤ a9 := Nat.le_trans Z0 (Nat.le_of_eq g10.symm)
  refine OGoal.mp (S' := (T1.setTop (mkF m 3 #[.val (.long p1), .second, .unset, .unset, .unset, .unset, .unset, .unset] [(.ref a9)]))) (fun _ k => st4 _ k) ?_
  refine OGoal.mp (S' := (T1.setTop (mkF m 4 #[.val (.long p1), .second, .unset, .unset, .unset, .unset, .unset, .unset] [(.ref a9), (.ref a9)]))) (fun _ k => XS.dup X2.here hx rfl (hb hby at_3) rfl rfl k) ?_
  refine OGoal.mp (S' := (T1.setTop (mkF m 5 #[.val (.long p1), .second, .unset, .unset, .unset, .unset, .unset, .unset] [(.long p1), (.ref a9), (.ref a9)]))) (fun _ k => XT.lloadN X2.here hx rfl (hb hby at_4) rfl k) ?_
  refine oCallN (y := (⟨"com/example/haggle/haggle/random/SplitMix64", "<init>", "(J)V"⟩ : MethodName)) X2 hx hZ rfl hown (hw _ (List.mem_of_getElem? (i := 3) rfl)) (hw _ (List.mem_of_getElem? (i := 4) rfl)) (hw _ (List.mem_of_getElem? (i := 2) rfl)) (hw _ (List.mem_of_getElem? (i := 5) rfl)) (by decide) (rmI l Z a0 hw a9 p1 h5 n0 Z12 _ A7 F11 ab13) e3 [(.long p1)] [(.ref a9)] rfl rfl (by rw [hml]; rfl) (lenOf own_pd__J_V rfl) 1 (Nat.le_of_eq rfl) (by decide) (by decide) (by decide) (by decide) (hb hby at_5) ?_
  intro v14 T15 L16 X17 q18
  obtain ⟨rfl, N19, E20, F21⟩ := q18
  have N22 := Fr.app (Fr.nil n0) N19
  have Z23 : n0 ≤ T15.heap.size := Nat.le_trans ab13 (Nat.le_of_lt E20.lt)
  show OGoal p e below s _ _ _ (T15.setTop (mkF m 8 #[.val (.long p1), .second, .unset, .unset, .unset, .unset, .unset, .unset] [(.ref a9)]))
  refine OGoal.mp (S' := (T15.setTop (mkF m 9 #[.val (.long p1), .second, .val (.ref a9), .unset, .unset, .unset, .unset, .unset] []))) (fun _ k => XS.astoreN X17.here hx rfl (hb hby at_8) rfl rfl (l' := #[.val (.long p1), .second, .val (.ref a9), .unset, .unset, .unset, .unset, .unset]) rfl k) ?_
  refine OGoal.mp (S' := (T15.setTop (mkF m 10 #[.val (.long p1), .second, .val (.ref a9), .unset, .unset, .unset, .unset, .unset] [(.ref a9)]))) (fun _ k => XS.aloadN X17.here hx rfl (hb hby at_9) rfl rfl k) ?_
  refine oCallV (y := (⟨"com/example/haggle/haggle/random/SplitMix64", "nextLong", "()J"⟩ : MethodName)) (z := (⟨"com/example/haggle/haggle/random/SplitMix64", "nextLong", "()J"⟩ : MethodName)) X17 hx hZ hown (hw _ (List.mem_of_getElem? (i := 11) rfl)) (hw _ (List.mem_of_getElem? (i := 12) rfl)) (hw _ (List.mem_of_getElem? (i := 14) rfl)) (hw _ (List.mem_of_getElem? (i := 13) rfl)) (hw _ (List.mem_of_getElem? (i := 2) rfl)) (hw _ (List.mem_of_getElem? (i := 15) rfl)) (by decide) (rmN l Z a0 hw a9 p1 T15.heap n0 Z23 E20 F21 ab13) rfl E20 [] [] rfl rfl (by rw [hml]; rfl) (notFace_of_selects (args := #[]) (mvT hZ (hw _ (List.mem_of_getElem? (i := 14) rfl)))) (lenOf own_pd___J rfl) 0 (Nat.le_of_eq rfl) (by decide) (by decide) (by decide) (by decide) (hb hby at_10) ?_
  intro v24 T25 L26 X27 q28
  obtain ⟨rfl, N29, E30, F31⟩ := q28
  have N32 := Fr.app N22 N29
  have Z33 : n0 ≤ T25.heap.size := Nat.le_trans ab13 (Nat.le_of_lt E30.lt)
  show OGoal p e below s _ _ _ (T25.setTop (mkF m 13 #[.val (.long p1), .second, .val (.ref a9), .unset, .unset, .unset, .unset, .unset] [(.long (own_mix (p1 + (-7046029254386353131 : Int64))))]))
  refine OGoal.mp (S' := (T25.setTop (mkF m 14 #[.val (.long p1), .second, .val (.ref a9), .val (.long (own_mix (p1 + (-7046029254386353131 : Int64)))), .second, .unset, .unset, .unset] []))) (fun _ k => XT.lstoreN X27.here hx rfl (hb hby at_13) rfl (l' := #[.val (.long p1), .second, .val (.ref a9), .val (.long (own_mix (p1 + (-7046029254386353131 : Int64)))), .second, .unset, .unset, .unset]) rfl k) ?_
  refine OGoal.mp (S' := (T25.setTop (mkF m 15 #[.val (.long p1), .second, .val (.ref a9), .val (.long (own_mix (p1 + (-7046029254386353131 : Int64)))), .second, .unset, .unset, .unset] [(.ref a9)]))) (fun _ k => XS.aloadN X27.here hx rfl (hb hby at_14) rfl rfl k) ?_
  refine oCallV (y := (⟨"com/example/haggle/haggle/random/SplitMix64", "nextLong", "()J"⟩ : MethodName)) (z := (⟨"com/example/haggle/haggle/random/SplitMix64", "nextLong", "()J"⟩ : MethodName)) X27 hx hZ hown (hw _ (List.mem_of_getElem? (i := 11) rfl)) (hw _ (List.mem_of_getElem? (i := 12) rfl)) (hw _ (List.mem_of_getElem? (i := 14) rfl)) (hw _ (List.mem_of_getElem? (i := 13) rfl)) (hw _ (List.mem_of_getElem? (i := 2) rfl)) (hw _ (List.mem_of_getElem? (i := 15) rfl)) (by decide) (rmN l Z a0 hw a9 (p1 + (-7046029254386353131 : Int64)) T25.heap n0 Z33 E30 F31 ab13) rfl E30 [] [] rfl rfl (by rw [hml]; rfl) (notFace_of_selects (args := #[]) (mvT hZ (hw _ (List.mem_of_getElem? (i := 14) rfl)))) (lenOf own_pd___J rfl) 0 (Nat.le_of_eq rfl) (by decide) (by decide) (by decide) (by decide) (hb hby at_15) ?_
  intro v34 T35 L36 X37 q38
  obtain ⟨rfl, N39, E40, F41⟩ := q38
  have N42 := Fr.app N32 N39
  have Z43 : n0 ≤ T35.heap.size := Nat.le_trans ab13 (Nat.le_of_lt E40.lt)
  show OGoal p e below s _ _ _ (T35.setTop (mkF m 18 #[.val (.long p1), .second, .val (.ref a9), .val (.long (own_mix (p1 + (-7046029254386353131 : Int64)))), .second, .unset, .unset, .unset] [(.long (own_mix ((p1 + (-7046029254386353131 : Int64)) + (-7046029254386353131 : Int64))))]))
  refine OGoal.mp (S' := (T35.setTop (mkF m 20 #[.val (.long p1), .second, .val (.ref a9), .val (.long (own_mix (p1 + (-7046029254386353131 : Int64)))), .second, .val (.long (own_mix ((p1 + (-7046029254386353131 : Int64)) + (-7046029254386353131 : Int64)))), .second, .unset] []))) (fun _ k => XT.lstore X37.here hx rfl (hb hby at_18) rfl (l' := #[.val (.long p1), .second, .val (.ref a9), .val (.long (own_mix (p1 + (-7046029254386353131 : Int64)))), .second, .val (.long (own_mix ((p1 + (-7046029254386353131 : Int64)) + (-7046029254386353131 : Int64)))), .second, .unset]) rfl k) ?_
  refine OGoal.mp (S' := (T35.setTop (mkF m 23 #[.val (.long p1), .second, .val (.ref a9), .val (.long (own_mix (p1 + (-7046029254386353131 : Int64)))), .second, .val (.long (own_mix ((p1 + (-7046029254386353131 : Int64)) + (-7046029254386353131 : Int64)))), .second, .unset] [(.long (-4658895280553007687 : Int64))]))) (fun _ k => Stand.ldc2J X37 hx hown (mvT hZ (hw _ (List.mem_of_getElem? (i := 19) rfl))) rfl (hb hby at_20) k) ?_
  refine OGoal.mp (S' := (T35.setTop (mkF m 26 #[.val (.long p1), .second, .val (.ref a9), .val (.long (own_mix (p1 + (-7046029254386353131 : Int64)))), .second, .val (.long (own_mix ((p1 + (-7046029254386353131 : Int64)) + (-7046029254386353131 : Int64)))), .second, .unset] [(.long (-4658895280553007687 : Int64)), (.long (-4658895280553007687 : Int64))]))) (fun _ k => Stand.ldc2J X37 hx hown (mvT hZ (hw _ (List.mem_of_getElem? (i := 19) rfl))) rfl (hb hby at_23) k) ?_
  refine oCallS (y := (⟨"com/example/haggle/haggle/random/SplitMix64NextLongPinLaw", "inverse", "(J)J"⟩ : MethodName)) X37 hx hZ hown (hw _ (List.mem_of_getElem? (i := 20) rfl)) (hw _ (List.mem_of_getElem? (i := 21) rfl)) (hw _ (List.mem_of_getElem? (i := 22) rfl)) (hw _ (List.mem_of_getElem? (i := 23) rfl)) (by decide) (rmV l Z a0 hw (-4658895280553007687 : Int64) T35.heap n0 Z43) rfl [(.long (-4658895280553007687 : Int64))] [(.long (-4658895280553007687 : Int64))] rfl rfl (by rw [hml]; rfl) (lenOf own_pd__J_J rfl) 2 (Nat.le_of_eq rfl) (by decide) (by decide) (by decide) (by decide) (hb hby at_26) ?_
  intro v44 T45 L46 X47 q48
  obtain ⟨rfl, N49, e50⟩ := q48
  have N51 := Fr.app N42 N49
  show OGoal p e below s _ _ _ (T45.setTop (mkF m 29 #[.val (.long p1), .second, .val (.ref a9), .val (.long (own_mix (p1 + (-7046029254386353131 : Int64)))), .second, .val (.long (own_mix ((p1 + (-7046029254386353131 : Int64)) + (-7046029254386353131 : Int64)))), .second, .unset] [(.long (own_inv (-4658895280553007687 : Int64))), (.long (-4658895280553007687 : Int64))]))
  refine OGoal.mp (S' := (T45.setTop (mkF m 30 #[.val (.long p1), .second, .val (.ref a9), .val (.long (own_mix (p1 + (-7046029254386353131 : Int64)))), .second, .val (.long (own_mix ((p1 + (-7046029254386353131 : Int64)) + (-7046029254386353131 : Int64)))), .second, .unset] [(.long ((-4658895280553007687 : Int64) * (own_inv (-4658895280553007687 : Int64))))]))) (fun _ k => XT.lmul X47.here hx rfl (hb hby at_29) rfl k) ?_
  refine OGoal.mp (S' := (T45.setTop (mkF m 31 #[.val (.long p1), .second, .val (.ref a9), .val (.long (own_mix (p1 + (-7046029254386353131 : Int64)))), .second, .val (.long (own_mix ((p1 + (-7046029254386353131 : Int64)) + (-7046029254386353131 : Int64)))), .second, .unset] [(.long (1 : Int64)), (.long ((-4658895280553007687 : Int64) * (own_inv (-4658895280553007687 : Int64))))]))) (fun _ k => XT.lconst X47.here hx rfl (hb hby at_30) k) ?_
  refine OGoal.mp (S' := (T45.setTop (mkF m 32 #[.val (.long p1), .second, .val (.ref a9), .val (.long (own_mix (p1 + (-7046029254386353131 : Int64)))), .second, .val (.long (own_mix ((p1 + (-7046029254386353131 : Int64)) + (-7046029254386353131 : Int64)))), .second, .unset] [(.int (XT.cmpL ((-4658895280553007687 : Int64) * (own_inv (-4658895280553007687 : Int64))) (1 : Int64)))]))) (fun _ k => XT.lcmp X47.here hx rfl (hb hby at_31) rfl k) ?_
  refine OGoal.mp (S' := (T45.setTop (mkF m 35 #[.val (.long p1), .second, .val (.ref a9), .val (.long (own_mix (p1 + (-7046029254386353131 : Int64)))), .second, .val (.long (own_mix ((p1 + (-7046029254386353131 : Int64)) + (-7046029254386353131 : Int64)))), .second, .unset] []))) (fun _ k => XS.ifNo X47.here hx rfl (hb hby at_32) rfl (XT.ll_ne_f own_inv1) k) ?_
  refine OGoal.mp (S' := (T45.setTop (mkF m 38 #[.val (.long p1), .second, .val (.ref a9), .val (.long (own_mix (p1 + (-7046029254386353131 : Int64)))), .second, .val (.long (own_mix ((p1 + (-7046029254386353131 : Int64)) + (-7046029254386353131 : Int64)))), .second, .unset] [(.long (-7723592293110705685 : Int64))]))) (fun _ k => Stand.ldc2J X47 hx hown (mvT hZ (hw _ (List.mem_of_getElem? (i := 25) rfl))) rfl (hb hby at_35) k) ?_
  refine OGoal.mp (S' := (T45.setTop (mkF m 41 #[.val (.long p1), .second, .val (.ref a9), .val (.long (own_mix (p1 + (-7046029254386353131 : Int64)))), .second, .val (.long (own_mix ((p1 + (-7046029254386353131 : Int64)) + (-7046029254386353131 : Int64)))), .second, .unset] [(.long (-7723592293110705685 : Int64)), (.long (-7723592293110705685 : Int64))]))) (fun _ k => Stand.ldc2J X47 hx hown (mvT hZ (hw _ (List.mem_of_getElem? (i := 25) rfl))) rfl (hb hby at_38) k) ?_
  refine oCallS (y := (⟨"com/example/haggle/haggle/random/SplitMix64NextLongPinLaw", "inverse", "(J)J"⟩ : MethodName)) X47 hx hZ hown (hw _ (List.mem_of_getElem? (i := 20) rfl)) (hw _ (List.mem_of_getElem? (i := 21) rfl)) (hw _ (List.mem_of_getElem? (i := 22) rfl)) (hw _ (List.mem_of_getElem? (i := 23) rfl)) (by decide) (rmV l Z a0 hw (-7723592293110705685 : Int64) T35.heap n0 Z43) e50 [(.long (-7723592293110705685 : Int64))] [(.long (-7723592293110705685 : Int64))] rfl rfl (by rw [hml]; rfl) (lenOf own_pd__J_J rfl) 2 (Nat.le_of_eq rfl) (by decide) (by decide) (by decide) (by decide) (hb hby at_41) ?_
  intro v52 T53 L54 X55 q56
  obtain ⟨rfl, N57, e58⟩ := q56
  have N59 := Fr.app N51 N57
  show OGoal p e below s _ _ _ (T53.setTop (mkF m 44 #[.val (.long p1), .second, .val (.ref a9), .val (.long (own_mix (p1 + (-7046029254386353131 : Int64)))), .second, .val (.long (own_mix ((p1 + (-7046029254386353131 : Int64)) + (-7046029254386353131 : Int64)))), .second, .unset] [(.long (own_inv (-7723592293110705685 : Int64))), (.long (-7723592293110705685 : Int64))]))
  refine OGoal.mp (S' := (T53.setTop (mkF m 45 #[.val (.long p1), .second, .val (.ref a9), .val (.long (own_mix (p1 + (-7046029254386353131 : Int64)))), .second, .val (.long (own_mix ((p1 + (-7046029254386353131 : Int64)) + (-7046029254386353131 : Int64)))), .second, .unset] [(.long ((-7723592293110705685 : Int64) * (own_inv (-7723592293110705685 : Int64))))]))) (fun _ k => XT.lmul X55.here hx rfl (hb hby at_44) rfl k) ?_
  refine OGoal.mp (S' := (T53.setTop (mkF m 46 #[.val (.long p1), .second, .val (.ref a9), .val (.long (own_mix (p1 + (-7046029254386353131 : Int64)))), .second, .val (.long (own_mix ((p1 + (-7046029254386353131 : Int64)) + (-7046029254386353131 : Int64)))), .second, .unset] [(.long (1 : Int64)), (.long ((-7723592293110705685 : Int64) * (own_inv (-7723592293110705685 : Int64))))]))) (fun _ k => XT.lconst X55.here hx rfl (hb hby at_45) k) ?_
  refine OGoal.mp (S' := (T53.setTop (mkF m 47 #[.val (.long p1), .second, .val (.ref a9), .val (.long (own_mix (p1 + (-7046029254386353131 : Int64)))), .second, .val (.long (own_mix ((p1 + (-7046029254386353131 : Int64)) + (-7046029254386353131 : Int64)))), .second, .unset] [(.int (XT.cmpL ((-7723592293110705685 : Int64) * (own_inv (-7723592293110705685 : Int64))) (1 : Int64)))]))) (fun _ k => XT.lcmp X55.here hx rfl (hb hby at_46) rfl k) ?_
  refine OGoal.mp (S' := (T53.setTop (mkF m 50 #[.val (.long p1), .second, .val (.ref a9), .val (.long (own_mix (p1 + (-7046029254386353131 : Int64)))), .second, .val (.long (own_mix ((p1 + (-7046029254386353131 : Int64)) + (-7046029254386353131 : Int64)))), .second, .unset] []))) (fun _ k => XS.ifNo X55.here hx rfl (hb hby at_47) rfl (XT.ll_ne_f own_inv2) k) ?_
  refine OGoal.mp (S' := (T53.setTop (mkF m 51 #[.val (.long p1), .second, .val (.ref a9), .val (.long (own_mix (p1 + (-7046029254386353131 : Int64)))), .second, .val (.long (own_mix ((p1 + (-7046029254386353131 : Int64)) + (-7046029254386353131 : Int64)))), .second, .unset] [(.int (1 : Int32))]))) (fun _ k => XS.iconst X55.here hx rfl (hb hby at_50) k) ?_
  refine OGoal.mp (S' := (T53.setTop (mkF m 55 #[.val (.long p1), .second, .val (.ref a9), .val (.long (own_mix (p1 + (-7046029254386353131 : Int64)))), .second, .val (.long (own_mix ((p1 + (-7046029254386353131 : Int64)) + (-7046029254386353131 : Int64)))), .second, .unset] [(.int (1 : Int32))]))) (fun _ k => XS.goto X55.here hx rfl (pc0 := 51) (pc' := 55) rfl (hb hby at_51) (by decide) (by decide) k) ?_
  refine OGoal.mp (S' := (T53.setTop (mkF m 57 #[.val (.long p1), .second, .val (.ref a9), .val (.long (own_mix (p1 + (-7046029254386353131 : Int64)))), .second, .val (.long (own_mix ((p1 + (-7046029254386353131 : Int64)) + (-7046029254386353131 : Int64)))), .second, .val (.int (1 : Int32))] []))) (fun _ k => XS.istore X55.here hx rfl (hb hby at_55) rfl (l' := #[.val (.long p1), .second, .val (.ref a9), .val (.long (own_mix (p1 + (-7046029254386353131 : Int64)))), .second, .val (.long (own_mix ((p1 + (-7046029254386353131 : Int64)) + (-7046029254386353131 : Int64)))), .second, .val (.int (1 : Int32))]) rfl k) ?_
  refine OGoal.mp (S' := (T53.setTop (mkF m 59 #[.val (.long p1), .second, .val (.ref a9), .val (.long (own_mix (p1 + (-7046029254386353131 : Int64)))), .second, .val (.long (own_mix ((p1 + (-7046029254386353131 : Int64)) + (-7046029254386353131 : Int64)))), .second, .val (.int (1 : Int32))] [(.int (1 : Int32))]))) (fun _ k => XS.iload X55.here hx rfl (hb hby at_57) rfl k) ?_
  refine OGoal.mp (S' := (T53.setTop (mkF m 62 #[.val (.long p1), .second, .val (.ref a9), .val (.long (own_mix (p1 + (-7046029254386353131 : Int64)))), .second, .val (.long (own_mix ((p1 + (-7046029254386353131 : Int64)) + (-7046029254386353131 : Int64)))), .second, .val (.int (1 : Int32))] []))) (fun _ k => XS.ifNo X55.here hx rfl (hb hby at_59) rfl (XT.i0_eq_f (by decide)) k) ?_
  refine OGoal.mp (S' := (T53.setTop (mkF m 63 #[.val (.long p1), .second, .val (.ref a9), .val (.long (own_mix (p1 + (-7046029254386353131 : Int64)))), .second, .val (.long (own_mix ((p1 + (-7046029254386353131 : Int64)) + (-7046029254386353131 : Int64)))), .second, .val (.int (1 : Int32))] [(.long (own_mix (p1 + (-7046029254386353131 : Int64))))]))) (fun _ k => XT.lloadN X55.here hx rfl (hb hby at_62) rfl k) ?_
  refine oCallS (y := (⟨"com/example/haggle/haggle/random/SplitMix64NextLongPinLaw", "unmix", "(J)J"⟩ : MethodName)) X55 hx hZ hown (hw _ (List.mem_of_getElem? (i := 26) rfl)) (hw _ (List.mem_of_getElem? (i := 27) rfl)) (hw _ (List.mem_of_getElem? (i := 22) rfl)) (hw _ (List.mem_of_getElem? (i := 28) rfl)) (by decide) (rmU l Z a0 hw (own_mix (p1 + (-7046029254386353131 : Int64))) T35.heap n0 Z43) e58 [(.long (own_mix (p1 + (-7046029254386353131 : Int64))))] [] rfl rfl (by rw [hml]; rfl) (lenOf own_pd__J_J rfl) 0 (Nat.le_of_eq rfl) (by decide) (by decide) (by decide) (by decide) (hb hby at_63) ?_
  intro v60 T61 L62 X63 q64
  obtain ⟨rfl, N65, e66⟩ := q64
  have N67 := Fr.app N59 N65
  show OGoal p e below s _ _ _ (T61.setTop (mkF m 66 #[.val (.long p1), .second, .val (.ref a9), .val (.long (own_mix (p1 + (-7046029254386353131 : Int64)))), .second, .val (.long (own_mix ((p1 + (-7046029254386353131 : Int64)) + (-7046029254386353131 : Int64)))), .second, .val (.int (1 : Int32))] [(.long (own_unmix (own_mix (p1 + (-7046029254386353131 : Int64)))))]))
  refine OGoal.mp (S' := (T61.setTop (mkF m 67 #[.val (.long p1), .second, .val (.ref a9), .val (.long (own_mix (p1 + (-7046029254386353131 : Int64)))), .second, .val (.long (own_mix ((p1 + (-7046029254386353131 : Int64)) + (-7046029254386353131 : Int64)))), .second, .val (.int (1 : Int32))] [(.long p1), (.long (own_unmix (own_mix (p1 + (-7046029254386353131 : Int64)))))]))) (fun _ k => XT.lloadN X63.here hx rfl (hb hby at_66) rfl k) ?_
  refine OGoal.mp (S' := (T61.setTop (mkF m 70 #[.val (.long p1), .second, .val (.ref a9), .val (.long (own_mix (p1 + (-7046029254386353131 : Int64)))), .second, .val (.long (own_mix ((p1 + (-7046029254386353131 : Int64)) + (-7046029254386353131 : Int64)))), .second, .val (.int (1 : Int32))] [(.long (-7046029254386353131 : Int64)), (.long p1), (.long (own_unmix (own_mix (p1 + (-7046029254386353131 : Int64)))))]))) (fun _ k => Stand.ldc2J X63 hx hown (mvT hZ (hw _ (List.mem_of_getElem? (i := 29) rfl))) rfl (hb hby at_67) k) ?_
  refine OGoal.mp (S' := (T61.setTop (mkF m 71 #[.val (.long p1), .second, .val (.ref a9), .val (.long (own_mix (p1 + (-7046029254386353131 : Int64)))), .second, .val (.long (own_mix ((p1 + (-7046029254386353131 : Int64)) + (-7046029254386353131 : Int64)))), .second, .val (.int (1 : Int32))] [(.long (p1 + (-7046029254386353131 : Int64))), (.long (own_unmix (own_mix (p1 + (-7046029254386353131 : Int64)))))]))) (fun _ k => XT.ladd X63.here hx rfl (hb hby at_70) rfl k) ?_
  refine OGoal.mp (S' := (T61.setTop (mkF m 72 #[.val (.long p1), .second, .val (.ref a9), .val (.long (own_mix (p1 + (-7046029254386353131 : Int64)))), .second, .val (.long (own_mix ((p1 + (-7046029254386353131 : Int64)) + (-7046029254386353131 : Int64)))), .second, .val (.int (1 : Int32))] [(.int (XT.cmpL (own_unmix (own_mix (p1 + (-7046029254386353131 : Int64)))) (p1 + (-7046029254386353131 : Int64))))]))) (fun _ k => XT.lcmp X63.here hx rfl (hb hby at_71) rfl k) ?_
  refine OGoal.mp (S' := (T61.setTop (mkF m 75 #[.val (.long p1), .second, .val (.ref a9), .val (.long (own_mix (p1 + (-7046029254386353131 : Int64)))), .second, .val (.long (own_mix ((p1 + (-7046029254386353131 : Int64)) + (-7046029254386353131 : Int64)))), .second, .val (.int (1 : Int32))] []))) (fun _ k => XS.ifNo X63.here hx rfl (hb hby at_72) rfl (XT.ll_ne_f (own_round _)) k) ?_
  refine OGoal.mp (S' := (T61.setTop (mkF m 77 #[.val (.long p1), .second, .val (.ref a9), .val (.long (own_mix (p1 + (-7046029254386353131 : Int64)))), .second, .val (.long (own_mix ((p1 + (-7046029254386353131 : Int64)) + (-7046029254386353131 : Int64)))), .second, .val (.int (1 : Int32))] [(.long (own_mix ((p1 + (-7046029254386353131 : Int64)) + (-7046029254386353131 : Int64))))]))) (fun _ k => XT.lload X63.here hx rfl (hb hby at_75) rfl k) ?_
  refine oCallS (y := (⟨"com/example/haggle/haggle/random/SplitMix64NextLongPinLaw", "unmix", "(J)J"⟩ : MethodName)) X63 hx hZ hown (hw _ (List.mem_of_getElem? (i := 26) rfl)) (hw _ (List.mem_of_getElem? (i := 27) rfl)) (hw _ (List.mem_of_getElem? (i := 22) rfl)) (hw _ (List.mem_of_getElem? (i := 28) rfl)) (by decide) (rmU l Z a0 hw (own_mix ((p1 + (-7046029254386353131 : Int64)) + (-7046029254386353131 : Int64))) T35.heap n0 Z43) e66 [(.long (own_mix ((p1 + (-7046029254386353131 : Int64)) + (-7046029254386353131 : Int64))))] [] rfl rfl (by rw [hml]; rfl) (lenOf own_pd__J_J rfl) 0 (Nat.le_of_eq rfl) (by decide) (by decide) (by decide) (by decide) (hb hby at_77) ?_
  intro v68 T69 L70 X71 q72
  obtain ⟨rfl, N73, e74⟩ := q72
  have N75 := Fr.app N67 N73
  show OGoal p e below s _ _ _ (T69.setTop (mkF m 80 #[.val (.long p1), .second, .val (.ref a9), .val (.long (own_mix (p1 + (-7046029254386353131 : Int64)))), .second, .val (.long (own_mix ((p1 + (-7046029254386353131 : Int64)) + (-7046029254386353131 : Int64)))), .second, .val (.int (1 : Int32))] [(.long (own_unmix (own_mix ((p1 + (-7046029254386353131 : Int64)) + (-7046029254386353131 : Int64)))))]))
  refine OGoal.mp (S' := (T69.setTop (mkF m 81 #[.val (.long p1), .second, .val (.ref a9), .val (.long (own_mix (p1 + (-7046029254386353131 : Int64)))), .second, .val (.long (own_mix ((p1 + (-7046029254386353131 : Int64)) + (-7046029254386353131 : Int64)))), .second, .val (.int (1 : Int32))] [(.long p1), (.long (own_unmix (own_mix ((p1 + (-7046029254386353131 : Int64)) + (-7046029254386353131 : Int64)))))]))) (fun _ k => XT.lloadN X71.here hx rfl (hb hby at_80) rfl k) ?_
  refine OGoal.mp (S' := (T69.setTop (mkF m 84 #[.val (.long p1), .second, .val (.ref a9), .val (.long (own_mix (p1 + (-7046029254386353131 : Int64)))), .second, .val (.long (own_mix ((p1 + (-7046029254386353131 : Int64)) + (-7046029254386353131 : Int64)))), .second, .val (.int (1 : Int32))] [(.long (-7046029254386353131 : Int64)), (.long p1), (.long (own_unmix (own_mix ((p1 + (-7046029254386353131 : Int64)) + (-7046029254386353131 : Int64)))))]))) (fun _ k => Stand.ldc2J X71 hx hown (mvT hZ (hw _ (List.mem_of_getElem? (i := 29) rfl))) rfl (hb hby at_81) k) ?_
  refine OGoal.mp (S' := (T69.setTop (mkF m 85 #[.val (.long p1), .second, .val (.ref a9), .val (.long (own_mix (p1 + (-7046029254386353131 : Int64)))), .second, .val (.long (own_mix ((p1 + (-7046029254386353131 : Int64)) + (-7046029254386353131 : Int64)))), .second, .val (.int (1 : Int32))] [(.long (p1 + (-7046029254386353131 : Int64))), (.long (own_unmix (own_mix ((p1 + (-7046029254386353131 : Int64)) + (-7046029254386353131 : Int64)))))]))) (fun _ k => XT.ladd X71.here hx rfl (hb hby at_84) rfl k) ?_
  refine OGoal.mp (S' := (T69.setTop (mkF m 88 #[.val (.long p1), .second, .val (.ref a9), .val (.long (own_mix (p1 + (-7046029254386353131 : Int64)))), .second, .val (.long (own_mix ((p1 + (-7046029254386353131 : Int64)) + (-7046029254386353131 : Int64)))), .second, .val (.int (1 : Int32))] [(.long (-7046029254386353131 : Int64)), (.long (p1 + (-7046029254386353131 : Int64))), (.long (own_unmix (own_mix ((p1 + (-7046029254386353131 : Int64)) + (-7046029254386353131 : Int64)))))]))) (fun _ k => Stand.ldc2J X71 hx hown (mvT hZ (hw _ (List.mem_of_getElem? (i := 29) rfl))) rfl (hb hby at_85) k) ?_
  refine OGoal.mp (S' := (T69.setTop (mkF m 89 #[.val (.long p1), .second, .val (.ref a9), .val (.long (own_mix (p1 + (-7046029254386353131 : Int64)))), .second, .val (.long (own_mix ((p1 + (-7046029254386353131 : Int64)) + (-7046029254386353131 : Int64)))), .second, .val (.int (1 : Int32))] [(.long ((p1 + (-7046029254386353131 : Int64)) + (-7046029254386353131 : Int64))), (.long (own_unmix (own_mix ((p1 + (-7046029254386353131 : Int64)) + (-7046029254386353131 : Int64)))))]))) (fun _ k => XT.ladd X71.here hx rfl (hb hby at_88) rfl k) ?_
  refine OGoal.mp (S' := (T69.setTop (mkF m 90 #[.val (.long p1), .second, .val (.ref a9), .val (.long (own_mix (p1 + (-7046029254386353131 : Int64)))), .second, .val (.long (own_mix ((p1 + (-7046029254386353131 : Int64)) + (-7046029254386353131 : Int64)))), .second, .val (.int (1 : Int32))] [(.int (XT.cmpL (own_unmix (own_mix ((p1 + (-7046029254386353131 : Int64)) + (-7046029254386353131 : Int64)))) ((p1 + (-7046029254386353131 : Int64)) + (-7046029254386353131 : Int64))))]))) (fun _ k => XT.lcmp X71.here hx rfl (hb hby at_89) rfl k) ?_
  refine OGoal.mp (S' := (T69.setTop (mkF m 93 #[.val (.long p1), .second, .val (.ref a9), .val (.long (own_mix (p1 + (-7046029254386353131 : Int64)))), .second, .val (.long (own_mix ((p1 + (-7046029254386353131 : Int64)) + (-7046029254386353131 : Int64)))), .second, .val (.int (1 : Int32))] []))) (fun _ k => XS.ifNo X71.here hx rfl (hb hby at_90) rfl (XT.ll_ne_f (own_round _)) k) ?_
  refine OGoal.mp (S' := (T69.setTop (mkF m 94 #[.val (.long p1), .second, .val (.ref a9), .val (.long (own_mix (p1 + (-7046029254386353131 : Int64)))), .second, .val (.long (own_mix ((p1 + (-7046029254386353131 : Int64)) + (-7046029254386353131 : Int64)))), .second, .val (.int (1 : Int32))] [(.int (1 : Int32))]))) (fun _ k => XS.iconst X71.here hx rfl (hb hby at_93) k) ?_
  refine OGoal.mp (S' := (T69.setTop (mkF m 98 #[.val (.long p1), .second, .val (.ref a9), .val (.long (own_mix (p1 + (-7046029254386353131 : Int64)))), .second, .val (.long (own_mix ((p1 + (-7046029254386353131 : Int64)) + (-7046029254386353131 : Int64)))), .second, .val (.int (1 : Int32))] [(.int (1 : Int32))]))) (fun _ k => XS.goto X71.here hx rfl (pc0 := 94) (pc' := 98) rfl (hb hby at_94) (by decide) (by decide) k) ?_
  refine oRetZ X71 hx hlk hret (Or.inr rfl) (hb hby at_98) ?_ (by decide) (by decide)
  exact ⟨rfl, N75⟩
set_option maxRecDepth 65536 in
set_option maxHeartbeats 40000000 in
theorem comes_1 {Post : Tables → Env → Array Value → State → Outcome → State → Prop} (hpost : ∀ tb e args s v u, (limb_1_1.after args s (.returned v) u = true ∧ limb_1_2.after args s (.returned v) u = true ∧ True) → FrameEnd s (.returned v) u (Jvm.fieldLocs frame_1_writes args s ++ Jvm.arrayLocs frame_1_arrays args s ++ Jvm.staticLocs frame_1_statics s) 16 128 → Post tb e args s (.returned v) u) :
    ArmFor flags0 classFile x code maxLocals ret World_1 tables_1 room_1 Calls_1 rest_1 Pre_1 Post := by
  intro l hfl _ _ p e ha hc hk s m args below hf hA hF happ hP
  obtain ⟨hcalls, hrest, hpre⟩ := hP
  obtain ⟨-, -, -, hnamed, -, -, -, hat⟩ := (Spec.applies_iff hf).mp happ
  obtain ⟨hg, hn⟩ := and_e (Cond.before_iff.mp (show (Jvm.Cond.and given_1 narrow_1).before args s = true from hpre))
  obtain ⟨hcnt, hg⟩ := and_e hg
  obtain ⟨w0, rfl⟩ : ∃ w0 : Value, args = #[w0] := by
    have hs : args.size = 1 := by simpa [Cond.value, given_1] using hcnt
    obtain ⟨L⟩ := args
    match L, hs with
    | [w0], _ => exact ⟨w0, rfl⟩
  have hw := fun d (hd : d ∈ tables_1) => atoms_spec (ws := Jvm.Cond.code x code maxLocals ret :: tables_1) hat d (List.mem_cons_of_mem _ hd)
  have hfit : Fit s := fun {y c} hc i hi => by
    obtain ⟨ha, rfl⟩ := Array.getElem?_eq_some_iff.mp hc
    have q := List.all_eq_true.mp ((Array.all_eq_true_iff_forall_mem.mp hF) _ (Array.getElem_mem ha)) i (List.mem_range.mpr hi)
    simpa [Array.getElem?_eq_getElem hi] using q
  obtain ⟨i0, ei0⟩ := isL_v hg
  obtain rfl : w0 = (.long i0) := Option.some.inj ei0
  obtain ⟨n, o, h1, h2, h3, _, L, rfl, ⟨rfl, N⟩, hq⟩ := rm0 l s _ hw i0 s.heap s.heap.size (Nat.le_refl _)  tables_1 p e ha hc hk s m _ below hf ((Spec.applies_iff_loose hf).mp happ).1 ⟨rfl, State.Warmed39.refl s, rfl⟩ trivial
  refine ⟨n, _, h1, h2, h3, hpost _ _ _ _ _ _ ⟨Cond.after_iff.mpr rfl, Cond.after_iff.mpr (eq_i res_at (Term.int_eval (1)) rfl), trivial⟩ ⟨hq.1, hq.2.1, (hq.2.2.sift fun y hy => Or.inr (N y hy)).mono (by decide) (by decide)⟩⟩
theorem main_1_1 : Claimed_1_1 := comes_1 fun _ _ _ _ _ _ h hF => ⟨h.1, hF⟩
theorem main_1_2 : Claimed_1_2 := comes_1 fun _ _ _ _ _ _ h hF => ⟨h.2.1, hF⟩
end Jvm.Pilot.@@N@@
namespace Jvm.Pilot.@@N@@
open Jvm Jvm.ClassFile Sem Op Lib Jvm.Free Jvm.Stand Jvm.Pilot.@@N@@.Jvm.D
/-! MADE BY PROGRAM (witnessworld.py) out of the Statement's table words and the real class files: 9 classes; the members and pool entries that the words name. The judged class is class 1, her method 3. -/
namespace start1
open Jvm.ClassFile
def u (s : String) : CpInfo := .utf8 (stringToUtf16 s)
/-- a pool by its gaps: so many unusable entries, then the entry; so many at the end -/
def gap : Nat → List CpInfo → List CpInfo
  | 0, r => r
  | n + 1, r => .unusable :: gap n r
def poolList (es : List (Nat × CpInfo)) (last : Nat) : List CpInfo := es.foldr (fun e r => gap e.1 (e.2 :: r)) (gap last [])
def pool (es : List (Nat × CpInfo)) (last : Nat) : Array CpInfo := ⟨poolList es last⟩
def fileOf (pool : Array CpInfo) (this : Nat) (attrs : Array Attribute := #[]) (ms : Array MethodInfo := #[]) (fl : Nat := 33) (sup : Nat := 0) (ifs : Array Nat := #[]) (fds : Array FieldInfo := #[]) : ClassFile where
  minorVersion := 0
  majorVersion := 65
  constantPool := pool
  accessFlags := fl
  thisClass := this
  superClass := sup
  interfaces := ifs
  fields := fds
  methods := ms
  attributes := attrs
def plain (name : String) (sup : Option ClassId) : Class where
  name := name
  kind := .ordinary
  loader := none
  accessFlags := 33
  super := sup
  interfaces := #[]
  cf := none
  fields := #[]
  methods := #[]
  instanceTypes := #[]
  staticTypes := #[]
  resolved := #[]
  callSites := []
  init := .initialized
  statics := none
  mirror := none

def pool0 : Array CpInfo := pool [(5, u "<init>"), (0, u "()V"), (1, .class_ 10), (1, u "java/lang/Object")] 113

def k0c0 : Code := { maxStack := 0, maxLocals := 1, code := object_method_1_code, exceptionTable := #[], attributes := #[] }
def k0m0 : Method := { name := "<init>", desc := "()V", sig := { parameters := [], returnType := none }, accessFlags := 1, code := some k0c0 }
/-- java/lang/Object -/
def k0 : Class := { plain "java/lang/Object" none with
  accessFlags := 33
  interfaces := #[]
  cf := some (fileOf pool0 8 #[] #[{ accessFlags := 1, nameIndex := 5, descriptorIndex := 6, attributes := #[] }] 33 0 #[] #[])
  fields := #[]
  methods := #[k0m0]
  instanceTypes := #[]
  staticTypes := #[]
  resolved := Array.replicate 124 none
  statics := none }

def pool1 : Array CpInfo := pool [(2, .class_ 4), (1, u "java/lang/Object"), (0, u "<init>"), (0, u "()V"), (0, .long 2), (1, .long 10723151780598845931), (1, .methodref 12 13), (0, .class_ 14), (0, .nameAndType 15 16), (0, u "com/example/haggle/haggle/random/SplitMix64NextLongPinLaw"), (0, u "inverse"), (0, u "(J)J"), (0, .long 13787848793156543929), (1, .class_ 20), (0, u "com/example/haggle/haggle/random/SplitMix64"), (0, .methodref 19 22), (0, .nameAndType 5 23), (0, u "(J)V"), (0, .methodref 19 25), (0, .nameAndType 26 27), (0, u "nextLong"), (0, u "()J"), (0, .methodref 12 29), (0, .nameAndType 30 16), (0, u "unmix"), (0, .long 11400714819323198485), (1, u "GAMMA"), (0, u "J"), (3, u "law"), (0, u "(J)Z")] 3

def k1m0 : Method := { name := "<init>", desc := "()V", sig := { parameters := [], returnType := none }, accessFlags := 1, code := none }
def k1c1 : Code := { maxStack := 8, maxLocals := 4, code := method_2_code, exceptionTable := #[], attributes := #[] }
def k1m1 : Method := { name := "inverse", desc := "(J)J", sig := { parameters := [.long], returnType := some .long }, accessFlags := 10, code := some k1c1 }
def k1c2 : Code := { maxStack := 5, maxLocals := 4, code := method_3_code, exceptionTable := #[], attributes := #[] }
def k1m2 : Method := { name := "unmix", desc := "(J)J", sig := { parameters := [.long], returnType := some .long }, accessFlags := 10, code := some k1c2 }
def k1c3 : Code := { maxStack := 6, maxLocals := 8, code := code, exceptionTable := #[], attributes := #[] }
def k1m3 : Method := { name := "law", desc := "(J)Z", sig := { parameters := [.long], returnType := some .boolean }, accessFlags := 9, code := some k1c3 }
/-- com/example/haggle/haggle/random/SplitMix64NextLongPinLaw -/
def k1 : Class := { plain "com/example/haggle/haggle/random/SplitMix64NextLongPinLaw" (some 0) with
  accessFlags := 49
  interfaces := #[]
  cf := some (fileOf pool1 12 #[] #[{ accessFlags := 1, nameIndex := 5, descriptorIndex := 6, attributes := #[] }, { accessFlags := 10, nameIndex := 15, descriptorIndex := 16, attributes := #[] }, { accessFlags := 10, nameIndex := 30, descriptorIndex := 16, attributes := #[] }, { accessFlags := 9, nameIndex := 38, descriptorIndex := 39, attributes := #[] }] 49 2 #[] #[{ accessFlags := 26, nameIndex := 33, descriptorIndex := 34, attributes := #[] }])
  fields := #[{ name := "GAMMA", type := .long, accessFlags := 26, slot := 0, constantValue := 0 }]
  methods := #[k1m0, k1m1, k1m2, k1m3]
  instanceTypes := #[]
  staticTypes := #[.long]
  resolved := Array.replicate 43 none
  statics := none }

def pool2 : Array CpInfo := pool [(1, .methodref 2 3), (0, .class_ 4), (0, .nameAndType 5 6), (0, u "java/lang/Object"), (0, u "<init>"), (0, u "()V"), (0, .fieldref 8 9), (0, .class_ 10), (0, .nameAndType 11 12), (0, u "com/example/haggle/haggle/random/SplitMix64"), (0, u "state"), (0, u "J"), (0, .long 11400714819323198485), (1, .long 13787848793156543929), (1, .long 10723151780598845931), (7, u "nextLong"), (0, u "()J"), (29, u "GAMMA"), (1, u "(J)V")] 9

def k2c0 : Code := { maxStack := 3, maxLocals := 3, code := prog_36_method_1_code, exceptionTable := #[], attributes := #[] }
def k2m0 : Method := { name := "<init>", desc := "(J)V", sig := { parameters := [.long], returnType := none }, accessFlags := 1, code := some k2c0 }
def k2c1 : Code := { maxStack := 5, maxLocals := 3, code := prog_36_method_2_code, exceptionTable := #[], attributes := #[] }
def k2m1 : Method := { name := "nextLong", desc := "()J", sig := { parameters := [], returnType := some .long }, accessFlags := 1, code := some k2c1 }
/-- com/example/haggle/haggle/random/SplitMix64 -/
def k2 : Class := { plain "com/example/haggle/haggle/random/SplitMix64" (some 0) with
  accessFlags := 49
  interfaces := #[]
  cf := some (fileOf pool2 8 #[] #[{ accessFlags := 1, nameIndex := 5, descriptorIndex := 58, attributes := #[] }, { accessFlags := 1, nameIndex := 25, descriptorIndex := 26, attributes := #[] }] 49 2 #[] #[{ accessFlags := 26, nameIndex := 56, descriptorIndex := 12, attributes := #[] }, { accessFlags := 2, nameIndex := 11, descriptorIndex := 12, attributes := #[] }])
  fields := #[{ name := "GAMMA", type := .long, accessFlags := 26, slot := 0, constantValue := 0 }, { name := "state", type := .long, accessFlags := 2, slot := 0, constantValue := 0 }]
  methods := #[k2m0, k2m1]
  instanceTypes := #[.long]
  staticTypes := #[.long]
  resolved := Array.replicate 68 none
  statics := none }

def pool3 : Array CpInfo := pool [(1, u "java/lang/Cloneable"), (0, .class_ 1), (0, u "java/lang/Object"), (0, .class_ 3)] 3

/-- java/lang/Cloneable -/
def k3 : Class := { plain "java/lang/Cloneable" (some 0) with
  accessFlags := 1537
  interfaces := #[]
  cf := some (fileOf pool3 2 #[] #[] 1537 4 #[] #[])
  fields := #[]
  methods := #[]
  instanceTypes := #[]
  staticTypes := #[]
  resolved := Array.replicate 8 none
  statics := none }

def pool4 : Array CpInfo := pool [(1, u "java/io/Serializable"), (0, .class_ 1), (0, u "java/lang/Object"), (0, .class_ 3)] 3

/-- java/io/Serializable -/
def k4 : Class := { plain "java/io/Serializable" (some 0) with
  accessFlags := 1537
  interfaces := #[]
  cf := some (fileOf pool4 2 #[] #[] 1537 4 #[] #[])
  fields := #[]
  methods := #[]
  instanceTypes := #[]
  staticTypes := #[]
  resolved := Array.replicate 8 none
  statics := none }

/-- the primitive byte -/
def k5 : Class := { plain "byte" none with kind := .primitive 'B', accessFlags := 0x411 }
/-- [B -/
def k6 : Class := { plain "[B" (some 0) with kind := .array 5 .byte, interfaces := #[3, 4], accessFlags := 1041 }

/-- the primitive int -/
def k7 : Class := { plain "int" none with kind := .primitive 'I', accessFlags := 0x411 }
/-- [I -/
def k8 : Class := { plain "[I" (some 0) with kind := .array 7 .int, interfaces := #[3, 4], accessFlags := 1041 }

def heap : Heap := #[]
def classes : Array Class := #[k0, k1, k2, k3, k4, k5, k6, k7, k8]
def interned : List (Array UInt16 × Addr) := []
def slotsUsed : Nat := 0
def theMethod : MethodId := ⟨1, 3⟩
def args0 : Array Value := #[.long 42]
def aboutOver (below : List Frame) : State where
  vm := { classes := classes, interned := interned.toArray }
  heap := heap
  slotsUsed := slotsUsed
  threads := #[{ frames := .invoking theMethod args0 :: below }]
def below0 : List Frame := [.native { method := ⟨0, 0⟩, args := #[] }]
def about1 : State := aboutOver below0
def p0 : Program := .bare "" "" ""
def e0 : Env := launch0.env 0 0 0
theorem w_frames : about1.frames = Frame.invoking theMethod args0 :: below0 := rfl
set_option maxRecDepth 65536 in
theorem w_args : argsFit about1.vm theMethod args0 = true := by decide +kernel
set_option maxRecDepth 65536 in
theorem w_heap : heapFits about1 = true := by decide +kernel
set_option maxRecDepth 65536 in
theorem w_runnable : about1.curStatus? = some .runnable := by decide +kernel
set_option maxRecDepth 65536 in
theorem w_alone : about1.alone = true := by decide +kernel
set_option maxRecDepth 65536 in
theorem w_named : about1.methodNamed? x = some theMethod := by decide +kernel
set_option maxRecDepth 65536 in
theorem w_hears : about1.hears theMethod below0 = true := by decide +kernel
set_option maxRecDepth 65536 in
theorem w_ripe : about1.ripe theMethod args0 below0 = true := by decide +kernel
theorem w_running : about1.status = .running := rfl
set_option maxRecDepth 65536 in
theorem w_room : about1.hasRoom e0.platform room_1 = true :=
  launch0.hasRoom_least _ room_1 (by decide +kernel) (by decide +kernel) (by decide +kernel) (by decide +kernel) (by decide +kernel) (by decide +kernel)
theorem allAtoms_all (ts : List Jvm.Cond) (a : Array Jvm.Value) (st : Jvm.State) : (allAtoms ts).before a st = ts.all (fun c => c.before a st) := by
  induction ts with
  | nil => rfl
  | cons c t ih =>
    show (Jvm.Cond.and c (allAtoms t)).before a st = _
    rw [Jvm.Cond.before_and, ih, List.all_cons]
def words1 : List Jvm.Cond := Jvm.Cond.code x code maxLocals ret :: tables_1
/-- a 'code' word, met by the world's own term for the bytes: nothing is compared byte by byte -/
theorem code_word {y : MethodName} {bytes : ByteArray} {mx : Nat} {rt : Option FieldType} {a : Array Value} {s : State} {m : MethodId} {meth : Method} {c : Code} (h1 : s.methodNamed? y = some m) (h2 : s.vm.method? m = some meth) (h3 : meth.code = some c) (h4 : c.code = bytes)
    (h5 : (c.maxLocals == mx && c.exceptionTable.isEmpty && decide (c.maxStack ≤ mostOperands) && decide (meth.sig.returnType = rt) && !meth.locks && decide (parseMethodDescriptor y.desc = some meth.sig)) = true) : (Jvm.Cond.code y bytes mx rt).before a s = true := by
  simp only [Bool.and_eq_true, beq_iff_eq, Bool.not_eq_true', decide_eq_true_eq] at h5
  obtain ⟨⟨⟨⟨⟨g1, g2⟩, g3⟩, g4⟩, g5⟩, g6⟩ := h5
  simp [Cond.before, Cond.holds, Cond.value, h1, h2, h3, h4, g1, g2, g3, g4, g5, g6]
def isCode : Jvm.Cond → Bool
  | .code _ _ _ _ => true
  | _ => false
theorem all_split {L : List Jvm.Cond} {P : Jvm.Cond → Bool} (h1 : L.all (fun c => isCode c || P c) = true) (h2 : ∀ c ∈ L.filter isCode, P c = true) : L.all P = true := by
  refine List.all_eq_true.mpr fun c hc => ?_
  have h := List.all_eq_true.mp h1 c hc
  rcases Bool.eq_false_or_eq_true (isCode c) with hi | hi
  · exact h2 c (List.mem_filter.mpr ⟨hc, hi⟩)
  · simpa [hi] using h
set_option maxRecDepth 65536 in
theorem w_c0 : (Jvm.Cond.code x code maxLocals ret).before args0 about1 = true := code_word (m := ⟨1, 3⟩) (meth := k1m3) (c := k1c3) (by decide +kernel) rfl rfl rfl (by decide +kernel)
set_option maxRecDepth 65536 in
theorem w_c1 : (Jvm.Cond.code ({ cls := "com/example/haggle/haggle/random/SplitMix64", name := "<init>", desc := "(J)V" } : Jvm.MethodName) prog_36_method_1_code (3 : Nat) (Option.none : Option Jvm.ClassFile.FieldType)).before args0 about1 = true := code_word (m := ⟨2, 0⟩) (meth := k2m0) (c := k2c0) (by decide +kernel) rfl rfl rfl (by decide +kernel)
set_option maxRecDepth 65536 in
theorem w_c2 : (Jvm.Cond.code ({ cls := "java/lang/Object", name := "<init>", desc := "()V" } : Jvm.MethodName) object_method_1_code (1 : Nat) (Option.none : Option Jvm.ClassFile.FieldType)).before args0 about1 = true := code_word (m := ⟨0, 0⟩) (meth := k0m0) (c := k0c0) (by decide +kernel) rfl rfl rfl (by decide +kernel)
set_option maxRecDepth 65536 in
theorem w_c3 : (Jvm.Cond.code ({ cls := "com/example/haggle/haggle/random/SplitMix64", name := "nextLong", desc := "()J" } : Jvm.MethodName) prog_36_method_2_code (3 : Nat) (Option.some Jvm.ClassFile.FieldType.long)).before args0 about1 = true := code_word (m := ⟨2, 1⟩) (meth := k2m1) (c := k2c1) (by decide +kernel) rfl rfl rfl (by decide +kernel)
set_option maxRecDepth 65536 in
theorem w_c4 : (Jvm.Cond.code ({ cls := "com/example/haggle/haggle/random/SplitMix64NextLongPinLaw", name := "inverse", desc := "(J)J" } : Jvm.MethodName) method_2_code (4 : Nat) (Option.some Jvm.ClassFile.FieldType.long)).before args0 about1 = true := code_word (m := ⟨1, 1⟩) (meth := k1m1) (c := k1c1) (by decide +kernel) rfl rfl rfl (by decide +kernel)
set_option maxRecDepth 65536 in
theorem w_c5 : (Jvm.Cond.code ({ cls := "com/example/haggle/haggle/random/SplitMix64NextLongPinLaw", name := "unmix", desc := "(J)J" } : Jvm.MethodName) method_3_code (4 : Nat) (Option.some Jvm.ClassFile.FieldType.long)).before args0 about1 = true := code_word (m := ⟨1, 2⟩) (meth := k1m2) (c := k1c2) (by decide +kernel) rfl rfl rfl (by decide +kernel)
def codes1 : List Jvm.Cond := [Jvm.Cond.code x code maxLocals ret, Jvm.Cond.code ({ cls := "com/example/haggle/haggle/random/SplitMix64", name := "<init>", desc := "(J)V" } : Jvm.MethodName) prog_36_method_1_code (3 : Nat) (Option.none : Option Jvm.ClassFile.FieldType), Jvm.Cond.code ({ cls := "java/lang/Object", name := "<init>", desc := "()V" } : Jvm.MethodName) object_method_1_code (1 : Nat) (Option.none : Option Jvm.ClassFile.FieldType), Jvm.Cond.code ({ cls := "com/example/haggle/haggle/random/SplitMix64", name := "nextLong", desc := "()J" } : Jvm.MethodName) prog_36_method_2_code (3 : Nat) (Option.some Jvm.ClassFile.FieldType.long), Jvm.Cond.code ({ cls := "com/example/haggle/haggle/random/SplitMix64NextLongPinLaw", name := "inverse", desc := "(J)J" } : Jvm.MethodName) method_2_code (4 : Nat) (Option.some Jvm.ClassFile.FieldType.long), Jvm.Cond.code ({ cls := "com/example/haggle/haggle/random/SplitMix64NextLongPinLaw", name := "unmix", desc := "(J)J" } : Jvm.MethodName) method_3_code (4 : Nat) (Option.some Jvm.ClassFile.FieldType.long)]
set_option maxRecDepth 65536 in
theorem codes_eq : words1.filter isCode = codes1 := rfl
theorem w_codes : ∀ c ∈ words1.filter isCode, c.before args0 about1 = true := by
  rw [codes_eq]
  intro c hc
  simp only [codes1, List.mem_cons, List.not_mem_nil, or_false] at hc
  rcases hc with rfl | rfl | rfl | rfl | rfl | rfl
  · exact w_c0
  · exact w_c1
  · exact w_c2
  · exact w_c3
  · exact w_c4
  · exact w_c5
set_option maxRecDepth 65536 in
theorem w_t1 : (words1.take 24).all (fun c => isCode c || c.before args0 about1) = true := by decide +kernel
set_option maxRecDepth 65536 in
theorem w_t2 : (words1.drop 24).all (fun c => isCode c || c.before args0 about1) = true := by decide +kernel
theorem w_tables : (allAtoms (Jvm.Cond.code x code maxLocals ret :: tables_1)).before args0 about1 = true := by
  rw [allAtoms_all]
  show words1.all (fun c => c.before args0 about1) = true
  refine all_split ?_ w_codes
  rw [← List.take_append_drop 24 words1, List.all_append, w_t1, w_t2]
  rfl
set_option maxRecDepth 65536 in
theorem w_case : (Jvm.Cond.and given_1 narrow_1).before args0 about1 = true := by decide +kernel
theorem w_applies : (headSpec (Jvm.Cond.code x code maxLocals ret :: tables_1) room_1).applies x e0.platform about1 = true :=
  (Spec.applies_iff w_frames).mpr ⟨w_running, w_runnable, w_alone, w_named, w_hears, w_ripe, w_room, w_tables⟩
theorem atStart : AtStart classFile x code maxLocals ret World_1 tables_1 room_1 Calls_1 rest_1 Pre_1 launch0 p0 e0 about1 theMethod args0 below0 :=
  ⟨lists_1, trivial, launch0.admits_env _ _ _, launch0.least_env, fairChoices_fair.cas, fairChoices_fair.clock, w_frames, w_args, w_heap, w_applies, trivial, trivial, w_case⟩
end start1
theorem witness_1 : WitnessClaimed_1 := ⟨start1.p0, start1.e0, start1.about1, start1.theMethod, start1.args0, start1.below0, start1.atStart⟩
end Jvm.Pilot.@@N@@
