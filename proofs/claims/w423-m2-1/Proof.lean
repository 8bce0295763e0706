import JvmDerived
import JvmDerived.Pilot.@@N@@Statement
import JvmDerived.Pilot.@@N@@Code
set_option linter.unusedVariables false
set_option linter.unusedSimpArgs false
namespace Jvm.Pilot.@@N@@
open Jvm Jvm.ClassFile Sem Op Lib Jvm.Free Jvm.Stand Jvm.LawKit Jvm.RoadKit Bundle Jvm.Pilot.@@N@@.Jvm.D
/-! own helpers: the goal of a walk as one predicate, its steps, its calls -/
section OwnKit
variable {p : Program} {l : Launch} {e : Env} {R : Room} {s : State} {m : MethodId} {args : Array Value} {below : List Frame} {meth : Method} {c : Code} {T : State} {locs : List Loc} {cells slots : Nat} {Z : State} {a0 : Array Value} {h : Heap} {Q : Option Value → Heap → List Loc → Prop} {kc ks : Nat}
/-- from S the run ends, returns, and Q holds of what it returns, of the heap and of the places written -/
def OGoal (p : Program) (e : Env) (below : List Frame) (s : State) (Q : Option Value → Heap → List Loc → Prop) (kc ks : Nat) (S : State) : Prop :=
  ∃ s₂ o, Steps p.tables e below S s₂ ∧ s₂.status = .running ∧ Ended s₂ below o ∧ ∃ v L, o = .returned v ∧ Q v s₂.heap L ∧ FrameEnd s o s₂ L kc ks
theorem OGoal.mp {S S' : State} (k : ∀ t, Steps p.tables e below S' t → Steps p.tables e below S t) (g : OGoal p e below s Q kc ks S') : OGoal p e below s Q kc ks S := by
  obtain ⟨s₂, o, h1, h2⟩ := g
  exact ⟨s₂, o, k _ h1, h2⟩
theorem oRet (X : Stand p l e R s m args below meth c T locs cells slots) (hx : p.tables.exec = Jvm.exec) (hlk : meth.locks = false) {pc : Nat} {Ls : Array Slot} {w : Value} {t : FieldType} {i : Instr} {rest : List Value} (hret : meth.sig.returnType = some t) (hn : narrow t w = w)
    (hi : (i = .ireturn ∧ (t = .int ∨ t = .boolean ∨ t = .byte ∨ t = .char ∨ t = .short) ∧ ∃ z, w = .int z) ∨ (i = .lreturn ∧ t = .long ∧ ∃ z, w = .long z) ∨ (i = .dreturn ∧ t = .double ∧ ∃ z, w = .double z) ∨ (i = .freturn ∧ t = .float ∧ ∃ z, w = .float z) ∨ (i = .areturn ∧ t.isReference = true ∧ w.isRef = true))
    (hd : decode c.code pc = .ok (i, 1)) (hQ : Q (some w) T.heap locs) (hc : cells ≤ kc) (hs : slots ≤ ks) : OGoal p e below s Q kc ks (T.setTop (mkF m pc Ls (w :: rest))) := by
  obtain ⟨fs, hr, hrun, hended, hW, hsame⟩ := X.leave (v := some w) (fun q => by rw [hret] at q; cases q) hlk
  exact ⟨_, _, retOut X hx hret hn hi hd hr, hrun, hended, _, _, rfl, hQ, ⟨_, rfl⟩, hW, hsame.mono hc hs⟩
theorem oRetI (X : Stand p l e R s m args below meth c T locs cells slots) (hx : p.tables.exec = Jvm.exec) (hlk : meth.locks = false) {pc : Nat} {Ls : Array Slot} {z : Int32} {rest : List Value} (hret : meth.sig.returnType = some .int)
    (hd : decode c.code pc = .ok (.ireturn, 1)) (hQ : Q (some (.int z)) T.heap locs) (hc : cells ≤ kc) (hs : slots ≤ ks) : OGoal p e below s Q kc ks (T.setTop (mkF m pc Ls (.int z :: rest))) :=
  oRet X hx hlk hret rfl (Or.inl ⟨rfl, Or.inl rfl, _, rfl⟩) hd hQ hc hs
theorem oRetZ (X : Stand p l e R s m args below meth c T locs cells slots) (hx : p.tables.exec = Jvm.exec) (hlk : meth.locks = false) {pc : Nat} {Ls : Array Slot} {z : Int32} {rest : List Value} (hret : meth.sig.returnType = some .boolean) (hz : z = 0 ∨ z = 1)
    (hd : decode c.code pc = .ok (.ireturn, 1)) (hQ : Q (some (.int z)) T.heap locs) (hc : cells ≤ kc) (hs : slots ≤ ks) : OGoal p e below s Q kc ks (T.setTop (mkF m pc Ls (.int z :: rest))) :=
  oRet X hx hlk hret (by rcases hz with rfl | rfl <;> rfl) (Or.inl ⟨rfl, Or.inr (Or.inl rfl), _, rfl⟩) hd hQ hc hs
theorem oRetJ (X : Stand p l e R s m args below meth c T locs cells slots) (hx : p.tables.exec = Jvm.exec) (hlk : meth.locks = false) {pc : Nat} {Ls : Array Slot} {z : Int64} {rest : List Value} (hret : meth.sig.returnType = some .long)
    (hd : decode c.code pc = .ok (.lreturn, 1)) (hQ : Q (some (.long z)) T.heap locs) (hc : cells ≤ kc) (hs : slots ≤ ks) : OGoal p e below s Q kc ks (T.setTop (mkF m pc Ls (.long z :: rest))) :=
  oRet X hx hlk hret rfl (Or.inr (Or.inl ⟨rfl, rfl, _, rfl⟩)) hd hQ hc hs
theorem oRetD (X : Stand p l e R s m args below meth c T locs cells slots) (hx : p.tables.exec = Jvm.exec) (hlk : meth.locks = false) {pc : Nat} {Ls : Array Slot} {z : UInt64} {rest : List Value} (hret : meth.sig.returnType = some .double)
    (hd : decode c.code pc = .ok (.dreturn, 1)) (hQ : Q (some (.double z)) T.heap locs) (hc : cells ≤ kc) (hs : slots ≤ ks) : OGoal p e below s Q kc ks (T.setTop (mkF m pc Ls (.double z :: rest))) :=
  oRet X hx hlk hret rfl (Or.inr (Or.inr (Or.inl ⟨rfl, rfl, _, rfl⟩))) hd hQ hc hs
theorem oRetA (X : Stand p l e R s m args below meth c T locs cells slots) (hx : p.tables.exec = Jvm.exec) (hlk : meth.locks = false) {pc : Nat} {Ls : Array Slot} {w : Value} {t : FieldType} {rest : List Value} (hret : meth.sig.returnType = some t) (ht : t.isReference = true) (hw : w.isRef = true)
    (hd : decode c.code pc = .ok (.areturn, 1)) (hQ : Q (some w) T.heap locs) (hc : cells ≤ kc) (hs : slots ≤ ks) : OGoal p e below s Q kc ks (T.setTop (mkF m pc Ls (w :: rest))) :=
  oRet X hx hlk hret (by cases t <;> cases w <;> first | rfl | (cases ht; done) | (cases hw; done)) (Or.inr (Or.inr (Or.inr (Or.inr ⟨rfl, ht, hw⟩)))) hd hQ hc hs
theorem oRetV (X : Stand p l e R s m args below meth c T locs cells slots) (hx : p.tables.exec = Jvm.exec) (hlk : meth.locks = false) {pc : Nat} {Ls : Array Slot} (hret : meth.sig.returnType = none)
    (hd : decode c.code pc = .ok (.return_, 1)) (hQ : Q none T.heap locs) (hc : cells ≤ kc) (hs : slots ≤ ks) : OGoal p e below s Q kc ks (T.setTop (mkF m pc Ls [])) := by
  obtain ⟨fs, hr, hrun, hended, hW, hsame⟩ := X.leave (v := none) (fun _ => rfl) hlk
  exact ⟨_, _, X.returnOut hx hret hd hr, hrun, hended, _, _, rfl, hQ, ⟨_, rfl⟩, hW, hsame.mono hc hs⟩
/-- the contract of a method: called with as' over the heap h it returns, and Q holds; kc cells and ks slots are made at the most -/
def OConK (l : Launch) (Z : State) (y : MethodName) (bytes : ByteArray) (maxL : Nat) (ret : Option FieldType) (rm : Room) (kc ks : Nat) (as' : Array Value) (h : Heap) (Q : Option Value → Heap → List Loc → Prop) : Prop :=
  ∀ ws : List Jvm.Cond, MetFree l y (head1 (Jvm.Cond.code y bytes maxL ret :: ws) rm) (fun a U => a = as' ∧ Z.Warmed39 U.vm ∧ U.heap = h) (fun _ _ _ _ _ => True) (fun _ U o U' => ∃ v L, o = .returned v ∧ Q v U'.heap L ∧ FrameEnd U o U' L kc ks)
abbrev OCon (l : Launch) (Z : State) (y : MethodName) (bytes : ByteArray) (maxL : Nat) (ret : Option FieldType) (rm : Room) (as' : Array Value) (h : Heap) (Q : Option Value → Heap → List Loc → Prop) : Prop := OConK l Z y bytes maxL ret rm rm.cells rm.slots as' h Q
theorem OConK.intro {y : MethodName} {bytes : ByteArray} {maxL : Nat} {ret : Option FieldType} {rm : Room} {as' : Array Value} {Ls : Array Slot} (hpf : plainFor y = true) (ef : ∀ m, entryFrame m as' maxL = mkF m 0 Ls [])
    (H : ∀ p e s m below meth c s₁, p.tables.exec = Jvm.exec → c.code = bytes → c.maxLocals = maxL → s.vm.findClass y.cls = some m.cls → meth.name = y.name → meth.sig.returnType = ret → meth.locks = false → Z.Warmed39 s.vm →
      Stand p l e rm s m as' below meth c s₁ [] 0 0 → s₁.heap = h → OGoal p e below s Q kc ks (s₁.setTop (mkF m 0 Ls []))) : OConK l Z y bytes maxL ret rm kc ks as' h Q := by
  intro ws
  refine MetFree.of_bodySF hpf hisR ?_
  intro p e s m args below meth c s₁ Bd hml hP hK
  obtain ⟨rfl, hZ, hh⟩ := hP
  obtain ⟨s₂, o, h1, h2, h3, h4⟩ := H p e s m below meth c s₁ Bd.exec Bd.bytes hml (findClass_of_methodNamed Bd.named) (name_of_methodNamed Bd.named Bd.method).1 Bd.returns (BodyLoose.notSynchronized Bd) hZ (Stand.of_body Bd) (by rw [← hh, Bd.state]; rfl)
  exact ⟨s₂, o, castTop (ef m) h1, h2, h3, h4⟩
/-- weaker promise -/
theorem OConK.imp {y : MethodName} {bytes : ByteArray} {maxL : Nat} {ret : Option FieldType} {rm : Room} {as' : Array Value} {Q' : Option Value → Heap → List Loc → Prop} (H : OConK l Z y bytes maxL ret rm kc ks as' h Q) (k : ∀ v h' L, Q v h' L → Q' v h' L) : OConK l Z y bytes maxL ret rm kc ks as' h Q' := by
  intro ws p e ha hc hk s m args below hf happ hP hK
  obtain ⟨n, o, h1, h2, h3, v, L, h4, h5, h6⟩ := H ws p e ha hc hk s m args below hf happ hP hK
  exact ⟨n, o, h1, h2, h3, v, L, h4, k _ _ _ h5, h6⟩
theorem oCallS (X : Stand p l e R s m args below meth c T locs cells slots) (hx : p.tables.exec = Jvm.exec) (hZ : Z.Warmed39 s.vm) {own : String} {index : Nat} {y : MethodName} {bytes : ByteArray} {maxL : Nat} {ret : Option FieldType} {rm : Room} {as' : Array Value} {Qc : Option Value → Heap → List Loc → Prop}
    (hown : s.vm.findClass own = some m.cls) (w1 : (Jvm.Cond.methodLink own index y).before a0 Z = true) (w2 : (Jvm.Cond.static y).before a0 Z = true) (w3 : (Jvm.Cond.initialized y.cls).before a0 Z = true) (w4 : (Jvm.Cond.code y bytes maxL ret).before a0 Z = true)
    (hy : y.cls ≠ "java/lang/invoke/MethodHandle" ∧ y.cls ≠ "java/lang/invoke/VarHandle") (hM : OCon l Z y bytes maxL ret rm as' h Qc) (eT : T.heap = h) {pc : Nat} {Ls : Array Slot} {st : List Value} (argsL rest : List Value) (hst : st = argsL.reverse ++ rest) (has : argsL.toArray = as') (hsize : Ls.size = c.maxLocals)
    (hlen : ∀ sig, parseMethodDescriptor y.desc = some sig → argsL.length = sig.parameters.length) (W : Nat) (hW : (rest.map fun v => v.category).sum ≤ W) (hfr : rm.frames + 1 ≤ R.frames) (hlo : W + (maxL + 11) + rm.locals ≤ R.locals) (hce : cells + rm.cells ≤ R.cells) (hsl : slots + rm.slots ≤ R.slots)
    (hd : decode c.code pc = .ok (.invokestatic index, 3))
    (k : ∀ v T' Lc, Stand p l e R s m args below meth c T' (locs ++ Lc) (cells + rm.cells) (slots + rm.slots) → Qc v T'.heap Lc → OGoal p e below s Q kc ks (T'.setTop (mkF m (pc + 3) Ls (v.toList ++ rest)))) :
    OGoal p e below s Q kc ks (T.setTop (mkF m pc Ls st)) := by
  subst hst has
  obtain ⟨v, _, ⟨T', L', k', n'⟩, -, X', ⟨Lc, hQ, l', y', z'⟩, st⟩ := Jvm.LawKit.callS X hx (y := y) hown (mvT hZ w1) (mvT hZ w2) (mvT hZ w3) (mvT hZ w4) hy (backOf (W := W) (hM []) hZ w4 w3 hfr hlo) (g := mkF m pc Ls (argsL.reverse ++ rest)) rfl hsize (argsL := argsL) (rest := rest) hlen rfl (by show 2 * 0 + _ ≤ _; omega) hd (fun _ _ => ⟨rfl, eT, hce, hsl⟩)
  dsimp only [Pt.U, Pt.locs, Pt.cells, Pt.slots] at X' l' y' z' st hQ
  subst l' y' z'
  exact OGoal.mp st (k v T' Lc X' hQ)
theorem oCallV (X : Stand p l e R s m args below meth c T locs cells slots) (hx : p.tables.exec = Jvm.exec) (hZ : Z.Warmed39 s.vm) {own C : String} {index : Nat} {y z : MethodName} {bytes : ByteArray} {maxL : Nat} {ret : Option FieldType} {rm : Room} {as' : Array Value} {Qc : Option Value → Heap → List Loc → Prop}
    (hown : s.vm.findClass own = some m.cls) (w1 : (Jvm.Cond.methodLink own index y).before a0 Z = true) (w2 : (Jvm.Cond.declares y).before a0 Z = true) (w5 : (Jvm.Cond.selects C y z).before a0 Z = true) (w6 : (Jvm.Cond.instanceMethod z).before a0 Z = true) (w3 : (Jvm.Cond.initialized z.cls).before a0 Z = true) (w4 : (Jvm.Cond.code z bytes maxL ret).before a0 Z = true)
    (hy : y.cls ≠ "java/lang/invoke/MethodHandle" ∧ y.cls ≠ "java/lang/invoke/VarHandle") (hM : OCon l Z z bytes maxL ret rm as' h Qc) (eT : T.heap = h) {a : Addr} (E : Exa Z h a C) {pc : Nat} {Ls : Array Slot} {st : List Value} (argsL rest : List Value) (hst : st = argsL.reverse ++ .ref a :: rest) (has : (.ref a :: argsL).toArray = as') (hsize : Ls.size = c.maxLocals)
    (hnf : NotFace s y) (hlen : ∀ sig, parseMethodDescriptor y.desc = some sig → argsL.length = sig.parameters.length) (W : Nat) (hW : (rest.map fun v => v.category).sum ≤ W) (hfr : rm.frames + 1 ≤ R.frames) (hlo : W + (maxL + 11) + rm.locals ≤ R.locals) (hce : cells + rm.cells ≤ R.cells) (hsl : slots + rm.slots ≤ R.slots)
    (hd : decode c.code pc = .ok (.invokevirtual index, 3))
    (k : ∀ v T' Lc, Stand p l e R s m args below meth c T' (locs ++ Lc) (cells + rm.cells) (slots + rm.slots) → Qc v T'.heap Lc → OGoal p e below s Q kc ks (T'.setTop (mkF m (pc + 3) Ls (v.toList ++ rest)))) :
    OGoal p e below s Q kc ks (T.setTop (mkF m pc Ls st)) := by
  subst hst has
  obtain ⟨cq, kq, qa, qb, qc⟩ := isOf hZ eT E
  obtain ⟨v, _, ⟨T', L', k', n'⟩, -, X', ⟨Lc, hQ, l', y', z'⟩, st⟩ := X.virtualBack hx (y := y) (z := z) hown (mvT hZ w1) (mvT hZ w2) hnf (mvT hZ w5) (mvT hZ w6) hy (backOf (W := W) (hM []) hZ w4 w3 hfr hlo) qa qc (g := mkF m pc Ls (argsL.reverse ++ .ref a :: rest)) rfl hsize (Steps.refl _) (argsL := argsL) (rest := rest) hlen rfl (by show 2 * 0 + _ ≤ _; omega) hd (fun _ _ => ⟨rfl, eT, hce, hsl⟩)
  dsimp only [Pt.U, Pt.locs, Pt.cells, Pt.slots] at X' l' y' z' st hQ
  subst l' y' z'
  exact OGoal.mp (fun t q => st.trans q) (k v T' Lc X' hQ)
theorem oCallN (X : Stand p l e R s m args below meth c T locs cells slots) (hx : p.tables.exec = Jvm.exec) (hZ : Z.Warmed39 s.vm) {own : String} {index : Nat} {y : MethodName} {bytes : ByteArray} {maxL : Nat} {rm : Room} {as' : Array Value} {Qc : Option Value → Heap → List Loc → Prop}
    (hy1 : y.name = "<init>") (hown : s.vm.findClass own = some m.cls) (w1 : (Jvm.Cond.methodLink own index y).before a0 Z = true) (w6 : (Jvm.Cond.instanceMethod y).before a0 Z = true) (w3 : (Jvm.Cond.initialized y.cls).before a0 Z = true) (w4 : (Jvm.Cond.code y bytes maxL none).before a0 Z = true)
    (hy : y.cls ≠ "java/lang/invoke/MethodHandle" ∧ y.cls ≠ "java/lang/invoke/VarHandle") (hM : OCon l Z y bytes maxL none rm as' h Qc) (eT : T.heap = h) {a : Addr} {pc : Nat} {Ls : Array Slot} {st : List Value} (argsL rest : List Value) (hst : st = argsL.reverse ++ .ref a :: rest) (has : (.ref a :: argsL).toArray = as') (hsize : Ls.size = c.maxLocals)
    (hlen : ∀ sig, parseMethodDescriptor y.desc = some sig → argsL.length = sig.parameters.length) (W : Nat) (hW : (rest.map fun v => v.category).sum ≤ W) (hfr : rm.frames + 1 ≤ R.frames) (hlo : W + (maxL + 11) + rm.locals ≤ R.locals) (hce : cells + rm.cells ≤ R.cells) (hsl : slots + rm.slots ≤ R.slots)
    (hd : decode c.code pc = .ok (.invokespecial index, 3))
    (k : ∀ v T' Lc, Stand p l e R s m args below meth c T' (locs ++ Lc) (cells + rm.cells) (slots + rm.slots) → Qc v T'.heap Lc → OGoal p e below s Q kc ks (T'.setTop (mkF m (pc + 3) Ls (v.toList ++ rest)))) :
    OGoal p e below s Q kc ks (T.setTop (mkF m pc Ls st)) := by
  subst hst has
  obtain ⟨v, _, ⟨T', L', k', n'⟩, -, X', ⟨Lc, hQ, l', y', z'⟩, st⟩ := X.specialBack hx (y := y) hy1 hown (mvT hZ w1) (mvT hZ w6) (mvT hZ w4) hy (backOf (W := W) (hM []) hZ w4 w3 hfr hlo) (g := mkF m pc Ls (argsL.reverse ++ .ref a :: rest)) rfl hsize (Steps.refl _) (a := a) (argsL := argsL) (rest := rest) hlen rfl (by show 2 * 0 + _ ≤ _; omega) hd (fun _ _ => ⟨rfl, eT, hce, hsl⟩)
  dsimp only [Pt.U, Pt.locs, Pt.cells, Pt.slots] at X' l' y' z' st hQ
  subst l' y' z'
  exact OGoal.mp (fun t q => st.trans q) (k v T' Lc X' hQ)
theorem oNotFace {s : State} {C : String} {k : Nat} (h : (Jvm.Cond.instantiable C k).before args s = true) : ∃ c kc, s.vm.findClass C = some c ∧ s.vm.classes[c]? = some kc ∧ kc.isInterface = false := by
  obtain ⟨c, kc, h1, h2, -, h3, -, -⟩ := Cond.instantiable_spec h
  exact ⟨c, kc, h1, h2, (Bool.or_eq_false_iff.mp h3).1⟩
theorem oCallP (X : Stand p l e R s m args below meth c T locs cells slots) (hx : p.tables.exec = Jvm.exec) (hZ : Z.Warmed39 s.vm) {own C : String} {index : Nat} {y : MethodName} {bytes : ByteArray} {maxL : Nat} {ret : Option FieldType} {rm : Room} {as' : Array Value} {Qc : Option Value → Heap → List Loc → Prop}
    (hown : s.vm.findClass own = some m.cls) (w1 : (Jvm.Cond.methodLink own index y).before a0 Z = true) {kk : Nat} (w5 : (Jvm.Cond.instantiable y.cls kk).before a0 Z = true) (w6 : (Jvm.Cond.instanceMethod y).before a0 Z = true) (w7 : (Jvm.Cond.privateMethod y).before a0 Z = true) (w3 : (Jvm.Cond.initialized y.cls).before a0 Z = true) (w4 : (Jvm.Cond.code y bytes maxL ret).before a0 Z = true)
    (hy : y.cls ≠ "java/lang/invoke/MethodHandle" ∧ y.cls ≠ "java/lang/invoke/VarHandle") (hM : OCon l Z y bytes maxL ret rm as' h Qc) (eT : T.heap = h) {a : Addr} (E : Exa Z h a C) {pc : Nat} {Ls : Array Slot} {st : List Value} (argsL rest : List Value) (hst : st = argsL.reverse ++ .ref a :: rest) (has : (.ref a :: argsL).toArray = as') (hsize : Ls.size = c.maxLocals)
    (hlen : ∀ sig, parseMethodDescriptor y.desc = some sig → argsL.length = sig.parameters.length) (W : Nat) (hW : (rest.map fun v => v.category).sum ≤ W) (hfr : rm.frames + 1 ≤ R.frames) (hlo : W + (maxL + 11) + rm.locals ≤ R.locals) (hce : cells + rm.cells ≤ R.cells) (hsl : slots + rm.slots ≤ R.slots)
    (hd : decode c.code pc = .ok (.invokevirtual index, 3))
    (k : ∀ v T' Lc, Stand p l e R s m args below meth c T' (locs ++ Lc) (cells + rm.cells) (slots + rm.slots) → Qc v T'.heap Lc → OGoal p e below s Q kc ks (T'.setTop (mkF m (pc + 3) Ls (v.toList ++ rest)))) :
    OGoal p e below s Q kc ks (T.setTop (mkF m pc Ls st)) := by
  subst hst has
  obtain ⟨cq, q1, q2⟩ := E.cell
  obtain ⟨c1, k1, hc1, hk1, hi1⟩ := oNotFace (args := #[]) (mvT hZ w5)
  have hpr : s.PrivateAt y := Cond.privateMethod_at (mvP hZ w7 (args := #[]))
  have hse := selects_self_of_private (args := args) hc1 hk1 hi1 hpr (mvT hZ w6) hy
  obtain ⟨v, _, ⟨T', L', k', n'⟩, -, X', ⟨Lc, hQ, l', y', z'⟩, st⟩ := X.privateBack hx (y := y) hown (mvT hZ w1) (mvT hZ w6) hse hpr (mvT hZ w4) hy (backOf (W := W) (hM []) hZ w4 w3 hfr hlo) (g := mkF m pc Ls (argsL.reverse ++ .ref a :: rest)) rfl hsize (Steps.refl _) (a := a) (by rw [eT]; exact q1) q2 (argsL := argsL) (rest := rest) hlen rfl (by show 2 * 0 + _ ≤ _; omega) hd (fun _ _ => ⟨rfl, eT, hce, hsl⟩)
  dsimp only [Pt.U, Pt.locs, Pt.cells, Pt.slots] at X' l' y' z' st hQ
  subst l' y' z'
  exact OGoal.mp (fun t q => st.trans q) (k v T' Lc X' hQ)
theorem oLrem {g : JFrame} {target : State} (X : Stand p l e R s m args below meth c T locs cells slots) (hx : p.tables.exec = Jvm.exec) (hg : g.method = m) {x y : Int64} {rest : List Value} (hd : decode c.code g.pc = .ok (.lrem, 1)) (hs : g.stack = .long y :: .long x :: rest) (hy : y ≠ 0)
    (hr : Steps p.tables e below (T.setTop { g with pc := g.pc + 1, stack := .long (x % y) :: rest }) target) : Steps p.tables e below (T.setTop g) target := XT.lrem X.here hx hg hd hs hy (by rw [lrem_mod]; exact hr)
theorem oLt {x y : Int32} (h : x < y) : x.toInt < y.toInt := Int32.lt_iff_toInt_lt.mp h
theorem oNlt {x y : Int32} (h : ¬ x < y) : y.toInt ≤ x.toInt := Int.not_lt.mp fun q => h (Int32.lt_iff_toInt_lt.mpr q)
theorem oEq {x y : Int32} (h : x = y) : x.toInt = y.toInt := congrArg _ h
theorem oNe {x y : Int32} (h : ¬ x = y) : x.toInt ≠ y.toInt := fun q => h (Int32.toInt_inj.mp q)
theorem oLtL {x y : Int64} (h : x < y) : x.toInt < y.toInt := Int64.lt_iff_toInt_lt.mp h
theorem oNltL {x y : Int64} (h : ¬ x < y) : y.toInt ≤ x.toInt := Int.not_lt.mp fun q => h (Int64.lt_iff_toInt_lt.mpr q)
theorem oEqL {x y : Int64} (h : x = y) : x.toInt = y.toInt := congrArg _ h
theorem oNeL {x y : Int64} (h : ¬ x = y) : x.toInt ≠ y.toInt := fun q => h (Int64.toInt_inj.mp q)
theorem mLt {x y : Int32} (h : x.toInt < y.toInt) : x < y := Int32.lt_iff_toInt_lt.mpr h
theorem mNlt {x y : Int32} (h : y.toInt ≤ x.toInt) : ¬ x < y := fun q => absurd (oLt q) (Int.not_lt.mpr h)
theorem mEq {x y : Int32} (h : x.toInt = y.toInt) : x = y := Int32.toInt_inj.mp h
theorem mNe {x y : Int32} (h : x.toInt ≠ y.toInt) : ¬ x = y := fun q => h (congrArg _ q)
theorem mLtL {x y : Int64} (h : x.toInt < y.toInt) : x < y := Int64.lt_iff_toInt_lt.mpr h
theorem mNltL {x y : Int64} (h : y.toInt ≤ x.toInt) : ¬ x < y := fun q => absurd (oLtL q) (Int.not_lt.mpr h)
theorem mEqL {x y : Int64} (h : x.toInt = y.toInt) : x = y := Int64.toInt_inj.mp h
theorem mNeL {x y : Int64} (h : x.toInt ≠ y.toInt) : ¬ x = y := fun q => h (congrArg _ q)
theorem oRemL (x y : Int64) : 0 ≤ x.toInt → 0 < y.toInt → 0 ≤ (x % y).toInt ∧ (x % y).toInt < y.toInt := by
  intro h1 h2
  rw [Int64.toInt_mod, Int.tmod_eq_emod_of_nonneg h1]
  exact ⟨Int.emod_nonneg _ (by omega), Int.emod_lt_of_pos _ h2⟩
theorem oRemI (x y : Int32) : 0 ≤ x.toInt → 0 < y.toInt → 0 ≤ (x % y).toInt ∧ (x % y).toInt < y.toInt := by
  intro h1 h2
  rw [Int32.toInt_mod, Int.tmod_eq_emod_of_nonneg h1]
  exact ⟨Int.emod_nonneg _ (by omega), Int.emod_lt_of_pos _ h2⟩
/-- an array of kind ty, of length z, whose i-th component is f i -/
def OArr (Z : State) (h : Heap) (a : Addr) (ty : FieldType) (z : Int32) (f : Nat → Value) : Prop := ∃ c : Cell, Arr Z h a c ty ∧ c.slots.size = z.toNatClampNeg ∧ ¬ z < 0 ∧ ∀ i, i < c.slots.size → c.slots[i]? = some (f i)
section OArrs
variable {h' : Heap} {a b : Addr} {ty : FieldType} {z : Int32} {f : Nat → Value} {sl : Nat} {v : Value}
theorem OArr.lt (F : OArr Z h a ty z f) : a < h.size := by obtain ⟨c, A, -⟩ := F; exact A.lt
theorem OArr.ext (F : OArr Z h a ty z f) (E : Ext h h') : OArr Z h' a ty z f := by obtain ⟨c, A, r⟩ := F; exact ⟨c, A.ext E, r⟩
theorem OArr.other (F : OArr Z h b ty z f) (W : Wr h h' a sl v) (q : b ≠ a) : OArr Z h' b ty z f := by obtain ⟨c, A, r⟩ := F; exact ⟨c, A.other W q, r⟩
theorem OArr.keep {ws : List Addr} (F : OArr Z h a ty z f) (K : Keep h h' ws) (q : a ∉ ws) : OArr Z h' a ty z f := by obtain ⟨c, A, r⟩ := F; exact ⟨c, ⟨K.2.1 a c A.1 q, A.2⟩, r⟩
theorem OArr.imp {g : Nat → Value} (F : OArr Z h a ty z f) (k : ∀ i, i < z.toNatClampNeg → f i = g i) : OArr Z h a ty z g := by
  obtain ⟨c, A, S, r, G⟩ := F
  exact ⟨c, A, S, r, fun i hi => by rw [G i hi, k i (by rw [← S]; exact hi)]⟩
theorem OArr.new {k : ClassId} (A : Arr Z h a (newA k ty z) ty) (q : ¬ z < 0) : OArr Z h a ty z (fun _ => defaultValue ty) :=
  ⟨_, A, sz_new _ _ _, q, fun i hi => by simp only [newA, Array.size_replicate] at hi; simp [newA, hi]⟩
theorem OArr.set (F : OArr Z h a ty z f) (W : Wr h h' a sl v) : OArr Z h' a ty z (fun i => if i = sl then v else f i) := by
  obtain ⟨c, A, S, r, G⟩ := F
  refine ⟨_, A.same W, by rw [sz_set]; exact S, r, fun i hi => ?_⟩
  rw [sz_set] at hi
  show (c.setSlot sl v).slots[i]? = some (if i = sl then v else f i)
  by_cases q : i = sl
  · subst q; simp [Cell.setSlot, hi]
  · rw [if_neg q, ← G i hi]
    simp [Cell.setSlot, Array.getElem?_setIfInBounds, Ne.symm q]
theorem oNeA {C : String} {k : Nat} (E : Exa Z h a C) (wi : (Jvm.Cond.instantiable C k).before a0 Z = true) (F : OArr Z h b ty z f) : a ≠ b := by
  obtain ⟨c, A, -⟩ := F; exact ne_arr E wi A
theorem oIn {j : Int32} {n : Nat} (S : n = z.toNatClampNeg) (h1 : 0 ≤ j.toInt) (h2 : j.toInt < z.toInt) : ¬ (j < 0 ∨ n ≤ j.toNatClampNeg) := by
  intro q
  have e0 : (0 : Int32).toInt = 0 := by decide
  have e1 : j.toNatClampNeg = j.toInt.toNat := rfl
  have e2 : z.toNatClampNeg = z.toInt.toNat := rfl
  rcases q with q | q
  · have := oLt q; omega
  · rw [S, e1, e2] at q; omega
theorem oLen (X : Stand p l e R s m args below meth c T locs cells slots) (hx : p.tables.exec = Jvm.exec) (hZ : Z.Warmed39 s.vm) (eT : T.heap = h) (F : OArr Z h a ty z f) {g : JFrame} (hg : g.method = m) {rest : List Value} (hs : g.stack = .ref a :: rest) (hd : decode c.code g.pc = .ok (.arraylength, 1)) {target : State}
    (k : Steps p.tables e below (T.setTop { g with pc := g.pc + 1, stack := .int z :: rest }) target) : Steps p.tables e below (T.setTop g) target := by
  obtain ⟨cl, A, S, r, -⟩ := F
  refine X.arraylength hx (by rw [eT]; exact A.1) (State.isArrayOf_alike hZ.alike A.2.1) (g := g) hg hs hd _ ?_
  rw [len_of S r]; exact k
theorem oInd (F : OArr Z h a ty z f) {j : Int32} (h1 : 0 ≤ j.toInt) (h2 : j.toInt < z.toInt) : ∃ cl, Arr Z h a cl ty ∧ ¬ (j < 0 ∨ cl.slots.size ≤ j.toNatClampNeg) ∧ cl.slots[j.toNatClampNeg]? = some (f j.toNatClampNeg) := by
  obtain ⟨cl, A, S, r, G⟩ := F
  have q := oIn S h1 h2
  exact ⟨cl, A, q, G _ (Nat.lt_of_not_le fun w => q (Or.inr w))⟩
theorem oLdI (X : Stand p l e R s m args below meth c T locs cells slots) (hx : p.tables.exec = Jvm.exec) (hZ : Z.Warmed39 s.vm) (eT : T.heap = h) (F : OArr Z h a .int z f) {j x : Int32} (h1 : 0 ≤ j.toInt) (h2 : j.toInt < z.toInt) (hv : f j.toNatClampNeg = .int x) {g : JFrame} (hg : g.method = m) {rest : List Value} (hs : g.stack = .int j :: .ref a :: rest) (hd : decode c.code g.pc = .ok (.iaload, 1)) {target : State}
    (k : Steps p.tables e below (T.setTop { g with pc := g.pc + 1, stack := .int x :: rest }) target) : Steps p.tables e below (T.setTop g) target := by
  obtain ⟨cl, A, q, G⟩ := oInd F h1 h2
  rw [hv] at G
  exact X.iaload hx (j := j) (v := .int x) (by rw [eT]; exact A.1) (State.isArrayOf_alike hZ.alike A.2.1) A.2.2 q G (g := g) hg hs hd _ k
theorem oLdD (X : Stand p l e R s m args below meth c T locs cells slots) (hx : p.tables.exec = Jvm.exec) (hZ : Z.Warmed39 s.vm) (eT : T.heap = h) (F : OArr Z h a .double z f) {j : Int32} {x : UInt64} (h1 : 0 ≤ j.toInt) (h2 : j.toInt < z.toInt) (hv : f j.toNatClampNeg = .double x) {g : JFrame} (hg : g.method = m) {rest : List Value} (hs : g.stack = .int j :: .ref a :: rest) (hd : decode c.code g.pc = .ok (.daload, 1)) {target : State}
    (k : Steps p.tables e below (T.setTop { g with pc := g.pc + 1, stack := .double x :: rest }) target) : Steps p.tables e below (T.setTop g) target := by
  obtain ⟨cl, A, q, G⟩ := oInd F h1 h2
  rw [hv] at G
  exact X.daload hx (j := j) (v := .double x) (by rw [eT]; exact A.1) (State.isArrayOf_alike hZ.alike A.2.1) A.2.2 q G (g := g) hg hs hd _ k
theorem oStI (X : Stand p l e R s m args below meth c T locs cells slots) (hx : p.tables.exec = Jvm.exec) (hZ : Z.Warmed39 s.vm) (eT : T.heap = h) (F : OArr Z h a .int z f) {j x : Int32} (h1 : 0 ≤ j.toInt) (h2 : j.toInt < z.toInt) {g : JFrame} (hg : g.method = m) {rest : List Value} (hs : g.stack = .int x :: .int j :: .ref a :: rest) (hd : decode c.code g.pc = .ok (.iastore, 1)) :
    ∃ T' h', Stand p l e R s m args below meth c T' (locs ++ [⟨a, j.toNatClampNeg⟩]) cells slots ∧ T'.heap = h' ∧ Wr h h' a j.toNatClampNeg (.int x) ∧ ∀ target, Steps p.tables e below (T'.setTop { g with pc := g.pc + 1, stack := rest }) target → Steps p.tables e below (T.setTop g) target := by
  obtain ⟨cl, A, q, G⟩ := oInd F h1 h2
  exact stI X hx hZ eT A q hg hs hd
theorem oStD (X : Stand p l e R s m args below meth c T locs cells slots) (hx : p.tables.exec = Jvm.exec) (hZ : Z.Warmed39 s.vm) (eT : T.heap = h) (F : OArr Z h a .double z f) {j : Int32} {x : UInt64} (h1 : 0 ≤ j.toInt) (h2 : j.toInt < z.toInt) {g : JFrame} (hg : g.method = m) {rest : List Value} (hs : g.stack = .double x :: .int j :: .ref a :: rest) (hd : decode c.code g.pc = .ok (.dastore, 1)) :
    ∃ T' h', Stand p l e R s m args below meth c T' (locs ++ [⟨a, j.toNatClampNeg⟩]) cells slots ∧ T'.heap = h' ∧ Wr h h' a j.toNatClampNeg (.double x) ∧ ∀ target, Steps p.tables e below (T'.setTop { g with pc := g.pc + 1, stack := rest }) target → Steps p.tables e below (T.setTop g) target := by
  obtain ⟨cl, A, q, G⟩ := oInd F h1 h2
  exact stD X hx hZ eT A q hg hs hd
theorem oClone (X : Stand p l e R s m args below meth c T locs cells slots) (hx : p.tables.exec = Jvm.exec) (hZ : Z.Warmed39 s.vm) {own ad : String} {index : Nat} (hown : s.vm.findClass own = some m.cls)
    (w1 : (Jvm.Cond.methodLink own index ⟨ad, "clone", "()Ljava/lang/Object;"⟩).before a0 Z = true) (w2 : (Jvm.Cond.sameMethod ad "java/lang/Object" "clone" "()Ljava/lang/Object;").before a0 Z = true) (w3 : (Jvm.Cond.native ⟨"java/lang/Object", "clone", "()Ljava/lang/Object;"⟩).before a0 Z = true)
    (w4 : (Jvm.Cond.instanceMethod ⟨"java/lang/Object", "clone", "()Ljava/lang/Object;"⟩).before a0 Z = true) (w5 : (Jvm.Cond.selects ad ⟨ad, "clone", "()Ljava/lang/Object;"⟩ ⟨"java/lang/Object", "clone", "()Ljava/lang/Object;"⟩).before a0 Z = true) (w6 : (Jvm.Cond.castable ad "java/lang/Cloneable").before a0 Z = true)
    (eT : T.heap = h) (F : OArr Z h a ty z f) (E : Exa Z h a ad) (hfit : ∀ i, i < z.toNatClampNeg → fits ty (f i) = true) {g : JFrame} (hg : g.method = m) (hsize : g.locals.size = c.maxLocals) {rest : List Value} (hst : g.stack = .ref a :: rest) (hd : decode c.code g.pc = .ok (.invokevirtual index, 3))
    (hf : 1 ≤ R.frames) {W cap : Nat} (hW : 2 * g.monitorRoom + (rest.map fun v => v.category).sum ≤ W) (hl : W + 14 ≤ R.locals) (hcap : z.toNatClampNeg ≤ cap) (hc : cells + 1 ≤ R.cells) (hsl : slots + cap ≤ R.slots) :
    ∃ T' h', Stand p l e R s m args below meth c T' locs (cells + 1) (slots + cap) ∧ T'.heap = h' ∧ Ext h h' ∧ OArr Z h' h.size ty z f ∧ Exa Z h' h.size ad ∧
      ∀ target, Steps p.tables e below (T'.setTop { g with pc := g.pc + 3, stack := .ref h.size :: rest }) target → Steps p.tables e below (T.setTop g) target := by
  obtain ⟨cl, A, S, r, G⟩ := F
  have FC : FitC Z cl := fitC_of A fun i hi v hv => by
    rw [G i hi] at hv; cases hv; exact hfit i (by rw [← S]; exact hi)
  obtain ⟨T', h', X', e', ex, A', E', st⟩ := cloneA X hx hZ hown w1 w2 w3 w4 w5 w6 eT A E FC hg hsize hst hd hf hW hl (by rw [S]; exact hcap) hc hsl
  exact ⟨T', h', X', e', ex, ⟨cloneOf cl, A', S, r, G⟩, E', st⟩
end OArrs
/-- from a case's equation to the value -/
theorem oEqv {f s : State} {o : Option Outcome} {idx : List Nat} {a b : Term} (h : (Jvm.Cond.eq a b).value args f o s idx = some true) : ∃ x, a.eval args f o idx s = some x ∧ b.eval args f o idx s = some x := by
  obtain ⟨x, y, h1, h2, -, -⟩ := cmp_v (Or.inl h)
  cases x <;> cases y <;> simp [Cond.value, h1, h2] at h <;> first | (subst h; exact ⟨_, h1, h2⟩) | exact ⟨_, h1, h2⟩
theorem oFeq {s : State} {t u : Term} {x : Addr} {C n d : String} {w : Value} (ht : t.eval args s none [] s = some (.ref x)) (h : (Jvm.Cond.eq (.field t C n d) u).value args s none s [] = some true) (hu : u.eval args s none [] s = some w) : s.fieldOf? x C n d = some w := by
  obtain ⟨v, h1, h2⟩ := oEqv h
  rw [fld_at ht] at h1
  rw [h1, ← h2, hu]
end OwnKit
def own_ro (x y : UInt64) (f : Int32) : Int32 := if 0 < cmpValue (FP.dcmp x y) .l then 1 else if cmpValue (FP.dcmp x y) .l = 0 then (if f = 0 then 1 else 0) else 0
theorem own_b53 (a : Int32) : B53 a.toInt64 := by
  have := rng32 a
  constructor <;> rw [c_i2l] <;> omega
theorem own_some (a b : Int32) : ∃ o, FP.dcmp (FP.i2d a) (FP.i2d b) = some o := ⟨_, by rw [i2d_w, i2d_w]; exact dcmp_ws (own_b53 a) (own_b53 b)⟩
theorem own_d_prog_22_method_10_code_0 : decode prog_22_method_10_code 0 = .ok (.dload_n 0, 1) := by decide +kernel
theorem own_d_prog_22_method_10_code_1 : decode prog_22_method_10_code 1 = .ok (.dload_n 2, 1) := by decide +kernel
theorem own_d_prog_22_method_10_code_2 : decode prog_22_method_10_code 2 = .ok (.dcmp .l, 1) := by decide +kernel
theorem own_d_prog_22_method_10_code_3 : decode prog_22_method_10_code 3 = .ok (.ifCond .gt 14, 3) := by decide +kernel
theorem own_d_prog_22_method_10_code_17 : decode prog_22_method_10_code 17 = .ok (.iconst 1, 1) := by decide +kernel
theorem own_d_prog_22_method_10_code_18 : decode prog_22_method_10_code 18 = .ok (.goto 4, 3) := by decide +kernel
theorem own_d_prog_22_method_10_code_22 : decode prog_22_method_10_code 22 = .ok (.ireturn, 1) := by decide +kernel
theorem own_d_prog_22_method_10_code_6 : decode prog_22_method_10_code 6 = .ok (.dload_n 0, 1) := by decide +kernel
theorem own_d_prog_22_method_10_code_7 : decode prog_22_method_10_code 7 = .ok (.dload_n 2, 1) := by decide +kernel
theorem own_d_prog_22_method_10_code_8 : decode prog_22_method_10_code 8 = .ok (.dcmp .l, 1) := by decide +kernel
theorem own_d_prog_22_method_10_code_9 : decode prog_22_method_10_code 9 = .ok (.ifCond .ne 12, 3) := by decide +kernel
theorem own_d_prog_22_method_10_code_12 : decode prog_22_method_10_code 12 = .ok (.iload 4, 2) := by decide +kernel
theorem own_d_prog_22_method_10_code_14 : decode prog_22_method_10_code 14 = .ok (.ifCond .ne 7, 3) := by decide +kernel
theorem own_d_prog_22_method_10_code_21 : decode prog_22_method_10_code 21 = .ok (.iconst 0, 1) := by decide +kernel
theorem own_pn_com_example_haggle_haggle_negotiation_SwapSearch : plainName "com/example/haggle/haggle/negotiation/SwapSearch" = true := by first | (simp [plainName, overriddenIn]; done) | decide +kernel
theorem own_ef_rmA (x0 : UInt64) (x1 : UInt64) (x2 : Int32) (m : MethodId) : entryFrame m #[(.double x0), (.double x1), (.int x2)] 5 = mkF m 0 #[.val (.double x0), .second, .val (.double x1), .second, .val (.int x2)] [] := by first | (simp [entryFrame, mkF, argsToLocals, Value.category]; done) | rfl
set_option maxRecDepth 65536 in
set_option maxHeartbeats 40000000 in
theorem rmA (l : Launch) (Z : State) (a0 : Array Value) (hw : ∀ d ∈ tables_1, d.before a0 Z = true) (p1 p2 : UInt64) (p3 : Int32) (h0 : Heap) (n0 : Nat) (Z0 : n0 ≤ h0.size)  :
    OCon l Z (⟨"com/example/haggle/haggle/negotiation/SwapSearch", "rulesOut", "(DDZ)Z"⟩ : MethodName) prog_22_method_10_code 5 (some .boolean) ({ frames := 0, cells := 0, slots := 0, locals := 0 } : Room) #[(.double p1), (.double p2), (.int p3)] h0 (fun v h L => v = some (.int (own_ro p1 p2 p3)) ∧ Fr n0 L ∧ h = h0) := by
  refine OConK.intro (y := (⟨"com/example/haggle/haggle/negotiation/SwapSearch", "rulesOut", "(DDZ)Z"⟩ : MethodName)) (plainFor_of_name own_pn_com_example_haggle_haggle_negotiation_SwapSearch) (own_ef_rmA p1 p2 p3) ?_
  intro p e s m below meth c s₁ hx hby hml hown hnm hret hlk hZ X0 e0
  show OGoal p e below s _ _ _ (s₁.setTop (mkF m 0 #[.val (.double p1), .second, .val (.double p2), .second, .val (.int p3)] []))
  refine OGoal.mp (S' := (s₁.setTop (mkF m 1 #[.val (.double p1), .second, .val (.double p2), .second, .val (.int p3)] [(.double p1)]))) (fun _ k => XS.dloadN X0.here hx rfl (hb hby own_d_prog_22_method_10_code_0) rfl k) ?_
  refine OGoal.mp (S' := (s₁.setTop (mkF m 2 #[.val (.double p1), .second, .val (.double p2), .second, .val (.int p3)] [(.double p2), (.double p1)]))) (fun _ k => XS.dloadN X0.here hx rfl (hb hby own_d_prog_22_method_10_code_1) rfl k) ?_
  refine OGoal.mp (S' := (s₁.setTop (mkF m 3 #[.val (.double p1), .second, .val (.double p2), .second, .val (.int p3)] [(.int (cmpValue (FP.dcmp p1 p2) .l))]))) (fun _ k => XS.dcmpS X0.here hx rfl (hb hby own_d_prog_22_method_10_code_2) rfl rfl k) ?_
  by_cases hc1 : 0 < (cmpValue (FP.dcmp p1 p2) .l)
  · refine OGoal.mp (S' := (s₁.setTop (mkF m 17 #[.val (.double p1), .second, .val (.double p2), .second, .val (.int p3)] []))) (fun _ k => XS.ifYes X0.here hx rfl (pc0 := 3) (pc' := 17) rfl (hb hby own_d_prog_22_method_10_code_3) rfl (XT.i0_gt_t hc1) (by decide) (by decide) k) ?_
    refine OGoal.mp (S' := (s₁.setTop (mkF m 18 #[.val (.double p1), .second, .val (.double p2), .second, .val (.int p3)] [(.int (1 : Int32))]))) (fun _ k => XS.iconst X0.here hx rfl (hb hby own_d_prog_22_method_10_code_17) k) ?_
    refine OGoal.mp (S' := (s₁.setTop (mkF m 22 #[.val (.double p1), .second, .val (.double p2), .second, .val (.int p3)] [(.int (1 : Int32))]))) (fun _ k => XS.goto X0.here hx rfl (pc0 := 18) (pc' := 22) rfl (hb hby own_d_prog_22_method_10_code_18) (by decide) (by decide) k) ?_
    refine oRetZ X0 hx hlk hret (Or.inr rfl) (hb hby own_d_prog_22_method_10_code_22) ?_ (by decide) (by decide)
    exact ⟨by unfold own_ro; rw [if_pos hc1], (Fr.nil n0), e0⟩
  · refine OGoal.mp (S' := (s₁.setTop (mkF m 6 #[.val (.double p1), .second, .val (.double p2), .second, .val (.int p3)] []))) (fun _ k => XS.ifNo X0.here hx rfl (hb hby own_d_prog_22_method_10_code_3) rfl (XT.i0_gt_f hc1) k) ?_
    refine OGoal.mp (S' := (s₁.setTop (mkF m 7 #[.val (.double p1), .second, .val (.double p2), .second, .val (.int p3)] [(.double p1)]))) (fun _ k => XS.dloadN X0.here hx rfl (hb hby own_d_prog_22_method_10_code_6) rfl k) ?_
    refine OGoal.mp (S' := (s₁.setTop (mkF m 8 #[.val (.double p1), .second, .val (.double p2), .second, .val (.int p3)] [(.double p2), (.double p1)]))) (fun _ k => XS.dloadN X0.here hx rfl (hb hby own_d_prog_22_method_10_code_7) rfl k) ?_
    refine OGoal.mp (S' := (s₁.setTop (mkF m 9 #[.val (.double p1), .second, .val (.double p2), .second, .val (.int p3)] [(.int (cmpValue (FP.dcmp p1 p2) .l))]))) (fun _ k => XS.dcmpS X0.here hx rfl (hb hby own_d_prog_22_method_10_code_8) rfl rfl k) ?_
    by_cases hc2 : (cmpValue (FP.dcmp p1 p2) .l) = 0
    · refine OGoal.mp (S' := (s₁.setTop (mkF m 12 #[.val (.double p1), .second, .val (.double p2), .second, .val (.int p3)] []))) (fun _ k => XS.ifNo X0.here hx rfl (hb hby own_d_prog_22_method_10_code_9) rfl (XT.i0_ne_f hc2) k) ?_
      refine OGoal.mp (S' := (s₁.setTop (mkF m 14 #[.val (.double p1), .second, .val (.double p2), .second, .val (.int p3)] [(.int p3)]))) (fun _ k => XS.iload X0.here hx rfl (hb hby own_d_prog_22_method_10_code_12) rfl k) ?_
      by_cases hc3 : p3 = 0
      · refine OGoal.mp (S' := (s₁.setTop (mkF m 17 #[.val (.double p1), .second, .val (.double p2), .second, .val (.int p3)] []))) (fun _ k => XS.ifNo X0.here hx rfl (hb hby own_d_prog_22_method_10_code_14) rfl (XT.i0_ne_f hc3) k) ?_
        refine OGoal.mp (S' := (s₁.setTop (mkF m 18 #[.val (.double p1), .second, .val (.double p2), .second, .val (.int p3)] [(.int (1 : Int32))]))) (fun _ k => XS.iconst X0.here hx rfl (hb hby own_d_prog_22_method_10_code_17) k) ?_
        refine OGoal.mp (S' := (s₁.setTop (mkF m 22 #[.val (.double p1), .second, .val (.double p2), .second, .val (.int p3)] [(.int (1 : Int32))]))) (fun _ k => XS.goto X0.here hx rfl (pc0 := 18) (pc' := 22) rfl (hb hby own_d_prog_22_method_10_code_18) (by decide) (by decide) k) ?_
        refine oRetZ X0 hx hlk hret (Or.inr rfl) (hb hby own_d_prog_22_method_10_code_22) ?_ (by decide) (by decide)
        exact ⟨by unfold own_ro; rw [if_neg hc1, if_pos hc2, if_pos hc3], (Fr.nil n0), e0⟩
      · refine OGoal.mp (S' := (s₁.setTop (mkF m 21 #[.val (.double p1), .second, .val (.double p2), .second, .val (.int p3)] []))) (fun _ k => XS.ifYes X0.here hx rfl (pc0 := 14) (pc' := 21) rfl (hb hby own_d_prog_22_method_10_code_14) rfl (XT.i0_ne_t hc3) (by decide) (by decide) k) ?_
        refine OGoal.mp (S' := (s₁.setTop (mkF m 22 #[.val (.double p1), .second, .val (.double p2), .second, .val (.int p3)] [(.int (0 : Int32))]))) (fun _ k => XS.iconst X0.here hx rfl (hb hby own_d_prog_22_method_10_code_21) k) ?_
        refine oRetZ X0 hx hlk hret (Or.inl rfl) (hb hby own_d_prog_22_method_10_code_22) ?_ (by decide) (by decide)
        exact ⟨by unfold own_ro; rw [if_neg hc1, if_pos hc2, if_neg hc3], (Fr.nil n0), e0⟩
    · refine OGoal.mp (S' := (s₁.setTop (mkF m 21 #[.val (.double p1), .second, .val (.double p2), .second, .val (.int p3)] []))) (fun _ k => XS.ifYes X0.here hx rfl (pc0 := 9) (pc' := 21) rfl (hb hby own_d_prog_22_method_10_code_9) rfl (XT.i0_ne_t hc2) (by decide) (by decide) k) ?_
      refine OGoal.mp (S' := (s₁.setTop (mkF m 22 #[.val (.double p1), .second, .val (.double p2), .second, .val (.int p3)] [(.int (0 : Int32))]))) (fun _ k => XS.iconst X0.here hx rfl (hb hby own_d_prog_22_method_10_code_21) k) ?_
      refine oRetZ X0 hx hlk hret (Or.inl rfl) (hb hby own_d_prog_22_method_10_code_22) ?_ (by decide) (by decide)
      exact ⟨by unfold own_ro; rw [if_neg hc1, if_neg hc2], (Fr.nil n0), e0⟩
theorem own_pd__DDZ_Z : parseMethodDescriptor "(DDZ)Z" = some ⟨[.double, .double, .boolean], some .boolean⟩ := by decide +kernel
theorem own_pn_com_example_haggle_haggle_negotiation_SwapSearchRulesOutPinLaw : plainName "com/example/haggle/haggle/negotiation/SwapSearchRulesOutPinLaw" = true := by first | (simp [plainName, overriddenIn]; done) | decide +kernel
theorem own_ef_rm0 (x0 : Int32) (x1 : Int32) (x2 : Int32) (m : MethodId) : entryFrame m #[(.int x0), (.int x1), (.int x2)] maxLocals = mkF m 0 #[.val (.int x0), .val (.int x1), .val (.int x2), .unset, .unset, .unset, .unset, .unset, .unset] [] := by first | (simp [entryFrame, mkF, argsToLocals, Value.category, maxLocals]; done) | rfl
set_option maxRecDepth 65536 in
set_option maxHeartbeats 40000000 in
theorem rm0 (l : Launch) (Z : State) (a0 : Array Value) (hw : ∀ d ∈ tables_1, d.before a0 Z = true) (p1 p2 p3 : Int32) (h0 : Heap) (n0 : Nat) (Z0 : n0 ≤ h0.size)  :
    OConK l Z x code maxLocals ret room_1 0 0 #[(.int p1), (.int p2), (.int p3)] h0 (fun v h L => v = some (.int 1) ∧ Fr n0 L) := by
  refine OConK.intro (y := x) (plainFor_of_name own_pn_com_example_haggle_haggle_negotiation_SwapSearchRulesOutPinLaw) (own_ef_rm0 p1 p2 p3) ?_
  intro p e s m below meth c s₁ hx hby hml hown hnm hret hlk hZ X0 e0
  show OGoal p e below s _ _ _ (s₁.setTop (mkF m 0 #[.val (.int p1), .val (.int p2), .val (.int p3), .unset, .unset, .unset, .unset, .unset, .unset] []))
  refine OGoal.mp (S' := (s₁.setTop (mkF m 1 #[.val (.int p1), .val (.int p2), .val (.int p3), .unset, .unset, .unset, .unset, .unset, .unset] [(.int p1)]))) (fun _ k => XS.iloadN X0.here hx rfl (hb hby at_0) rfl k) ?_
  refine OGoal.mp (S' := (s₁.setTop (mkF m 2 #[.val (.int p1), .val (.int p2), .val (.int p3), .unset, .unset, .unset, .unset, .unset, .unset] [(.double (FP.i2d p1))]))) (fun _ k => XS.i2dS X0.here hx rfl (hb hby at_1) rfl rfl k) ?_
  refine OGoal.mp (S' := (s₁.setTop (mkF m 3 #[.val (.int p1), .val (.int p2), .val (.int p3), .val (.double (FP.i2d p1)), .second, .unset, .unset, .unset, .unset] []))) (fun _ k => XS.dstoreN X0.here hx rfl (hb hby at_2) rfl (l' := #[.val (.int p1), .val (.int p2), .val (.int p3), .val (.double (FP.i2d p1)), .second, .unset, .unset, .unset, .unset]) rfl k) ?_
  refine OGoal.mp (S' := (s₁.setTop (mkF m 4 #[.val (.int p1), .val (.int p2), .val (.int p3), .val (.double (FP.i2d p1)), .second, .unset, .unset, .unset, .unset] [(.int p3)]))) (fun _ k => XS.iloadN X0.here hx rfl (hb hby at_3) rfl k) ?_
  refine OGoal.mp (S' := (s₁.setTop (mkF m 5 #[.val (.int p1), .val (.int p2), .val (.int p3), .val (.double (FP.i2d p1)), .second, .unset, .unset, .unset, .unset] [(.int (2 : Int32)), (.int p3)]))) (fun _ k => XS.iconst X0.here hx rfl (hb hby at_4) k) ?_
  refine OGoal.mp (S' := (s₁.setTop (mkF m 6 #[.val (.int p1), .val (.int p2), .val (.int p3), .val (.double (FP.i2d p1)), .second, .unset, .unset, .unset, .unset] [(.int (p3 &&& (2 : Int32)))]))) (fun _ k => XS.iand X0.here hx rfl (hb hby at_5) rfl k) ?_
  by_cases hc1 : (p3 &&& (2 : Int32)) = 0
  · refine OGoal.mp (S' := (s₁.setTop (mkF m 14 #[.val (.int p1), .val (.int p2), .val (.int p3), .val (.double (FP.i2d p1)), .second, .unset, .unset, .unset, .unset] []))) (fun _ k => XS.ifYes X0.here hx rfl (pc0 := 6) (pc' := 14) rfl (hb hby at_6) rfl (XT.i0_eq_t hc1) (by decide) (by decide) k) ?_
    refine OGoal.mp (S' := (s₁.setTop (mkF m 15 #[.val (.int p1), .val (.int p2), .val (.int p3), .val (.double (FP.i2d p1)), .second, .unset, .unset, .unset, .unset] [(.int p2)]))) (fun _ k => XS.iloadN X0.here hx rfl (hb hby at_14) rfl k) ?_
    refine OGoal.mp (S' := (s₁.setTop (mkF m 16 #[.val (.int p1), .val (.int p2), .val (.int p3), .val (.double (FP.i2d p1)), .second, .unset, .unset, .unset, .unset] [(.double (FP.i2d p2))]))) (fun _ k => XS.i2dS X0.here hx rfl (hb hby at_15) rfl rfl k) ?_
    refine OGoal.mp (S' := (s₁.setTop (mkF m 18 #[.val (.int p1), .val (.int p2), .val (.int p3), .val (.double (FP.i2d p1)), .second, .val (.double (FP.i2d p2)), .second, .unset, .unset] []))) (fun _ k => XS.dstore X0.here hx rfl (hb hby at_16) rfl (l' := #[.val (.int p1), .val (.int p2), .val (.int p3), .val (.double (FP.i2d p1)), .second, .val (.double (FP.i2d p2)), .second, .unset, .unset]) rfl k) ?_
    refine OGoal.mp (S' := (s₁.setTop (mkF m 19 #[.val (.int p1), .val (.int p2), .val (.int p3), .val (.double (FP.i2d p1)), .second, .val (.double (FP.i2d p2)), .second, .unset, .unset] [(.int p3)]))) (fun _ k => XS.iloadN X0.here hx rfl (hb hby at_18) rfl k) ?_
    refine OGoal.mp (S' := (s₁.setTop (mkF m 20 #[.val (.int p1), .val (.int p2), .val (.int p3), .val (.double (FP.i2d p1)), .second, .val (.double (FP.i2d p2)), .second, .unset, .unset] [(.int (1 : Int32)), (.int p3)]))) (fun _ k => XS.iconst X0.here hx rfl (hb hby at_19) k) ?_
    refine OGoal.mp (S' := (s₁.setTop (mkF m 21 #[.val (.int p1), .val (.int p2), .val (.int p3), .val (.double (FP.i2d p1)), .second, .val (.double (FP.i2d p2)), .second, .unset, .unset] [(.int (p3 &&& (1 : Int32)))]))) (fun _ k => XS.iand X0.here hx rfl (hb hby at_20) rfl k) ?_
    by_cases hc2 : (p3 &&& (1 : Int32)) = 0
    · refine OGoal.mp (S' := (s₁.setTop (mkF m 28 #[.val (.int p1), .val (.int p2), .val (.int p3), .val (.double (FP.i2d p1)), .second, .val (.double (FP.i2d p2)), .second, .unset, .unset] []))) (fun _ k => XS.ifYes X0.here hx rfl (pc0 := 21) (pc' := 28) rfl (hb hby at_21) rfl (XT.i0_eq_t hc2) (by decide) (by decide) k) ?_
      refine OGoal.mp (S' := (s₁.setTop (mkF m 29 #[.val (.int p1), .val (.int p2), .val (.int p3), .val (.double (FP.i2d p1)), .second, .val (.double (FP.i2d p2)), .second, .unset, .unset] [(.int (0 : Int32))]))) (fun _ k => XS.iconst X0.here hx rfl (hb hby at_28) k) ?_
      refine OGoal.mp (S' := (s₁.setTop (mkF m 31 #[.val (.int p1), .val (.int p2), .val (.int p3), .val (.double (FP.i2d p1)), .second, .val (.double (FP.i2d p2)), .second, .val (.int (0 : Int32)), .unset] []))) (fun _ k => XS.istore X0.here hx rfl (hb hby at_29) rfl (l' := #[.val (.int p1), .val (.int p2), .val (.int p3), .val (.double (FP.i2d p1)), .second, .val (.double (FP.i2d p2)), .second, .val (.int (0 : Int32)), .unset]) rfl k) ?_
      obtain ⟨o, ho⟩ := own_some p1 p2
      rcases o with _ | _ | _
      · show OGoal p e below s _ _ _ (s₁.setTop (mkF m 31 #[.val (.int p1), .val (.int p2), .val (.int p3), .val (.double (FP.i2d p1)), .second, .val (.double (FP.i2d p2)), .second, .val (.int (0 : Int32)), .unset] []))
        refine OGoal.mp (S' := (s₁.setTop (mkF m 32 #[.val (.int p1), .val (.int p2), .val (.int p3), .val (.double (FP.i2d p1)), .second, .val (.double (FP.i2d p2)), .second, .val (.int (0 : Int32)), .unset] [(.double (FP.i2d p1))]))) (fun _ k => XS.dloadN X0.here hx rfl (hb hby at_31) rfl k) ?_
        refine OGoal.mp (S' := (s₁.setTop (mkF m 34 #[.val (.int p1), .val (.int p2), .val (.int p3), .val (.double (FP.i2d p1)), .second, .val (.double (FP.i2d p2)), .second, .val (.int (0 : Int32)), .unset] [(.double (FP.i2d p2)), (.double (FP.i2d p1))]))) (fun _ k => XS.dload X0.here hx rfl (hb hby at_32) rfl k) ?_
        refine OGoal.mp (S' := (s₁.setTop (mkF m 35 #[.val (.int p1), .val (.int p2), .val (.int p3), .val (.double (FP.i2d p1)), .second, .val (.double (FP.i2d p2)), .second, .val (.int (0 : Int32)), .unset] [(.int (-1 : Int32))]))) (fun _ k => XS.dcmpS X0.here hx rfl (hb hby at_34) rfl (by rw [ho]; rfl) k) ?_
        refine OGoal.mp (S' := (s₁.setTop (mkF m 50 #[.val (.int p1), .val (.int p2), .val (.int p3), .val (.double (FP.i2d p1)), .second, .val (.double (FP.i2d p2)), .second, .val (.int (0 : Int32)), .unset] []))) (fun _ k => XS.ifYes X0.here hx rfl (pc0 := 35) (pc' := 50) rfl (hb hby at_35) rfl (XT.i0_lt_t (by decide)) (by decide) (by decide) k) ?_
        refine OGoal.mp (S' := (s₁.setTop (mkF m 51 #[.val (.int p1), .val (.int p2), .val (.int p3), .val (.double (FP.i2d p1)), .second, .val (.double (FP.i2d p2)), .second, .val (.int (0 : Int32)), .unset] [(.int (1 : Int32))]))) (fun _ k => XS.iconst X0.here hx rfl (hb hby at_50) k) ?_
        refine OGoal.mp (S' := (s₁.setTop (mkF m 55 #[.val (.int p1), .val (.int p2), .val (.int p3), .val (.double (FP.i2d p1)), .second, .val (.double (FP.i2d p2)), .second, .val (.int (0 : Int32)), .unset] [(.int (1 : Int32))]))) (fun _ k => XS.goto X0.here hx rfl (pc0 := 51) (pc' := 55) rfl (hb hby at_51) (by decide) (by decide) k) ?_
        refine OGoal.mp (S' := (s₁.setTop (mkF m 57 #[.val (.int p1), .val (.int p2), .val (.int p3), .val (.double (FP.i2d p1)), .second, .val (.double (FP.i2d p2)), .second, .val (.int (0 : Int32)), .val (.int (1 : Int32))] []))) (fun _ k => XS.istore X0.here hx rfl (hb hby at_55) rfl (l' := #[.val (.int p1), .val (.int p2), .val (.int p3), .val (.double (FP.i2d p1)), .second, .val (.double (FP.i2d p2)), .second, .val (.int (0 : Int32)), .val (.int (1 : Int32))]) rfl k) ?_
        refine OGoal.mp (S' := (s₁.setTop (mkF m 58 #[.val (.int p1), .val (.int p2), .val (.int p3), .val (.double (FP.i2d p1)), .second, .val (.double (FP.i2d p2)), .second, .val (.int (0 : Int32)), .val (.int (1 : Int32))] [(.double (FP.i2d p1))]))) (fun _ k => XS.dloadN X0.here hx rfl (hb hby at_57) rfl k) ?_
        refine OGoal.mp (S' := (s₁.setTop (mkF m 60 #[.val (.int p1), .val (.int p2), .val (.int p3), .val (.double (FP.i2d p1)), .second, .val (.double (FP.i2d p2)), .second, .val (.int (0 : Int32)), .val (.int (1 : Int32))] [(.double (FP.i2d p2)), (.double (FP.i2d p1))]))) (fun _ k => XS.dload X0.here hx rfl (hb hby at_58) rfl k) ?_
        refine OGoal.mp (S' := (s₁.setTop (mkF m 62 #[.val (.int p1), .val (.int p2), .val (.int p3), .val (.double (FP.i2d p1)), .second, .val (.double (FP.i2d p2)), .second, .val (.int (0 : Int32)), .val (.int (1 : Int32))] [(.int (0 : Int32)), (.double (FP.i2d p2)), (.double (FP.i2d p1))]))) (fun _ k => XS.iload X0.here hx rfl (hb hby at_60) rfl k) ?_
        refine oCallS (y := (⟨"com/example/haggle/haggle/negotiation/SwapSearch", "rulesOut", "(DDZ)Z"⟩ : MethodName)) X0 hx hZ hown (hw _ (List.mem_of_getElem? (i := 0) rfl)) (hw _ (List.mem_of_getElem? (i := 1) rfl)) (hw _ (List.mem_of_getElem? (i := 2) rfl)) (hw _ (List.mem_of_getElem? (i := 3) rfl)) (by decide) (rmA l Z a0 hw (FP.i2d p1) (FP.i2d p2) (0 : Int32) h0 n0 Z0) e0 [(.double (FP.i2d p1)), (.double (FP.i2d p2)), (.int (0 : Int32))] [] rfl rfl (by rw [hml]; rfl) (lenOf own_pd__DDZ_Z rfl) 0 (Nat.le_of_eq rfl) (by decide) (by decide) (by decide) (by decide) (hb hby at_62) ?_
        intro v3 T4 L5 X6 q7
        obtain ⟨rfl, N8, e9⟩ := q7
        have N10 := Fr.app (Fr.nil n0) N8
        rw [show own_ro (FP.i2d p1) (FP.i2d p2) (0 : Int32) = (0 : Int32) by unfold own_ro; rw [ho]; rfl]
        show OGoal p e below s _ _ _ (T4.setTop (mkF m 65 #[.val (.int p1), .val (.int p2), .val (.int p3), .val (.double (FP.i2d p1)), .second, .val (.double (FP.i2d p2)), .second, .val (.int (0 : Int32)), .val (.int (1 : Int32))] [(.int (0 : Int32))]))
        refine OGoal.mp (S' := (T4.setTop (mkF m 67 #[.val (.int p1), .val (.int p2), .val (.int p3), .val (.double (FP.i2d p1)), .second, .val (.double (FP.i2d p2)), .second, .val (.int (0 : Int32)), .val (.int (1 : Int32))] [(.int (1 : Int32)), (.int (0 : Int32))]))) (fun _ k => XS.iload X6.here hx rfl (hb hby at_65) rfl k) ?_
        refine OGoal.mp (S' := (T4.setTop (mkF m 74 #[.val (.int p1), .val (.int p2), .val (.int p3), .val (.double (FP.i2d p1)), .second, .val (.double (FP.i2d p2)), .second, .val (.int (0 : Int32)), .val (.int (1 : Int32))] [(.int (0 : Int32))]))) (fun _ k => XS.ifYes X6.here hx rfl (pc0 := 67) (pc' := 74) rfl (hb hby at_67) rfl (XT.i0_ne_t (by decide)) (by decide) (by decide) k) ?_
        refine OGoal.mp (S' := (T4.setTop (mkF m 75 #[.val (.int p1), .val (.int p2), .val (.int p3), .val (.double (FP.i2d p1)), .second, .val (.double (FP.i2d p2)), .second, .val (.int (0 : Int32)), .val (.int (1 : Int32))] [(.int (0 : Int32)), (.int (0 : Int32))]))) (fun _ k => XS.iconst X6.here hx rfl (hb hby at_74) k) ?_
        refine OGoal.mp (S' := (T4.setTop (mkF m 78 #[.val (.int p1), .val (.int p2), .val (.int p3), .val (.double (FP.i2d p1)), .second, .val (.double (FP.i2d p2)), .second, .val (.int (0 : Int32)), .val (.int (1 : Int32))] []))) (fun _ k => XS.icmpNo X6.here hx rfl (hb hby at_75) rfl (XT.ii_ne_f (by decide)) k) ?_
        refine OGoal.mp (S' := (T4.setTop (mkF m 79 #[.val (.int p1), .val (.int p2), .val (.int p3), .val (.double (FP.i2d p1)), .second, .val (.double (FP.i2d p2)), .second, .val (.int (0 : Int32)), .val (.int (1 : Int32))] [(.int (1 : Int32))]))) (fun _ k => XS.iconst X6.here hx rfl (hb hby at_78) k) ?_
        refine OGoal.mp (S' := (T4.setTop (mkF m 83 #[.val (.int p1), .val (.int p2), .val (.int p3), .val (.double (FP.i2d p1)), .second, .val (.double (FP.i2d p2)), .second, .val (.int (0 : Int32)), .val (.int (1 : Int32))] [(.int (1 : Int32))]))) (fun _ k => XS.goto X6.here hx rfl (pc0 := 79) (pc' := 83) rfl (hb hby at_79) (by decide) (by decide) k) ?_
        refine oRetZ X6 hx hlk hret (Or.inr rfl) (hb hby at_83) ?_ (by decide) (by decide)
        exact ⟨rfl, N10⟩
      · show OGoal p e below s _ _ _ (s₁.setTop (mkF m 31 #[.val (.int p1), .val (.int p2), .val (.int p3), .val (.double (FP.i2d p1)), .second, .val (.double (FP.i2d p2)), .second, .val (.int (0 : Int32)), .unset] []))
        refine OGoal.mp (S' := (s₁.setTop (mkF m 32 #[.val (.int p1), .val (.int p2), .val (.int p3), .val (.double (FP.i2d p1)), .second, .val (.double (FP.i2d p2)), .second, .val (.int (0 : Int32)), .unset] [(.double (FP.i2d p1))]))) (fun _ k => XS.dloadN X0.here hx rfl (hb hby at_31) rfl k) ?_
        refine OGoal.mp (S' := (s₁.setTop (mkF m 34 #[.val (.int p1), .val (.int p2), .val (.int p3), .val (.double (FP.i2d p1)), .second, .val (.double (FP.i2d p2)), .second, .val (.int (0 : Int32)), .unset] [(.double (FP.i2d p2)), (.double (FP.i2d p1))]))) (fun _ k => XS.dload X0.here hx rfl (hb hby at_32) rfl k) ?_
        refine OGoal.mp (S' := (s₁.setTop (mkF m 35 #[.val (.int p1), .val (.int p2), .val (.int p3), .val (.double (FP.i2d p1)), .second, .val (.double (FP.i2d p2)), .second, .val (.int (0 : Int32)), .unset] [(.int (0 : Int32))]))) (fun _ k => XS.dcmpS X0.here hx rfl (hb hby at_34) rfl (by rw [ho]; rfl) k) ?_
        refine OGoal.mp (S' := (s₁.setTop (mkF m 38 #[.val (.int p1), .val (.int p2), .val (.int p3), .val (.double (FP.i2d p1)), .second, .val (.double (FP.i2d p2)), .second, .val (.int (0 : Int32)), .unset] []))) (fun _ k => XS.ifNo X0.here hx rfl (hb hby at_35) rfl (XT.i0_lt_f (by decide)) k) ?_
        refine OGoal.mp (S' := (s₁.setTop (mkF m 40 #[.val (.int p1), .val (.int p2), .val (.int p3), .val (.double (FP.i2d p1)), .second, .val (.double (FP.i2d p2)), .second, .val (.int (0 : Int32)), .unset] [(.int (0 : Int32))]))) (fun _ k => XS.iload X0.here hx rfl (hb hby at_38) rfl k) ?_
        refine OGoal.mp (S' := (s₁.setTop (mkF m 54 #[.val (.int p1), .val (.int p2), .val (.int p3), .val (.double (FP.i2d p1)), .second, .val (.double (FP.i2d p2)), .second, .val (.int (0 : Int32)), .unset] []))) (fun _ k => XS.ifYes X0.here hx rfl (pc0 := 40) (pc' := 54) rfl (hb hby at_40) rfl (XT.i0_eq_t (by decide)) (by decide) (by decide) k) ?_
        refine OGoal.mp (S' := (s₁.setTop (mkF m 55 #[.val (.int p1), .val (.int p2), .val (.int p3), .val (.double (FP.i2d p1)), .second, .val (.double (FP.i2d p2)), .second, .val (.int (0 : Int32)), .unset] [(.int (0 : Int32))]))) (fun _ k => XS.iconst X0.here hx rfl (hb hby at_54) k) ?_
        refine OGoal.mp (S' := (s₁.setTop (mkF m 57 #[.val (.int p1), .val (.int p2), .val (.int p3), .val (.double (FP.i2d p1)), .second, .val (.double (FP.i2d p2)), .second, .val (.int (0 : Int32)), .val (.int (0 : Int32))] []))) (fun _ k => XS.istore X0.here hx rfl (hb hby at_55) rfl (l' := #[.val (.int p1), .val (.int p2), .val (.int p3), .val (.double (FP.i2d p1)), .second, .val (.double (FP.i2d p2)), .second, .val (.int (0 : Int32)), .val (.int (0 : Int32))]) rfl k) ?_
        refine OGoal.mp (S' := (s₁.setTop (mkF m 58 #[.val (.int p1), .val (.int p2), .val (.int p3), .val (.double (FP.i2d p1)), .second, .val (.double (FP.i2d p2)), .second, .val (.int (0 : Int32)), .val (.int (0 : Int32))] [(.double (FP.i2d p1))]))) (fun _ k => XS.dloadN X0.here hx rfl (hb hby at_57) rfl k) ?_
        refine OGoal.mp (S' := (s₁.setTop (mkF m 60 #[.val (.int p1), .val (.int p2), .val (.int p3), .val (.double (FP.i2d p1)), .second, .val (.double (FP.i2d p2)), .second, .val (.int (0 : Int32)), .val (.int (0 : Int32))] [(.double (FP.i2d p2)), (.double (FP.i2d p1))]))) (fun _ k => XS.dload X0.here hx rfl (hb hby at_58) rfl k) ?_
        refine OGoal.mp (S' := (s₁.setTop (mkF m 62 #[.val (.int p1), .val (.int p2), .val (.int p3), .val (.double (FP.i2d p1)), .second, .val (.double (FP.i2d p2)), .second, .val (.int (0 : Int32)), .val (.int (0 : Int32))] [(.int (0 : Int32)), (.double (FP.i2d p2)), (.double (FP.i2d p1))]))) (fun _ k => XS.iload X0.here hx rfl (hb hby at_60) rfl k) ?_
        refine oCallS (y := (⟨"com/example/haggle/haggle/negotiation/SwapSearch", "rulesOut", "(DDZ)Z"⟩ : MethodName)) X0 hx hZ hown (hw _ (List.mem_of_getElem? (i := 0) rfl)) (hw _ (List.mem_of_getElem? (i := 1) rfl)) (hw _ (List.mem_of_getElem? (i := 2) rfl)) (hw _ (List.mem_of_getElem? (i := 3) rfl)) (by decide) (rmA l Z a0 hw (FP.i2d p1) (FP.i2d p2) (0 : Int32) h0 n0 Z0) e0 [(.double (FP.i2d p1)), (.double (FP.i2d p2)), (.int (0 : Int32))] [] rfl rfl (by rw [hml]; rfl) (lenOf own_pd__DDZ_Z rfl) 0 (Nat.le_of_eq rfl) (by decide) (by decide) (by decide) (by decide) (hb hby at_62) ?_
        intro v11 T12 L13 X14 q15
        obtain ⟨rfl, N16, e17⟩ := q15
        have N18 := Fr.app (Fr.nil n0) N16
        rw [show own_ro (FP.i2d p1) (FP.i2d p2) (0 : Int32) = (1 : Int32) by unfold own_ro; rw [ho]; rfl]
        show OGoal p e below s _ _ _ (T12.setTop (mkF m 65 #[.val (.int p1), .val (.int p2), .val (.int p3), .val (.double (FP.i2d p1)), .second, .val (.double (FP.i2d p2)), .second, .val (.int (0 : Int32)), .val (.int (0 : Int32))] [(.int (1 : Int32))]))
        refine OGoal.mp (S' := (T12.setTop (mkF m 67 #[.val (.int p1), .val (.int p2), .val (.int p3), .val (.double (FP.i2d p1)), .second, .val (.double (FP.i2d p2)), .second, .val (.int (0 : Int32)), .val (.int (0 : Int32))] [(.int (0 : Int32)), (.int (1 : Int32))]))) (fun _ k => XS.iload X14.here hx rfl (hb hby at_65) rfl k) ?_
        refine OGoal.mp (S' := (T12.setTop (mkF m 70 #[.val (.int p1), .val (.int p2), .val (.int p3), .val (.double (FP.i2d p1)), .second, .val (.double (FP.i2d p2)), .second, .val (.int (0 : Int32)), .val (.int (0 : Int32))] [(.int (1 : Int32))]))) (fun _ k => XS.ifNo X14.here hx rfl (hb hby at_67) rfl (XT.i0_ne_f (by decide)) k) ?_
        refine OGoal.mp (S' := (T12.setTop (mkF m 71 #[.val (.int p1), .val (.int p2), .val (.int p3), .val (.double (FP.i2d p1)), .second, .val (.double (FP.i2d p2)), .second, .val (.int (0 : Int32)), .val (.int (0 : Int32))] [(.int (1 : Int32)), (.int (1 : Int32))]))) (fun _ k => XS.iconst X14.here hx rfl (hb hby at_70) k) ?_
        refine OGoal.mp (S' := (T12.setTop (mkF m 75 #[.val (.int p1), .val (.int p2), .val (.int p3), .val (.double (FP.i2d p1)), .second, .val (.double (FP.i2d p2)), .second, .val (.int (0 : Int32)), .val (.int (0 : Int32))] [(.int (1 : Int32)), (.int (1 : Int32))]))) (fun _ k => XS.goto X14.here hx rfl (pc0 := 71) (pc' := 75) rfl (hb hby at_71) (by decide) (by decide) k) ?_
        refine OGoal.mp (S' := (T12.setTop (mkF m 78 #[.val (.int p1), .val (.int p2), .val (.int p3), .val (.double (FP.i2d p1)), .second, .val (.double (FP.i2d p2)), .second, .val (.int (0 : Int32)), .val (.int (0 : Int32))] []))) (fun _ k => XS.icmpNo X14.here hx rfl (hb hby at_75) rfl (XT.ii_ne_f (by decide)) k) ?_
        refine OGoal.mp (S' := (T12.setTop (mkF m 79 #[.val (.int p1), .val (.int p2), .val (.int p3), .val (.double (FP.i2d p1)), .second, .val (.double (FP.i2d p2)), .second, .val (.int (0 : Int32)), .val (.int (0 : Int32))] [(.int (1 : Int32))]))) (fun _ k => XS.iconst X14.here hx rfl (hb hby at_78) k) ?_
        refine OGoal.mp (S' := (T12.setTop (mkF m 83 #[.val (.int p1), .val (.int p2), .val (.int p3), .val (.double (FP.i2d p1)), .second, .val (.double (FP.i2d p2)), .second, .val (.int (0 : Int32)), .val (.int (0 : Int32))] [(.int (1 : Int32))]))) (fun _ k => XS.goto X14.here hx rfl (pc0 := 79) (pc' := 83) rfl (hb hby at_79) (by decide) (by decide) k) ?_
        refine oRetZ X14 hx hlk hret (Or.inr rfl) (hb hby at_83) ?_ (by decide) (by decide)
        exact ⟨rfl, N18⟩
      · show OGoal p e below s _ _ _ (s₁.setTop (mkF m 31 #[.val (.int p1), .val (.int p2), .val (.int p3), .val (.double (FP.i2d p1)), .second, .val (.double (FP.i2d p2)), .second, .val (.int (0 : Int32)), .unset] []))
        refine OGoal.mp (S' := (s₁.setTop (mkF m 32 #[.val (.int p1), .val (.int p2), .val (.int p3), .val (.double (FP.i2d p1)), .second, .val (.double (FP.i2d p2)), .second, .val (.int (0 : Int32)), .unset] [(.double (FP.i2d p1))]))) (fun _ k => XS.dloadN X0.here hx rfl (hb hby at_31) rfl k) ?_
        refine OGoal.mp (S' := (s₁.setTop (mkF m 34 #[.val (.int p1), .val (.int p2), .val (.int p3), .val (.double (FP.i2d p1)), .second, .val (.double (FP.i2d p2)), .second, .val (.int (0 : Int32)), .unset] [(.double (FP.i2d p2)), (.double (FP.i2d p1))]))) (fun _ k => XS.dload X0.here hx rfl (hb hby at_32) rfl k) ?_
        refine OGoal.mp (S' := (s₁.setTop (mkF m 35 #[.val (.int p1), .val (.int p2), .val (.int p3), .val (.double (FP.i2d p1)), .second, .val (.double (FP.i2d p2)), .second, .val (.int (0 : Int32)), .unset] [(.int (1 : Int32))]))) (fun _ k => XS.dcmpS X0.here hx rfl (hb hby at_34) rfl (by rw [ho]; rfl) k) ?_
        refine OGoal.mp (S' := (s₁.setTop (mkF m 38 #[.val (.int p1), .val (.int p2), .val (.int p3), .val (.double (FP.i2d p1)), .second, .val (.double (FP.i2d p2)), .second, .val (.int (0 : Int32)), .unset] []))) (fun _ k => XS.ifNo X0.here hx rfl (hb hby at_35) rfl (XT.i0_lt_f (by decide)) k) ?_
        refine OGoal.mp (S' := (s₁.setTop (mkF m 40 #[.val (.int p1), .val (.int p2), .val (.int p3), .val (.double (FP.i2d p1)), .second, .val (.double (FP.i2d p2)), .second, .val (.int (0 : Int32)), .unset] [(.int (0 : Int32))]))) (fun _ k => XS.iload X0.here hx rfl (hb hby at_38) rfl k) ?_
        refine OGoal.mp (S' := (s₁.setTop (mkF m 54 #[.val (.int p1), .val (.int p2), .val (.int p3), .val (.double (FP.i2d p1)), .second, .val (.double (FP.i2d p2)), .second, .val (.int (0 : Int32)), .unset] []))) (fun _ k => XS.ifYes X0.here hx rfl (pc0 := 40) (pc' := 54) rfl (hb hby at_40) rfl (XT.i0_eq_t (by decide)) (by decide) (by decide) k) ?_
        refine OGoal.mp (S' := (s₁.setTop (mkF m 55 #[.val (.int p1), .val (.int p2), .val (.int p3), .val (.double (FP.i2d p1)), .second, .val (.double (FP.i2d p2)), .second, .val (.int (0 : Int32)), .unset] [(.int (0 : Int32))]))) (fun _ k => XS.iconst X0.here hx rfl (hb hby at_54) k) ?_
        refine OGoal.mp (S' := (s₁.setTop (mkF m 57 #[.val (.int p1), .val (.int p2), .val (.int p3), .val (.double (FP.i2d p1)), .second, .val (.double (FP.i2d p2)), .second, .val (.int (0 : Int32)), .val (.int (0 : Int32))] []))) (fun _ k => XS.istore X0.here hx rfl (hb hby at_55) rfl (l' := #[.val (.int p1), .val (.int p2), .val (.int p3), .val (.double (FP.i2d p1)), .second, .val (.double (FP.i2d p2)), .second, .val (.int (0 : Int32)), .val (.int (0 : Int32))]) rfl k) ?_
        refine OGoal.mp (S' := (s₁.setTop (mkF m 58 #[.val (.int p1), .val (.int p2), .val (.int p3), .val (.double (FP.i2d p1)), .second, .val (.double (FP.i2d p2)), .second, .val (.int (0 : Int32)), .val (.int (0 : Int32))] [(.double (FP.i2d p1))]))) (fun _ k => XS.dloadN X0.here hx rfl (hb hby at_57) rfl k) ?_
        refine OGoal.mp (S' := (s₁.setTop (mkF m 60 #[.val (.int p1), .val (.int p2), .val (.int p3), .val (.double (FP.i2d p1)), .second, .val (.double (FP.i2d p2)), .second, .val (.int (0 : Int32)), .val (.int (0 : Int32))] [(.double (FP.i2d p2)), (.double (FP.i2d p1))]))) (fun _ k => XS.dload X0.here hx rfl (hb hby at_58) rfl k) ?_
        refine OGoal.mp (S' := (s₁.setTop (mkF m 62 #[.val (.int p1), .val (.int p2), .val (.int p3), .val (.double (FP.i2d p1)), .second, .val (.double (FP.i2d p2)), .second, .val (.int (0 : Int32)), .val (.int (0 : Int32))] [(.int (0 : Int32)), (.double (FP.i2d p2)), (.double (FP.i2d p1))]))) (fun _ k => XS.iload X0.here hx rfl (hb hby at_60) rfl k) ?_
        refine oCallS (y := (⟨"com/example/haggle/haggle/negotiation/SwapSearch", "rulesOut", "(DDZ)Z"⟩ : MethodName)) X0 hx hZ hown (hw _ (List.mem_of_getElem? (i := 0) rfl)) (hw _ (List.mem_of_getElem? (i := 1) rfl)) (hw _ (List.mem_of_getElem? (i := 2) rfl)) (hw _ (List.mem_of_getElem? (i := 3) rfl)) (by decide) (rmA l Z a0 hw (FP.i2d p1) (FP.i2d p2) (0 : Int32) h0 n0 Z0) e0 [(.double (FP.i2d p1)), (.double (FP.i2d p2)), (.int (0 : Int32))] [] rfl rfl (by rw [hml]; rfl) (lenOf own_pd__DDZ_Z rfl) 0 (Nat.le_of_eq rfl) (by decide) (by decide) (by decide) (by decide) (hb hby at_62) ?_
        intro v19 T20 L21 X22 q23
        obtain ⟨rfl, N24, e25⟩ := q23
        have N26 := Fr.app (Fr.nil n0) N24
        rw [show own_ro (FP.i2d p1) (FP.i2d p2) (0 : Int32) = (1 : Int32) by unfold own_ro; rw [ho]; rfl]
        show OGoal p e below s _ _ _ (T20.setTop (mkF m 65 #[.val (.int p1), .val (.int p2), .val (.int p3), .val (.double (FP.i2d p1)), .second, .val (.double (FP.i2d p2)), .second, .val (.int (0 : Int32)), .val (.int (0 : Int32))] [(.int (1 : Int32))]))
        refine OGoal.mp (S' := (T20.setTop (mkF m 67 #[.val (.int p1), .val (.int p2), .val (.int p3), .val (.double (FP.i2d p1)), .second, .val (.double (FP.i2d p2)), .second, .val (.int (0 : Int32)), .val (.int (0 : Int32))] [(.int (0 : Int32)), (.int (1 : Int32))]))) (fun _ k => XS.iload X22.here hx rfl (hb hby at_65) rfl k) ?_
        refine OGoal.mp (S' := (T20.setTop (mkF m 70 #[.val (.int p1), .val (.int p2), .val (.int p3), .val (.double (FP.i2d p1)), .second, .val (.double (FP.i2d p2)), .second, .val (.int (0 : Int32)), .val (.int (0 : Int32))] [(.int (1 : Int32))]))) (fun _ k => XS.ifNo X22.here hx rfl (hb hby at_67) rfl (XT.i0_ne_f (by decide)) k) ?_
        refine OGoal.mp (S' := (T20.setTop (mkF m 71 #[.val (.int p1), .val (.int p2), .val (.int p3), .val (.double (FP.i2d p1)), .second, .val (.double (FP.i2d p2)), .second, .val (.int (0 : Int32)), .val (.int (0 : Int32))] [(.int (1 : Int32)), (.int (1 : Int32))]))) (fun _ k => XS.iconst X22.here hx rfl (hb hby at_70) k) ?_
        refine OGoal.mp (S' := (T20.setTop (mkF m 75 #[.val (.int p1), .val (.int p2), .val (.int p3), .val (.double (FP.i2d p1)), .second, .val (.double (FP.i2d p2)), .second, .val (.int (0 : Int32)), .val (.int (0 : Int32))] [(.int (1 : Int32)), (.int (1 : Int32))]))) (fun _ k => XS.goto X22.here hx rfl (pc0 := 71) (pc' := 75) rfl (hb hby at_71) (by decide) (by decide) k) ?_
        refine OGoal.mp (S' := (T20.setTop (mkF m 78 #[.val (.int p1), .val (.int p2), .val (.int p3), .val (.double (FP.i2d p1)), .second, .val (.double (FP.i2d p2)), .second, .val (.int (0 : Int32)), .val (.int (0 : Int32))] []))) (fun _ k => XS.icmpNo X22.here hx rfl (hb hby at_75) rfl (XT.ii_ne_f (by decide)) k) ?_
        refine OGoal.mp (S' := (T20.setTop (mkF m 79 #[.val (.int p1), .val (.int p2), .val (.int p3), .val (.double (FP.i2d p1)), .second, .val (.double (FP.i2d p2)), .second, .val (.int (0 : Int32)), .val (.int (0 : Int32))] [(.int (1 : Int32))]))) (fun _ k => XS.iconst X22.here hx rfl (hb hby at_78) k) ?_
        refine OGoal.mp (S' := (T20.setTop (mkF m 83 #[.val (.int p1), .val (.int p2), .val (.int p3), .val (.double (FP.i2d p1)), .second, .val (.double (FP.i2d p2)), .second, .val (.int (0 : Int32)), .val (.int (0 : Int32))] [(.int (1 : Int32))]))) (fun _ k => XS.goto X22.here hx rfl (pc0 := 79) (pc' := 83) rfl (hb hby at_79) (by decide) (by decide) k) ?_
        refine oRetZ X22 hx hlk hret (Or.inr rfl) (hb hby at_83) ?_ (by decide) (by decide)
        exact ⟨rfl, N26⟩
    · refine OGoal.mp (S' := (s₁.setTop (mkF m 24 #[.val (.int p1), .val (.int p2), .val (.int p3), .val (.double (FP.i2d p1)), .second, .val (.double (FP.i2d p2)), .second, .unset, .unset] []))) (fun _ k => XS.ifNo X0.here hx rfl (hb hby at_21) rfl (XT.i0_eq_f hc2) k) ?_
      refine OGoal.mp (S' := (s₁.setTop (mkF m 25 #[.val (.int p1), .val (.int p2), .val (.int p3), .val (.double (FP.i2d p1)), .second, .val (.double (FP.i2d p2)), .second, .unset, .unset] [(.int (1 : Int32))]))) (fun _ k => XS.iconst X0.here hx rfl (hb hby at_24) k) ?_
      refine OGoal.mp (S' := (s₁.setTop (mkF m 29 #[.val (.int p1), .val (.int p2), .val (.int p3), .val (.double (FP.i2d p1)), .second, .val (.double (FP.i2d p2)), .second, .unset, .unset] [(.int (1 : Int32))]))) (fun _ k => XS.goto X0.here hx rfl (pc0 := 25) (pc' := 29) rfl (hb hby at_25) (by decide) (by decide) k) ?_
      refine OGoal.mp (S' := (s₁.setTop (mkF m 31 #[.val (.int p1), .val (.int p2), .val (.int p3), .val (.double (FP.i2d p1)), .second, .val (.double (FP.i2d p2)), .second, .val (.int (1 : Int32)), .unset] []))) (fun _ k => XS.istore X0.here hx rfl (hb hby at_29) rfl (l' := #[.val (.int p1), .val (.int p2), .val (.int p3), .val (.double (FP.i2d p1)), .second, .val (.double (FP.i2d p2)), .second, .val (.int (1 : Int32)), .unset]) rfl k) ?_
      obtain ⟨o, ho⟩ := own_some p1 p2
      rcases o with _ | _ | _
      · show OGoal p e below s _ _ _ (s₁.setTop (mkF m 31 #[.val (.int p1), .val (.int p2), .val (.int p3), .val (.double (FP.i2d p1)), .second, .val (.double (FP.i2d p2)), .second, .val (.int (1 : Int32)), .unset] []))
        refine OGoal.mp (S' := (s₁.setTop (mkF m 32 #[.val (.int p1), .val (.int p2), .val (.int p3), .val (.double (FP.i2d p1)), .second, .val (.double (FP.i2d p2)), .second, .val (.int (1 : Int32)), .unset] [(.double (FP.i2d p1))]))) (fun _ k => XS.dloadN X0.here hx rfl (hb hby at_31) rfl k) ?_
        refine OGoal.mp (S' := (s₁.setTop (mkF m 34 #[.val (.int p1), .val (.int p2), .val (.int p3), .val (.double (FP.i2d p1)), .second, .val (.double (FP.i2d p2)), .second, .val (.int (1 : Int32)), .unset] [(.double (FP.i2d p2)), (.double (FP.i2d p1))]))) (fun _ k => XS.dload X0.here hx rfl (hb hby at_32) rfl k) ?_
        refine OGoal.mp (S' := (s₁.setTop (mkF m 35 #[.val (.int p1), .val (.int p2), .val (.int p3), .val (.double (FP.i2d p1)), .second, .val (.double (FP.i2d p2)), .second, .val (.int (1 : Int32)), .unset] [(.int (-1 : Int32))]))) (fun _ k => XS.dcmpS X0.here hx rfl (hb hby at_34) rfl (by rw [ho]; rfl) k) ?_
        refine OGoal.mp (S' := (s₁.setTop (mkF m 50 #[.val (.int p1), .val (.int p2), .val (.int p3), .val (.double (FP.i2d p1)), .second, .val (.double (FP.i2d p2)), .second, .val (.int (1 : Int32)), .unset] []))) (fun _ k => XS.ifYes X0.here hx rfl (pc0 := 35) (pc' := 50) rfl (hb hby at_35) rfl (XT.i0_lt_t (by decide)) (by decide) (by decide) k) ?_
        refine OGoal.mp (S' := (s₁.setTop (mkF m 51 #[.val (.int p1), .val (.int p2), .val (.int p3), .val (.double (FP.i2d p1)), .second, .val (.double (FP.i2d p2)), .second, .val (.int (1 : Int32)), .unset] [(.int (1 : Int32))]))) (fun _ k => XS.iconst X0.here hx rfl (hb hby at_50) k) ?_
        refine OGoal.mp (S' := (s₁.setTop (mkF m 55 #[.val (.int p1), .val (.int p2), .val (.int p3), .val (.double (FP.i2d p1)), .second, .val (.double (FP.i2d p2)), .second, .val (.int (1 : Int32)), .unset] [(.int (1 : Int32))]))) (fun _ k => XS.goto X0.here hx rfl (pc0 := 51) (pc' := 55) rfl (hb hby at_51) (by decide) (by decide) k) ?_
        refine OGoal.mp (S' := (s₁.setTop (mkF m 57 #[.val (.int p1), .val (.int p2), .val (.int p3), .val (.double (FP.i2d p1)), .second, .val (.double (FP.i2d p2)), .second, .val (.int (1 : Int32)), .val (.int (1 : Int32))] []))) (fun _ k => XS.istore X0.here hx rfl (hb hby at_55) rfl (l' := #[.val (.int p1), .val (.int p2), .val (.int p3), .val (.double (FP.i2d p1)), .second, .val (.double (FP.i2d p2)), .second, .val (.int (1 : Int32)), .val (.int (1 : Int32))]) rfl k) ?_
        refine OGoal.mp (S' := (s₁.setTop (mkF m 58 #[.val (.int p1), .val (.int p2), .val (.int p3), .val (.double (FP.i2d p1)), .second, .val (.double (FP.i2d p2)), .second, .val (.int (1 : Int32)), .val (.int (1 : Int32))] [(.double (FP.i2d p1))]))) (fun _ k => XS.dloadN X0.here hx rfl (hb hby at_57) rfl k) ?_
        refine OGoal.mp (S' := (s₁.setTop (mkF m 60 #[.val (.int p1), .val (.int p2), .val (.int p3), .val (.double (FP.i2d p1)), .second, .val (.double (FP.i2d p2)), .second, .val (.int (1 : Int32)), .val (.int (1 : Int32))] [(.double (FP.i2d p2)), (.double (FP.i2d p1))]))) (fun _ k => XS.dload X0.here hx rfl (hb hby at_58) rfl k) ?_
        refine OGoal.mp (S' := (s₁.setTop (mkF m 62 #[.val (.int p1), .val (.int p2), .val (.int p3), .val (.double (FP.i2d p1)), .second, .val (.double (FP.i2d p2)), .second, .val (.int (1 : Int32)), .val (.int (1 : Int32))] [(.int (1 : Int32)), (.double (FP.i2d p2)), (.double (FP.i2d p1))]))) (fun _ k => XS.iload X0.here hx rfl (hb hby at_60) rfl k) ?_
        refine oCallS (y := (⟨"com/example/haggle/haggle/negotiation/SwapSearch", "rulesOut", "(DDZ)Z"⟩ : MethodName)) X0 hx hZ hown (hw _ (List.mem_of_getElem? (i := 0) rfl)) (hw _ (List.mem_of_getElem? (i := 1) rfl)) (hw _ (List.mem_of_getElem? (i := 2) rfl)) (hw _ (List.mem_of_getElem? (i := 3) rfl)) (by decide) (rmA l Z a0 hw (FP.i2d p1) (FP.i2d p2) (1 : Int32) h0 n0 Z0) e0 [(.double (FP.i2d p1)), (.double (FP.i2d p2)), (.int (1 : Int32))] [] rfl rfl (by rw [hml]; rfl) (lenOf own_pd__DDZ_Z rfl) 0 (Nat.le_of_eq rfl) (by decide) (by decide) (by decide) (by decide) (hb hby at_62) ?_
        intro v27 T28 L29 X30 q31
        obtain ⟨rfl, N32, e33⟩ := q31
        have N34 := Fr.app (Fr.nil n0) N32
        rw [show own_ro (FP.i2d p1) (FP.i2d p2) (1 : Int32) = (0 : Int32) by unfold own_ro; rw [ho]; rfl]
        show OGoal p e below s _ _ _ (T28.setTop (mkF m 65 #[.val (.int p1), .val (.int p2), .val (.int p3), .val (.double (FP.i2d p1)), .second, .val (.double (FP.i2d p2)), .second, .val (.int (1 : Int32)), .val (.int (1 : Int32))] [(.int (0 : Int32))]))
        refine OGoal.mp (S' := (T28.setTop (mkF m 67 #[.val (.int p1), .val (.int p2), .val (.int p3), .val (.double (FP.i2d p1)), .second, .val (.double (FP.i2d p2)), .second, .val (.int (1 : Int32)), .val (.int (1 : Int32))] [(.int (1 : Int32)), (.int (0 : Int32))]))) (fun _ k => XS.iload X30.here hx rfl (hb hby at_65) rfl k) ?_
        refine OGoal.mp (S' := (T28.setTop (mkF m 74 #[.val (.int p1), .val (.int p2), .val (.int p3), .val (.double (FP.i2d p1)), .second, .val (.double (FP.i2d p2)), .second, .val (.int (1 : Int32)), .val (.int (1 : Int32))] [(.int (0 : Int32))]))) (fun _ k => XS.ifYes X30.here hx rfl (pc0 := 67) (pc' := 74) rfl (hb hby at_67) rfl (XT.i0_ne_t (by decide)) (by decide) (by decide) k) ?_
        refine OGoal.mp (S' := (T28.setTop (mkF m 75 #[.val (.int p1), .val (.int p2), .val (.int p3), .val (.double (FP.i2d p1)), .second, .val (.double (FP.i2d p2)), .second, .val (.int (1 : Int32)), .val (.int (1 : Int32))] [(.int (0 : Int32)), (.int (0 : Int32))]))) (fun _ k => XS.iconst X30.here hx rfl (hb hby at_74) k) ?_
        refine OGoal.mp (S' := (T28.setTop (mkF m 78 #[.val (.int p1), .val (.int p2), .val (.int p3), .val (.double (FP.i2d p1)), .second, .val (.double (FP.i2d p2)), .second, .val (.int (1 : Int32)), .val (.int (1 : Int32))] []))) (fun _ k => XS.icmpNo X30.here hx rfl (hb hby at_75) rfl (XT.ii_ne_f (by decide)) k) ?_
        refine OGoal.mp (S' := (T28.setTop (mkF m 79 #[.val (.int p1), .val (.int p2), .val (.int p3), .val (.double (FP.i2d p1)), .second, .val (.double (FP.i2d p2)), .second, .val (.int (1 : Int32)), .val (.int (1 : Int32))] [(.int (1 : Int32))]))) (fun _ k => XS.iconst X30.here hx rfl (hb hby at_78) k) ?_
        refine OGoal.mp (S' := (T28.setTop (mkF m 83 #[.val (.int p1), .val (.int p2), .val (.int p3), .val (.double (FP.i2d p1)), .second, .val (.double (FP.i2d p2)), .second, .val (.int (1 : Int32)), .val (.int (1 : Int32))] [(.int (1 : Int32))]))) (fun _ k => XS.goto X30.here hx rfl (pc0 := 79) (pc' := 83) rfl (hb hby at_79) (by decide) (by decide) k) ?_
        refine oRetZ X30 hx hlk hret (Or.inr rfl) (hb hby at_83) ?_ (by decide) (by decide)
        exact ⟨rfl, N34⟩
      · show OGoal p e below s _ _ _ (s₁.setTop (mkF m 31 #[.val (.int p1), .val (.int p2), .val (.int p3), .val (.double (FP.i2d p1)), .second, .val (.double (FP.i2d p2)), .second, .val (.int (1 : Int32)), .unset] []))
        refine OGoal.mp (S' := (s₁.setTop (mkF m 32 #[.val (.int p1), .val (.int p2), .val (.int p3), .val (.double (FP.i2d p1)), .second, .val (.double (FP.i2d p2)), .second, .val (.int (1 : Int32)), .unset] [(.double (FP.i2d p1))]))) (fun _ k => XS.dloadN X0.here hx rfl (hb hby at_31) rfl k) ?_
        refine OGoal.mp (S' := (s₁.setTop (mkF m 34 #[.val (.int p1), .val (.int p2), .val (.int p3), .val (.double (FP.i2d p1)), .second, .val (.double (FP.i2d p2)), .second, .val (.int (1 : Int32)), .unset] [(.double (FP.i2d p2)), (.double (FP.i2d p1))]))) (fun _ k => XS.dload X0.here hx rfl (hb hby at_32) rfl k) ?_
        refine OGoal.mp (S' := (s₁.setTop (mkF m 35 #[.val (.int p1), .val (.int p2), .val (.int p3), .val (.double (FP.i2d p1)), .second, .val (.double (FP.i2d p2)), .second, .val (.int (1 : Int32)), .unset] [(.int (0 : Int32))]))) (fun _ k => XS.dcmpS X0.here hx rfl (hb hby at_34) rfl (by rw [ho]; rfl) k) ?_
        refine OGoal.mp (S' := (s₁.setTop (mkF m 38 #[.val (.int p1), .val (.int p2), .val (.int p3), .val (.double (FP.i2d p1)), .second, .val (.double (FP.i2d p2)), .second, .val (.int (1 : Int32)), .unset] []))) (fun _ k => XS.ifNo X0.here hx rfl (hb hby at_35) rfl (XT.i0_lt_f (by decide)) k) ?_
        refine OGoal.mp (S' := (s₁.setTop (mkF m 40 #[.val (.int p1), .val (.int p2), .val (.int p3), .val (.double (FP.i2d p1)), .second, .val (.double (FP.i2d p2)), .second, .val (.int (1 : Int32)), .unset] [(.int (1 : Int32))]))) (fun _ k => XS.iload X0.here hx rfl (hb hby at_38) rfl k) ?_
        refine OGoal.mp (S' := (s₁.setTop (mkF m 43 #[.val (.int p1), .val (.int p2), .val (.int p3), .val (.double (FP.i2d p1)), .second, .val (.double (FP.i2d p2)), .second, .val (.int (1 : Int32)), .unset] []))) (fun _ k => XS.ifNo X0.here hx rfl (hb hby at_40) rfl (XT.i0_eq_f (by decide)) k) ?_
        refine OGoal.mp (S' := (s₁.setTop (mkF m 44 #[.val (.int p1), .val (.int p2), .val (.int p3), .val (.double (FP.i2d p1)), .second, .val (.double (FP.i2d p2)), .second, .val (.int (1 : Int32)), .unset] [(.double (FP.i2d p1))]))) (fun _ k => XS.dloadN X0.here hx rfl (hb hby at_43) rfl k) ?_
        refine OGoal.mp (S' := (s₁.setTop (mkF m 46 #[.val (.int p1), .val (.int p2), .val (.int p3), .val (.double (FP.i2d p1)), .second, .val (.double (FP.i2d p2)), .second, .val (.int (1 : Int32)), .unset] [(.double (FP.i2d p2)), (.double (FP.i2d p1))]))) (fun _ k => XS.dload X0.here hx rfl (hb hby at_44) rfl k) ?_
        refine OGoal.mp (S' := (s₁.setTop (mkF m 47 #[.val (.int p1), .val (.int p2), .val (.int p3), .val (.double (FP.i2d p1)), .second, .val (.double (FP.i2d p2)), .second, .val (.int (1 : Int32)), .unset] [(.int (0 : Int32))]))) (fun _ k => XS.dcmpS X0.here hx rfl (hb hby at_46) rfl (by rw [ho]; rfl) k) ?_
        refine OGoal.mp (S' := (s₁.setTop (mkF m 50 #[.val (.int p1), .val (.int p2), .val (.int p3), .val (.double (FP.i2d p1)), .second, .val (.double (FP.i2d p2)), .second, .val (.int (1 : Int32)), .unset] []))) (fun _ k => XS.ifNo X0.here hx rfl (hb hby at_47) rfl (XT.i0_ne_f (by decide)) k) ?_
        refine OGoal.mp (S' := (s₁.setTop (mkF m 51 #[.val (.int p1), .val (.int p2), .val (.int p3), .val (.double (FP.i2d p1)), .second, .val (.double (FP.i2d p2)), .second, .val (.int (1 : Int32)), .unset] [(.int (1 : Int32))]))) (fun _ k => XS.iconst X0.here hx rfl (hb hby at_50) k) ?_
        refine OGoal.mp (S' := (s₁.setTop (mkF m 55 #[.val (.int p1), .val (.int p2), .val (.int p3), .val (.double (FP.i2d p1)), .second, .val (.double (FP.i2d p2)), .second, .val (.int (1 : Int32)), .unset] [(.int (1 : Int32))]))) (fun _ k => XS.goto X0.here hx rfl (pc0 := 51) (pc' := 55) rfl (hb hby at_51) (by decide) (by decide) k) ?_
        refine OGoal.mp (S' := (s₁.setTop (mkF m 57 #[.val (.int p1), .val (.int p2), .val (.int p3), .val (.double (FP.i2d p1)), .second, .val (.double (FP.i2d p2)), .second, .val (.int (1 : Int32)), .val (.int (1 : Int32))] []))) (fun _ k => XS.istore X0.here hx rfl (hb hby at_55) rfl (l' := #[.val (.int p1), .val (.int p2), .val (.int p3), .val (.double (FP.i2d p1)), .second, .val (.double (FP.i2d p2)), .second, .val (.int (1 : Int32)), .val (.int (1 : Int32))]) rfl k) ?_
        refine OGoal.mp (S' := (s₁.setTop (mkF m 58 #[.val (.int p1), .val (.int p2), .val (.int p3), .val (.double (FP.i2d p1)), .second, .val (.double (FP.i2d p2)), .second, .val (.int (1 : Int32)), .val (.int (1 : Int32))] [(.double (FP.i2d p1))]))) (fun _ k => XS.dloadN X0.here hx rfl (hb hby at_57) rfl k) ?_
        refine OGoal.mp (S' := (s₁.setTop (mkF m 60 #[.val (.int p1), .val (.int p2), .val (.int p3), .val (.double (FP.i2d p1)), .second, .val (.double (FP.i2d p2)), .second, .val (.int (1 : Int32)), .val (.int (1 : Int32))] [(.double (FP.i2d p2)), (.double (FP.i2d p1))]))) (fun _ k => XS.dload X0.here hx rfl (hb hby at_58) rfl k) ?_
        refine OGoal.mp (S' := (s₁.setTop (mkF m 62 #[.val (.int p1), .val (.int p2), .val (.int p3), .val (.double (FP.i2d p1)), .second, .val (.double (FP.i2d p2)), .second, .val (.int (1 : Int32)), .val (.int (1 : Int32))] [(.int (1 : Int32)), (.double (FP.i2d p2)), (.double (FP.i2d p1))]))) (fun _ k => XS.iload X0.here hx rfl (hb hby at_60) rfl k) ?_
        refine oCallS (y := (⟨"com/example/haggle/haggle/negotiation/SwapSearch", "rulesOut", "(DDZ)Z"⟩ : MethodName)) X0 hx hZ hown (hw _ (List.mem_of_getElem? (i := 0) rfl)) (hw _ (List.mem_of_getElem? (i := 1) rfl)) (hw _ (List.mem_of_getElem? (i := 2) rfl)) (hw _ (List.mem_of_getElem? (i := 3) rfl)) (by decide) (rmA l Z a0 hw (FP.i2d p1) (FP.i2d p2) (1 : Int32) h0 n0 Z0) e0 [(.double (FP.i2d p1)), (.double (FP.i2d p2)), (.int (1 : Int32))] [] rfl rfl (by rw [hml]; rfl) (lenOf own_pd__DDZ_Z rfl) 0 (Nat.le_of_eq rfl) (by decide) (by decide) (by decide) (by decide) (hb hby at_62) ?_
        intro v35 T36 L37 X38 q39
        obtain ⟨rfl, N40, e41⟩ := q39
        have N42 := Fr.app (Fr.nil n0) N40
        rw [show own_ro (FP.i2d p1) (FP.i2d p2) (1 : Int32) = (0 : Int32) by unfold own_ro; rw [ho]; rfl]
        show OGoal p e below s _ _ _ (T36.setTop (mkF m 65 #[.val (.int p1), .val (.int p2), .val (.int p3), .val (.double (FP.i2d p1)), .second, .val (.double (FP.i2d p2)), .second, .val (.int (1 : Int32)), .val (.int (1 : Int32))] [(.int (0 : Int32))]))
        refine OGoal.mp (S' := (T36.setTop (mkF m 67 #[.val (.int p1), .val (.int p2), .val (.int p3), .val (.double (FP.i2d p1)), .second, .val (.double (FP.i2d p2)), .second, .val (.int (1 : Int32)), .val (.int (1 : Int32))] [(.int (1 : Int32)), (.int (0 : Int32))]))) (fun _ k => XS.iload X38.here hx rfl (hb hby at_65) rfl k) ?_
        refine OGoal.mp (S' := (T36.setTop (mkF m 74 #[.val (.int p1), .val (.int p2), .val (.int p3), .val (.double (FP.i2d p1)), .second, .val (.double (FP.i2d p2)), .second, .val (.int (1 : Int32)), .val (.int (1 : Int32))] [(.int (0 : Int32))]))) (fun _ k => XS.ifYes X38.here hx rfl (pc0 := 67) (pc' := 74) rfl (hb hby at_67) rfl (XT.i0_ne_t (by decide)) (by decide) (by decide) k) ?_
        refine OGoal.mp (S' := (T36.setTop (mkF m 75 #[.val (.int p1), .val (.int p2), .val (.int p3), .val (.double (FP.i2d p1)), .second, .val (.double (FP.i2d p2)), .second, .val (.int (1 : Int32)), .val (.int (1 : Int32))] [(.int (0 : Int32)), (.int (0 : Int32))]))) (fun _ k => XS.iconst X38.here hx rfl (hb hby at_74) k) ?_
        refine OGoal.mp (S' := (T36.setTop (mkF m 78 #[.val (.int p1), .val (.int p2), .val (.int p3), .val (.double (FP.i2d p1)), .second, .val (.double (FP.i2d p2)), .second, .val (.int (1 : Int32)), .val (.int (1 : Int32))] []))) (fun _ k => XS.icmpNo X38.here hx rfl (hb hby at_75) rfl (XT.ii_ne_f (by decide)) k) ?_
        refine OGoal.mp (S' := (T36.setTop (mkF m 79 #[.val (.int p1), .val (.int p2), .val (.int p3), .val (.double (FP.i2d p1)), .second, .val (.double (FP.i2d p2)), .second, .val (.int (1 : Int32)), .val (.int (1 : Int32))] [(.int (1 : Int32))]))) (fun _ k => XS.iconst X38.here hx rfl (hb hby at_78) k) ?_
        refine OGoal.mp (S' := (T36.setTop (mkF m 83 #[.val (.int p1), .val (.int p2), .val (.int p3), .val (.double (FP.i2d p1)), .second, .val (.double (FP.i2d p2)), .second, .val (.int (1 : Int32)), .val (.int (1 : Int32))] [(.int (1 : Int32))]))) (fun _ k => XS.goto X38.here hx rfl (pc0 := 79) (pc' := 83) rfl (hb hby at_79) (by decide) (by decide) k) ?_
        refine oRetZ X38 hx hlk hret (Or.inr rfl) (hb hby at_83) ?_ (by decide) (by decide)
        exact ⟨rfl, N42⟩
      · show OGoal p e below s _ _ _ (s₁.setTop (mkF m 31 #[.val (.int p1), .val (.int p2), .val (.int p3), .val (.double (FP.i2d p1)), .second, .val (.double (FP.i2d p2)), .second, .val (.int (1 : Int32)), .unset] []))
        refine OGoal.mp (S' := (s₁.setTop (mkF m 32 #[.val (.int p1), .val (.int p2), .val (.int p3), .val (.double (FP.i2d p1)), .second, .val (.double (FP.i2d p2)), .second, .val (.int (1 : Int32)), .unset] [(.double (FP.i2d p1))]))) (fun _ k => XS.dloadN X0.here hx rfl (hb hby at_31) rfl k) ?_
        refine OGoal.mp (S' := (s₁.setTop (mkF m 34 #[.val (.int p1), .val (.int p2), .val (.int p3), .val (.double (FP.i2d p1)), .second, .val (.double (FP.i2d p2)), .second, .val (.int (1 : Int32)), .unset] [(.double (FP.i2d p2)), (.double (FP.i2d p1))]))) (fun _ k => XS.dload X0.here hx rfl (hb hby at_32) rfl k) ?_
        refine OGoal.mp (S' := (s₁.setTop (mkF m 35 #[.val (.int p1), .val (.int p2), .val (.int p3), .val (.double (FP.i2d p1)), .second, .val (.double (FP.i2d p2)), .second, .val (.int (1 : Int32)), .unset] [(.int (1 : Int32))]))) (fun _ k => XS.dcmpS X0.here hx rfl (hb hby at_34) rfl (by rw [ho]; rfl) k) ?_
        refine OGoal.mp (S' := (s₁.setTop (mkF m 38 #[.val (.int p1), .val (.int p2), .val (.int p3), .val (.double (FP.i2d p1)), .second, .val (.double (FP.i2d p2)), .second, .val (.int (1 : Int32)), .unset] []))) (fun _ k => XS.ifNo X0.here hx rfl (hb hby at_35) rfl (XT.i0_lt_f (by decide)) k) ?_
        refine OGoal.mp (S' := (s₁.setTop (mkF m 40 #[.val (.int p1), .val (.int p2), .val (.int p3), .val (.double (FP.i2d p1)), .second, .val (.double (FP.i2d p2)), .second, .val (.int (1 : Int32)), .unset] [(.int (1 : Int32))]))) (fun _ k => XS.iload X0.here hx rfl (hb hby at_38) rfl k) ?_
        refine OGoal.mp (S' := (s₁.setTop (mkF m 43 #[.val (.int p1), .val (.int p2), .val (.int p3), .val (.double (FP.i2d p1)), .second, .val (.double (FP.i2d p2)), .second, .val (.int (1 : Int32)), .unset] []))) (fun _ k => XS.ifNo X0.here hx rfl (hb hby at_40) rfl (XT.i0_eq_f (by decide)) k) ?_
        refine OGoal.mp (S' := (s₁.setTop (mkF m 44 #[.val (.int p1), .val (.int p2), .val (.int p3), .val (.double (FP.i2d p1)), .second, .val (.double (FP.i2d p2)), .second, .val (.int (1 : Int32)), .unset] [(.double (FP.i2d p1))]))) (fun _ k => XS.dloadN X0.here hx rfl (hb hby at_43) rfl k) ?_
        refine OGoal.mp (S' := (s₁.setTop (mkF m 46 #[.val (.int p1), .val (.int p2), .val (.int p3), .val (.double (FP.i2d p1)), .second, .val (.double (FP.i2d p2)), .second, .val (.int (1 : Int32)), .unset] [(.double (FP.i2d p2)), (.double (FP.i2d p1))]))) (fun _ k => XS.dload X0.here hx rfl (hb hby at_44) rfl k) ?_
        refine OGoal.mp (S' := (s₁.setTop (mkF m 47 #[.val (.int p1), .val (.int p2), .val (.int p3), .val (.double (FP.i2d p1)), .second, .val (.double (FP.i2d p2)), .second, .val (.int (1 : Int32)), .unset] [(.int (1 : Int32))]))) (fun _ k => XS.dcmpS X0.here hx rfl (hb hby at_46) rfl (by rw [ho]; rfl) k) ?_
        refine OGoal.mp (S' := (s₁.setTop (mkF m 54 #[.val (.int p1), .val (.int p2), .val (.int p3), .val (.double (FP.i2d p1)), .second, .val (.double (FP.i2d p2)), .second, .val (.int (1 : Int32)), .unset] []))) (fun _ k => XS.ifYes X0.here hx rfl (pc0 := 47) (pc' := 54) rfl (hb hby at_47) rfl (XT.i0_ne_t (by decide)) (by decide) (by decide) k) ?_
        refine OGoal.mp (S' := (s₁.setTop (mkF m 55 #[.val (.int p1), .val (.int p2), .val (.int p3), .val (.double (FP.i2d p1)), .second, .val (.double (FP.i2d p2)), .second, .val (.int (1 : Int32)), .unset] [(.int (0 : Int32))]))) (fun _ k => XS.iconst X0.here hx rfl (hb hby at_54) k) ?_
        refine OGoal.mp (S' := (s₁.setTop (mkF m 57 #[.val (.int p1), .val (.int p2), .val (.int p3), .val (.double (FP.i2d p1)), .second, .val (.double (FP.i2d p2)), .second, .val (.int (1 : Int32)), .val (.int (0 : Int32))] []))) (fun _ k => XS.istore X0.here hx rfl (hb hby at_55) rfl (l' := #[.val (.int p1), .val (.int p2), .val (.int p3), .val (.double (FP.i2d p1)), .second, .val (.double (FP.i2d p2)), .second, .val (.int (1 : Int32)), .val (.int (0 : Int32))]) rfl k) ?_
        refine OGoal.mp (S' := (s₁.setTop (mkF m 58 #[.val (.int p1), .val (.int p2), .val (.int p3), .val (.double (FP.i2d p1)), .second, .val (.double (FP.i2d p2)), .second, .val (.int (1 : Int32)), .val (.int (0 : Int32))] [(.double (FP.i2d p1))]))) (fun _ k => XS.dloadN X0.here hx rfl (hb hby at_57) rfl k) ?_
        refine OGoal.mp (S' := (s₁.setTop (mkF m 60 #[.val (.int p1), .val (.int p2), .val (.int p3), .val (.double (FP.i2d p1)), .second, .val (.double (FP.i2d p2)), .second, .val (.int (1 : Int32)), .val (.int (0 : Int32))] [(.double (FP.i2d p2)), (.double (FP.i2d p1))]))) (fun _ k => XS.dload X0.here hx rfl (hb hby at_58) rfl k) ?_
        refine OGoal.mp (S' := (s₁.setTop (mkF m 62 #[.val (.int p1), .val (.int p2), .val (.int p3), .val (.double (FP.i2d p1)), .second, .val (.double (FP.i2d p2)), .second, .val (.int (1 : Int32)), .val (.int (0 : Int32))] [(.int (1 : Int32)), (.double (FP.i2d p2)), (.double (FP.i2d p1))]))) (fun _ k => XS.iload X0.here hx rfl (hb hby at_60) rfl k) ?_
        refine oCallS (y := (⟨"com/example/haggle/haggle/negotiation/SwapSearch", "rulesOut", "(DDZ)Z"⟩ : MethodName)) X0 hx hZ hown (hw _ (List.mem_of_getElem? (i := 0) rfl)) (hw _ (List.mem_of_getElem? (i := 1) rfl)) (hw _ (List.mem_of_getElem? (i := 2) rfl)) (hw _ (List.mem_of_getElem? (i := 3) rfl)) (by decide) (rmA l Z a0 hw (FP.i2d p1) (FP.i2d p2) (1 : Int32) h0 n0 Z0) e0 [(.double (FP.i2d p1)), (.double (FP.i2d p2)), (.int (1 : Int32))] [] rfl rfl (by rw [hml]; rfl) (lenOf own_pd__DDZ_Z rfl) 0 (Nat.le_of_eq rfl) (by decide) (by decide) (by decide) (by decide) (hb hby at_62) ?_
        intro v43 T44 L45 X46 q47
        obtain ⟨rfl, N48, e49⟩ := q47
        have N50 := Fr.app (Fr.nil n0) N48
        rw [show own_ro (FP.i2d p1) (FP.i2d p2) (1 : Int32) = (1 : Int32) by unfold own_ro; rw [ho]; rfl]
        show OGoal p e below s _ _ _ (T44.setTop (mkF m 65 #[.val (.int p1), .val (.int p2), .val (.int p3), .val (.double (FP.i2d p1)), .second, .val (.double (FP.i2d p2)), .second, .val (.int (1 : Int32)), .val (.int (0 : Int32))] [(.int (1 : Int32))]))
        refine OGoal.mp (S' := (T44.setTop (mkF m 67 #[.val (.int p1), .val (.int p2), .val (.int p3), .val (.double (FP.i2d p1)), .second, .val (.double (FP.i2d p2)), .second, .val (.int (1 : Int32)), .val (.int (0 : Int32))] [(.int (0 : Int32)), (.int (1 : Int32))]))) (fun _ k => XS.iload X46.here hx rfl (hb hby at_65) rfl k) ?_
        refine OGoal.mp (S' := (T44.setTop (mkF m 70 #[.val (.int p1), .val (.int p2), .val (.int p3), .val (.double (FP.i2d p1)), .second, .val (.double (FP.i2d p2)), .second, .val (.int (1 : Int32)), .val (.int (0 : Int32))] [(.int (1 : Int32))]))) (fun _ k => XS.ifNo X46.here hx rfl (hb hby at_67) rfl (XT.i0_ne_f (by decide)) k) ?_
        refine OGoal.mp (S' := (T44.setTop (mkF m 71 #[.val (.int p1), .val (.int p2), .val (.int p3), .val (.double (FP.i2d p1)), .second, .val (.double (FP.i2d p2)), .second, .val (.int (1 : Int32)), .val (.int (0 : Int32))] [(.int (1 : Int32)), (.int (1 : Int32))]))) (fun _ k => XS.iconst X46.here hx rfl (hb hby at_70) k) ?_
        refine OGoal.mp (S' := (T44.setTop (mkF m 75 #[.val (.int p1), .val (.int p2), .val (.int p3), .val (.double (FP.i2d p1)), .second, .val (.double (FP.i2d p2)), .second, .val (.int (1 : Int32)), .val (.int (0 : Int32))] [(.int (1 : Int32)), (.int (1 : Int32))]))) (fun _ k => XS.goto X46.here hx rfl (pc0 := 71) (pc' := 75) rfl (hb hby at_71) (by decide) (by decide) k) ?_
        refine OGoal.mp (S' := (T44.setTop (mkF m 78 #[.val (.int p1), .val (.int p2), .val (.int p3), .val (.double (FP.i2d p1)), .second, .val (.double (FP.i2d p2)), .second, .val (.int (1 : Int32)), .val (.int (0 : Int32))] []))) (fun _ k => XS.icmpNo X46.here hx rfl (hb hby at_75) rfl (XT.ii_ne_f (by decide)) k) ?_
        refine OGoal.mp (S' := (T44.setTop (mkF m 79 #[.val (.int p1), .val (.int p2), .val (.int p3), .val (.double (FP.i2d p1)), .second, .val (.double (FP.i2d p2)), .second, .val (.int (1 : Int32)), .val (.int (0 : Int32))] [(.int (1 : Int32))]))) (fun _ k => XS.iconst X46.here hx rfl (hb hby at_78) k) ?_
        refine OGoal.mp (S' := (T44.setTop (mkF m 83 #[.val (.int p1), .val (.int p2), .val (.int p3), .val (.double (FP.i2d p1)), .second, .val (.double (FP.i2d p2)), .second, .val (.int (1 : Int32)), .val (.int (0 : Int32))] [(.int (1 : Int32))]))) (fun _ k => XS.goto X46.here hx rfl (pc0 := 79) (pc' := 83) rfl (hb hby at_79) (by decide) (by decide) k) ?_
        refine oRetZ X46 hx hlk hret (Or.inr rfl) (hb hby at_83) ?_ (by decide) (by decide)
        exact ⟨rfl, N50⟩
  · refine OGoal.mp (S' := (s₁.setTop (mkF m 9 #[.val (.int p1), .val (.int p2), .val (.int p3), .val (.double (FP.i2d p1)), .second, .unset, .unset, .unset, .unset] []))) (fun _ k => XS.ifNo X0.here hx rfl (hb hby at_6) rfl (XT.i0_eq_f hc1) k) ?_
    refine OGoal.mp (S' := (s₁.setTop (mkF m 10 #[.val (.int p1), .val (.int p2), .val (.int p3), .val (.double (FP.i2d p1)), .second, .unset, .unset, .unset, .unset] [(.int p1)]))) (fun _ k => XS.iloadN X0.here hx rfl (hb hby at_9) rfl k) ?_
    refine OGoal.mp (S' := (s₁.setTop (mkF m 11 #[.val (.int p1), .val (.int p2), .val (.int p3), .val (.double (FP.i2d p1)), .second, .unset, .unset, .unset, .unset] [(.double (FP.i2d p1))]))) (fun _ k => XS.i2dS X0.here hx rfl (hb hby at_10) rfl rfl k) ?_
    refine OGoal.mp (S' := (s₁.setTop (mkF m 16 #[.val (.int p1), .val (.int p2), .val (.int p3), .val (.double (FP.i2d p1)), .second, .unset, .unset, .unset, .unset] [(.double (FP.i2d p1))]))) (fun _ k => XS.goto X0.here hx rfl (pc0 := 11) (pc' := 16) rfl (hb hby at_11) (by decide) (by decide) k) ?_
    refine OGoal.mp (S' := (s₁.setTop (mkF m 18 #[.val (.int p1), .val (.int p2), .val (.int p3), .val (.double (FP.i2d p1)), .second, .val (.double (FP.i2d p1)), .second, .unset, .unset] []))) (fun _ k => XS.dstore X0.here hx rfl (hb hby at_16) rfl (l' := #[.val (.int p1), .val (.int p2), .val (.int p3), .val (.double (FP.i2d p1)), .second, .val (.double (FP.i2d p1)), .second, .unset, .unset]) rfl k) ?_
    refine OGoal.mp (S' := (s₁.setTop (mkF m 19 #[.val (.int p1), .val (.int p2), .val (.int p3), .val (.double (FP.i2d p1)), .second, .val (.double (FP.i2d p1)), .second, .unset, .unset] [(.int p3)]))) (fun _ k => XS.iloadN X0.here hx rfl (hb hby at_18) rfl k) ?_
    refine OGoal.mp (S' := (s₁.setTop (mkF m 20 #[.val (.int p1), .val (.int p2), .val (.int p3), .val (.double (FP.i2d p1)), .second, .val (.double (FP.i2d p1)), .second, .unset, .unset] [(.int (1 : Int32)), (.int p3)]))) (fun _ k => XS.iconst X0.here hx rfl (hb hby at_19) k) ?_
    refine OGoal.mp (S' := (s₁.setTop (mkF m 21 #[.val (.int p1), .val (.int p2), .val (.int p3), .val (.double (FP.i2d p1)), .second, .val (.double (FP.i2d p1)), .second, .unset, .unset] [(.int (p3 &&& (1 : Int32)))]))) (fun _ k => XS.iand X0.here hx rfl (hb hby at_20) rfl k) ?_
    by_cases hc51 : (p3 &&& (1 : Int32)) = 0
    · refine OGoal.mp (S' := (s₁.setTop (mkF m 28 #[.val (.int p1), .val (.int p2), .val (.int p3), .val (.double (FP.i2d p1)), .second, .val (.double (FP.i2d p1)), .second, .unset, .unset] []))) (fun _ k => XS.ifYes X0.here hx rfl (pc0 := 21) (pc' := 28) rfl (hb hby at_21) rfl (XT.i0_eq_t hc51) (by decide) (by decide) k) ?_
      refine OGoal.mp (S' := (s₁.setTop (mkF m 29 #[.val (.int p1), .val (.int p2), .val (.int p3), .val (.double (FP.i2d p1)), .second, .val (.double (FP.i2d p1)), .second, .unset, .unset] [(.int (0 : Int32))]))) (fun _ k => XS.iconst X0.here hx rfl (hb hby at_28) k) ?_
      refine OGoal.mp (S' := (s₁.setTop (mkF m 31 #[.val (.int p1), .val (.int p2), .val (.int p3), .val (.double (FP.i2d p1)), .second, .val (.double (FP.i2d p1)), .second, .val (.int (0 : Int32)), .unset] []))) (fun _ k => XS.istore X0.here hx rfl (hb hby at_29) rfl (l' := #[.val (.int p1), .val (.int p2), .val (.int p3), .val (.double (FP.i2d p1)), .second, .val (.double (FP.i2d p1)), .second, .val (.int (0 : Int32)), .unset]) rfl k) ?_
      obtain ⟨o, ho⟩ := own_some p1 p1
      rcases o with _ | _ | _
      · show OGoal p e below s _ _ _ (s₁.setTop (mkF m 31 #[.val (.int p1), .val (.int p2), .val (.int p3), .val (.double (FP.i2d p1)), .second, .val (.double (FP.i2d p1)), .second, .val (.int (0 : Int32)), .unset] []))
        refine OGoal.mp (S' := (s₁.setTop (mkF m 32 #[.val (.int p1), .val (.int p2), .val (.int p3), .val (.double (FP.i2d p1)), .second, .val (.double (FP.i2d p1)), .second, .val (.int (0 : Int32)), .unset] [(.double (FP.i2d p1))]))) (fun _ k => XS.dloadN X0.here hx rfl (hb hby at_31) rfl k) ?_
        refine OGoal.mp (S' := (s₁.setTop (mkF m 34 #[.val (.int p1), .val (.int p2), .val (.int p3), .val (.double (FP.i2d p1)), .second, .val (.double (FP.i2d p1)), .second, .val (.int (0 : Int32)), .unset] [(.double (FP.i2d p1)), (.double (FP.i2d p1))]))) (fun _ k => XS.dload X0.here hx rfl (hb hby at_32) rfl k) ?_
        refine OGoal.mp (S' := (s₁.setTop (mkF m 35 #[.val (.int p1), .val (.int p2), .val (.int p3), .val (.double (FP.i2d p1)), .second, .val (.double (FP.i2d p1)), .second, .val (.int (0 : Int32)), .unset] [(.int (-1 : Int32))]))) (fun _ k => XS.dcmpS X0.here hx rfl (hb hby at_34) rfl (by rw [ho]; rfl) k) ?_
        refine OGoal.mp (S' := (s₁.setTop (mkF m 50 #[.val (.int p1), .val (.int p2), .val (.int p3), .val (.double (FP.i2d p1)), .second, .val (.double (FP.i2d p1)), .second, .val (.int (0 : Int32)), .unset] []))) (fun _ k => XS.ifYes X0.here hx rfl (pc0 := 35) (pc' := 50) rfl (hb hby at_35) rfl (XT.i0_lt_t (by decide)) (by decide) (by decide) k) ?_
        refine OGoal.mp (S' := (s₁.setTop (mkF m 51 #[.val (.int p1), .val (.int p2), .val (.int p3), .val (.double (FP.i2d p1)), .second, .val (.double (FP.i2d p1)), .second, .val (.int (0 : Int32)), .unset] [(.int (1 : Int32))]))) (fun _ k => XS.iconst X0.here hx rfl (hb hby at_50) k) ?_
        refine OGoal.mp (S' := (s₁.setTop (mkF m 55 #[.val (.int p1), .val (.int p2), .val (.int p3), .val (.double (FP.i2d p1)), .second, .val (.double (FP.i2d p1)), .second, .val (.int (0 : Int32)), .unset] [(.int (1 : Int32))]))) (fun _ k => XS.goto X0.here hx rfl (pc0 := 51) (pc' := 55) rfl (hb hby at_51) (by decide) (by decide) k) ?_
        refine OGoal.mp (S' := (s₁.setTop (mkF m 57 #[.val (.int p1), .val (.int p2), .val (.int p3), .val (.double (FP.i2d p1)), .second, .val (.double (FP.i2d p1)), .second, .val (.int (0 : Int32)), .val (.int (1 : Int32))] []))) (fun _ k => XS.istore X0.here hx rfl (hb hby at_55) rfl (l' := #[.val (.int p1), .val (.int p2), .val (.int p3), .val (.double (FP.i2d p1)), .second, .val (.double (FP.i2d p1)), .second, .val (.int (0 : Int32)), .val (.int (1 : Int32))]) rfl k) ?_
        refine OGoal.mp (S' := (s₁.setTop (mkF m 58 #[.val (.int p1), .val (.int p2), .val (.int p3), .val (.double (FP.i2d p1)), .second, .val (.double (FP.i2d p1)), .second, .val (.int (0 : Int32)), .val (.int (1 : Int32))] [(.double (FP.i2d p1))]))) (fun _ k => XS.dloadN X0.here hx rfl (hb hby at_57) rfl k) ?_
        refine OGoal.mp (S' := (s₁.setTop (mkF m 60 #[.val (.int p1), .val (.int p2), .val (.int p3), .val (.double (FP.i2d p1)), .second, .val (.double (FP.i2d p1)), .second, .val (.int (0 : Int32)), .val (.int (1 : Int32))] [(.double (FP.i2d p1)), (.double (FP.i2d p1))]))) (fun _ k => XS.dload X0.here hx rfl (hb hby at_58) rfl k) ?_
        refine OGoal.mp (S' := (s₁.setTop (mkF m 62 #[.val (.int p1), .val (.int p2), .val (.int p3), .val (.double (FP.i2d p1)), .second, .val (.double (FP.i2d p1)), .second, .val (.int (0 : Int32)), .val (.int (1 : Int32))] [(.int (0 : Int32)), (.double (FP.i2d p1)), (.double (FP.i2d p1))]))) (fun _ k => XS.iload X0.here hx rfl (hb hby at_60) rfl k) ?_
        refine oCallS (y := (⟨"com/example/haggle/haggle/negotiation/SwapSearch", "rulesOut", "(DDZ)Z"⟩ : MethodName)) X0 hx hZ hown (hw _ (List.mem_of_getElem? (i := 0) rfl)) (hw _ (List.mem_of_getElem? (i := 1) rfl)) (hw _ (List.mem_of_getElem? (i := 2) rfl)) (hw _ (List.mem_of_getElem? (i := 3) rfl)) (by decide) (rmA l Z a0 hw (FP.i2d p1) (FP.i2d p1) (0 : Int32) h0 n0 Z0) e0 [(.double (FP.i2d p1)), (.double (FP.i2d p1)), (.int (0 : Int32))] [] rfl rfl (by rw [hml]; rfl) (lenOf own_pd__DDZ_Z rfl) 0 (Nat.le_of_eq rfl) (by decide) (by decide) (by decide) (by decide) (hb hby at_62) ?_
        intro v52 T53 L54 X55 q56
        obtain ⟨rfl, N57, e58⟩ := q56
        have N59 := Fr.app (Fr.nil n0) N57
        rw [show own_ro (FP.i2d p1) (FP.i2d p1) (0 : Int32) = (0 : Int32) by unfold own_ro; rw [ho]; rfl]
        show OGoal p e below s _ _ _ (T53.setTop (mkF m 65 #[.val (.int p1), .val (.int p2), .val (.int p3), .val (.double (FP.i2d p1)), .second, .val (.double (FP.i2d p1)), .second, .val (.int (0 : Int32)), .val (.int (1 : Int32))] [(.int (0 : Int32))]))
        refine OGoal.mp (S' := (T53.setTop (mkF m 67 #[.val (.int p1), .val (.int p2), .val (.int p3), .val (.double (FP.i2d p1)), .second, .val (.double (FP.i2d p1)), .second, .val (.int (0 : Int32)), .val (.int (1 : Int32))] [(.int (1 : Int32)), (.int (0 : Int32))]))) (fun _ k => XS.iload X55.here hx rfl (hb hby at_65) rfl k) ?_
        refine OGoal.mp (S' := (T53.setTop (mkF m 74 #[.val (.int p1), .val (.int p2), .val (.int p3), .val (.double (FP.i2d p1)), .second, .val (.double (FP.i2d p1)), .second, .val (.int (0 : Int32)), .val (.int (1 : Int32))] [(.int (0 : Int32))]))) (fun _ k => XS.ifYes X55.here hx rfl (pc0 := 67) (pc' := 74) rfl (hb hby at_67) rfl (XT.i0_ne_t (by decide)) (by decide) (by decide) k) ?_
        refine OGoal.mp (S' := (T53.setTop (mkF m 75 #[.val (.int p1), .val (.int p2), .val (.int p3), .val (.double (FP.i2d p1)), .second, .val (.double (FP.i2d p1)), .second, .val (.int (0 : Int32)), .val (.int (1 : Int32))] [(.int (0 : Int32)), (.int (0 : Int32))]))) (fun _ k => XS.iconst X55.here hx rfl (hb hby at_74) k) ?_
        refine OGoal.mp (S' := (T53.setTop (mkF m 78 #[.val (.int p1), .val (.int p2), .val (.int p3), .val (.double (FP.i2d p1)), .second, .val (.double (FP.i2d p1)), .second, .val (.int (0 : Int32)), .val (.int (1 : Int32))] []))) (fun _ k => XS.icmpNo X55.here hx rfl (hb hby at_75) rfl (XT.ii_ne_f (by decide)) k) ?_
        refine OGoal.mp (S' := (T53.setTop (mkF m 79 #[.val (.int p1), .val (.int p2), .val (.int p3), .val (.double (FP.i2d p1)), .second, .val (.double (FP.i2d p1)), .second, .val (.int (0 : Int32)), .val (.int (1 : Int32))] [(.int (1 : Int32))]))) (fun _ k => XS.iconst X55.here hx rfl (hb hby at_78) k) ?_
        refine OGoal.mp (S' := (T53.setTop (mkF m 83 #[.val (.int p1), .val (.int p2), .val (.int p3), .val (.double (FP.i2d p1)), .second, .val (.double (FP.i2d p1)), .second, .val (.int (0 : Int32)), .val (.int (1 : Int32))] [(.int (1 : Int32))]))) (fun _ k => XS.goto X55.here hx rfl (pc0 := 79) (pc' := 83) rfl (hb hby at_79) (by decide) (by decide) k) ?_
        refine oRetZ X55 hx hlk hret (Or.inr rfl) (hb hby at_83) ?_ (by decide) (by decide)
        exact ⟨rfl, N59⟩
      · show OGoal p e below s _ _ _ (s₁.setTop (mkF m 31 #[.val (.int p1), .val (.int p2), .val (.int p3), .val (.double (FP.i2d p1)), .second, .val (.double (FP.i2d p1)), .second, .val (.int (0 : Int32)), .unset] []))
        refine OGoal.mp (S' := (s₁.setTop (mkF m 32 #[.val (.int p1), .val (.int p2), .val (.int p3), .val (.double (FP.i2d p1)), .second, .val (.double (FP.i2d p1)), .second, .val (.int (0 : Int32)), .unset] [(.double (FP.i2d p1))]))) (fun _ k => XS.dloadN X0.here hx rfl (hb hby at_31) rfl k) ?_
        refine OGoal.mp (S' := (s₁.setTop (mkF m 34 #[.val (.int p1), .val (.int p2), .val (.int p3), .val (.double (FP.i2d p1)), .second, .val (.double (FP.i2d p1)), .second, .val (.int (0 : Int32)), .unset] [(.double (FP.i2d p1)), (.double (FP.i2d p1))]))) (fun _ k => XS.dload X0.here hx rfl (hb hby at_32) rfl k) ?_
        refine OGoal.mp (S' := (s₁.setTop (mkF m 35 #[.val (.int p1), .val (.int p2), .val (.int p3), .val (.double (FP.i2d p1)), .second, .val (.double (FP.i2d p1)), .second, .val (.int (0 : Int32)), .unset] [(.int (0 : Int32))]))) (fun _ k => XS.dcmpS X0.here hx rfl (hb hby at_34) rfl (by rw [ho]; rfl) k) ?_
        refine OGoal.mp (S' := (s₁.setTop (mkF m 38 #[.val (.int p1), .val (.int p2), .val (.int p3), .val (.double (FP.i2d p1)), .second, .val (.double (FP.i2d p1)), .second, .val (.int (0 : Int32)), .unset] []))) (fun _ k => XS.ifNo X0.here hx rfl (hb hby at_35) rfl (XT.i0_lt_f (by decide)) k) ?_
        refine OGoal.mp (S' := (s₁.setTop (mkF m 40 #[.val (.int p1), .val (.int p2), .val (.int p3), .val (.double (FP.i2d p1)), .second, .val (.double (FP.i2d p1)), .second, .val (.int (0 : Int32)), .unset] [(.int (0 : Int32))]))) (fun _ k => XS.iload X0.here hx rfl (hb hby at_38) rfl k) ?_
        refine OGoal.mp (S' := (s₁.setTop (mkF m 54 #[.val (.int p1), .val (.int p2), .val (.int p3), .val (.double (FP.i2d p1)), .second, .val (.double (FP.i2d p1)), .second, .val (.int (0 : Int32)), .unset] []))) (fun _ k => XS.ifYes X0.here hx rfl (pc0 := 40) (pc' := 54) rfl (hb hby at_40) rfl (XT.i0_eq_t (by decide)) (by decide) (by decide) k) ?_
        refine OGoal.mp (S' := (s₁.setTop (mkF m 55 #[.val (.int p1), .val (.int p2), .val (.int p3), .val (.double (FP.i2d p1)), .second, .val (.double (FP.i2d p1)), .second, .val (.int (0 : Int32)), .unset] [(.int (0 : Int32))]))) (fun _ k => XS.iconst X0.here hx rfl (hb hby at_54) k) ?_
        refine OGoal.mp (S' := (s₁.setTop (mkF m 57 #[.val (.int p1), .val (.int p2), .val (.int p3), .val (.double (FP.i2d p1)), .second, .val (.double (FP.i2d p1)), .second, .val (.int (0 : Int32)), .val (.int (0 : Int32))] []))) (fun _ k => XS.istore X0.here hx rfl (hb hby at_55) rfl (l' := #[.val (.int p1), .val (.int p2), .val (.int p3), .val (.double (FP.i2d p1)), .second, .val (.double (FP.i2d p1)), .second, .val (.int (0 : Int32)), .val (.int (0 : Int32))]) rfl k) ?_
        refine OGoal.mp (S' := (s₁.setTop (mkF m 58 #[.val (.int p1), .val (.int p2), .val (.int p3), .val (.double (FP.i2d p1)), .second, .val (.double (FP.i2d p1)), .second, .val (.int (0 : Int32)), .val (.int (0 : Int32))] [(.double (FP.i2d p1))]))) (fun _ k => XS.dloadN X0.here hx rfl (hb hby at_57) rfl k) ?_
        refine OGoal.mp (S' := (s₁.setTop (mkF m 60 #[.val (.int p1), .val (.int p2), .val (.int p3), .val (.double (FP.i2d p1)), .second, .val (.double (FP.i2d p1)), .second, .val (.int (0 : Int32)), .val (.int (0 : Int32))] [(.double (FP.i2d p1)), (.double (FP.i2d p1))]))) (fun _ k => XS.dload X0.here hx rfl (hb hby at_58) rfl k) ?_
        refine OGoal.mp (S' := (s₁.setTop (mkF m 62 #[.val (.int p1), .val (.int p2), .val (.int p3), .val (.double (FP.i2d p1)), .second, .val (.double (FP.i2d p1)), .second, .val (.int (0 : Int32)), .val (.int (0 : Int32))] [(.int (0 : Int32)), (.double (FP.i2d p1)), (.double (FP.i2d p1))]))) (fun _ k => XS.iload X0.here hx rfl (hb hby at_60) rfl k) ?_
        refine oCallS (y := (⟨"com/example/haggle/haggle/negotiation/SwapSearch", "rulesOut", "(DDZ)Z"⟩ : MethodName)) X0 hx hZ hown (hw _ (List.mem_of_getElem? (i := 0) rfl)) (hw _ (List.mem_of_getElem? (i := 1) rfl)) (hw _ (List.mem_of_getElem? (i := 2) rfl)) (hw _ (List.mem_of_getElem? (i := 3) rfl)) (by decide) (rmA l Z a0 hw (FP.i2d p1) (FP.i2d p1) (0 : Int32) h0 n0 Z0) e0 [(.double (FP.i2d p1)), (.double (FP.i2d p1)), (.int (0 : Int32))] [] rfl rfl (by rw [hml]; rfl) (lenOf own_pd__DDZ_Z rfl) 0 (Nat.le_of_eq rfl) (by decide) (by decide) (by decide) (by decide) (hb hby at_62) ?_
        intro v60 T61 L62 X63 q64
        obtain ⟨rfl, N65, e66⟩ := q64
        have N67 := Fr.app (Fr.nil n0) N65
        rw [show own_ro (FP.i2d p1) (FP.i2d p1) (0 : Int32) = (1 : Int32) by unfold own_ro; rw [ho]; rfl]
        show OGoal p e below s _ _ _ (T61.setTop (mkF m 65 #[.val (.int p1), .val (.int p2), .val (.int p3), .val (.double (FP.i2d p1)), .second, .val (.double (FP.i2d p1)), .second, .val (.int (0 : Int32)), .val (.int (0 : Int32))] [(.int (1 : Int32))]))
        refine OGoal.mp (S' := (T61.setTop (mkF m 67 #[.val (.int p1), .val (.int p2), .val (.int p3), .val (.double (FP.i2d p1)), .second, .val (.double (FP.i2d p1)), .second, .val (.int (0 : Int32)), .val (.int (0 : Int32))] [(.int (0 : Int32)), (.int (1 : Int32))]))) (fun _ k => XS.iload X63.here hx rfl (hb hby at_65) rfl k) ?_
        refine OGoal.mp (S' := (T61.setTop (mkF m 70 #[.val (.int p1), .val (.int p2), .val (.int p3), .val (.double (FP.i2d p1)), .second, .val (.double (FP.i2d p1)), .second, .val (.int (0 : Int32)), .val (.int (0 : Int32))] [(.int (1 : Int32))]))) (fun _ k => XS.ifNo X63.here hx rfl (hb hby at_67) rfl (XT.i0_ne_f (by decide)) k) ?_
        refine OGoal.mp (S' := (T61.setTop (mkF m 71 #[.val (.int p1), .val (.int p2), .val (.int p3), .val (.double (FP.i2d p1)), .second, .val (.double (FP.i2d p1)), .second, .val (.int (0 : Int32)), .val (.int (0 : Int32))] [(.int (1 : Int32)), (.int (1 : Int32))]))) (fun _ k => XS.iconst X63.here hx rfl (hb hby at_70) k) ?_
        refine OGoal.mp (S' := (T61.setTop (mkF m 75 #[.val (.int p1), .val (.int p2), .val (.int p3), .val (.double (FP.i2d p1)), .second, .val (.double (FP.i2d p1)), .second, .val (.int (0 : Int32)), .val (.int (0 : Int32))] [(.int (1 : Int32)), (.int (1 : Int32))]))) (fun _ k => XS.goto X63.here hx rfl (pc0 := 71) (pc' := 75) rfl (hb hby at_71) (by decide) (by decide) k) ?_
        refine OGoal.mp (S' := (T61.setTop (mkF m 78 #[.val (.int p1), .val (.int p2), .val (.int p3), .val (.double (FP.i2d p1)), .second, .val (.double (FP.i2d p1)), .second, .val (.int (0 : Int32)), .val (.int (0 : Int32))] []))) (fun _ k => XS.icmpNo X63.here hx rfl (hb hby at_75) rfl (XT.ii_ne_f (by decide)) k) ?_
        refine OGoal.mp (S' := (T61.setTop (mkF m 79 #[.val (.int p1), .val (.int p2), .val (.int p3), .val (.double (FP.i2d p1)), .second, .val (.double (FP.i2d p1)), .second, .val (.int (0 : Int32)), .val (.int (0 : Int32))] [(.int (1 : Int32))]))) (fun _ k => XS.iconst X63.here hx rfl (hb hby at_78) k) ?_
        refine OGoal.mp (S' := (T61.setTop (mkF m 83 #[.val (.int p1), .val (.int p2), .val (.int p3), .val (.double (FP.i2d p1)), .second, .val (.double (FP.i2d p1)), .second, .val (.int (0 : Int32)), .val (.int (0 : Int32))] [(.int (1 : Int32))]))) (fun _ k => XS.goto X63.here hx rfl (pc0 := 79) (pc' := 83) rfl (hb hby at_79) (by decide) (by decide) k) ?_
        refine oRetZ X63 hx hlk hret (Or.inr rfl) (hb hby at_83) ?_ (by decide) (by decide)
        exact ⟨rfl, N67⟩
      · show OGoal p e below s _ _ _ (s₁.setTop (mkF m 31 #[.val (.int p1), .val (.int p2), .val (.int p3), .val (.double (FP.i2d p1)), .second, .val (.double (FP.i2d p1)), .second, .val (.int (0 : Int32)), .unset] []))
        refine OGoal.mp (S' := (s₁.setTop (mkF m 32 #[.val (.int p1), .val (.int p2), .val (.int p3), .val (.double (FP.i2d p1)), .second, .val (.double (FP.i2d p1)), .second, .val (.int (0 : Int32)), .unset] [(.double (FP.i2d p1))]))) (fun _ k => XS.dloadN X0.here hx rfl (hb hby at_31) rfl k) ?_
        refine OGoal.mp (S' := (s₁.setTop (mkF m 34 #[.val (.int p1), .val (.int p2), .val (.int p3), .val (.double (FP.i2d p1)), .second, .val (.double (FP.i2d p1)), .second, .val (.int (0 : Int32)), .unset] [(.double (FP.i2d p1)), (.double (FP.i2d p1))]))) (fun _ k => XS.dload X0.here hx rfl (hb hby at_32) rfl k) ?_
        refine OGoal.mp (S' := (s₁.setTop (mkF m 35 #[.val (.int p1), .val (.int p2), .val (.int p3), .val (.double (FP.i2d p1)), .second, .val (.double (FP.i2d p1)), .second, .val (.int (0 : Int32)), .unset] [(.int (1 : Int32))]))) (fun _ k => XS.dcmpS X0.here hx rfl (hb hby at_34) rfl (by rw [ho]; rfl) k) ?_
        refine OGoal.mp (S' := (s₁.setTop (mkF m 38 #[.val (.int p1), .val (.int p2), .val (.int p3), .val (.double (FP.i2d p1)), .second, .val (.double (FP.i2d p1)), .second, .val (.int (0 : Int32)), .unset] []))) (fun _ k => XS.ifNo X0.here hx rfl (hb hby at_35) rfl (XT.i0_lt_f (by decide)) k) ?_
        refine OGoal.mp (S' := (s₁.setTop (mkF m 40 #[.val (.int p1), .val (.int p2), .val (.int p3), .val (.double (FP.i2d p1)), .second, .val (.double (FP.i2d p1)), .second, .val (.int (0 : Int32)), .unset] [(.int (0 : Int32))]))) (fun _ k => XS.iload X0.here hx rfl (hb hby at_38) rfl k) ?_
        refine OGoal.mp (S' := (s₁.setTop (mkF m 54 #[.val (.int p1), .val (.int p2), .val (.int p3), .val (.double (FP.i2d p1)), .second, .val (.double (FP.i2d p1)), .second, .val (.int (0 : Int32)), .unset] []))) (fun _ k => XS.ifYes X0.here hx rfl (pc0 := 40) (pc' := 54) rfl (hb hby at_40) rfl (XT.i0_eq_t (by decide)) (by decide) (by decide) k) ?_
        refine OGoal.mp (S' := (s₁.setTop (mkF m 55 #[.val (.int p1), .val (.int p2), .val (.int p3), .val (.double (FP.i2d p1)), .second, .val (.double (FP.i2d p1)), .second, .val (.int (0 : Int32)), .unset] [(.int (0 : Int32))]))) (fun _ k => XS.iconst X0.here hx rfl (hb hby at_54) k) ?_
        refine OGoal.mp (S' := (s₁.setTop (mkF m 57 #[.val (.int p1), .val (.int p2), .val (.int p3), .val (.double (FP.i2d p1)), .second, .val (.double (FP.i2d p1)), .second, .val (.int (0 : Int32)), .val (.int (0 : Int32))] []))) (fun _ k => XS.istore X0.here hx rfl (hb hby at_55) rfl (l' := #[.val (.int p1), .val (.int p2), .val (.int p3), .val (.double (FP.i2d p1)), .second, .val (.double (FP.i2d p1)), .second, .val (.int (0 : Int32)), .val (.int (0 : Int32))]) rfl k) ?_
        refine OGoal.mp (S' := (s₁.setTop (mkF m 58 #[.val (.int p1), .val (.int p2), .val (.int p3), .val (.double (FP.i2d p1)), .second, .val (.double (FP.i2d p1)), .second, .val (.int (0 : Int32)), .val (.int (0 : Int32))] [(.double (FP.i2d p1))]))) (fun _ k => XS.dloadN X0.here hx rfl (hb hby at_57) rfl k) ?_
        refine OGoal.mp (S' := (s₁.setTop (mkF m 60 #[.val (.int p1), .val (.int p2), .val (.int p3), .val (.double (FP.i2d p1)), .second, .val (.double (FP.i2d p1)), .second, .val (.int (0 : Int32)), .val (.int (0 : Int32))] [(.double (FP.i2d p1)), (.double (FP.i2d p1))]))) (fun _ k => XS.dload X0.here hx rfl (hb hby at_58) rfl k) ?_
        refine OGoal.mp (S' := (s₁.setTop (mkF m 62 #[.val (.int p1), .val (.int p2), .val (.int p3), .val (.double (FP.i2d p1)), .second, .val (.double (FP.i2d p1)), .second, .val (.int (0 : Int32)), .val (.int (0 : Int32))] [(.int (0 : Int32)), (.double (FP.i2d p1)), (.double (FP.i2d p1))]))) (fun _ k => XS.iload X0.here hx rfl (hb hby at_60) rfl k) ?_
        refine oCallS (y := (⟨"com/example/haggle/haggle/negotiation/SwapSearch", "rulesOut", "(DDZ)Z"⟩ : MethodName)) X0 hx hZ hown (hw _ (List.mem_of_getElem? (i := 0) rfl)) (hw _ (List.mem_of_getElem? (i := 1) rfl)) (hw _ (List.mem_of_getElem? (i := 2) rfl)) (hw _ (List.mem_of_getElem? (i := 3) rfl)) (by decide) (rmA l Z a0 hw (FP.i2d p1) (FP.i2d p1) (0 : Int32) h0 n0 Z0) e0 [(.double (FP.i2d p1)), (.double (FP.i2d p1)), (.int (0 : Int32))] [] rfl rfl (by rw [hml]; rfl) (lenOf own_pd__DDZ_Z rfl) 0 (Nat.le_of_eq rfl) (by decide) (by decide) (by decide) (by decide) (hb hby at_62) ?_
        intro v68 T69 L70 X71 q72
        obtain ⟨rfl, N73, e74⟩ := q72
        have N75 := Fr.app (Fr.nil n0) N73
        rw [show own_ro (FP.i2d p1) (FP.i2d p1) (0 : Int32) = (1 : Int32) by unfold own_ro; rw [ho]; rfl]
        show OGoal p e below s _ _ _ (T69.setTop (mkF m 65 #[.val (.int p1), .val (.int p2), .val (.int p3), .val (.double (FP.i2d p1)), .second, .val (.double (FP.i2d p1)), .second, .val (.int (0 : Int32)), .val (.int (0 : Int32))] [(.int (1 : Int32))]))
        refine OGoal.mp (S' := (T69.setTop (mkF m 67 #[.val (.int p1), .val (.int p2), .val (.int p3), .val (.double (FP.i2d p1)), .second, .val (.double (FP.i2d p1)), .second, .val (.int (0 : Int32)), .val (.int (0 : Int32))] [(.int (0 : Int32)), (.int (1 : Int32))]))) (fun _ k => XS.iload X71.here hx rfl (hb hby at_65) rfl k) ?_
        refine OGoal.mp (S' := (T69.setTop (mkF m 70 #[.val (.int p1), .val (.int p2), .val (.int p3), .val (.double (FP.i2d p1)), .second, .val (.double (FP.i2d p1)), .second, .val (.int (0 : Int32)), .val (.int (0 : Int32))] [(.int (1 : Int32))]))) (fun _ k => XS.ifNo X71.here hx rfl (hb hby at_67) rfl (XT.i0_ne_f (by decide)) k) ?_
        refine OGoal.mp (S' := (T69.setTop (mkF m 71 #[.val (.int p1), .val (.int p2), .val (.int p3), .val (.double (FP.i2d p1)), .second, .val (.double (FP.i2d p1)), .second, .val (.int (0 : Int32)), .val (.int (0 : Int32))] [(.int (1 : Int32)), (.int (1 : Int32))]))) (fun _ k => XS.iconst X71.here hx rfl (hb hby at_70) k) ?_
        refine OGoal.mp (S' := (T69.setTop (mkF m 75 #[.val (.int p1), .val (.int p2), .val (.int p3), .val (.double (FP.i2d p1)), .second, .val (.double (FP.i2d p1)), .second, .val (.int (0 : Int32)), .val (.int (0 : Int32))] [(.int (1 : Int32)), (.int (1 : Int32))]))) (fun _ k => XS.goto X71.here hx rfl (pc0 := 71) (pc' := 75) rfl (hb hby at_71) (by decide) (by decide) k) ?_
        refine OGoal.mp (S' := (T69.setTop (mkF m 78 #[.val (.int p1), .val (.int p2), .val (.int p3), .val (.double (FP.i2d p1)), .second, .val (.double (FP.i2d p1)), .second, .val (.int (0 : Int32)), .val (.int (0 : Int32))] []))) (fun _ k => XS.icmpNo X71.here hx rfl (hb hby at_75) rfl (XT.ii_ne_f (by decide)) k) ?_
        refine OGoal.mp (S' := (T69.setTop (mkF m 79 #[.val (.int p1), .val (.int p2), .val (.int p3), .val (.double (FP.i2d p1)), .second, .val (.double (FP.i2d p1)), .second, .val (.int (0 : Int32)), .val (.int (0 : Int32))] [(.int (1 : Int32))]))) (fun _ k => XS.iconst X71.here hx rfl (hb hby at_78) k) ?_
        refine OGoal.mp (S' := (T69.setTop (mkF m 83 #[.val (.int p1), .val (.int p2), .val (.int p3), .val (.double (FP.i2d p1)), .second, .val (.double (FP.i2d p1)), .second, .val (.int (0 : Int32)), .val (.int (0 : Int32))] [(.int (1 : Int32))]))) (fun _ k => XS.goto X71.here hx rfl (pc0 := 79) (pc' := 83) rfl (hb hby at_79) (by decide) (by decide) k) ?_
        refine oRetZ X71 hx hlk hret (Or.inr rfl) (hb hby at_83) ?_ (by decide) (by decide)
        exact ⟨rfl, N75⟩
    · refine OGoal.mp (S' := (s₁.setTop (mkF m 24 #[.val (.int p1), .val (.int p2), .val (.int p3), .val (.double (FP.i2d p1)), .second, .val (.double (FP.i2d p1)), .second, .unset, .unset] []))) (fun _ k => XS.ifNo X0.here hx rfl (hb hby at_21) rfl (XT.i0_eq_f hc51) k) ?_
      refine OGoal.mp (S' := (s₁.setTop (mkF m 25 #[.val (.int p1), .val (.int p2), .val (.int p3), .val (.double (FP.i2d p1)), .second, .val (.double (FP.i2d p1)), .second, .unset, .unset] [(.int (1 : Int32))]))) (fun _ k => XS.iconst X0.here hx rfl (hb hby at_24) k) ?_
      refine OGoal.mp (S' := (s₁.setTop (mkF m 29 #[.val (.int p1), .val (.int p2), .val (.int p3), .val (.double (FP.i2d p1)), .second, .val (.double (FP.i2d p1)), .second, .unset, .unset] [(.int (1 : Int32))]))) (fun _ k => XS.goto X0.here hx rfl (pc0 := 25) (pc' := 29) rfl (hb hby at_25) (by decide) (by decide) k) ?_
      refine OGoal.mp (S' := (s₁.setTop (mkF m 31 #[.val (.int p1), .val (.int p2), .val (.int p3), .val (.double (FP.i2d p1)), .second, .val (.double (FP.i2d p1)), .second, .val (.int (1 : Int32)), .unset] []))) (fun _ k => XS.istore X0.here hx rfl (hb hby at_29) rfl (l' := #[.val (.int p1), .val (.int p2), .val (.int p3), .val (.double (FP.i2d p1)), .second, .val (.double (FP.i2d p1)), .second, .val (.int (1 : Int32)), .unset]) rfl k) ?_
      obtain ⟨o, ho⟩ := own_some p1 p1
      rcases o with _ | _ | _
      · show OGoal p e below s _ _ _ (s₁.setTop (mkF m 31 #[.val (.int p1), .val (.int p2), .val (.int p3), .val (.double (FP.i2d p1)), .second, .val (.double (FP.i2d p1)), .second, .val (.int (1 : Int32)), .unset] []))
        refine OGoal.mp (S' := (s₁.setTop (mkF m 32 #[.val (.int p1), .val (.int p2), .val (.int p3), .val (.double (FP.i2d p1)), .second, .val (.double (FP.i2d p1)), .second, .val (.int (1 : Int32)), .unset] [(.double (FP.i2d p1))]))) (fun _ k => XS.dloadN X0.here hx rfl (hb hby at_31) rfl k) ?_
        refine OGoal.mp (S' := (s₁.setTop (mkF m 34 #[.val (.int p1), .val (.int p2), .val (.int p3), .val (.double (FP.i2d p1)), .second, .val (.double (FP.i2d p1)), .second, .val (.int (1 : Int32)), .unset] [(.double (FP.i2d p1)), (.double (FP.i2d p1))]))) (fun _ k => XS.dload X0.here hx rfl (hb hby at_32) rfl k) ?_
        refine OGoal.mp (S' := (s₁.setTop (mkF m 35 #[.val (.int p1), .val (.int p2), .val (.int p3), .val (.double (FP.i2d p1)), .second, .val (.double (FP.i2d p1)), .second, .val (.int (1 : Int32)), .unset] [(.int (-1 : Int32))]))) (fun _ k => XS.dcmpS X0.here hx rfl (hb hby at_34) rfl (by rw [ho]; rfl) k) ?_
        refine OGoal.mp (S' := (s₁.setTop (mkF m 50 #[.val (.int p1), .val (.int p2), .val (.int p3), .val (.double (FP.i2d p1)), .second, .val (.double (FP.i2d p1)), .second, .val (.int (1 : Int32)), .unset] []))) (fun _ k => XS.ifYes X0.here hx rfl (pc0 := 35) (pc' := 50) rfl (hb hby at_35) rfl (XT.i0_lt_t (by decide)) (by decide) (by decide) k) ?_
        refine OGoal.mp (S' := (s₁.setTop (mkF m 51 #[.val (.int p1), .val (.int p2), .val (.int p3), .val (.double (FP.i2d p1)), .second, .val (.double (FP.i2d p1)), .second, .val (.int (1 : Int32)), .unset] [(.int (1 : Int32))]))) (fun _ k => XS.iconst X0.here hx rfl (hb hby at_50) k) ?_
        refine OGoal.mp (S' := (s₁.setTop (mkF m 55 #[.val (.int p1), .val (.int p2), .val (.int p3), .val (.double (FP.i2d p1)), .second, .val (.double (FP.i2d p1)), .second, .val (.int (1 : Int32)), .unset] [(.int (1 : Int32))]))) (fun _ k => XS.goto X0.here hx rfl (pc0 := 51) (pc' := 55) rfl (hb hby at_51) (by decide) (by decide) k) ?_
        refine OGoal.mp (S' := (s₁.setTop (mkF m 57 #[.val (.int p1), .val (.int p2), .val (.int p3), .val (.double (FP.i2d p1)), .second, .val (.double (FP.i2d p1)), .second, .val (.int (1 : Int32)), .val (.int (1 : Int32))] []))) (fun _ k => XS.istore X0.here hx rfl (hb hby at_55) rfl (l' := #[.val (.int p1), .val (.int p2), .val (.int p3), .val (.double (FP.i2d p1)), .second, .val (.double (FP.i2d p1)), .second, .val (.int (1 : Int32)), .val (.int (1 : Int32))]) rfl k) ?_
        refine OGoal.mp (S' := (s₁.setTop (mkF m 58 #[.val (.int p1), .val (.int p2), .val (.int p3), .val (.double (FP.i2d p1)), .second, .val (.double (FP.i2d p1)), .second, .val (.int (1 : Int32)), .val (.int (1 : Int32))] [(.double (FP.i2d p1))]))) (fun _ k => XS.dloadN X0.here hx rfl (hb hby at_57) rfl k) ?_
        refine OGoal.mp (S' := (s₁.setTop (mkF m 60 #[.val (.int p1), .val (.int p2), .val (.int p3), .val (.double (FP.i2d p1)), .second, .val (.double (FP.i2d p1)), .second, .val (.int (1 : Int32)), .val (.int (1 : Int32))] [(.double (FP.i2d p1)), (.double (FP.i2d p1))]))) (fun _ k => XS.dload X0.here hx rfl (hb hby at_58) rfl k) ?_
        refine OGoal.mp (S' := (s₁.setTop (mkF m 62 #[.val (.int p1), .val (.int p2), .val (.int p3), .val (.double (FP.i2d p1)), .second, .val (.double (FP.i2d p1)), .second, .val (.int (1 : Int32)), .val (.int (1 : Int32))] [(.int (1 : Int32)), (.double (FP.i2d p1)), (.double (FP.i2d p1))]))) (fun _ k => XS.iload X0.here hx rfl (hb hby at_60) rfl k) ?_
        refine oCallS (y := (⟨"com/example/haggle/haggle/negotiation/SwapSearch", "rulesOut", "(DDZ)Z"⟩ : MethodName)) X0 hx hZ hown (hw _ (List.mem_of_getElem? (i := 0) rfl)) (hw _ (List.mem_of_getElem? (i := 1) rfl)) (hw _ (List.mem_of_getElem? (i := 2) rfl)) (hw _ (List.mem_of_getElem? (i := 3) rfl)) (by decide) (rmA l Z a0 hw (FP.i2d p1) (FP.i2d p1) (1 : Int32) h0 n0 Z0) e0 [(.double (FP.i2d p1)), (.double (FP.i2d p1)), (.int (1 : Int32))] [] rfl rfl (by rw [hml]; rfl) (lenOf own_pd__DDZ_Z rfl) 0 (Nat.le_of_eq rfl) (by decide) (by decide) (by decide) (by decide) (hb hby at_62) ?_
        intro v76 T77 L78 X79 q80
        obtain ⟨rfl, N81, e82⟩ := q80
        have N83 := Fr.app (Fr.nil n0) N81
        rw [show own_ro (FP.i2d p1) (FP.i2d p1) (1 : Int32) = (0 : Int32) by unfold own_ro; rw [ho]; rfl]
        show OGoal p e below s _ _ _ (T77.setTop (mkF m 65 #[.val (.int p1), .val (.int p2), .val (.int p3), .val (.double (FP.i2d p1)), .second, .val (.double (FP.i2d p1)), .second, .val (.int (1 : Int32)), .val (.int (1 : Int32))] [(.int (0 : Int32))]))
        refine OGoal.mp (S' := (T77.setTop (mkF m 67 #[.val (.int p1), .val (.int p2), .val (.int p3), .val (.double (FP.i2d p1)), .second, .val (.double (FP.i2d p1)), .second, .val (.int (1 : Int32)), .val (.int (1 : Int32))] [(.int (1 : Int32)), (.int (0 : Int32))]))) (fun _ k => XS.iload X79.here hx rfl (hb hby at_65) rfl k) ?_
        refine OGoal.mp (S' := (T77.setTop (mkF m 74 #[.val (.int p1), .val (.int p2), .val (.int p3), .val (.double (FP.i2d p1)), .second, .val (.double (FP.i2d p1)), .second, .val (.int (1 : Int32)), .val (.int (1 : Int32))] [(.int (0 : Int32))]))) (fun _ k => XS.ifYes X79.here hx rfl (pc0 := 67) (pc' := 74) rfl (hb hby at_67) rfl (XT.i0_ne_t (by decide)) (by decide) (by decide) k) ?_
        refine OGoal.mp (S' := (T77.setTop (mkF m 75 #[.val (.int p1), .val (.int p2), .val (.int p3), .val (.double (FP.i2d p1)), .second, .val (.double (FP.i2d p1)), .second, .val (.int (1 : Int32)), .val (.int (1 : Int32))] [(.int (0 : Int32)), (.int (0 : Int32))]))) (fun _ k => XS.iconst X79.here hx rfl (hb hby at_74) k) ?_
        refine OGoal.mp (S' := (T77.setTop (mkF m 78 #[.val (.int p1), .val (.int p2), .val (.int p3), .val (.double (FP.i2d p1)), .second, .val (.double (FP.i2d p1)), .second, .val (.int (1 : Int32)), .val (.int (1 : Int32))] []))) (fun _ k => XS.icmpNo X79.here hx rfl (hb hby at_75) rfl (XT.ii_ne_f (by decide)) k) ?_
        refine OGoal.mp (S' := (T77.setTop (mkF m 79 #[.val (.int p1), .val (.int p2), .val (.int p3), .val (.double (FP.i2d p1)), .second, .val (.double (FP.i2d p1)), .second, .val (.int (1 : Int32)), .val (.int (1 : Int32))] [(.int (1 : Int32))]))) (fun _ k => XS.iconst X79.here hx rfl (hb hby at_78) k) ?_
        refine OGoal.mp (S' := (T77.setTop (mkF m 83 #[.val (.int p1), .val (.int p2), .val (.int p3), .val (.double (FP.i2d p1)), .second, .val (.double (FP.i2d p1)), .second, .val (.int (1 : Int32)), .val (.int (1 : Int32))] [(.int (1 : Int32))]))) (fun _ k => XS.goto X79.here hx rfl (pc0 := 79) (pc' := 83) rfl (hb hby at_79) (by decide) (by decide) k) ?_
        refine oRetZ X79 hx hlk hret (Or.inr rfl) (hb hby at_83) ?_ (by decide) (by decide)
        exact ⟨rfl, N83⟩
      · show OGoal p e below s _ _ _ (s₁.setTop (mkF m 31 #[.val (.int p1), .val (.int p2), .val (.int p3), .val (.double (FP.i2d p1)), .second, .val (.double (FP.i2d p1)), .second, .val (.int (1 : Int32)), .unset] []))
        refine OGoal.mp (S' := (s₁.setTop (mkF m 32 #[.val (.int p1), .val (.int p2), .val (.int p3), .val (.double (FP.i2d p1)), .second, .val (.double (FP.i2d p1)), .second, .val (.int (1 : Int32)), .unset] [(.double (FP.i2d p1))]))) (fun _ k => XS.dloadN X0.here hx rfl (hb hby at_31) rfl k) ?_
        refine OGoal.mp (S' := (s₁.setTop (mkF m 34 #[.val (.int p1), .val (.int p2), .val (.int p3), .val (.double (FP.i2d p1)), .second, .val (.double (FP.i2d p1)), .second, .val (.int (1 : Int32)), .unset] [(.double (FP.i2d p1)), (.double (FP.i2d p1))]))) (fun _ k => XS.dload X0.here hx rfl (hb hby at_32) rfl k) ?_
        refine OGoal.mp (S' := (s₁.setTop (mkF m 35 #[.val (.int p1), .val (.int p2), .val (.int p3), .val (.double (FP.i2d p1)), .second, .val (.double (FP.i2d p1)), .second, .val (.int (1 : Int32)), .unset] [(.int (0 : Int32))]))) (fun _ k => XS.dcmpS X0.here hx rfl (hb hby at_34) rfl (by rw [ho]; rfl) k) ?_
        refine OGoal.mp (S' := (s₁.setTop (mkF m 38 #[.val (.int p1), .val (.int p2), .val (.int p3), .val (.double (FP.i2d p1)), .second, .val (.double (FP.i2d p1)), .second, .val (.int (1 : Int32)), .unset] []))) (fun _ k => XS.ifNo X0.here hx rfl (hb hby at_35) rfl (XT.i0_lt_f (by decide)) k) ?_
        refine OGoal.mp (S' := (s₁.setTop (mkF m 40 #[.val (.int p1), .val (.int p2), .val (.int p3), .val (.double (FP.i2d p1)), .second, .val (.double (FP.i2d p1)), .second, .val (.int (1 : Int32)), .unset] [(.int (1 : Int32))]))) (fun _ k => XS.iload X0.here hx rfl (hb hby at_38) rfl k) ?_
        refine OGoal.mp (S' := (s₁.setTop (mkF m 43 #[.val (.int p1), .val (.int p2), .val (.int p3), .val (.double (FP.i2d p1)), .second, .val (.double (FP.i2d p1)), .second, .val (.int (1 : Int32)), .unset] []))) (fun _ k => XS.ifNo X0.here hx rfl (hb hby at_40) rfl (XT.i0_eq_f (by decide)) k) ?_
        refine OGoal.mp (S' := (s₁.setTop (mkF m 44 #[.val (.int p1), .val (.int p2), .val (.int p3), .val (.double (FP.i2d p1)), .second, .val (.double (FP.i2d p1)), .second, .val (.int (1 : Int32)), .unset] [(.double (FP.i2d p1))]))) (fun _ k => XS.dloadN X0.here hx rfl (hb hby at_43) rfl k) ?_
        refine OGoal.mp (S' := (s₁.setTop (mkF m 46 #[.val (.int p1), .val (.int p2), .val (.int p3), .val (.double (FP.i2d p1)), .second, .val (.double (FP.i2d p1)), .second, .val (.int (1 : Int32)), .unset] [(.double (FP.i2d p1)), (.double (FP.i2d p1))]))) (fun _ k => XS.dload X0.here hx rfl (hb hby at_44) rfl k) ?_
        refine OGoal.mp (S' := (s₁.setTop (mkF m 47 #[.val (.int p1), .val (.int p2), .val (.int p3), .val (.double (FP.i2d p1)), .second, .val (.double (FP.i2d p1)), .second, .val (.int (1 : Int32)), .unset] [(.int (0 : Int32))]))) (fun _ k => XS.dcmpS X0.here hx rfl (hb hby at_46) rfl (by rw [ho]; rfl) k) ?_
        refine OGoal.mp (S' := (s₁.setTop (mkF m 50 #[.val (.int p1), .val (.int p2), .val (.int p3), .val (.double (FP.i2d p1)), .second, .val (.double (FP.i2d p1)), .second, .val (.int (1 : Int32)), .unset] []))) (fun _ k => XS.ifNo X0.here hx rfl (hb hby at_47) rfl (XT.i0_ne_f (by decide)) k) ?_
        refine OGoal.mp (S' := (s₁.setTop (mkF m 51 #[.val (.int p1), .val (.int p2), .val (.int p3), .val (.double (FP.i2d p1)), .second, .val (.double (FP.i2d p1)), .second, .val (.int (1 : Int32)), .unset] [(.int (1 : Int32))]))) (fun _ k => XS.iconst X0.here hx rfl (hb hby at_50) k) ?_
        refine OGoal.mp (S' := (s₁.setTop (mkF m 55 #[.val (.int p1), .val (.int p2), .val (.int p3), .val (.double (FP.i2d p1)), .second, .val (.double (FP.i2d p1)), .second, .val (.int (1 : Int32)), .unset] [(.int (1 : Int32))]))) (fun _ k => XS.goto X0.here hx rfl (pc0 := 51) (pc' := 55) rfl (hb hby at_51) (by decide) (by decide) k) ?_
        refine OGoal.mp (S' := (s₁.setTop (mkF m 57 #[.val (.int p1), .val (.int p2), .val (.int p3), .val (.double (FP.i2d p1)), .second, .val (.double (FP.i2d p1)), .second, .val (.int (1 : Int32)), .val (.int (1 : Int32))] []))) (fun _ k => XS.istore X0.here hx rfl (hb hby at_55) rfl (l' := #[.val (.int p1), .val (.int p2), .val (.int p3), .val (.double (FP.i2d p1)), .second, .val (.double (FP.i2d p1)), .second, .val (.int (1 : Int32)), .val (.int (1 : Int32))]) rfl k) ?_
        refine OGoal.mp (S' := (s₁.setTop (mkF m 58 #[.val (.int p1), .val (.int p2), .val (.int p3), .val (.double (FP.i2d p1)), .second, .val (.double (FP.i2d p1)), .second, .val (.int (1 : Int32)), .val (.int (1 : Int32))] [(.double (FP.i2d p1))]))) (fun _ k => XS.dloadN X0.here hx rfl (hb hby at_57) rfl k) ?_
        refine OGoal.mp (S' := (s₁.setTop (mkF m 60 #[.val (.int p1), .val (.int p2), .val (.int p3), .val (.double (FP.i2d p1)), .second, .val (.double (FP.i2d p1)), .second, .val (.int (1 : Int32)), .val (.int (1 : Int32))] [(.double (FP.i2d p1)), (.double (FP.i2d p1))]))) (fun _ k => XS.dload X0.here hx rfl (hb hby at_58) rfl k) ?_
        refine OGoal.mp (S' := (s₁.setTop (mkF m 62 #[.val (.int p1), .val (.int p2), .val (.int p3), .val (.double (FP.i2d p1)), .second, .val (.double (FP.i2d p1)), .second, .val (.int (1 : Int32)), .val (.int (1 : Int32))] [(.int (1 : Int32)), (.double (FP.i2d p1)), (.double (FP.i2d p1))]))) (fun _ k => XS.iload X0.here hx rfl (hb hby at_60) rfl k) ?_
        refine oCallS (y := (⟨"com/example/haggle/haggle/negotiation/SwapSearch", "rulesOut", "(DDZ)Z"⟩ : MethodName)) X0 hx hZ hown (hw _ (List.mem_of_getElem? (i := 0) rfl)) (hw _ (List.mem_of_getElem? (i := 1) rfl)) (hw _ (List.mem_of_getElem? (i := 2) rfl)) (hw _ (List.mem_of_getElem? (i := 3) rfl)) (by decide) (rmA l Z a0 hw (FP.i2d p1) (FP.i2d p1) (1 : Int32) h0 n0 Z0) e0 [(.double (FP.i2d p1)), (.double (FP.i2d p1)), (.int (1 : Int32))] [] rfl rfl (by rw [hml]; rfl) (lenOf own_pd__DDZ_Z rfl) 0 (Nat.le_of_eq rfl) (by decide) (by decide) (by decide) (by decide) (hb hby at_62) ?_
        intro v84 T85 L86 X87 q88
        obtain ⟨rfl, N89, e90⟩ := q88
        have N91 := Fr.app (Fr.nil n0) N89
        rw [show own_ro (FP.i2d p1) (FP.i2d p1) (1 : Int32) = (0 : Int32) by unfold own_ro; rw [ho]; rfl]
        show OGoal p e below s _ _ _ (T85.setTop (mkF m 65 #[.val (.int p1), .val (.int p2), .val (.int p3), .val (.double (FP.i2d p1)), .second, .val (.double (FP.i2d p1)), .second, .val (.int (1 : Int32)), .val (.int (1 : Int32))] [(.int (0 : Int32))]))
        refine OGoal.mp (S' := (T85.setTop (mkF m 67 #[.val (.int p1), .val (.int p2), .val (.int p3), .val (.double (FP.i2d p1)), .second, .val (.double (FP.i2d p1)), .second, .val (.int (1 : Int32)), .val (.int (1 : Int32))] [(.int (1 : Int32)), (.int (0 : Int32))]))) (fun _ k => XS.iload X87.here hx rfl (hb hby at_65) rfl k) ?_
        refine OGoal.mp (S' := (T85.setTop (mkF m 74 #[.val (.int p1), .val (.int p2), .val (.int p3), .val (.double (FP.i2d p1)), .second, .val (.double (FP.i2d p1)), .second, .val (.int (1 : Int32)), .val (.int (1 : Int32))] [(.int (0 : Int32))]))) (fun _ k => XS.ifYes X87.here hx rfl (pc0 := 67) (pc' := 74) rfl (hb hby at_67) rfl (XT.i0_ne_t (by decide)) (by decide) (by decide) k) ?_
        refine OGoal.mp (S' := (T85.setTop (mkF m 75 #[.val (.int p1), .val (.int p2), .val (.int p3), .val (.double (FP.i2d p1)), .second, .val (.double (FP.i2d p1)), .second, .val (.int (1 : Int32)), .val (.int (1 : Int32))] [(.int (0 : Int32)), (.int (0 : Int32))]))) (fun _ k => XS.iconst X87.here hx rfl (hb hby at_74) k) ?_
        refine OGoal.mp (S' := (T85.setTop (mkF m 78 #[.val (.int p1), .val (.int p2), .val (.int p3), .val (.double (FP.i2d p1)), .second, .val (.double (FP.i2d p1)), .second, .val (.int (1 : Int32)), .val (.int (1 : Int32))] []))) (fun _ k => XS.icmpNo X87.here hx rfl (hb hby at_75) rfl (XT.ii_ne_f (by decide)) k) ?_
        refine OGoal.mp (S' := (T85.setTop (mkF m 79 #[.val (.int p1), .val (.int p2), .val (.int p3), .val (.double (FP.i2d p1)), .second, .val (.double (FP.i2d p1)), .second, .val (.int (1 : Int32)), .val (.int (1 : Int32))] [(.int (1 : Int32))]))) (fun _ k => XS.iconst X87.here hx rfl (hb hby at_78) k) ?_
        refine OGoal.mp (S' := (T85.setTop (mkF m 83 #[.val (.int p1), .val (.int p2), .val (.int p3), .val (.double (FP.i2d p1)), .second, .val (.double (FP.i2d p1)), .second, .val (.int (1 : Int32)), .val (.int (1 : Int32))] [(.int (1 : Int32))]))) (fun _ k => XS.goto X87.here hx rfl (pc0 := 79) (pc' := 83) rfl (hb hby at_79) (by decide) (by decide) k) ?_
        refine oRetZ X87 hx hlk hret (Or.inr rfl) (hb hby at_83) ?_ (by decide) (by decide)
        exact ⟨rfl, N91⟩
      · show OGoal p e below s _ _ _ (s₁.setTop (mkF m 31 #[.val (.int p1), .val (.int p2), .val (.int p3), .val (.double (FP.i2d p1)), .second, .val (.double (FP.i2d p1)), .second, .val (.int (1 : Int32)), .unset] []))
        refine OGoal.mp (S' := (s₁.setTop (mkF m 32 #[.val (.int p1), .val (.int p2), .val (.int p3), .val (.double (FP.i2d p1)), .second, .val (.double (FP.i2d p1)), .second, .val (.int (1 : Int32)), .unset] [(.double (FP.i2d p1))]))) (fun _ k => XS.dloadN X0.here hx rfl (hb hby at_31) rfl k) ?_
        refine OGoal.mp (S' := (s₁.setTop (mkF m 34 #[.val (.int p1), .val (.int p2), .val (.int p3), .val (.double (FP.i2d p1)), .second, .val (.double (FP.i2d p1)), .second, .val (.int (1 : Int32)), .unset] [(.double (FP.i2d p1)), (.double (FP.i2d p1))]))) (fun _ k => XS.dload X0.here hx rfl (hb hby at_32) rfl k) ?_
        refine OGoal.mp (S' := (s₁.setTop (mkF m 35 #[.val (.int p1), .val (.int p2), .val (.int p3), .val (.double (FP.i2d p1)), .second, .val (.double (FP.i2d p1)), .second, .val (.int (1 : Int32)), .unset] [(.int (1 : Int32))]))) (fun _ k => XS.dcmpS X0.here hx rfl (hb hby at_34) rfl (by rw [ho]; rfl) k) ?_
        refine OGoal.mp (S' := (s₁.setTop (mkF m 38 #[.val (.int p1), .val (.int p2), .val (.int p3), .val (.double (FP.i2d p1)), .second, .val (.double (FP.i2d p1)), .second, .val (.int (1 : Int32)), .unset] []))) (fun _ k => XS.ifNo X0.here hx rfl (hb hby at_35) rfl (XT.i0_lt_f (by decide)) k) ?_
        refine OGoal.mp (S' := (s₁.setTop (mkF m 40 #[.val (.int p1), .val (.int p2), .val (.int p3), .val (.double (FP.i2d p1)), .second, .val (.double (FP.i2d p1)), .second, .val (.int (1 : Int32)), .unset] [(.int (1 : Int32))]))) (fun _ k => XS.iload X0.here hx rfl (hb hby at_38) rfl k) ?_
        refine OGoal.mp (S' := (s₁.setTop (mkF m 43 #[.val (.int p1), .val (.int p2), .val (.int p3), .val (.double (FP.i2d p1)), .second, .val (.double (FP.i2d p1)), .second, .val (.int (1 : Int32)), .unset] []))) (fun _ k => XS.ifNo X0.here hx rfl (hb hby at_40) rfl (XT.i0_eq_f (by decide)) k) ?_
        refine OGoal.mp (S' := (s₁.setTop (mkF m 44 #[.val (.int p1), .val (.int p2), .val (.int p3), .val (.double (FP.i2d p1)), .second, .val (.double (FP.i2d p1)), .second, .val (.int (1 : Int32)), .unset] [(.double (FP.i2d p1))]))) (fun _ k => XS.dloadN X0.here hx rfl (hb hby at_43) rfl k) ?_
        refine OGoal.mp (S' := (s₁.setTop (mkF m 46 #[.val (.int p1), .val (.int p2), .val (.int p3), .val (.double (FP.i2d p1)), .second, .val (.double (FP.i2d p1)), .second, .val (.int (1 : Int32)), .unset] [(.double (FP.i2d p1)), (.double (FP.i2d p1))]))) (fun _ k => XS.dload X0.here hx rfl (hb hby at_44) rfl k) ?_
        refine OGoal.mp (S' := (s₁.setTop (mkF m 47 #[.val (.int p1), .val (.int p2), .val (.int p3), .val (.double (FP.i2d p1)), .second, .val (.double (FP.i2d p1)), .second, .val (.int (1 : Int32)), .unset] [(.int (1 : Int32))]))) (fun _ k => XS.dcmpS X0.here hx rfl (hb hby at_46) rfl (by rw [ho]; rfl) k) ?_
        refine OGoal.mp (S' := (s₁.setTop (mkF m 54 #[.val (.int p1), .val (.int p2), .val (.int p3), .val (.double (FP.i2d p1)), .second, .val (.double (FP.i2d p1)), .second, .val (.int (1 : Int32)), .unset] []))) (fun _ k => XS.ifYes X0.here hx rfl (pc0 := 47) (pc' := 54) rfl (hb hby at_47) rfl (XT.i0_ne_t (by decide)) (by decide) (by decide) k) ?_
        refine OGoal.mp (S' := (s₁.setTop (mkF m 55 #[.val (.int p1), .val (.int p2), .val (.int p3), .val (.double (FP.i2d p1)), .second, .val (.double (FP.i2d p1)), .second, .val (.int (1 : Int32)), .unset] [(.int (0 : Int32))]))) (fun _ k => XS.iconst X0.here hx rfl (hb hby at_54) k) ?_
        refine OGoal.mp (S' := (s₁.setTop (mkF m 57 #[.val (.int p1), .val (.int p2), .val (.int p3), .val (.double (FP.i2d p1)), .second, .val (.double (FP.i2d p1)), .second, .val (.int (1 : Int32)), .val (.int (0 : Int32))] []))) (fun _ k => XS.istore X0.here hx rfl (hb hby at_55) rfl (l' := #[.val (.int p1), .val (.int p2), .val (.int p3), .val (.double (FP.i2d p1)), .second, .val (.double (FP.i2d p1)), .second, .val (.int (1 : Int32)), .val (.int (0 : Int32))]) rfl k) ?_
        refine OGoal.mp (S' := (s₁.setTop (mkF m 58 #[.val (.int p1), .val (.int p2), .val (.int p3), .val (.double (FP.i2d p1)), .second, .val (.double (FP.i2d p1)), .second, .val (.int (1 : Int32)), .val (.int (0 : Int32))] [(.double (FP.i2d p1))]))) (fun _ k => XS.dloadN X0.here hx rfl (hb hby at_57) rfl k) ?_
        refine OGoal.mp (S' := (s₁.setTop (mkF m 60 #[.val (.int p1), .val (.int p2), .val (.int p3), .val (.double (FP.i2d p1)), .second, .val (.double (FP.i2d p1)), .second, .val (.int (1 : Int32)), .val (.int (0 : Int32))] [(.double (FP.i2d p1)), (.double (FP.i2d p1))]))) (fun _ k => XS.dload X0.here hx rfl (hb hby at_58) rfl k) ?_
        refine OGoal.mp (S' := (s₁.setTop (mkF m 62 #[.val (.int p1), .val (.int p2), .val (.int p3), .val (.double (FP.i2d p1)), .second, .val (.double (FP.i2d p1)), .second, .val (.int (1 : Int32)), .val (.int (0 : Int32))] [(.int (1 : Int32)), (.double (FP.i2d p1)), (.double (FP.i2d p1))]))) (fun _ k => XS.iload X0.here hx rfl (hb hby at_60) rfl k) ?_
        refine oCallS (y := (⟨"com/example/haggle/haggle/negotiation/SwapSearch", "rulesOut", "(DDZ)Z"⟩ : MethodName)) X0 hx hZ hown (hw _ (List.mem_of_getElem? (i := 0) rfl)) (hw _ (List.mem_of_getElem? (i := 1) rfl)) (hw _ (List.mem_of_getElem? (i := 2) rfl)) (hw _ (List.mem_of_getElem? (i := 3) rfl)) (by decide) (rmA l Z a0 hw (FP.i2d p1) (FP.i2d p1) (1 : Int32) h0 n0 Z0) e0 [(.double (FP.i2d p1)), (.double (FP.i2d p1)), (.int (1 : Int32))] [] rfl rfl (by rw [hml]; rfl) (lenOf own_pd__DDZ_Z rfl) 0 (Nat.le_of_eq rfl) (by decide) (by decide) (by decide) (by decide) (hb hby at_62) ?_
        intro v92 T93 L94 X95 q96
        obtain ⟨rfl, N97, e98⟩ := q96
        have N99 := Fr.app (Fr.nil n0) N97
        rw [show own_ro (FP.i2d p1) (FP.i2d p1) (1 : Int32) = (1 : Int32) by unfold own_ro; rw [ho]; rfl]
        show OGoal p e below s _ _ _ (T93.setTop (mkF m 65 #[.val (.int p1), .val (.int p2), .val (.int p3), .val (.double (FP.i2d p1)), .second, .val (.double (FP.i2d p1)), .second, .val (.int (1 : Int32)), .val (.int (0 : Int32))] [(.int (1 : Int32))]))
        refine OGoal.mp (S' := (T93.setTop (mkF m 67 #[.val (.int p1), .val (.int p2), .val (.int p3), .val (.double (FP.i2d p1)), .second, .val (.double (FP.i2d p1)), .second, .val (.int (1 : Int32)), .val (.int (0 : Int32))] [(.int (0 : Int32)), (.int (1 : Int32))]))) (fun _ k => XS.iload X95.here hx rfl (hb hby at_65) rfl k) ?_
        refine OGoal.mp (S' := (T93.setTop (mkF m 70 #[.val (.int p1), .val (.int p2), .val (.int p3), .val (.double (FP.i2d p1)), .second, .val (.double (FP.i2d p1)), .second, .val (.int (1 : Int32)), .val (.int (0 : Int32))] [(.int (1 : Int32))]))) (fun _ k => XS.ifNo X95.here hx rfl (hb hby at_67) rfl (XT.i0_ne_f (by decide)) k) ?_
        refine OGoal.mp (S' := (T93.setTop (mkF m 71 #[.val (.int p1), .val (.int p2), .val (.int p3), .val (.double (FP.i2d p1)), .second, .val (.double (FP.i2d p1)), .second, .val (.int (1 : Int32)), .val (.int (0 : Int32))] [(.int (1 : Int32)), (.int (1 : Int32))]))) (fun _ k => XS.iconst X95.here hx rfl (hb hby at_70) k) ?_
        refine OGoal.mp (S' := (T93.setTop (mkF m 75 #[.val (.int p1), .val (.int p2), .val (.int p3), .val (.double (FP.i2d p1)), .second, .val (.double (FP.i2d p1)), .second, .val (.int (1 : Int32)), .val (.int (0 : Int32))] [(.int (1 : Int32)), (.int (1 : Int32))]))) (fun _ k => XS.goto X95.here hx rfl (pc0 := 71) (pc' := 75) rfl (hb hby at_71) (by decide) (by decide) k) ?_
        refine OGoal.mp (S' := (T93.setTop (mkF m 78 #[.val (.int p1), .val (.int p2), .val (.int p3), .val (.double (FP.i2d p1)), .second, .val (.double (FP.i2d p1)), .second, .val (.int (1 : Int32)), .val (.int (0 : Int32))] []))) (fun _ k => XS.icmpNo X95.here hx rfl (hb hby at_75) rfl (XT.ii_ne_f (by decide)) k) ?_
        refine OGoal.mp (S' := (T93.setTop (mkF m 79 #[.val (.int p1), .val (.int p2), .val (.int p3), .val (.double (FP.i2d p1)), .second, .val (.double (FP.i2d p1)), .second, .val (.int (1 : Int32)), .val (.int (0 : Int32))] [(.int (1 : Int32))]))) (fun _ k => XS.iconst X95.here hx rfl (hb hby at_78) k) ?_
        refine OGoal.mp (S' := (T93.setTop (mkF m 83 #[.val (.int p1), .val (.int p2), .val (.int p3), .val (.double (FP.i2d p1)), .second, .val (.double (FP.i2d p1)), .second, .val (.int (1 : Int32)), .val (.int (0 : Int32))] [(.int (1 : Int32))]))) (fun _ k => XS.goto X95.here hx rfl (pc0 := 79) (pc' := 83) rfl (hb hby at_79) (by decide) (by decide) k) ?_
        refine oRetZ X95 hx hlk hret (Or.inr rfl) (hb hby at_83) ?_ (by decide) (by decide)
        exact ⟨rfl, N99⟩
set_option maxRecDepth 65536 in
set_option maxHeartbeats 40000000 in
theorem comes_1 {Post : Tables → Env → Array Value → State → Outcome → State → Prop} (hpost : ∀ tb e args s v u, (limb_1_1.after args s (.returned v) u = true ∧ limb_1_2.after args s (.returned v) u = true ∧ True) → FrameEnd s (.returned v) u (Jvm.fieldLocs frame_1_writes args s ++ Jvm.arrayLocs frame_1_arrays args s ++ Jvm.staticLocs frame_1_statics s) 0 0 → Post tb e args s (.returned v) u) :
    ArmFor flags0 classFile x code maxLocals ret World_1 tables_1 room_1 Calls_1 rest_1 Pre_1 Post := by
  intro l hfl _ _ p e ha hc hk s m args below hf hA hF happ hP
  obtain ⟨hcalls, hrest, hpre⟩ := hP
  obtain ⟨-, -, -, hnamed, -, -, -, hat⟩ := (Spec.applies_iff hf).mp happ
  obtain ⟨hg, hn⟩ := and_e (Cond.before_iff.mp (show (Jvm.Cond.and given_1 narrow_1).before args s = true from hpre))
  obtain ⟨hcnt, hg⟩ := and_e hg
  obtain ⟨w0, w1, w2, rfl⟩ : ∃ w0 w1 w2 : Value, args = #[w0, w1, w2] := by
    have hs : args.size = 3 := by simpa [Cond.value, given_1] using hcnt
    obtain ⟨L⟩ := args
    match L, hs with
    | [w0, w1, w2], _ => exact ⟨w0, w1, w2, rfl⟩
  have hw := fun d (hd : d ∈ tables_1) => atoms_spec (ws := Jvm.Cond.code x code maxLocals ret :: tables_1) hat d (List.mem_cons_of_mem _ hd)
  have hfit : Fit s := fun {y c} hc i hi => by
    obtain ⟨ha, rfl⟩ := Array.getElem?_eq_some_iff.mp hc
    have q := List.all_eq_true.mp ((Array.all_eq_true_iff_forall_mem.mp hF) _ (Array.getElem_mem ha)) i (List.mem_range.mpr hi)
    simpa [Array.getElem?_eq_getElem hi] using q
  obtain ⟨hg0, hg⟩ := and_e hg
  obtain ⟨i0, ei0⟩ := is_v hg0
  obtain rfl : w0 = (.int i0) := Option.some.inj ei0
  obtain ⟨hg1, hg⟩ := and_e hg
  obtain ⟨i1, ei1⟩ := is_v hg1
  obtain rfl : w1 = (.int i1) := Option.some.inj ei1
  obtain ⟨i2, ei2⟩ := is_v hg
  obtain rfl : w2 = (.int i2) := Option.some.inj ei2
  obtain ⟨n, o, h1, h2, h3, _, L, rfl, ⟨rfl, N⟩, hq⟩ := rm0 l s _ hw i0 i1 i2 s.heap s.heap.size (Nat.le_refl _)  tables_1 p e ha hc hk s m _ below hf ((Spec.applies_iff_loose hf).mp happ).1 ⟨rfl, State.Warmed39.refl s, rfl⟩ trivial
  refine ⟨n, _, h1, h2, h3, hpost _ _ _ _ _ _ ⟨Cond.after_iff.mpr rfl, Cond.after_iff.mpr (eq_i res_at (Term.int_eval (1)) rfl), trivial⟩ ⟨hq.1, hq.2.1, (hq.2.2.sift fun y hy => Or.inr (N y hy)).mono (by decide) (by decide)⟩⟩
theorem main_1_1 : Claimed_1_1 := comes_1 fun _ _ _ _ _ _ h hF => ⟨h.1, hF⟩
theorem main_1_2 : Claimed_1_2 := comes_1 fun _ _ _ _ _ _ h hF => ⟨h.2.1, hF⟩
end Jvm.Pilot.@@N@@
namespace Jvm.Pilot.@@N@@
open Jvm Jvm.ClassFile Sem Op Lib Jvm.Free Jvm.Stand Jvm.Pilot.@@N@@.Jvm.D
/-! MADE BY PROGRAM (witnessworld.py) out of the Statement's table words and the real class files: 9 classes; the members and pool entries that the words name. The judged class is class 1, her method 1. -/
namespace start1
open Jvm.ClassFile
def u (s : String) : CpInfo := .utf8 (stringToUtf16 s)
/-- a pool by its gaps: so many unusable entries, then the entry; so many at the end -/
def gap : Nat → List CpInfo → List CpInfo
  | 0, r => r
  | n + 1, r => .unusable :: gap n r
def poolList (es : List (Nat × CpInfo)) (last : Nat) : List CpInfo := es.foldr (fun e r => gap e.1 (e.2 :: r)) (gap last [])
def pool (es : List (Nat × CpInfo)) (last : Nat) : Array CpInfo := ⟨poolList es last⟩
def fileOf (pool : Array CpInfo) (this : Nat) (attrs : Array Attribute := #[]) (ms : Array MethodInfo := #[]) (fl : Nat := 33) (sup : Nat := 0) (ifs : Array Nat := #[]) (fds : Array FieldInfo := #[]) : ClassFile where
  minorVersion := 0
  majorVersion := 65
  constantPool := pool
  accessFlags := fl
  thisClass := this
  superClass := sup
  interfaces := ifs
  fields := fds
  methods := ms
  attributes := attrs
def plain (name : String) (sup : Option ClassId) : Class where
  name := name
  kind := .ordinary
  loader := none
  accessFlags := 33
  super := sup
  interfaces := #[]
  cf := none
  fields := #[]
  methods := #[]
  instanceTypes := #[]
  staticTypes := #[]
  resolved := #[]
  callSites := []
  init := .initialized
  statics := none
  mirror := none

def pool0 : Array CpInfo := pool [(5, u "<init>"), (0, u "()V"), (1, .class_ 10), (1, u "java/lang/Object")] 113

def k0m0 : Method := { name := "<init>", desc := "()V", sig := { parameters := [], returnType := none }, accessFlags := 1, code := none }
/-- java/lang/Object -/
def k0 : Class := { plain "java/lang/Object" none with
  accessFlags := 33
  interfaces := #[]
  cf := some (fileOf pool0 8 #[] #[{ accessFlags := 1, nameIndex := 5, descriptorIndex := 6, attributes := #[] }] 33 0 #[] #[])
  fields := #[]
  methods := #[k0m0]
  instanceTypes := #[]
  staticTypes := #[]
  resolved := Array.replicate 124 none
  statics := none }

def pool1 : Array CpInfo := pool [(2, .class_ 4), (1, u "java/lang/Object"), (0, u "<init>"), (0, u "()V"), (0, .methodref 8 9), (0, .class_ 10), (0, .nameAndType 11 12), (0, u "com/example/haggle/haggle/negotiation/SwapSearch"), (0, u "rulesOut"), (0, u "(DDZ)Z"), (0, .class_ 14), (0, u "com/example/haggle/haggle/negotiation/SwapSearchRulesOutPinLaw"), (2, u "law"), (0, u "(III)Z")] 3

def k1m0 : Method := { name := "<init>", desc := "()V", sig := { parameters := [], returnType := none }, accessFlags := 1, code := none }
def k1c1 : Code := { maxStack := 5, maxLocals := 9, code := code, exceptionTable := #[], attributes := #[] }
def k1m1 : Method := { name := "law", desc := "(III)Z", sig := { parameters := [.int, .int, .int], returnType := some .boolean }, accessFlags := 9, code := some k1c1 }
/-- com/example/haggle/haggle/negotiation/SwapSearchRulesOutPinLaw -/
def k1 : Class := { plain "com/example/haggle/haggle/negotiation/SwapSearchRulesOutPinLaw" (some 0) with
  accessFlags := 49
  interfaces := #[]
  cf := some (fileOf pool1 13 #[] #[{ accessFlags := 1, nameIndex := 5, descriptorIndex := 6, attributes := #[] }, { accessFlags := 9, nameIndex := 17, descriptorIndex := 18, attributes := #[] }] 49 2 #[] #[])
  fields := #[]
  methods := #[k1m0, k1m1]
  instanceTypes := #[]
  staticTypes := #[]
  resolved := Array.replicate 22 none
  statics := none }

def pool2 : Array CpInfo := pool [(8, .class_ 10), (1, u "com/example/haggle/haggle/negotiation/SwapSearch"), (7, .class_ 20), (1, u "java/lang/Object"), (3, u "problem"), (0, u "Lcom/example/haggle/haggle/problem/Problem;"), (2, u "prices"), (0, u "Lcom/example/haggle/haggle/negotiation/Prices;"), (4, u "objective"), (3, u "Lcom/example/haggle/haggle/problem/Objective;"), (2, u "exchanges"), (0, u "I"), (11, u "robotCount"), (7, u "start"), (0, u "Lcom/example/haggle/haggle/negotiation/RoundStart;"), (6, u "startTeamCost"), (0, u "D"), (2, u "costs"), (3, u "startCosts"), (0, u "[D"), (7, u "pieces"), (0, u "Ljava/util/List;"), (19, u "inUse"), (0, u "[Z"), (4, u "chosen"), (0, u "[Lcom/example/haggle/haggle/negotiation/Piece;"), (2, u "bestTeamCost"), (2, u "bestCosts"), (92, u "bestMoves"), (0, u "[J"), (21, u "bestChange"), (16, u "chosenCount"), (2, u "rulesOut"), (3, u "(DDZ)Z")] 81

def k2c0 : Code := { maxStack := 4, maxLocals := 5, code := prog_22_method_10_code, exceptionTable := #[], attributes := #[] }
def k2m0 : Method := { name := "rulesOut", desc := "(DDZ)Z", sig := { parameters := [.double, .double, .boolean], returnType := some .boolean }, accessFlags := 8, code := some k2c0 }
/-- com/example/haggle/haggle/negotiation/SwapSearch -/
def k2 : Class := { plain "com/example/haggle/haggle/negotiation/SwapSearch" (some 0) with
  accessFlags := 48
  interfaces := #[]
  cf := some (fileOf pool2 8 #[] #[{ accessFlags := 8, nameIndex := 257, descriptorIndex := 261, attributes := #[] }] 48 18 #[] #[{ accessFlags := 18, nameIndex := 24, descriptorIndex := 25, attributes := #[] }, { accessFlags := 18, nameIndex := 28, descriptorIndex := 29, attributes := #[] }, { accessFlags := 18, nameIndex := 34, descriptorIndex := 38, attributes := #[] }, { accessFlags := 18, nameIndex := 41, descriptorIndex := 42, attributes := #[] }, { accessFlags := 18, nameIndex := 54, descriptorIndex := 42, attributes := #[] }, { accessFlags := 18, nameIndex := 62, descriptorIndex := 63, attributes := #[] }, { accessFlags := 18, nameIndex := 70, descriptorIndex := 71, attributes := #[] }, { accessFlags := 18, nameIndex := 78, descriptorIndex := 79, attributes := #[] }, { accessFlags := 18, nameIndex := 87, descriptorIndex := 88, attributes := #[] }, { accessFlags := 18, nameIndex := 74, descriptorIndex := 79, attributes := #[] }, { accessFlags := 18, nameIndex := 108, descriptorIndex := 109, attributes := #[] }, { accessFlags := 18, nameIndex := 114, descriptorIndex := 115, attributes := #[] }, { accessFlags := 2, nameIndex := 254, descriptorIndex := 42, attributes := #[] }, { accessFlags := 2, nameIndex := 118, descriptorIndex := 71, attributes := #[] }, { accessFlags := 18, nameIndex := 121, descriptorIndex := 79, attributes := #[] }, { accessFlags := 2, nameIndex := 214, descriptorIndex := 215, attributes := #[] }, { accessFlags := 2, nameIndex := 237, descriptorIndex := 71, attributes := #[] }])
  fields := #[{ name := "problem", type := (.object "com/example/haggle/haggle/problem/Problem"), accessFlags := 18, slot := 0, constantValue := 0 }, { name := "prices", type := (.object "com/example/haggle/haggle/negotiation/Prices"), accessFlags := 18, slot := 1, constantValue := 0 }, { name := "objective", type := (.object "com/example/haggle/haggle/problem/Objective"), accessFlags := 18, slot := 2, constantValue := 0 }, { name := "exchanges", type := .int, accessFlags := 18, slot := 3, constantValue := 0 }, { name := "robotCount", type := .int, accessFlags := 18, slot := 4, constantValue := 0 }, { name := "start", type := (.object "com/example/haggle/haggle/negotiation/RoundStart"), accessFlags := 18, slot := 5, constantValue := 0 }, { name := "startTeamCost", type := .double, accessFlags := 18, slot := 6, constantValue := 0 }, { name := "startCosts", type := (.array .double), accessFlags := 18, slot := 7, constantValue := 0 }, { name := "pieces", type := (.object "java/util/List"), accessFlags := 18, slot := 8, constantValue := 0 }, { name := "costs", type := (.array .double), accessFlags := 18, slot := 9, constantValue := 0 }, { name := "inUse", type := (.array .boolean), accessFlags := 18, slot := 10, constantValue := 0 }, { name := "chosen", type := (.array (.object "com/example/haggle/haggle/negotiation/Piece")), accessFlags := 18, slot := 11, constantValue := 0 }, { name := "chosenCount", type := .int, accessFlags := 2, slot := 12, constantValue := 0 }, { name := "bestTeamCost", type := .double, accessFlags := 2, slot := 13, constantValue := 0 }, { name := "bestCosts", type := (.array .double), accessFlags := 18, slot := 14, constantValue := 0 }, { name := "bestMoves", type := (.array .long), accessFlags := 2, slot := 15, constantValue := 0 }, { name := "bestChange", type := .double, accessFlags := 2, slot := 16, constantValue := 0 }]
  methods := #[k2m0]
  instanceTypes := #[(.object "com/example/haggle/haggle/problem/Problem"), (.object "com/example/haggle/haggle/negotiation/Prices"), (.object "com/example/haggle/haggle/problem/Objective"), .int, .int, (.object "com/example/haggle/haggle/negotiation/RoundStart"), .double, (.array .double), (.object "java/util/List"), (.array .double), (.array .boolean), (.array (.object "com/example/haggle/haggle/negotiation/Piece")), .int, .double, (.array .double), (.array .long), .double]
  staticTypes := #[]
  resolved := Array.replicate 343 none
  statics := none }

def pool3 : Array CpInfo := pool [(1, u "java/lang/Cloneable"), (0, .class_ 1), (0, u "java/lang/Object"), (0, .class_ 3)] 3

/-- java/lang/Cloneable -/
def k3 : Class := { plain "java/lang/Cloneable" (some 0) with
  accessFlags := 1537
  interfaces := #[]
  cf := some (fileOf pool3 2 #[] #[] 1537 4 #[] #[])
  fields := #[]
  methods := #[]
  instanceTypes := #[]
  staticTypes := #[]
  resolved := Array.replicate 8 none
  statics := none }

def pool4 : Array CpInfo := pool [(1, u "java/io/Serializable"), (0, .class_ 1), (0, u "java/lang/Object"), (0, .class_ 3)] 3

/-- java/io/Serializable -/
def k4 : Class := { plain "java/io/Serializable" (some 0) with
  accessFlags := 1537
  interfaces := #[]
  cf := some (fileOf pool4 2 #[] #[] 1537 4 #[] #[])
  fields := #[]
  methods := #[]
  instanceTypes := #[]
  staticTypes := #[]
  resolved := Array.replicate 8 none
  statics := none }

/-- the primitive byte -/
def k5 : Class := { plain "byte" none with kind := .primitive 'B', accessFlags := 0x411 }
/-- [B -/
def k6 : Class := { plain "[B" (some 0) with kind := .array 5 .byte, interfaces := #[3, 4], accessFlags := 1041 }

/-- the primitive int -/
def k7 : Class := { plain "int" none with kind := .primitive 'I', accessFlags := 0x411 }
/-- [I -/
def k8 : Class := { plain "[I" (some 0) with kind := .array 7 .int, interfaces := #[3, 4], accessFlags := 1041 }

def heap : Heap := #[]
def classes : Array Class := #[k0, k1, k2, k3, k4, k5, k6, k7, k8]
def interned : List (Array UInt16 × Addr) := []
def slotsUsed : Nat := 0
def theMethod : MethodId := ⟨1, 1⟩
def args0 : Array Value := #[.int 3, .int 4, .int 1]
def aboutOver (below : List Frame) : State where
  vm := { classes := classes, interned := interned.toArray }
  heap := heap
  slotsUsed := slotsUsed
  threads := #[{ frames := .invoking theMethod args0 :: below }]
def below0 : List Frame := [.native { method := ⟨0, 0⟩, args := #[] }]
def about1 : State := aboutOver below0
def p0 : Program := .bare "" "" ""
def e0 : Env := launch0.env 0 0 0
theorem w_frames : about1.frames = Frame.invoking theMethod args0 :: below0 := rfl
set_option maxRecDepth 65536 in
theorem w_args : argsFit about1.vm theMethod args0 = true := by decide +kernel
set_option maxRecDepth 65536 in
theorem w_heap : heapFits about1 = true := by decide +kernel
set_option maxRecDepth 65536 in
theorem w_runnable : about1.curStatus? = some .runnable := by decide +kernel
set_option maxRecDepth 65536 in
theorem w_alone : about1.alone = true := by decide +kernel
set_option maxRecDepth 65536 in
theorem w_named : about1.methodNamed? x = some theMethod := by decide +kernel
set_option maxRecDepth 65536 in
theorem w_hears : about1.hears theMethod below0 = true := by decide +kernel
set_option maxRecDepth 65536 in
theorem w_ripe : about1.ripe theMethod args0 below0 = true := by decide +kernel
theorem w_running : about1.status = .running := rfl
set_option maxRecDepth 65536 in
theorem w_room : about1.hasRoom e0.platform room_1 = true :=
  launch0.hasRoom_least _ room_1 (by decide +kernel) (by decide +kernel) (by decide +kernel) (by decide +kernel) (by decide +kernel) (by decide +kernel)
theorem allAtoms_all (ts : List Jvm.Cond) (a : Array Jvm.Value) (st : Jvm.State) : (allAtoms ts).before a st = ts.all (fun c => c.before a st) := by
  induction ts with
  | nil => rfl
  | cons c t ih =>
    show (Jvm.Cond.and c (allAtoms t)).before a st = _
    rw [Jvm.Cond.before_and, ih, List.all_cons]
def words1 : List Jvm.Cond := Jvm.Cond.code x code maxLocals ret :: tables_1
/-- a 'code' word, met by the world's own term for the bytes: nothing is compared byte by byte -/
theorem code_word {y : MethodName} {bytes : ByteArray} {mx : Nat} {rt : Option FieldType} {a : Array Value} {s : State} {m : MethodId} {meth : Method} {c : Code} (h1 : s.methodNamed? y = some m) (h2 : s.vm.method? m = some meth) (h3 : meth.code = some c) (h4 : c.code = bytes)
    (h5 : (c.maxLocals == mx && c.exceptionTable.isEmpty && decide (c.maxStack ≤ mostOperands) && decide (meth.sig.returnType = rt) && !meth.locks && decide (parseMethodDescriptor y.desc = some meth.sig)) = true) : (Jvm.Cond.code y bytes mx rt).before a s = true := by
  simp only [Bool.and_eq_true, beq_iff_eq, Bool.not_eq_true', decide_eq_true_eq] at h5
  obtain ⟨⟨⟨⟨⟨g1, g2⟩, g3⟩, g4⟩, g5⟩, g6⟩ := h5
  simp [Cond.before, Cond.holds, Cond.value, h1, h2, h3, h4, g1, g2, g3, g4, g5, g6]
def isCode : Jvm.Cond → Bool
  | .code _ _ _ _ => true
  | _ => false
theorem all_split {L : List Jvm.Cond} {P : Jvm.Cond → Bool} (h1 : L.all (fun c => isCode c || P c) = true) (h2 : ∀ c ∈ L.filter isCode, P c = true) : L.all P = true := by
  refine List.all_eq_true.mpr fun c hc => ?_
  have h := List.all_eq_true.mp h1 c hc
  rcases Bool.eq_false_or_eq_true (isCode c) with hi | hi
  · exact h2 c (List.mem_filter.mpr ⟨hc, hi⟩)
  · simpa [hi] using h
set_option maxRecDepth 65536 in
theorem w_c0 : (Jvm.Cond.code x code maxLocals ret).before args0 about1 = true := code_word (m := ⟨1, 1⟩) (meth := k1m1) (c := k1c1) (by decide +kernel) rfl rfl rfl (by decide +kernel)
set_option maxRecDepth 65536 in
theorem w_c1 : (Jvm.Cond.code ({ cls := "com/example/haggle/haggle/negotiation/SwapSearch", name := "rulesOut", desc := "(DDZ)Z" } : Jvm.MethodName) prog_22_method_10_code (5 : Nat) (Option.some Jvm.ClassFile.FieldType.boolean)).before args0 about1 = true := code_word (m := ⟨2, 0⟩) (meth := k2m0) (c := k2c0) (by decide +kernel) rfl rfl rfl (by decide +kernel)
def codes1 : List Jvm.Cond := [Jvm.Cond.code x code maxLocals ret, Jvm.Cond.code ({ cls := "com/example/haggle/haggle/negotiation/SwapSearch", name := "rulesOut", desc := "(DDZ)Z" } : Jvm.MethodName) prog_22_method_10_code (5 : Nat) (Option.some Jvm.ClassFile.FieldType.boolean)]
set_option maxRecDepth 65536 in
theorem codes_eq : words1.filter isCode = codes1 := rfl
theorem w_codes : ∀ c ∈ words1.filter isCode, c.before args0 about1 = true := by
  rw [codes_eq]
  intro c hc
  simp only [codes1, List.mem_cons, List.not_mem_nil, or_false] at hc
  rcases hc with rfl | rfl
  · exact w_c0
  · exact w_c1
set_option maxRecDepth 65536 in
theorem w_t1 : words1.all (fun c => isCode c || c.before args0 about1) = true := by decide +kernel
theorem w_tables : (allAtoms (Jvm.Cond.code x code maxLocals ret :: tables_1)).before args0 about1 = true := by
  rw [allAtoms_all]
  show words1.all (fun c => c.before args0 about1) = true
  refine all_split ?_ w_codes
  rw [w_t1]
set_option maxRecDepth 65536 in
theorem w_case : (Jvm.Cond.and given_1 narrow_1).before args0 about1 = true := by decide +kernel
theorem w_applies : (headSpec (Jvm.Cond.code x code maxLocals ret :: tables_1) room_1).applies x e0.platform about1 = true :=
  (Spec.applies_iff w_frames).mpr ⟨w_running, w_runnable, w_alone, w_named, w_hears, w_ripe, w_room, w_tables⟩
theorem atStart : AtStart classFile x code maxLocals ret World_1 tables_1 room_1 Calls_1 rest_1 Pre_1 launch0 p0 e0 about1 theMethod args0 below0 :=
  ⟨lists_1, trivial, launch0.admits_env _ _ _, launch0.least_env, fairChoices_fair.cas, fairChoices_fair.clock, w_frames, w_args, w_heap, w_applies, trivial, trivial, w_case⟩
end start1
theorem witness_1 : WitnessClaimed_1 := ⟨start1.p0, start1.e0, start1.about1, start1.theMethod, start1.args0, start1.below0, start1.atStart⟩
end Jvm.Pilot.@@N@@
