import JvmDerived
import JvmDerived.Pilot.@@N@@Statement
import JvmDerived.Pilot.@@N@@Code
set_option linter.unusedVariables false
set_option linter.unusedSimpArgs false
namespace Jvm.Pilot.@@N@@
open Jvm Jvm.ClassFile Sem Op Lib Jvm.Free Jvm.Stand Jvm.LawKit Jvm.RoadKit Bundle Jvm.Pilot.@@N@@.Jvm.D
/-! own helpers: the goal of a walk as one predicate, its steps, its calls -/
section OwnKit
variable {p : Program} {l : Launch} {e : Env} {R : Room} {s : State} {m : MethodId} {args : Array Value} {below : List Frame} {meth : Method} {c : Code} {T : State} {locs : List Loc} {cells slots : Nat} {Z : State} {a0 : Array Value} {h : Heap} {Q : Option Value → Heap → List Loc → Prop} {kc ks : Nat}
/-- from S the run ends, returns, and Q holds of what it returns, of the heap and of the places written -/
def OGoal (p : Program) (e : Env) (below : List Frame) (s : State) (Q : Option Value → Heap → List Loc → Prop) (kc ks : Nat) (S : State) : Prop :=
  ∃ s₂ o, Steps p.tables e below S s₂ ∧ s₂.status = .running ∧ Ended s₂ below o ∧ ∃ v L, o = .returned v ∧ Q v s₂.heap L ∧ FrameEnd s o s₂ L kc ks
theorem OGoal.mp {S S' : State} (k : ∀ t, Steps p.tables e below S' t → Steps p.tables e below S t) (g : OGoal p e below s Q kc ks S') : OGoal p e below s Q kc ks S := by
  obtain ⟨s₂, o, h1, h2⟩ := g
  exact ⟨s₂, o, k _ h1, h2⟩
theorem oRet (X : Stand p l e R s m args below meth c T locs cells slots) (hx : p.tables.exec = Jvm.exec) (hlk : meth.locks = false) {pc : Nat} {Ls : Array Slot} {w : Value} {t : FieldType} {i : Instr} {rest : List Value} (hret : meth.sig.returnType = some t) (hn : narrow t w = w)
    (hi : (i = .ireturn ∧ (t = .int ∨ t = .boolean ∨ t = .byte ∨ t = .char ∨ t = .short) ∧ ∃ z, w = .int z) ∨ (i = .lreturn ∧ t = .long ∧ ∃ z, w = .long z) ∨ (i = .dreturn ∧ t = .double ∧ ∃ z, w = .double z) ∨ (i = .freturn ∧ t = .float ∧ ∃ z, w = .float z) ∨ (i = .areturn ∧ t.isReference = true ∧ w.isRef = true))
    (hd : decode c.code pc = .ok (i, 1)) (hQ : Q (some w) T.heap locs) (hc : cells ≤ kc) (hs : slots ≤ ks) : OGoal p e below s Q kc ks (T.setTop (mkF m pc Ls (w :: rest))) := by
  obtain ⟨fs, hr, hrun, hended, hW, hsame⟩ := X.leave (v := some w) (fun q => by rw [hret] at q; cases q) hlk
  exact ⟨_, _, retOut X hx hret hn hi hd hr, hrun, hended, _, _, rfl, hQ, ⟨_, rfl⟩, hW, hsame.mono hc hs⟩
theorem oRetI (X : Stand p l e R s m args below meth c T locs cells slots) (hx : p.tables.exec = Jvm.exec) (hlk : meth.locks = false) {pc : Nat} {Ls : Array Slot} {z : Int32} {rest : List Value} (hret : meth.sig.returnType = some .int)
    (hd : decode c.code pc = .ok (.ireturn, 1)) (hQ : Q (some (.int z)) T.heap locs) (hc : cells ≤ kc) (hs : slots ≤ ks) : OGoal p e below s Q kc ks (T.setTop (mkF m pc Ls (.int z :: rest))) :=
  oRet X hx hlk hret rfl (Or.inl ⟨rfl, Or.inl rfl, _, rfl⟩) hd hQ hc hs
theorem oRetZ (X : Stand p l e R s m args below meth c T locs cells slots) (hx : p.tables.exec = Jvm.exec) (hlk : meth.locks = false) {pc : Nat} {Ls : Array Slot} {z : Int32} {rest : List Value} (hret : meth.sig.returnType = some .boolean) (hz : z = 0 ∨ z = 1)
    (hd : decode c.code pc = .ok (.ireturn, 1)) (hQ : Q (some (.int z)) T.heap locs) (hc : cells ≤ kc) (hs : slots ≤ ks) : OGoal p e below s Q kc ks (T.setTop (mkF m pc Ls (.int z :: rest))) :=
  oRet X hx hlk hret (by rcases hz with rfl | rfl <;> rfl) (Or.inl ⟨rfl, Or.inr (Or.inl rfl), _, rfl⟩) hd hQ hc hs
theorem oRetJ (X : Stand p l e R s m args below meth c T locs cells slots) (hx : p.tables.exec = Jvm.exec) (hlk : meth.locks = false) {pc : Nat} {Ls : Array Slot} {z : Int64} {rest : List Value} (hret : meth.sig.returnType = some .long)
    (hd : decode c.code pc = .ok (.lreturn, 1)) (hQ : Q (some (.long z)) T.heap locs) (hc : cells ≤ kc) (hs : slots ≤ ks) : OGoal p e below s Q kc ks (T.setTop (mkF m pc Ls (.long z :: rest))) :=
  oRet X hx hlk hret rfl (Or.inr (Or.inl ⟨rfl, rfl, _, rfl⟩)) hd hQ hc hs
theorem oRetD (X : Stand p l e R s m args below meth c T locs cells slots) (hx : p.tables.exec = Jvm.exec) (hlk : meth.locks = false) {pc : Nat} {Ls : Array Slot} {z : UInt64} {rest : List Value} (hret : meth.sig.returnType = some .double)
    (hd : decode c.code pc = .ok (.dreturn, 1)) (hQ : Q (some (.double z)) T.heap locs) (hc : cells ≤ kc) (hs : slots ≤ ks) : OGoal p e below s Q kc ks (T.setTop (mkF m pc Ls (.double z :: rest))) :=
  oRet X hx hlk hret rfl (Or.inr (Or.inr (Or.inl ⟨rfl, rfl, _, rfl⟩))) hd hQ hc hs
theorem oRetA (X : Stand p l e R s m args below meth c T locs cells slots) (hx : p.tables.exec = Jvm.exec) (hlk : meth.locks = false) {pc : Nat} {Ls : Array Slot} {w : Value} {t : FieldType} {rest : List Value} (hret : meth.sig.returnType = some t) (ht : t.isReference = true) (hw : w.isRef = true)
    (hd : decode c.code pc = .ok (.areturn, 1)) (hQ : Q (some w) T.heap locs) (hc : cells ≤ kc) (hs : slots ≤ ks) : OGoal p e below s Q kc ks (T.setTop (mkF m pc Ls (w :: rest))) :=
  oRet X hx hlk hret (by cases t <;> cases w <;> first | rfl | (cases ht; done) | (cases hw; done)) (Or.inr (Or.inr (Or.inr (Or.inr ⟨rfl, ht, hw⟩)))) hd hQ hc hs
theorem oRetV (X : Stand p l e R s m args below meth c T locs cells slots) (hx : p.tables.exec = Jvm.exec) (hlk : meth.locks = false) {pc : Nat} {Ls : Array Slot} (hret : meth.sig.returnType = none)
    (hd : decode c.code pc = .ok (.return_, 1)) (hQ : Q none T.heap locs) (hc : cells ≤ kc) (hs : slots ≤ ks) : OGoal p e below s Q kc ks (T.setTop (mkF m pc Ls [])) := by
  obtain ⟨fs, hr, hrun, hended, hW, hsame⟩ := X.leave (v := none) (fun _ => rfl) hlk
  exact ⟨_, _, X.returnOut hx hret hd hr, hrun, hended, _, _, rfl, hQ, ⟨_, rfl⟩, hW, hsame.mono hc hs⟩
/-- the contract of a method: called with as' over the heap h it returns, and Q holds; kc cells and ks slots are made at the most -/
def OConK (l : Launch) (Z : State) (y : MethodName) (bytes : ByteArray) (maxL : Nat) (ret : Option FieldType) (rm : Room) (kc ks : Nat) (as' : Array Value) (h : Heap) (Q : Option Value → Heap → List Loc → Prop) : Prop :=
  ∀ ws : List Jvm.Cond, MetFree l y (head1 (Jvm.Cond.code y bytes maxL ret :: ws) rm) (fun a U => a = as' ∧ Z.Warmed39 U.vm ∧ U.heap = h) (fun _ _ _ _ _ => True) (fun _ U o U' => ∃ v L, o = .returned v ∧ Q v U'.heap L ∧ FrameEnd U o U' L kc ks)
abbrev OCon (l : Launch) (Z : State) (y : MethodName) (bytes : ByteArray) (maxL : Nat) (ret : Option FieldType) (rm : Room) (as' : Array Value) (h : Heap) (Q : Option Value → Heap → List Loc → Prop) : Prop := OConK l Z y bytes maxL ret rm rm.cells rm.slots as' h Q
theorem OConK.intro {y : MethodName} {bytes : ByteArray} {maxL : Nat} {ret : Option FieldType} {rm : Room} {as' : Array Value} {Ls : Array Slot} (hpf : plainFor y = true) (ef : ∀ m, entryFrame m as' maxL = mkF m 0 Ls [])
    (H : ∀ p e s m below meth c s₁, p.tables.exec = Jvm.exec → c.code = bytes → c.maxLocals = maxL → s.vm.findClass y.cls = some m.cls → meth.name = y.name → meth.sig.returnType = ret → meth.locks = false → Z.Warmed39 s.vm →
      Stand p l e rm s m as' below meth c s₁ [] 0 0 → s₁.heap = h → OGoal p e below s Q kc ks (s₁.setTop (mkF m 0 Ls []))) : OConK l Z y bytes maxL ret rm kc ks as' h Q := by
  intro ws
  refine MetFree.of_bodySF hpf hisR ?_
  intro p e s m args below meth c s₁ Bd hml hP hK
  obtain ⟨rfl, hZ, hh⟩ := hP
  obtain ⟨s₂, o, h1, h2, h3, h4⟩ := H p e s m below meth c s₁ Bd.exec Bd.bytes hml (findClass_of_methodNamed Bd.named) (name_of_methodNamed Bd.named Bd.method).1 Bd.returns (BodyLoose.notSynchronized Bd) hZ (Stand.of_body Bd) (by rw [← hh, Bd.state]; rfl)
  exact ⟨s₂, o, castTop (ef m) h1, h2, h3, h4⟩
/-- weaker promise -/
theorem OConK.imp {y : MethodName} {bytes : ByteArray} {maxL : Nat} {ret : Option FieldType} {rm : Room} {as' : Array Value} {Q' : Option Value → Heap → List Loc → Prop} (H : OConK l Z y bytes maxL ret rm kc ks as' h Q) (k : ∀ v h' L, Q v h' L → Q' v h' L) : OConK l Z y bytes maxL ret rm kc ks as' h Q' := by
  intro ws p e ha hc hk s m args below hf happ hP hK
  obtain ⟨n, o, h1, h2, h3, v, L, h4, h5, h6⟩ := H ws p e ha hc hk s m args below hf happ hP hK
  exact ⟨n, o, h1, h2, h3, v, L, h4, k _ _ _ h5, h6⟩
theorem oCallS (X : Stand p l e R s m args below meth c T locs cells slots) (hx : p.tables.exec = Jvm.exec) (hZ : Z.Warmed39 s.vm) {own : String} {index : Nat} {y : MethodName} {bytes : ByteArray} {maxL : Nat} {ret : Option FieldType} {rm : Room} {as' : Array Value} {Qc : Option Value → Heap → List Loc → Prop}
    (hown : s.vm.findClass own = some m.cls) (w1 : (Jvm.Cond.methodLink own index y).before a0 Z = true) (w2 : (Jvm.Cond.static y).before a0 Z = true) (w3 : (Jvm.Cond.initialized y.cls).before a0 Z = true) (w4 : (Jvm.Cond.code y bytes maxL ret).before a0 Z = true)
    (hy : y.cls ≠ "java/lang/invoke/MethodHandle" ∧ y.cls ≠ "java/lang/invoke/VarHandle") (hM : OCon l Z y bytes maxL ret rm as' h Qc) (eT : T.heap = h) {pc : Nat} {Ls : Array Slot} {st : List Value} (argsL rest : List Value) (hst : st = argsL.reverse ++ rest) (has : argsL.toArray = as') (hsize : Ls.size = c.maxLocals)
    (hlen : ∀ sig, parseMethodDescriptor y.desc = some sig → argsL.length = sig.parameters.length) (W : Nat) (hW : (rest.map fun v => v.category).sum ≤ W) (hfr : rm.frames + 1 ≤ R.frames) (hlo : W + (maxL + 11) + rm.locals ≤ R.locals) (hce : cells + rm.cells ≤ R.cells) (hsl : slots + rm.slots ≤ R.slots)
    (hd : decode c.code pc = .ok (.invokestatic index, 3))
    (k : ∀ v T' Lc, Stand p l e R s m args below meth c T' (locs ++ Lc) (cells + rm.cells) (slots + rm.slots) → Qc v T'.heap Lc → OGoal p e below s Q kc ks (T'.setTop (mkF m (pc + 3) Ls (v.toList ++ rest)))) :
    OGoal p e below s Q kc ks (T.setTop (mkF m pc Ls st)) := by
  subst hst has
  obtain ⟨v, _, ⟨T', L', k', n'⟩, -, X', ⟨Lc, hQ, l', y', z'⟩, st⟩ := Jvm.LawKit.callS X hx (y := y) hown (mvT hZ w1) (mvT hZ w2) (mvT hZ w3) (mvT hZ w4) hy (backOf (W := W) (hM []) hZ w4 w3 hfr hlo) (g := mkF m pc Ls (argsL.reverse ++ rest)) rfl hsize (argsL := argsL) (rest := rest) hlen rfl (by show 2 * 0 + _ ≤ _; omega) hd (fun _ _ => ⟨rfl, eT, hce, hsl⟩)
  dsimp only [Pt.U, Pt.locs, Pt.cells, Pt.slots] at X' l' y' z' st hQ
  subst l' y' z'
  exact OGoal.mp st (k v T' Lc X' hQ)
theorem oCallV (X : Stand p l e R s m args below meth c T locs cells slots) (hx : p.tables.exec = Jvm.exec) (hZ : Z.Warmed39 s.vm) {own C : String} {index : Nat} {y z : MethodName} {bytes : ByteArray} {maxL : Nat} {ret : Option FieldType} {rm : Room} {as' : Array Value} {Qc : Option Value → Heap → List Loc → Prop}
    (hown : s.vm.findClass own = some m.cls) (w1 : (Jvm.Cond.methodLink own index y).before a0 Z = true) (w2 : (Jvm.Cond.declares y).before a0 Z = true) (w5 : (Jvm.Cond.selects C y z).before a0 Z = true) (w6 : (Jvm.Cond.instanceMethod z).before a0 Z = true) (w3 : (Jvm.Cond.initialized z.cls).before a0 Z = true) (w4 : (Jvm.Cond.code z bytes maxL ret).before a0 Z = true)
    (hy : y.cls ≠ "java/lang/invoke/MethodHandle" ∧ y.cls ≠ "java/lang/invoke/VarHandle") (hM : OCon l Z z bytes maxL ret rm as' h Qc) (eT : T.heap = h) {a : Addr} (E : Exa Z h a C) {pc : Nat} {Ls : Array Slot} {st : List Value} (argsL rest : List Value) (hst : st = argsL.reverse ++ .ref a :: rest) (has : (.ref a :: argsL).toArray = as') (hsize : Ls.size = c.maxLocals)
    (hnf : NotFace s y) (hlen : ∀ sig, parseMethodDescriptor y.desc = some sig → argsL.length = sig.parameters.length) (W : Nat) (hW : (rest.map fun v => v.category).sum ≤ W) (hfr : rm.frames + 1 ≤ R.frames) (hlo : W + (maxL + 11) + rm.locals ≤ R.locals) (hce : cells + rm.cells ≤ R.cells) (hsl : slots + rm.slots ≤ R.slots)
    (hd : decode c.code pc = .ok (.invokevirtual index, 3))
    (k : ∀ v T' Lc, Stand p l e R s m args below meth c T' (locs ++ Lc) (cells + rm.cells) (slots + rm.slots) → Qc v T'.heap Lc → OGoal p e below s Q kc ks (T'.setTop (mkF m (pc + 3) Ls (v.toList ++ rest)))) :
    OGoal p e below s Q kc ks (T.setTop (mkF m pc Ls st)) := by
  subst hst has
  obtain ⟨cq, kq, qa, qb, qc⟩ := isOf hZ eT E
  obtain ⟨v, _, ⟨T', L', k', n'⟩, -, X', ⟨Lc, hQ, l', y', z'⟩, st⟩ := X.virtualBack hx (y := y) (z := z) hown (mvT hZ w1) (mvT hZ w2) hnf (mvT hZ w5) (mvT hZ w6) hy (backOf (W := W) (hM []) hZ w4 w3 hfr hlo) qa qc (g := mkF m pc Ls (argsL.reverse ++ .ref a :: rest)) rfl hsize (Steps.refl _) (argsL := argsL) (rest := rest) hlen rfl (by show 2 * 0 + _ ≤ _; omega) hd (fun _ _ => ⟨rfl, eT, hce, hsl⟩)
  dsimp only [Pt.U, Pt.locs, Pt.cells, Pt.slots] at X' l' y' z' st hQ
  subst l' y' z'
  exact OGoal.mp (fun t q => st.trans q) (k v T' Lc X' hQ)
theorem oCallN (X : Stand p l e R s m args below meth c T locs cells slots) (hx : p.tables.exec = Jvm.exec) (hZ : Z.Warmed39 s.vm) {own : String} {index : Nat} {y : MethodName} {bytes : ByteArray} {maxL : Nat} {rm : Room} {as' : Array Value} {Qc : Option Value → Heap → List Loc → Prop}
    (hy1 : y.name = "<init>") (hown : s.vm.findClass own = some m.cls) (w1 : (Jvm.Cond.methodLink own index y).before a0 Z = true) (w6 : (Jvm.Cond.instanceMethod y).before a0 Z = true) (w3 : (Jvm.Cond.initialized y.cls).before a0 Z = true) (w4 : (Jvm.Cond.code y bytes maxL none).before a0 Z = true)
    (hy : y.cls ≠ "java/lang/invoke/MethodHandle" ∧ y.cls ≠ "java/lang/invoke/VarHandle") (hM : OCon l Z y bytes maxL none rm as' h Qc) (eT : T.heap = h) {a : Addr} {pc : Nat} {Ls : Array Slot} {st : List Value} (argsL rest : List Value) (hst : st = argsL.reverse ++ .ref a :: rest) (has : (.ref a :: argsL).toArray = as') (hsize : Ls.size = c.maxLocals)
    (hlen : ∀ sig, parseMethodDescriptor y.desc = some sig → argsL.length = sig.parameters.length) (W : Nat) (hW : (rest.map fun v => v.category).sum ≤ W) (hfr : rm.frames + 1 ≤ R.frames) (hlo : W + (maxL + 11) + rm.locals ≤ R.locals) (hce : cells + rm.cells ≤ R.cells) (hsl : slots + rm.slots ≤ R.slots)
    (hd : decode c.code pc = .ok (.invokespecial index, 3))
    (k : ∀ v T' Lc, Stand p l e R s m args below meth c T' (locs ++ Lc) (cells + rm.cells) (slots + rm.slots) → Qc v T'.heap Lc → OGoal p e below s Q kc ks (T'.setTop (mkF m (pc + 3) Ls (v.toList ++ rest)))) :
    OGoal p e below s Q kc ks (T.setTop (mkF m pc Ls st)) := by
  subst hst has
  obtain ⟨v, _, ⟨T', L', k', n'⟩, -, X', ⟨Lc, hQ, l', y', z'⟩, st⟩ := X.specialBack hx (y := y) hy1 hown (mvT hZ w1) (mvT hZ w6) (mvT hZ w4) hy (backOf (W := W) (hM []) hZ w4 w3 hfr hlo) (g := mkF m pc Ls (argsL.reverse ++ .ref a :: rest)) rfl hsize (Steps.refl _) (a := a) (argsL := argsL) (rest := rest) hlen rfl (by show 2 * 0 + _ ≤ _; omega) hd (fun _ _ => ⟨rfl, eT, hce, hsl⟩)
  dsimp only [Pt.U, Pt.locs, Pt.cells, Pt.slots] at X' l' y' z' st hQ
  subst l' y' z'
  exact OGoal.mp (fun t q => st.trans q) (k v T' Lc X' hQ)
theorem oNotFace {s : State} {C : String} {k : Nat} (h : (Jvm.Cond.instantiable C k).before args s = true) : ∃ c kc, s.vm.findClass C = some c ∧ s.vm.classes[c]? = some kc ∧ kc.isInterface = false := by
  obtain ⟨c, kc, h1, h2, -, h3, -, -⟩ := Cond.instantiable_spec h
  exact ⟨c, kc, h1, h2, (Bool.or_eq_false_iff.mp h3).1⟩
theorem oCallP (X : Stand p l e R s m args below meth c T locs cells slots) (hx : p.tables.exec = Jvm.exec) (hZ : Z.Warmed39 s.vm) {own C : String} {index : Nat} {y : MethodName} {bytes : ByteArray} {maxL : Nat} {ret : Option FieldType} {rm : Room} {as' : Array Value} {Qc : Option Value → Heap → List Loc → Prop}
    (hown : s.vm.findClass own = some m.cls) (w1 : (Jvm.Cond.methodLink own index y).before a0 Z = true) {kk : Nat} (w5 : (Jvm.Cond.instantiable y.cls kk).before a0 Z = true) (w6 : (Jvm.Cond.instanceMethod y).before a0 Z = true) (w7 : (Jvm.Cond.privateMethod y).before a0 Z = true) (w3 : (Jvm.Cond.initialized y.cls).before a0 Z = true) (w4 : (Jvm.Cond.code y bytes maxL ret).before a0 Z = true)
    (hy : y.cls ≠ "java/lang/invoke/MethodHandle" ∧ y.cls ≠ "java/lang/invoke/VarHandle") (hM : OCon l Z y bytes maxL ret rm as' h Qc) (eT : T.heap = h) {a : Addr} (E : Exa Z h a C) {pc : Nat} {Ls : Array Slot} {st : List Value} (argsL rest : List Value) (hst : st = argsL.reverse ++ .ref a :: rest) (has : (.ref a :: argsL).toArray = as') (hsize : Ls.size = c.maxLocals)
    (hlen : ∀ sig, parseMethodDescriptor y.desc = some sig → argsL.length = sig.parameters.length) (W : Nat) (hW : (rest.map fun v => v.category).sum ≤ W) (hfr : rm.frames + 1 ≤ R.frames) (hlo : W + (maxL + 11) + rm.locals ≤ R.locals) (hce : cells + rm.cells ≤ R.cells) (hsl : slots + rm.slots ≤ R.slots)
    (hd : decode c.code pc = .ok (.invokevirtual index, 3))
    (k : ∀ v T' Lc, Stand p l e R s m args below meth c T' (locs ++ Lc) (cells + rm.cells) (slots + rm.slots) → Qc v T'.heap Lc → OGoal p e below s Q kc ks (T'.setTop (mkF m (pc + 3) Ls (v.toList ++ rest)))) :
    OGoal p e below s Q kc ks (T.setTop (mkF m pc Ls st)) := by
  subst hst has
  obtain ⟨cq, q1, q2⟩ := E.cell
  obtain ⟨c1, k1, hc1, hk1, hi1⟩ := oNotFace (args := #[]) (mvT hZ w5)
  have hpr : s.PrivateAt y := Cond.privateMethod_at (mvP hZ w7 (args := #[]))
  have hse := selects_self_of_private (args := args) hc1 hk1 hi1 hpr (mvT hZ w6) hy
  obtain ⟨v, _, ⟨T', L', k', n'⟩, -, X', ⟨Lc, hQ, l', y', z'⟩, st⟩ := X.privateBack hx (y := y) hown (mvT hZ w1) (mvT hZ w6) hse hpr (mvT hZ w4) hy (backOf (W := W) (hM []) hZ w4 w3 hfr hlo) (g := mkF m pc Ls (argsL.reverse ++ .ref a :: rest)) rfl hsize (Steps.refl _) (a := a) (by rw [eT]; exact q1) q2 (argsL := argsL) (rest := rest) hlen rfl (by show 2 * 0 + _ ≤ _; omega) hd (fun _ _ => ⟨rfl, eT, hce, hsl⟩)
  dsimp only [Pt.U, Pt.locs, Pt.cells, Pt.slots] at X' l' y' z' st hQ
  subst l' y' z'
  exact OGoal.mp (fun t q => st.trans q) (k v T' Lc X' hQ)
theorem oLrem {g : JFrame} {target : State} (X : Stand p l e R s m args below meth c T locs cells slots) (hx : p.tables.exec = Jvm.exec) (hg : g.method = m) {x y : Int64} {rest : List Value} (hd : decode c.code g.pc = .ok (.lrem, 1)) (hs : g.stack = .long y :: .long x :: rest) (hy : y ≠ 0)
    (hr : Steps p.tables e below (T.setTop { g with pc := g.pc + 1, stack := .long (x % y) :: rest }) target) : Steps p.tables e below (T.setTop g) target := XT.lrem X.here hx hg hd hs hy (by rw [lrem_mod]; exact hr)
theorem oLt {x y : Int32} (h : x < y) : x.toInt < y.toInt := Int32.lt_iff_toInt_lt.mp h
theorem oNlt {x y : Int32} (h : ¬ x < y) : y.toInt ≤ x.toInt := Int.not_lt.mp fun q => h (Int32.lt_iff_toInt_lt.mpr q)
theorem oEq {x y : Int32} (h : x = y) : x.toInt = y.toInt := congrArg _ h
theorem oNe {x y : Int32} (h : ¬ x = y) : x.toInt ≠ y.toInt := fun q => h (Int32.toInt_inj.mp q)
theorem oLtL {x y : Int64} (h : x < y) : x.toInt < y.toInt := Int64.lt_iff_toInt_lt.mp h
theorem oNltL {x y : Int64} (h : ¬ x < y) : y.toInt ≤ x.toInt := Int.not_lt.mp fun q => h (Int64.lt_iff_toInt_lt.mpr q)
theorem oEqL {x y : Int64} (h : x = y) : x.toInt = y.toInt := congrArg _ h
theorem oNeL {x y : Int64} (h : ¬ x = y) : x.toInt ≠ y.toInt := fun q => h (Int64.toInt_inj.mp q)
theorem mLt {x y : Int32} (h : x.toInt < y.toInt) : x < y := Int32.lt_iff_toInt_lt.mpr h
theorem mNlt {x y : Int32} (h : y.toInt ≤ x.toInt) : ¬ x < y := fun q => absurd (oLt q) (Int.not_lt.mpr h)
theorem mEq {x y : Int32} (h : x.toInt = y.toInt) : x = y := Int32.toInt_inj.mp h
theorem mNe {x y : Int32} (h : x.toInt ≠ y.toInt) : ¬ x = y := fun q => h (congrArg _ q)
theorem mLtL {x y : Int64} (h : x.toInt < y.toInt) : x < y := Int64.lt_iff_toInt_lt.mpr h
theorem mNltL {x y : Int64} (h : y.toInt ≤ x.toInt) : ¬ x < y := fun q => absurd (oLtL q) (Int.not_lt.mpr h)
theorem mEqL {x y : Int64} (h : x.toInt = y.toInt) : x = y := Int64.toInt_inj.mp h
theorem mNeL {x y : Int64} (h : x.toInt ≠ y.toInt) : ¬ x = y := fun q => h (congrArg _ q)
theorem oRemL (x y : Int64) : 0 ≤ x.toInt → 0 < y.toInt → 0 ≤ (x % y).toInt ∧ (x % y).toInt < y.toInt := by
  intro h1 h2
  rw [Int64.toInt_mod, Int.tmod_eq_emod_of_nonneg h1]
  exact ⟨Int.emod_nonneg _ (by omega), Int.emod_lt_of_pos _ h2⟩
theorem oRemI (x y : Int32) : 0 ≤ x.toInt → 0 < y.toInt → 0 ≤ (x % y).toInt ∧ (x % y).toInt < y.toInt := by
  intro h1 h2
  rw [Int32.toInt_mod, Int.tmod_eq_emod_of_nonneg h1]
  exact ⟨Int.emod_nonneg _ (by omega), Int.emod_lt_of_pos _ h2⟩
/-- an array of kind ty, of length z, whose i-th component is f i -/
def OArr (Z : State) (h : Heap) (a : Addr) (ty : FieldType) (z : Int32) (f : Nat → Value) : Prop := ∃ c : Cell, Arr Z h a c ty ∧ c.slots.size = z.toNatClampNeg ∧ ¬ z < 0 ∧ ∀ i, i < c.slots.size → c.slots[i]? = some (f i)
section OArrs
variable {h' : Heap} {a b : Addr} {ty : FieldType} {z : Int32} {f : Nat → Value} {sl : Nat} {v : Value}
theorem OArr.lt (F : OArr Z h a ty z f) : a < h.size := by obtain ⟨c, A, -⟩ := F; exact A.lt
theorem OArr.ext (F : OArr Z h a ty z f) (E : Ext h h') : OArr Z h' a ty z f := by obtain ⟨c, A, r⟩ := F; exact ⟨c, A.ext E, r⟩
theorem OArr.other (F : OArr Z h b ty z f) (W : Wr h h' a sl v) (q : b ≠ a) : OArr Z h' b ty z f := by obtain ⟨c, A, r⟩ := F; exact ⟨c, A.other W q, r⟩
theorem OArr.keep {ws : List Addr} (F : OArr Z h a ty z f) (K : Keep h h' ws) (q : a ∉ ws) : OArr Z h' a ty z f := by obtain ⟨c, A, r⟩ := F; exact ⟨c, ⟨K.2.1 a c A.1 q, A.2⟩, r⟩
theorem OArr.imp {g : Nat → Value} (F : OArr Z h a ty z f) (k : ∀ i, i < z.toNatClampNeg → f i = g i) : OArr Z h a ty z g := by
  obtain ⟨c, A, S, r, G⟩ := F
  exact ⟨c, A, S, r, fun i hi => by rw [G i hi, k i (by rw [← S]; exact hi)]⟩
theorem OArr.new {k : ClassId} (A : Arr Z h a (newA k ty z) ty) (q : ¬ z < 0) : OArr Z h a ty z (fun _ => defaultValue ty) :=
  ⟨_, A, sz_new _ _ _, q, fun i hi => by simp only [newA, Array.size_replicate] at hi; simp [newA, hi]⟩
theorem OArr.set (F : OArr Z h a ty z f) (W : Wr h h' a sl v) : OArr Z h' a ty z (fun i => if i = sl then v else f i) := by
  obtain ⟨c, A, S, r, G⟩ := F
  refine ⟨_, A.same W, by rw [sz_set]; exact S, r, fun i hi => ?_⟩
  rw [sz_set] at hi
  show (c.setSlot sl v).slots[i]? = some (if i = sl then v else f i)
  by_cases q : i = sl
  · subst q; simp [Cell.setSlot, hi]
  · rw [if_neg q, ← G i hi]
    simp [Cell.setSlot, Array.getElem?_setIfInBounds, Ne.symm q]
theorem oNeA {C : String} {k : Nat} (E : Exa Z h a C) (wi : (Jvm.Cond.instantiable C k).before a0 Z = true) (F : OArr Z h b ty z f) : a ≠ b := by
  obtain ⟨c, A, -⟩ := F; exact ne_arr E wi A
theorem oIn {j : Int32} {n : Nat} (S : n = z.toNatClampNeg) (h1 : 0 ≤ j.toInt) (h2 : j.toInt < z.toInt) : ¬ (j < 0 ∨ n ≤ j.toNatClampNeg) := by
  intro q
  have e0 : (0 : Int32).toInt = 0 := by decide
  have e1 : j.toNatClampNeg = j.toInt.toNat := rfl
  have e2 : z.toNatClampNeg = z.toInt.toNat := rfl
  rcases q with q | q
  · have := oLt q; omega
  · rw [S, e1, e2] at q; omega
theorem oLen (X : Stand p l e R s m args below meth c T locs cells slots) (hx : p.tables.exec = Jvm.exec) (hZ : Z.Warmed39 s.vm) (eT : T.heap = h) (F : OArr Z h a ty z f) {g : JFrame} (hg : g.method = m) {rest : List Value} (hs : g.stack = .ref a :: rest) (hd : decode c.code g.pc = .ok (.arraylength, 1)) {target : State}
    (k : Steps p.tables e below (T.setTop { g with pc := g.pc + 1, stack := .int z :: rest }) target) : Steps p.tables e below (T.setTop g) target := by
  obtain ⟨cl, A, S, r, -⟩ := F
  refine X.arraylength hx (by rw [eT]; exact A.1) (State.isArrayOf_alike hZ.alike A.2.1) (g := g) hg hs hd _ ?_
  rw [len_of S r]; exact k
theorem oInd (F : OArr Z h a ty z f) {j : Int32} (h1 : 0 ≤ j.toInt) (h2 : j.toInt < z.toInt) : ∃ cl, Arr Z h a cl ty ∧ ¬ (j < 0 ∨ cl.slots.size ≤ j.toNatClampNeg) ∧ cl.slots[j.toNatClampNeg]? = some (f j.toNatClampNeg) := by
  obtain ⟨cl, A, S, r, G⟩ := F
  have q := oIn S h1 h2
  exact ⟨cl, A, q, G _ (Nat.lt_of_not_le fun w => q (Or.inr w))⟩
theorem oLdI (X : Stand p l e R s m args below meth c T locs cells slots) (hx : p.tables.exec = Jvm.exec) (hZ : Z.Warmed39 s.vm) (eT : T.heap = h) (F : OArr Z h a .int z f) {j x : Int32} (h1 : 0 ≤ j.toInt) (h2 : j.toInt < z.toInt) (hv : f j.toNatClampNeg = .int x) {g : JFrame} (hg : g.method = m) {rest : List Value} (hs : g.stack = .int j :: .ref a :: rest) (hd : decode c.code g.pc = .ok (.iaload, 1)) {target : State}
    (k : Steps p.tables e below (T.setTop { g with pc := g.pc + 1, stack := .int x :: rest }) target) : Steps p.tables e below (T.setTop g) target := by
  obtain ⟨cl, A, q, G⟩ := oInd F h1 h2
  rw [hv] at G
  exact X.iaload hx (j := j) (v := .int x) (by rw [eT]; exact A.1) (State.isArrayOf_alike hZ.alike A.2.1) A.2.2 q G (g := g) hg hs hd _ k
theorem oLdD (X : Stand p l e R s m args below meth c T locs cells slots) (hx : p.tables.exec = Jvm.exec) (hZ : Z.Warmed39 s.vm) (eT : T.heap = h) (F : OArr Z h a .double z f) {j : Int32} {x : UInt64} (h1 : 0 ≤ j.toInt) (h2 : j.toInt < z.toInt) (hv : f j.toNatClampNeg = .double x) {g : JFrame} (hg : g.method = m) {rest : List Value} (hs : g.stack = .int j :: .ref a :: rest) (hd : decode c.code g.pc = .ok (.daload, 1)) {target : State}
    (k : Steps p.tables e below (T.setTop { g with pc := g.pc + 1, stack := .double x :: rest }) target) : Steps p.tables e below (T.setTop g) target := by
  obtain ⟨cl, A, q, G⟩ := oInd F h1 h2
  rw [hv] at G
  exact X.daload hx (j := j) (v := .double x) (by rw [eT]; exact A.1) (State.isArrayOf_alike hZ.alike A.2.1) A.2.2 q G (g := g) hg hs hd _ k
theorem oStI (X : Stand p l e R s m args below meth c T locs cells slots) (hx : p.tables.exec = Jvm.exec) (hZ : Z.Warmed39 s.vm) (eT : T.heap = h) (F : OArr Z h a .int z f) {j x : Int32} (h1 : 0 ≤ j.toInt) (h2 : j.toInt < z.toInt) {g : JFrame} (hg : g.method = m) {rest : List Value} (hs : g.stack = .int x :: .int j :: .ref a :: rest) (hd : decode c.code g.pc = .ok (.iastore, 1)) :
    ∃ T' h', Stand p l e R s m args below meth c T' (locs ++ [⟨a, j.toNatClampNeg⟩]) cells slots ∧ T'.heap = h' ∧ Wr h h' a j.toNatClampNeg (.int x) ∧ ∀ target, Steps p.tables e below (T'.setTop { g with pc := g.pc + 1, stack := rest }) target → Steps p.tables e below (T.setTop g) target := by
  obtain ⟨cl, A, q, G⟩ := oInd F h1 h2
  exact stI X hx hZ eT A q hg hs hd
theorem oStD (X : Stand p l e R s m args below meth c T locs cells slots) (hx : p.tables.exec = Jvm.exec) (hZ : Z.Warmed39 s.vm) (eT : T.heap = h) (F : OArr Z h a .double z f) {j : Int32} {x : UInt64} (h1 : 0 ≤ j.toInt) (h2 : j.toInt < z.toInt) {g : JFrame} (hg : g.method = m) {rest : List Value} (hs : g.stack = .double x :: .int j :: .ref a :: rest) (hd : decode c.code g.pc = .ok (.dastore, 1)) :
    ∃ T' h', Stand p l e R s m args below meth c T' (locs ++ [⟨a, j.toNatClampNeg⟩]) cells slots ∧ T'.heap = h' ∧ Wr h h' a j.toNatClampNeg (.double x) ∧ ∀ target, Steps p.tables e below (T'.setTop { g with pc := g.pc + 1, stack := rest }) target → Steps p.tables e below (T.setTop g) target := by
  obtain ⟨cl, A, q, G⟩ := oInd F h1 h2
  exact stD X hx hZ eT A q hg hs hd
theorem oClone (X : Stand p l e R s m args below meth c T locs cells slots) (hx : p.tables.exec = Jvm.exec) (hZ : Z.Warmed39 s.vm) {own ad : String} {index : Nat} (hown : s.vm.findClass own = some m.cls)
    (w1 : (Jvm.Cond.methodLink own index ⟨ad, "clone", "()Ljava/lang/Object;"⟩).before a0 Z = true) (w2 : (Jvm.Cond.sameMethod ad "java/lang/Object" "clone" "()Ljava/lang/Object;").before a0 Z = true) (w3 : (Jvm.Cond.native ⟨"java/lang/Object", "clone", "()Ljava/lang/Object;"⟩).before a0 Z = true)
    (w4 : (Jvm.Cond.instanceMethod ⟨"java/lang/Object", "clone", "()Ljava/lang/Object;"⟩).before a0 Z = true) (w5 : (Jvm.Cond.selects ad ⟨ad, "clone", "()Ljava/lang/Object;"⟩ ⟨"java/lang/Object", "clone", "()Ljava/lang/Object;"⟩).before a0 Z = true) (w6 : (Jvm.Cond.castable ad "java/lang/Cloneable").before a0 Z = true)
    (eT : T.heap = h) (F : OArr Z h a ty z f) (E : Exa Z h a ad) (hfit : ∀ i, i < z.toNatClampNeg → fits ty (f i) = true) {g : JFrame} (hg : g.method = m) (hsize : g.locals.size = c.maxLocals) {rest : List Value} (hst : g.stack = .ref a :: rest) (hd : decode c.code g.pc = .ok (.invokevirtual index, 3))
    (hf : 1 ≤ R.frames) {W cap : Nat} (hW : 2 * g.monitorRoom + (rest.map fun v => v.category).sum ≤ W) (hl : W + 14 ≤ R.locals) (hcap : z.toNatClampNeg ≤ cap) (hc : cells + 1 ≤ R.cells) (hsl : slots + cap ≤ R.slots) :
    ∃ T' h', Stand p l e R s m args below meth c T' locs (cells + 1) (slots + cap) ∧ T'.heap = h' ∧ Ext h h' ∧ OArr Z h' h.size ty z f ∧ Exa Z h' h.size ad ∧
      ∀ target, Steps p.tables e below (T'.setTop { g with pc := g.pc + 3, stack := .ref h.size :: rest }) target → Steps p.tables e below (T.setTop g) target := by
  obtain ⟨cl, A, S, r, G⟩ := F
  have FC : FitC Z cl := fitC_of A fun i hi v hv => by
    rw [G i hi] at hv; cases hv; exact hfit i (by rw [← S]; exact hi)
  obtain ⟨T', h', X', e', ex, A', E', st⟩ := cloneA X hx hZ hown w1 w2 w3 w4 w5 w6 eT A E FC hg hsize hst hd hf hW hl (by rw [S]; exact hcap) hc hsl
  exact ⟨T', h', X', e', ex, ⟨cloneOf cl, A', S, r, G⟩, E', st⟩
end OArrs
/-- from a case's equation to the value -/
theorem oEqv {f s : State} {o : Option Outcome} {idx : List Nat} {a b : Term} (h : (Jvm.Cond.eq a b).value args f o s idx = some true) : ∃ x, a.eval args f o idx s = some x ∧ b.eval args f o idx s = some x := by
  obtain ⟨x, y, h1, h2, -, -⟩ := cmp_v (Or.inl h)
  cases x <;> cases y <;> simp [Cond.value, h1, h2] at h <;> first | (subst h; exact ⟨_, h1, h2⟩) | exact ⟨_, h1, h2⟩
theorem oFeq {s : State} {t u : Term} {x : Addr} {C n d : String} {w : Value} (ht : t.eval args s none [] s = some (.ref x)) (h : (Jvm.Cond.eq (.field t C n d) u).value args s none s [] = some true) (hu : u.eval args s none [] s = some w) : s.fieldOf? x C n d = some w := by
  obtain ⟨v, h1, h2⟩ := oEqv h
  rw [fld_at ht] at h1
  rw [h1, ← h2, hu]
end OwnKit
def own_rank (n p : Int64) : Int64 := n / 1000 * p + (n % 1000 * p + 999) / 1000
def own_exp (n p : Int64) : Int64 := (128 : Int64) * (p * XT.ushrL n 10 / 125) + (((1024 : Int64) * (p * XT.ushrL n 10 % 125) + p * (n &&& 1023)) + 999) / 1000
theorem own_sh10 (n : Int64) (h : 0 ≤ n.toInt) : (XT.ushrL n 10).toInt = n.toInt / 1024 := by
  have q : ((10 : Int32).toInt64.toUInt64 &&& Int64.toUInt64 63) = ((10 : Int32) &&& 0x3f).toInt64.toUInt64 := by decide
  have r : ((n.toUInt64 >>> ((10 : Int32) &&& 0x3f).toInt64.toUInt64).toInt64).toInt = (n.toInt % 18446744073709551616) / (2 ^ 10 : Nat) := c_lushr n 10 10 (by decide) (by decide)
  have hN := rng64 n
  unfold XT.ushrL
  rw [q, r]
  omega
theorem own_rk500 (n : Int64) (h : 0 ≤ n.toInt) : own_rank n 500 = own_exp n 500 := by
  have hN := rng64 n
  have k0 : (500 : Int64).toInt = 500 := by decide
  have k1 : (999 : Int64).toInt = 999 := by decide
  have k2 : (128 : Int64).toInt = 128 := by decide
  have k3 : (1024 : Int64).toInt = 1024 := by decide
  have d1 : (n / 1000).toInt = n.toInt / 1000 := (c_ldiv n 1000 1000 (by decide) (by decide)).1 h
  have d2 : (n % 1000).toInt = n.toInt % 1000 := by
    rw [Int64.toInt_mod]; exact (tr _ _).1 h
  have d3 := own_sh10 n h
  have d4 : (n &&& 1023).toInt = n.toInt % 1024 := c_maskL n 1023 10 (by decide) (by decide)
  have m1 : (n / 1000 * 500).toInt = n.toInt / 1000 * 500 := by
    rw [XT.mul64 (by rw [d1, k0]; constructor <;> omega), d1, k0]
  have m2 : (n % 1000 * 500).toInt = n.toInt % 1000 * 500 := by
    rw [XT.mul64 (by rw [d2, k0]; constructor <;> omega), d2, k0]
  have m3 : (n % 1000 * 500 + 999).toInt = n.toInt % 1000 * 500 + 999 := by
    rw [XT.add64 (by rw [m2, k1]; constructor <;> omega), m2, k1]
  have m4 : ((n % 1000 * 500 + 999) / 1000).toInt = (n.toInt % 1000 * 500 + 999) / 1000 := by
    rw [(c_ldiv _ 1000 1000 (by decide) (by decide)).1 (by rw [m3]; omega), m3]
  have m5 : (own_rank n 500).toInt = n.toInt / 1000 * 500 + (n.toInt % 1000 * 500 + 999) / 1000 := by
    unfold own_rank
    rw [XT.add64 (by rw [m1, m4]; constructor <;> omega), m1, m4]
  have p1 : (500 * XT.ushrL n 10).toInt = 500 * (n.toInt / 1024) := by
    rw [XT.mul64 (by rw [d3, k0]; constructor <;> omega), d3, k0]
  have p2 : (500 * XT.ushrL n 10 / 125).toInt = 500 * (n.toInt / 1024) / 125 := by
    rw [(c_ldiv _ 125 125 (by decide) (by decide)).1 (by rw [p1]; omega), p1]
  have p3 : (500 * XT.ushrL n 10 % 125).toInt = 500 * (n.toInt / 1024) % 125 := by
    rw [Int64.toInt_mod, p1]; exact (tr _ _).1 (by omega)
  have p4 : ((128 : Int64) * (500 * XT.ushrL n 10 / 125)).toInt = 128 * (500 * (n.toInt / 1024) / 125) := by
    rw [XT.mul64 (by rw [p2, k2]; constructor <;> omega), p2, k2]
  have p5 : ((1024 : Int64) * (500 * XT.ushrL n 10 % 125)).toInt = 1024 * (500 * (n.toInt / 1024) % 125) := by
    rw [XT.mul64 (by rw [p3, k3]; constructor <;> omega), p3, k3]
  have p6 : (500 * (n &&& 1023)).toInt = 500 * (n.toInt % 1024) := by
    rw [XT.mul64 (by rw [d4, k0]; constructor <;> omega), d4, k0]
  have p7 : ((1024 : Int64) * (500 * XT.ushrL n 10 % 125) + 500 * (n &&& 1023)).toInt = 1024 * (500 * (n.toInt / 1024) % 125) + 500 * (n.toInt % 1024) := by
    rw [XT.add64 (by rw [p5, p6]; constructor <;> omega), p5, p6]
  have p8 : (((1024 : Int64) * (500 * XT.ushrL n 10 % 125) + 500 * (n &&& 1023)) + 999).toInt = 1024 * (500 * (n.toInt / 1024) % 125) + 500 * (n.toInt % 1024) + 999 := by
    rw [XT.add64 (by rw [p7, k1]; constructor <;> omega), p7, k1]
  have p9 : ((((1024 : Int64) * (500 * XT.ushrL n 10 % 125) + 500 * (n &&& 1023)) + 999) / 1000).toInt = (1024 * (500 * (n.toInt / 1024) % 125) + 500 * (n.toInt % 1024) + 999) / 1000 := by
    rw [(c_ldiv _ 1000 1000 (by decide) (by decide)).1 (by rw [p8]; omega), p8]
  have p10 : (own_exp n 500).toInt = 128 * (500 * (n.toInt / 1024) / 125) + (1024 * (500 * (n.toInt / 1024) % 125) + 500 * (n.toInt % 1024) + 999) / 1000 := by
    unfold own_exp
    rw [XT.add64 (by rw [p4, p9]; constructor <;> omega), p4, p9]
  apply Int64.toInt_inj.mp
  rw [m5, p10]
  omega
theorem own_rk900 (n : Int64) (h : 0 ≤ n.toInt) : own_rank n 900 = own_exp n 900 := by
  have hN := rng64 n
  have k0 : (900 : Int64).toInt = 900 := by decide
  have k1 : (999 : Int64).toInt = 999 := by decide
  have k2 : (128 : Int64).toInt = 128 := by decide
  have k3 : (1024 : Int64).toInt = 1024 := by decide
  have d1 : (n / 1000).toInt = n.toInt / 1000 := (c_ldiv n 1000 1000 (by decide) (by decide)).1 h
  have d2 : (n % 1000).toInt = n.toInt % 1000 := by
    rw [Int64.toInt_mod]; exact (tr _ _).1 h
  have d3 := own_sh10 n h
  have d4 : (n &&& 1023).toInt = n.toInt % 1024 := c_maskL n 1023 10 (by decide) (by decide)
  have m1 : (n / 1000 * 900).toInt = n.toInt / 1000 * 900 := by
    rw [XT.mul64 (by rw [d1, k0]; constructor <;> omega), d1, k0]
  have m2 : (n % 1000 * 900).toInt = n.toInt % 1000 * 900 := by
    rw [XT.mul64 (by rw [d2, k0]; constructor <;> omega), d2, k0]
  have m3 : (n % 1000 * 900 + 999).toInt = n.toInt % 1000 * 900 + 999 := by
    rw [XT.add64 (by rw [m2, k1]; constructor <;> omega), m2, k1]
  have m4 : ((n % 1000 * 900 + 999) / 1000).toInt = (n.toInt % 1000 * 900 + 999) / 1000 := by
    rw [(c_ldiv _ 1000 1000 (by decide) (by decide)).1 (by rw [m3]; omega), m3]
  have m5 : (own_rank n 900).toInt = n.toInt / 1000 * 900 + (n.toInt % 1000 * 900 + 999) / 1000 := by
    unfold own_rank
    rw [XT.add64 (by rw [m1, m4]; constructor <;> omega), m1, m4]
  have p1 : (900 * XT.ushrL n 10).toInt = 900 * (n.toInt / 1024) := by
    rw [XT.mul64 (by rw [d3, k0]; constructor <;> omega), d3, k0]
  have p2 : (900 * XT.ushrL n 10 / 125).toInt = 900 * (n.toInt / 1024) / 125 := by
    rw [(c_ldiv _ 125 125 (by decide) (by decide)).1 (by rw [p1]; omega), p1]
  have p3 : (900 * XT.ushrL n 10 % 125).toInt = 900 * (n.toInt / 1024) % 125 := by
    rw [Int64.toInt_mod, p1]; exact (tr _ _).1 (by omega)
  have p4 : ((128 : Int64) * (900 * XT.ushrL n 10 / 125)).toInt = 128 * (900 * (n.toInt / 1024) / 125) := by
    rw [XT.mul64 (by rw [p2, k2]; constructor <;> omega), p2, k2]
  have p5 : ((1024 : Int64) * (900 * XT.ushrL n 10 % 125)).toInt = 1024 * (900 * (n.toInt / 1024) % 125) := by
    rw [XT.mul64 (by rw [p3, k3]; constructor <;> omega), p3, k3]
  have p6 : (900 * (n &&& 1023)).toInt = 900 * (n.toInt % 1024) := by
    rw [XT.mul64 (by rw [d4, k0]; constructor <;> omega), d4, k0]
  have p7 : ((1024 : Int64) * (900 * XT.ushrL n 10 % 125) + 900 * (n &&& 1023)).toInt = 1024 * (900 * (n.toInt / 1024) % 125) + 900 * (n.toInt % 1024) := by
    rw [XT.add64 (by rw [p5, p6]; constructor <;> omega), p5, p6]
  have p8 : (((1024 : Int64) * (900 * XT.ushrL n 10 % 125) + 900 * (n &&& 1023)) + 999).toInt = 1024 * (900 * (n.toInt / 1024) % 125) + 900 * (n.toInt % 1024) + 999 := by
    rw [XT.add64 (by rw [p7, k1]; constructor <;> omega), p7, k1]
  have p9 : ((((1024 : Int64) * (900 * XT.ushrL n 10 % 125) + 900 * (n &&& 1023)) + 999) / 1000).toInt = (1024 * (900 * (n.toInt / 1024) % 125) + 900 * (n.toInt % 1024) + 999) / 1000 := by
    rw [(c_ldiv _ 1000 1000 (by decide) (by decide)).1 (by rw [p8]; omega), p8]
  have p10 : (own_exp n 900).toInt = 128 * (900 * (n.toInt / 1024) / 125) + (1024 * (900 * (n.toInt / 1024) % 125) + 900 * (n.toInt % 1024) + 999) / 1000 := by
    unfold own_exp
    rw [XT.add64 (by rw [p4, p9]; constructor <;> omega), p4, p9]
  apply Int64.toInt_inj.mp
  rw [m5, p10]
  omega
theorem own_rk990 (n : Int64) (h : 0 ≤ n.toInt) : own_rank n 990 = own_exp n 990 := by
  have hN := rng64 n
  have k0 : (990 : Int64).toInt = 990 := by decide
  have k1 : (999 : Int64).toInt = 999 := by decide
  have k2 : (128 : Int64).toInt = 128 := by decide
  have k3 : (1024 : Int64).toInt = 1024 := by decide
  have d1 : (n / 1000).toInt = n.toInt / 1000 := (c_ldiv n 1000 1000 (by decide) (by decide)).1 h
  have d2 : (n % 1000).toInt = n.toInt % 1000 := by
    rw [Int64.toInt_mod]; exact (tr _ _).1 h
  have d3 := own_sh10 n h
  have d4 : (n &&& 1023).toInt = n.toInt % 1024 := c_maskL n 1023 10 (by decide) (by decide)
  have m1 : (n / 1000 * 990).toInt = n.toInt / 1000 * 990 := by
    rw [XT.mul64 (by rw [d1, k0]; constructor <;> omega), d1, k0]
  have m2 : (n % 1000 * 990).toInt = n.toInt % 1000 * 990 := by
    rw [XT.mul64 (by rw [d2, k0]; constructor <;> omega), d2, k0]
  have m3 : (n % 1000 * 990 + 999).toInt = n.toInt % 1000 * 990 + 999 := by
    rw [XT.add64 (by rw [m2, k1]; constructor <;> omega), m2, k1]
  have m4 : ((n % 1000 * 990 + 999) / 1000).toInt = (n.toInt % 1000 * 990 + 999) / 1000 := by
    rw [(c_ldiv _ 1000 1000 (by decide) (by decide)).1 (by rw [m3]; omega), m3]
  have m5 : (own_rank n 990).toInt = n.toInt / 1000 * 990 + (n.toInt % 1000 * 990 + 999) / 1000 := by
    unfold own_rank
    rw [XT.add64 (by rw [m1, m4]; constructor <;> omega), m1, m4]
  have p1 : (990 * XT.ushrL n 10).toInt = 990 * (n.toInt / 1024) := by
    rw [XT.mul64 (by rw [d3, k0]; constructor <;> omega), d3, k0]
  have p2 : (990 * XT.ushrL n 10 / 125).toInt = 990 * (n.toInt / 1024) / 125 := by
    rw [(c_ldiv _ 125 125 (by decide) (by decide)).1 (by rw [p1]; omega), p1]
  have p3 : (990 * XT.ushrL n 10 % 125).toInt = 990 * (n.toInt / 1024) % 125 := by
    rw [Int64.toInt_mod, p1]; exact (tr _ _).1 (by omega)
  have p4 : ((128 : Int64) * (990 * XT.ushrL n 10 / 125)).toInt = 128 * (990 * (n.toInt / 1024) / 125) := by
    rw [XT.mul64 (by rw [p2, k2]; constructor <;> omega), p2, k2]
  have p5 : ((1024 : Int64) * (990 * XT.ushrL n 10 % 125)).toInt = 1024 * (990 * (n.toInt / 1024) % 125) := by
    rw [XT.mul64 (by rw [p3, k3]; constructor <;> omega), p3, k3]
  have p6 : (990 * (n &&& 1023)).toInt = 990 * (n.toInt % 1024) := by
    rw [XT.mul64 (by rw [d4, k0]; constructor <;> omega), d4, k0]
  have p7 : ((1024 : Int64) * (990 * XT.ushrL n 10 % 125) + 990 * (n &&& 1023)).toInt = 1024 * (990 * (n.toInt / 1024) % 125) + 990 * (n.toInt % 1024) := by
    rw [XT.add64 (by rw [p5, p6]; constructor <;> omega), p5, p6]
  have p8 : (((1024 : Int64) * (990 * XT.ushrL n 10 % 125) + 990 * (n &&& 1023)) + 999).toInt = 1024 * (990 * (n.toInt / 1024) % 125) + 990 * (n.toInt % 1024) + 999 := by
    rw [XT.add64 (by rw [p7, k1]; constructor <;> omega), p7, k1]
  have p9 : ((((1024 : Int64) * (990 * XT.ushrL n 10 % 125) + 990 * (n &&& 1023)) + 999) / 1000).toInt = (1024 * (990 * (n.toInt / 1024) % 125) + 990 * (n.toInt % 1024) + 999) / 1000 := by
    rw [(c_ldiv _ 1000 1000 (by decide) (by decide)).1 (by rw [p8]; omega), p8]
  have p10 : (own_exp n 990).toInt = 128 * (990 * (n.toInt / 1024) / 125) + (1024 * (990 * (n.toInt / 1024) % 125) + 990 * (n.toInt % 1024) + 999) / 1000 := by
    unfold own_exp
    rw [XT.add64 (by rw [p4, p9]; constructor <;> omega), p4, p9]
  apply Int64.toInt_inj.mp
  rw [m5, p10]
  omega
theorem own_rk999 (n : Int64) (h : 0 ≤ n.toInt) : own_rank n 999 = own_exp n 999 := by
  have hN := rng64 n
  have k0 : (999 : Int64).toInt = 999 := by decide
  have k1 : (999 : Int64).toInt = 999 := by decide
  have k2 : (128 : Int64).toInt = 128 := by decide
  have k3 : (1024 : Int64).toInt = 1024 := by decide
  have d1 : (n / 1000).toInt = n.toInt / 1000 := (c_ldiv n 1000 1000 (by decide) (by decide)).1 h
  have d2 : (n % 1000).toInt = n.toInt % 1000 := by
    rw [Int64.toInt_mod]; exact (tr _ _).1 h
  have d3 := own_sh10 n h
  have d4 : (n &&& 1023).toInt = n.toInt % 1024 := c_maskL n 1023 10 (by decide) (by decide)
  have m1 : (n / 1000 * 999).toInt = n.toInt / 1000 * 999 := by
    rw [XT.mul64 (by rw [d1, k0]; constructor <;> omega), d1, k0]
  have m2 : (n % 1000 * 999).toInt = n.toInt % 1000 * 999 := by
    rw [XT.mul64 (by rw [d2, k0]; constructor <;> omega), d2, k0]
  have m3 : (n % 1000 * 999 + 999).toInt = n.toInt % 1000 * 999 + 999 := by
    rw [XT.add64 (by rw [m2, k1]; constructor <;> omega), m2, k1]
  have m4 : ((n % 1000 * 999 + 999) / 1000).toInt = (n.toInt % 1000 * 999 + 999) / 1000 := by
    rw [(c_ldiv _ 1000 1000 (by decide) (by decide)).1 (by rw [m3]; omega), m3]
  have m5 : (own_rank n 999).toInt = n.toInt / 1000 * 999 + (n.toInt % 1000 * 999 + 999) / 1000 := by
    unfold own_rank
    rw [XT.add64 (by rw [m1, m4]; constructor <;> omega), m1, m4]
  have p1 : (999 * XT.ushrL n 10).toInt = 999 * (n.toInt / 1024) := by
    rw [XT.mul64 (by rw [d3, k0]; constructor <;> omega), d3, k0]
  have p2 : (999 * XT.ushrL n 10 / 125).toInt = 999 * (n.toInt / 1024) / 125 := by
    rw [(c_ldiv _ 125 125 (by decide) (by decide)).1 (by rw [p1]; omega), p1]
  have p3 : (999 * XT.ushrL n 10 % 125).toInt = 999 * (n.toInt / 1024) % 125 := by
    rw [Int64.toInt_mod, p1]; exact (tr _ _).1 (by omega)
  have p4 : ((128 : Int64) * (999 * XT.ushrL n 10 / 125)).toInt = 128 * (999 * (n.toInt / 1024) / 125) := by
    rw [XT.mul64 (by rw [p2, k2]; constructor <;> omega), p2, k2]
  have p5 : ((1024 : Int64) * (999 * XT.ushrL n 10 % 125)).toInt = 1024 * (999 * (n.toInt / 1024) % 125) := by
    rw [XT.mul64 (by rw [p3, k3]; constructor <;> omega), p3, k3]
  have p6 : (999 * (n &&& 1023)).toInt = 999 * (n.toInt % 1024) := by
    rw [XT.mul64 (by rw [d4, k0]; constructor <;> omega), d4, k0]
  have p7 : ((1024 : Int64) * (999 * XT.ushrL n 10 % 125) + 999 * (n &&& 1023)).toInt = 1024 * (999 * (n.toInt / 1024) % 125) + 999 * (n.toInt % 1024) := by
    rw [XT.add64 (by rw [p5, p6]; constructor <;> omega), p5, p6]
  have p8 : (((1024 : Int64) * (999 * XT.ushrL n 10 % 125) + 999 * (n &&& 1023)) + 999).toInt = 1024 * (999 * (n.toInt / 1024) % 125) + 999 * (n.toInt % 1024) + 999 := by
    rw [XT.add64 (by rw [p7, k1]; constructor <;> omega), p7, k1]
  have p9 : ((((1024 : Int64) * (999 * XT.ushrL n 10 % 125) + 999 * (n &&& 1023)) + 999) / 1000).toInt = (1024 * (999 * (n.toInt / 1024) % 125) + 999 * (n.toInt % 1024) + 999) / 1000 := by
    rw [(c_ldiv _ 1000 1000 (by decide) (by decide)).1 (by rw [p8]; omega), p8]
  have p10 : (own_exp n 999).toInt = 128 * (999 * (n.toInt / 1024) / 125) + (1024 * (999 * (n.toInt / 1024) % 125) + 999 * (n.toInt % 1024) + 999) / 1000 := by
    unfold own_exp
    rw [XT.add64 (by rw [p4, p9]; constructor <;> omega), p4, p9]
  apply Int64.toInt_inj.mp
  rw [m5, p10]
  omega
theorem own_d_prog_14_method_5_code_0 : decode prog_14_method_5_code 0 = .ok (.lload_n 1, 1) := by decide +kernel
theorem own_d_prog_14_method_5_code_1 : decode prog_14_method_5_code 1 = .ok (.ldc2_w 43, 3) := by decide +kernel
theorem own_d_prog_14_method_5_code_4 : decode prog_14_method_5_code 4 = .ok (.ldiv, 1) := by decide +kernel
theorem own_d_prog_14_method_5_code_5 : decode prog_14_method_5_code 5 = .ok (.aload_n 0, 1) := by decide +kernel
theorem own_d_prog_14_method_5_code_6 : decode prog_14_method_5_code 6 = .ok (.getfield 39, 3) := by decide +kernel
theorem own_d_prog_14_method_5_code_9 : decode prog_14_method_5_code 9 = .ok (.lmul, 1) := by decide +kernel
theorem own_d_prog_14_method_5_code_10 : decode prog_14_method_5_code 10 = .ok (.lstore_n 3, 1) := by decide +kernel
theorem own_d_prog_14_method_5_code_11 : decode prog_14_method_5_code 11 = .ok (.lload_n 1, 1) := by decide +kernel
theorem own_d_prog_14_method_5_code_12 : decode prog_14_method_5_code 12 = .ok (.ldc2_w 43, 3) := by decide +kernel
theorem own_d_prog_14_method_5_code_15 : decode prog_14_method_5_code 15 = .ok (.lrem, 1) := by decide +kernel
theorem own_d_prog_14_method_5_code_16 : decode prog_14_method_5_code 16 = .ok (.aload_n 0, 1) := by decide +kernel
theorem own_d_prog_14_method_5_code_17 : decode prog_14_method_5_code 17 = .ok (.getfield 39, 3) := by decide +kernel
theorem own_d_prog_14_method_5_code_20 : decode prog_14_method_5_code 20 = .ok (.lmul, 1) := by decide +kernel
theorem own_d_prog_14_method_5_code_21 : decode prog_14_method_5_code 21 = .ok (.lstore 5, 2) := by decide +kernel
theorem own_d_prog_14_method_5_code_23 : decode prog_14_method_5_code 23 = .ok (.lload_n 3, 1) := by decide +kernel
theorem own_d_prog_14_method_5_code_24 : decode prog_14_method_5_code 24 = .ok (.lload 5, 2) := by decide +kernel
theorem own_d_prog_14_method_5_code_26 : decode prog_14_method_5_code 26 = .ok (.ldc2_w 45, 3) := by decide +kernel
theorem own_d_prog_14_method_5_code_29 : decode prog_14_method_5_code 29 = .ok (.ladd, 1) := by decide +kernel
theorem own_d_prog_14_method_5_code_30 : decode prog_14_method_5_code 30 = .ok (.ldc2_w 43, 3) := by decide +kernel
theorem own_d_prog_14_method_5_code_33 : decode prog_14_method_5_code 33 = .ok (.ldiv, 1) := by decide +kernel
theorem own_d_prog_14_method_5_code_34 : decode prog_14_method_5_code 34 = .ok (.ladd, 1) := by decide +kernel
theorem own_d_prog_14_method_5_code_35 : decode prog_14_method_5_code 35 = .ok (.lreturn, 1) := by decide +kernel
theorem own_pn_com_example_pausemark_pausemark_analysis_Percentile : plainName "com/example/pausemark/pausemark/analysis/Percentile" = true := by first | (simp [plainName, overriddenIn]; done) | decide +kernel
theorem own_ef_rmA (x0 : Addr) (x1 : Int64) (m : MethodId) : entryFrame m #[(.ref x0), (.long x1)] 7 = mkF m 0 #[.val (.ref x0), .val (.long x1), .second, .unset, .unset, .unset, .unset] [] := by first | (simp [entryFrame, mkF, argsToLocals, Value.category]; done) | rfl
set_option maxRecDepth 65536 in
set_option maxHeartbeats 40000000 in
theorem rmA (l : Launch) (Z : State) (a0 : Array Value) (hw : ∀ d ∈ tables_1, d.before a0 Z = true) (a : Addr) (n : Int64) (q : Int64) (h0 : Heap) (n0 : Nat) (Z0 : n0 ≤ h0.size) (F : Fld Z h0 a "com/example/pausemark/pausemark/analysis/Percentile" "perMille" "J" (.long q)) :
    OCon l Z (⟨"com/example/pausemark/pausemark/analysis/Percentile", "rankAmong", "(J)J"⟩ : MethodName) prog_14_method_5_code 7 (some .long) ({ frames := 0, cells := 0, slots := 0, locals := 0 } : Room) #[(.ref a), (.long n)] h0 (fun v h L => v = some (.long (own_rank n q)) ∧ Fr n0 L ∧ h = h0) := by
  refine OConK.intro (y := (⟨"com/example/pausemark/pausemark/analysis/Percentile", "rankAmong", "(J)J"⟩ : MethodName)) (plainFor_of_name own_pn_com_example_pausemark_pausemark_analysis_Percentile) (own_ef_rmA a n) ?_
  intro p e s m below meth c s₁ hx hby hml hown hnm hret hlk hZ X0 e0
  show OGoal p e below s _ _ _ (s₁.setTop (mkF m 0 #[.val (.ref a), .val (.long n), .second, .unset, .unset, .unset, .unset] []))
  refine OGoal.mp (S' := (s₁.setTop (mkF m 1 #[.val (.ref a), .val (.long n), .second, .unset, .unset, .unset, .unset] [(.long n)]))) (fun _ k => XT.lloadN X0.here hx rfl (hb hby own_d_prog_14_method_5_code_0) rfl k) ?_
  refine OGoal.mp (S' := (s₁.setTop (mkF m 4 #[.val (.ref a), .val (.long n), .second, .unset, .unset, .unset, .unset] [(.long (1000 : Int64)), (.long n)]))) (fun _ k => Stand.ldc2J X0 hx hown (mvT hZ (hw _ (List.mem_of_getElem? (i := 16) rfl))) rfl (hb hby own_d_prog_14_method_5_code_1) k) ?_
  refine OGoal.mp (S' := (s₁.setTop (mkF m 5 #[.val (.ref a), .val (.long n), .second, .unset, .unset, .unset, .unset] [(.long (n / (1000 : Int64)))]))) (fun _ k => XT.ldiv X0.here hx rfl (hb hby own_d_prog_14_method_5_code_4) rfl (by decide) k) ?_
  refine OGoal.mp (S' := (s₁.setTop (mkF m 6 #[.val (.ref a), .val (.long n), .second, .unset, .unset, .unset, .unset] [(.ref a), (.long (n / (1000 : Int64)))]))) (fun _ k => XS.aloadN X0.here hx rfl (hb hby own_d_prog_14_method_5_code_5) rfl rfl k) ?_
  obtain ⟨T1, X2, e3, st4⟩ := getF X0 hx hZ hown (host := "") (Or.inl (hw _ (List.mem_of_getElem? (i := 17) rfl))) Via.refl e0 F (g := mkF m 6 #[.val (.ref a), .val (.long n), .second, .unset, .unset, .unset, .unset] [(.ref a), (.long (n / (1000 : Int64)))]) rfl rfl (hb hby own_d_prog_14_method_5_code_6)
  refine OGoal.mp (S' := (T1.setTop (mkF m 9 #[.val (.ref a), .val (.long n), .second, .unset, .unset, .unset, .unset] [(.long q), (.long (n / (1000 : Int64)))]))) (fun _ k => st4 _ k) ?_
  refine OGoal.mp (S' := (T1.setTop (mkF m 10 #[.val (.ref a), .val (.long n), .second, .unset, .unset, .unset, .unset] [(.long ((n / (1000 : Int64)) * q))]))) (fun _ k => XT.lmul X2.here hx rfl (hb hby own_d_prog_14_method_5_code_9) rfl k) ?_
  refine OGoal.mp (S' := (T1.setTop (mkF m 11 #[.val (.ref a), .val (.long n), .second, .val (.long ((n / (1000 : Int64)) * q)), .second, .unset, .unset] []))) (fun _ k => XT.lstoreN X2.here hx rfl (hb hby own_d_prog_14_method_5_code_10) rfl (l' := #[.val (.ref a), .val (.long n), .second, .val (.long ((n / (1000 : Int64)) * q)), .second, .unset, .unset]) rfl k) ?_
  refine OGoal.mp (S' := (T1.setTop (mkF m 12 #[.val (.ref a), .val (.long n), .second, .val (.long ((n / (1000 : Int64)) * q)), .second, .unset, .unset] [(.long n)]))) (fun _ k => XT.lloadN X2.here hx rfl (hb hby own_d_prog_14_method_5_code_11) rfl k) ?_
  refine OGoal.mp (S' := (T1.setTop (mkF m 15 #[.val (.ref a), .val (.long n), .second, .val (.long ((n / (1000 : Int64)) * q)), .second, .unset, .unset] [(.long (1000 : Int64)), (.long n)]))) (fun _ k => Stand.ldc2J X2 hx hown (mvT hZ (hw _ (List.mem_of_getElem? (i := 16) rfl))) rfl (hb hby own_d_prog_14_method_5_code_12) k) ?_
  refine OGoal.mp (S' := (T1.setTop (mkF m 16 #[.val (.ref a), .val (.long n), .second, .val (.long ((n / (1000 : Int64)) * q)), .second, .unset, .unset] [(.long (n % (1000 : Int64)))]))) (fun _ k => oLrem X2 hx rfl (hb hby own_d_prog_14_method_5_code_15) rfl (by decide) k) ?_
  refine OGoal.mp (S' := (T1.setTop (mkF m 17 #[.val (.ref a), .val (.long n), .second, .val (.long ((n / (1000 : Int64)) * q)), .second, .unset, .unset] [(.ref a), (.long (n % (1000 : Int64)))]))) (fun _ k => XS.aloadN X2.here hx rfl (hb hby own_d_prog_14_method_5_code_16) rfl rfl k) ?_
  obtain ⟨T5, X6, e7, st8⟩ := getF X2 hx hZ hown (host := "") (Or.inl (hw _ (List.mem_of_getElem? (i := 17) rfl))) Via.refl e3 F (g := mkF m 17 #[.val (.ref a), .val (.long n), .second, .val (.long ((n / (1000 : Int64)) * q)), .second, .unset, .unset] [(.ref a), (.long (n % (1000 : Int64)))]) rfl rfl (hb hby own_d_prog_14_method_5_code_17)
  refine OGoal.mp (S' := (T5.setTop (mkF m 20 #[.val (.ref a), .val (.long n), .second, .val (.long ((n / (1000 : Int64)) * q)), .second, .unset, .unset] [(.long q), (.long (n % (1000 : Int64)))]))) (fun _ k => st8 _ k) ?_
  refine OGoal.mp (S' := (T5.setTop (mkF m 21 #[.val (.ref a), .val (.long n), .second, .val (.long ((n / (1000 : Int64)) * q)), .second, .unset, .unset] [(.long ((n % (1000 : Int64)) * q))]))) (fun _ k => XT.lmul X6.here hx rfl (hb hby own_d_prog_14_method_5_code_20) rfl k) ?_
  refine OGoal.mp (S' := (T5.setTop (mkF m 23 #[.val (.ref a), .val (.long n), .second, .val (.long ((n / (1000 : Int64)) * q)), .second, .val (.long ((n % (1000 : Int64)) * q)), .second] []))) (fun _ k => XT.lstore X6.here hx rfl (hb hby own_d_prog_14_method_5_code_21) rfl (l' := #[.val (.ref a), .val (.long n), .second, .val (.long ((n / (1000 : Int64)) * q)), .second, .val (.long ((n % (1000 : Int64)) * q)), .second]) rfl k) ?_
  refine OGoal.mp (S' := (T5.setTop (mkF m 24 #[.val (.ref a), .val (.long n), .second, .val (.long ((n / (1000 : Int64)) * q)), .second, .val (.long ((n % (1000 : Int64)) * q)), .second] [(.long ((n / (1000 : Int64)) * q))]))) (fun _ k => XT.lloadN X6.here hx rfl (hb hby own_d_prog_14_method_5_code_23) rfl k) ?_
  refine OGoal.mp (S' := (T5.setTop (mkF m 26 #[.val (.ref a), .val (.long n), .second, .val (.long ((n / (1000 : Int64)) * q)), .second, .val (.long ((n % (1000 : Int64)) * q)), .second] [(.long ((n % (1000 : Int64)) * q)), (.long ((n / (1000 : Int64)) * q))]))) (fun _ k => XT.lload X6.here hx rfl (hb hby own_d_prog_14_method_5_code_24) rfl k) ?_
  refine OGoal.mp (S' := (T5.setTop (mkF m 29 #[.val (.ref a), .val (.long n), .second, .val (.long ((n / (1000 : Int64)) * q)), .second, .val (.long ((n % (1000 : Int64)) * q)), .second] [(.long (999 : Int64)), (.long ((n % (1000 : Int64)) * q)), (.long ((n / (1000 : Int64)) * q))]))) (fun _ k => Stand.ldc2J X6 hx hown (mvT hZ (hw _ (List.mem_of_getElem? (i := 19) rfl))) rfl (hb hby own_d_prog_14_method_5_code_26) k) ?_
  refine OGoal.mp (S' := (T5.setTop (mkF m 30 #[.val (.ref a), .val (.long n), .second, .val (.long ((n / (1000 : Int64)) * q)), .second, .val (.long ((n % (1000 : Int64)) * q)), .second] [(.long (((n % (1000 : Int64)) * q) + (999 : Int64))), (.long ((n / (1000 : Int64)) * q))]))) (fun _ k => XT.ladd X6.here hx rfl (hb hby own_d_prog_14_method_5_code_29) rfl k) ?_
  refine OGoal.mp (S' := (T5.setTop (mkF m 33 #[.val (.ref a), .val (.long n), .second, .val (.long ((n / (1000 : Int64)) * q)), .second, .val (.long ((n % (1000 : Int64)) * q)), .second] [(.long (1000 : Int64)), (.long (((n % (1000 : Int64)) * q) + (999 : Int64))), (.long ((n / (1000 : Int64)) * q))]))) (fun _ k => Stand.ldc2J X6 hx hown (mvT hZ (hw _ (List.mem_of_getElem? (i := 16) rfl))) rfl (hb hby own_d_prog_14_method_5_code_30) k) ?_
  refine OGoal.mp (S' := (T5.setTop (mkF m 34 #[.val (.ref a), .val (.long n), .second, .val (.long ((n / (1000 : Int64)) * q)), .second, .val (.long ((n % (1000 : Int64)) * q)), .second] [(.long ((((n % (1000 : Int64)) * q) + (999 : Int64)) / (1000 : Int64))), (.long ((n / (1000 : Int64)) * q))]))) (fun _ k => XT.ldiv X6.here hx rfl (hb hby own_d_prog_14_method_5_code_33) rfl (by decide) k) ?_
  refine OGoal.mp (S' := (T5.setTop (mkF m 35 #[.val (.ref a), .val (.long n), .second, .val (.long ((n / (1000 : Int64)) * q)), .second, .val (.long ((n % (1000 : Int64)) * q)), .second] [(.long (((n / (1000 : Int64)) * q) + ((((n % (1000 : Int64)) * q) + (999 : Int64)) / (1000 : Int64))))]))) (fun _ k => XT.ladd X6.here hx rfl (hb hby own_d_prog_14_method_5_code_34) rfl k) ?_
  refine oRetJ X6 hx hlk hret (hb hby own_d_prog_14_method_5_code_35) ?_ (by decide) (by decide)
  exact ⟨rfl, (Fr.nil n0), e7⟩
theorem own_pd__J_J : parseMethodDescriptor "(J)J" = some ⟨[.long], some .long⟩ := by decide +kernel
theorem own_pn_com_example_pausemark_pausemark_analysis_PercentileRankAmongPinLaw : plainName "com/example/pausemark/pausemark/analysis/PercentileRankAmongPinLaw" = true := by first | (simp [plainName, overriddenIn]; done) | decide +kernel
theorem own_ef_rm0 (x0 : Int64) (x1 : Int32) (m : MethodId) : entryFrame m #[(.long x0), (.int x1)] maxLocals = mkF m 0 #[.val (.long x0), .second, .val (.int x1), .unset, .unset, .unset, .unset, .unset, .unset, .unset, .unset, .unset, .unset, .unset, .unset, .unset, .unset, .unset, .unset, .unset, .unset] [] := by first | (simp [entryFrame, mkF, argsToLocals, Value.category, maxLocals]; done) | rfl
set_option maxRecDepth 65536 in
set_option maxHeartbeats 40000000 in
theorem rm0 (l : Launch) (Z : State) (a0 : Array Value) (hw : ∀ d ∈ tables_1, d.before a0 Z = true) (p1 : Int64) (p2 : Int32) (h0 : Heap) (n0 : Nat) (Z0 : n0 ≤ h0.size) (a1 a2 a3 a4 : Addr) (Sa1 : Sta Z h0 "com/example/pausemark/pausemark/analysis/Percentile" "P50" "Lcom/example/pausemark/pausemark/analysis/Percentile;" (.ref a1)) (Ea1 : Exa Z h0 a1 "com/example/pausemark/pausemark/analysis/Percentile") (Fa1 : Fld Z h0 a1 "com/example/pausemark/pausemark/analysis/Percentile" "perMille" "J" (.long (500 : Int64))) (Sa2 : Sta Z h0 "com/example/pausemark/pausemark/analysis/Percentile" "P90" "Lcom/example/pausemark/pausemark/analysis/Percentile;" (.ref a2)) (Ea2 : Exa Z h0 a2 "com/example/pausemark/pausemark/analysis/Percentile") (Fa2 : Fld Z h0 a2 "com/example/pausemark/pausemark/analysis/Percentile" "perMille" "J" (.long (900 : Int64))) (Sa3 : Sta Z h0 "com/example/pausemark/pausemark/analysis/Percentile" "P99" "Lcom/example/pausemark/pausemark/analysis/Percentile;" (.ref a3)) (Ea3 : Exa Z h0 a3 "com/example/pausemark/pausemark/analysis/Percentile") (Fa3 : Fld Z h0 a3 "com/example/pausemark/pausemark/analysis/Percentile" "perMille" "J" (.long (990 : Int64))) (Sa4 : Sta Z h0 "com/example/pausemark/pausemark/analysis/Percentile" "P999" "Lcom/example/pausemark/pausemark/analysis/Percentile;" (.ref a4)) (Ea4 : Exa Z h0 a4 "com/example/pausemark/pausemark/analysis/Percentile") (Fa4 : Fld Z h0 a4 "com/example/pausemark/pausemark/analysis/Percentile" "perMille" "J" (.long (999 : Int64))) :
    OConK l Z x code maxLocals ret room_1 0 0 #[(.long p1), (.int p2)] h0 (fun v h L => v = some (.int 1) ∧ Fr n0 L) := by
  refine OConK.intro (y := x) (plainFor_of_name own_pn_com_example_pausemark_pausemark_analysis_PercentileRankAmongPinLaw) (own_ef_rm0 p1 p2) ?_
  intro p e s m below meth c s₁ hx hby hml hown hnm hret hlk hZ X0 e0
  show OGoal p e below s _ _ _ (s₁.setTop (mkF m 0 #[.val (.long p1), .second, .val (.int p2), .unset, .unset, .unset, .unset, .unset, .unset, .unset, .unset, .unset, .unset, .unset, .unset, .unset, .unset, .unset, .unset, .unset, .unset] []))
  refine OGoal.mp (S' := (s₁.setTop (mkF m 1 #[.val (.long p1), .second, .val (.int p2), .unset, .unset, .unset, .unset, .unset, .unset, .unset, .unset, .unset, .unset, .unset, .unset, .unset, .unset, .unset, .unset, .unset, .unset] [(.long p1)]))) (fun _ k => XT.lloadN X0.here hx rfl (hb hby at_0) rfl k) ?_
  refine OGoal.mp (S' := (s₁.setTop (mkF m 4 #[.val (.long p1), .second, .val (.int p2), .unset, .unset, .unset, .unset, .unset, .unset, .unset, .unset, .unset, .unset, .unset, .unset, .unset, .unset, .unset, .unset, .unset, .unset] [(.long (9223372036854775807 : Int64)), (.long p1)]))) (fun _ k => Stand.ldc2J X0 hx hown (mvT hZ (hw _ (List.mem_of_getElem? (i := 0) rfl))) rfl (hb hby at_1) k) ?_
  refine OGoal.mp (S' := (s₁.setTop (mkF m 5 #[.val (.long p1), .second, .val (.int p2), .unset, .unset, .unset, .unset, .unset, .unset, .unset, .unset, .unset, .unset, .unset, .unset, .unset, .unset, .unset, .unset, .unset, .unset] [(.long (p1 &&& (9223372036854775807 : Int64)))]))) (fun _ k => XT.land X0.here hx rfl (hb hby at_4) rfl k) ?_
  refine OGoal.mp (S' := (s₁.setTop (mkF m 6 #[.val (.long p1), .second, .val (.int p2), .val (.long (p1 &&& (9223372036854775807 : Int64))), .second, .unset, .unset, .unset, .unset, .unset, .unset, .unset, .unset, .unset, .unset, .unset, .unset, .unset, .unset, .unset, .unset] []))) (fun _ k => XT.lstoreN X0.here hx rfl (hb hby at_5) rfl (l' := #[.val (.long p1), .second, .val (.int p2), .val (.long (p1 &&& (9223372036854775807 : Int64))), .second, .unset, .unset, .unset, .unset, .unset, .unset, .unset, .unset, .unset, .unset, .unset, .unset, .unset, .unset, .unset, .unset]) rfl k) ?_
  obtain ⟨n1, hn1⟩ : ∃ z, z = (p1 &&& (9223372036854775807 : Int64)) := ⟨_, rfl⟩
  rw [← hn1]
  have hpos : 0 ≤ n1.toInt := by rw [hn1, show (p1 &&& (9223372036854775807 : Int64)).toInt = p1.toInt % 9223372036854775808 from c_maskL p1 9223372036854775807 63 (by decide) (by decide)]; omega
  refine OGoal.mp (S' := (s₁.setTop (mkF m 7 #[.val (.long p1), .second, .val (.int p2), .val (.long n1), .second, .unset, .unset, .unset, .unset, .unset, .unset, .unset, .unset, .unset, .unset, .unset, .unset, .unset, .unset, .unset, .unset] [(.int p2)]))) (fun _ k => XS.iloadN X0.here hx rfl (hb hby at_6) rfl k) ?_
  refine OGoal.mp (S' := (s₁.setTop (mkF m 8 #[.val (.long p1), .second, .val (.int p2), .val (.long n1), .second, .unset, .unset, .unset, .unset, .unset, .unset, .unset, .unset, .unset, .unset, .unset, .unset, .unset, .unset, .unset, .unset] [(.int (3 : Int32)), (.int p2)]))) (fun _ k => XS.iconst X0.here hx rfl (hb hby at_7) k) ?_
  refine OGoal.mp (S' := (s₁.setTop (mkF m 9 #[.val (.long p1), .second, .val (.int p2), .val (.long n1), .second, .unset, .unset, .unset, .unset, .unset, .unset, .unset, .unset, .unset, .unset, .unset, .unset, .unset, .unset, .unset, .unset] [(.int (p2 &&& (3 : Int32)))]))) (fun _ k => XS.iand X0.here hx rfl (hb hby at_8) rfl k) ?_
  refine OGoal.mp (S' := (s₁.setTop (mkF m 11 #[.val (.long p1), .second, .val (.int p2), .val (.long n1), .second, .val (.int (p2 &&& (3 : Int32))), .unset, .unset, .unset, .unset, .unset, .unset, .unset, .unset, .unset, .unset, .unset, .unset, .unset, .unset, .unset] []))) (fun _ k => XS.istore X0.here hx rfl (hb hby at_9) rfl (l' := #[.val (.long p1), .second, .val (.int p2), .val (.long n1), .second, .val (.int (p2 &&& (3 : Int32))), .unset, .unset, .unset, .unset, .unset, .unset, .unset, .unset, .unset, .unset, .unset, .unset, .unset, .unset, .unset]) rfl k) ?_
  refine OGoal.mp (S' := (s₁.setTop (mkF m 13 #[.val (.long p1), .second, .val (.int p2), .val (.long n1), .second, .val (.int (p2 &&& (3 : Int32))), .unset, .unset, .unset, .unset, .unset, .unset, .unset, .unset, .unset, .unset, .unset, .unset, .unset, .unset, .unset] [(.int (p2 &&& (3 : Int32)))]))) (fun _ k => XS.iload X0.here hx rfl (hb hby at_11) rfl k) ?_
  by_cases hc2 : (p2 &&& (3 : Int32)) = 0
  · refine OGoal.mp (S' := (s₁.setTop (mkF m 16 #[.val (.long p1), .second, .val (.int p2), .val (.long n1), .second, .val (.int (p2 &&& (3 : Int32))), .unset, .unset, .unset, .unset, .unset, .unset, .unset, .unset, .unset, .unset, .unset, .unset, .unset, .unset, .unset] []))) (fun _ k => XS.ifNo X0.here hx rfl (hb hby at_13) rfl (XT.i0_ne_f hc2) k) ?_
    obtain ⟨T3, X4, e5, st6⟩ := getS X0 hx hZ hown (host := "") (hw _ (List.mem_of_getElem? (i := 20) rfl)) Via.refl e0 Sa1 (g := mkF m 16 #[.val (.long p1), .second, .val (.int p2), .val (.long n1), .second, .val (.int (p2 &&& (3 : Int32))), .unset, .unset, .unset, .unset, .unset, .unset, .unset, .unset, .unset, .unset, .unset, .unset, .unset, .unset, .unset] []) rfl (hb hby at_16)
    refine OGoal.mp (S' := (T3.setTop (mkF m 19 #[.val (.long p1), .second, .val (.int p2), .val (.long n1), .second, .val (.int (p2 &&& (3 : Int32))), .unset, .unset, .unset, .unset, .unset, .unset, .unset, .unset, .unset, .unset, .unset, .unset, .unset, .unset, .unset] [(.ref a1)]))) (fun _ k => st6 _ k) ?_
    refine OGoal.mp (S' := (T3.setTop (mkF m 21 #[.val (.long p1), .second, .val (.int p2), .val (.long n1), .second, .val (.int (p2 &&& (3 : Int32))), .val (.ref a1), .unset, .unset, .unset, .unset, .unset, .unset, .unset, .unset, .unset, .unset, .unset, .unset, .unset, .unset] []))) (fun _ k => XS.astore X4.here hx rfl (hb hby at_19) rfl rfl (l' := #[.val (.long p1), .second, .val (.int p2), .val (.long n1), .second, .val (.int (p2 &&& (3 : Int32))), .val (.ref a1), .unset, .unset, .unset, .unset, .unset, .unset, .unset, .unset, .unset, .unset, .unset, .unset, .unset, .unset]) rfl k) ?_
    refine OGoal.mp (S' := (T3.setTop (mkF m 24 #[.val (.long p1), .second, .val (.int p2), .val (.long n1), .second, .val (.int (p2 &&& (3 : Int32))), .val (.ref a1), .unset, .unset, .unset, .unset, .unset, .unset, .unset, .unset, .unset, .unset, .unset, .unset, .unset, .unset] [(.long (500 : Int64))]))) (fun _ k => Stand.ldc2J X4 hx hown (mvT hZ (hw _ (List.mem_of_getElem? (i := 22) rfl))) rfl (hb hby at_21) k) ?_
    refine OGoal.mp (S' := (T3.setTop (mkF m 26 #[.val (.long p1), .second, .val (.int p2), .val (.long n1), .second, .val (.int (p2 &&& (3 : Int32))), .val (.ref a1), .val (.long (500 : Int64)), .second, .unset, .unset, .unset, .unset, .unset, .unset, .unset, .unset, .unset, .unset, .unset, .unset] []))) (fun _ k => XT.lstore X4.here hx rfl (hb hby at_24) rfl (l' := #[.val (.long p1), .second, .val (.int p2), .val (.long n1), .second, .val (.int (p2 &&& (3 : Int32))), .val (.ref a1), .val (.long (500 : Int64)), .second, .unset, .unset, .unset, .unset, .unset, .unset, .unset, .unset, .unset, .unset, .unset, .unset]) rfl k) ?_
    refine OGoal.mp (S' := (T3.setTop (mkF m 77 #[.val (.long p1), .second, .val (.int p2), .val (.long n1), .second, .val (.int (p2 &&& (3 : Int32))), .val (.ref a1), .val (.long (500 : Int64)), .second, .unset, .unset, .unset, .unset, .unset, .unset, .unset, .unset, .unset, .unset, .unset, .unset] []))) (fun _ k => XS.goto X4.here hx rfl (pc0 := 26) (pc' := 77) rfl (hb hby at_26) (by decide) (by decide) k) ?_
    refine OGoal.mp (S' := (T3.setTop (mkF m 78 #[.val (.long p1), .second, .val (.int p2), .val (.long n1), .second, .val (.int (p2 &&& (3 : Int32))), .val (.ref a1), .val (.long (500 : Int64)), .second, .unset, .unset, .unset, .unset, .unset, .unset, .unset, .unset, .unset, .unset, .unset, .unset] [(.long n1)]))) (fun _ k => XT.lloadN X4.here hx rfl (hb hby at_77) rfl k) ?_
    refine OGoal.mp (S' := (T3.setTop (mkF m 80 #[.val (.long p1), .second, .val (.int p2), .val (.long n1), .second, .val (.int (p2 &&& (3 : Int32))), .val (.ref a1), .val (.long (500 : Int64)), .second, .unset, .unset, .unset, .unset, .unset, .unset, .unset, .unset, .unset, .unset, .unset, .unset] [(.int (10 : Int32)), (.long n1)]))) (fun _ k => XS.bipush X4.here hx rfl (hb hby at_78) k) ?_
    refine OGoal.mp (S' := (T3.setTop (mkF m 81 #[.val (.long p1), .second, .val (.int p2), .val (.long n1), .second, .val (.int (p2 &&& (3 : Int32))), .val (.ref a1), .val (.long (500 : Int64)), .second, .unset, .unset, .unset, .unset, .unset, .unset, .unset, .unset, .unset, .unset, .unset, .unset] [(.long (XT.ushrL n1 (10 : Int32)))]))) (fun _ k => XT.lushr X4.here hx rfl (hb hby at_80) rfl k) ?_
    refine OGoal.mp (S' := (T3.setTop (mkF m 83 #[.val (.long p1), .second, .val (.int p2), .val (.long n1), .second, .val (.int (p2 &&& (3 : Int32))), .val (.ref a1), .val (.long (500 : Int64)), .second, .val (.long (XT.ushrL n1 (10 : Int32))), .second, .unset, .unset, .unset, .unset, .unset, .unset, .unset, .unset, .unset, .unset] []))) (fun _ k => XT.lstore X4.here hx rfl (hb hby at_81) rfl (l' := #[.val (.long p1), .second, .val (.int p2), .val (.long n1), .second, .val (.int (p2 &&& (3 : Int32))), .val (.ref a1), .val (.long (500 : Int64)), .second, .val (.long (XT.ushrL n1 (10 : Int32))), .second, .unset, .unset, .unset, .unset, .unset, .unset, .unset, .unset, .unset, .unset]) rfl k) ?_
    obtain ⟨u7, hu7⟩ : ∃ z, z = (XT.ushrL n1 (10 : Int32)) := ⟨_, rfl⟩
    rw [← hu7]
    refine OGoal.mp (S' := (T3.setTop (mkF m 84 #[.val (.long p1), .second, .val (.int p2), .val (.long n1), .second, .val (.int (p2 &&& (3 : Int32))), .val (.ref a1), .val (.long (500 : Int64)), .second, .val (.long u7), .second, .unset, .unset, .unset, .unset, .unset, .unset, .unset, .unset, .unset, .unset] [(.long n1)]))) (fun _ k => XT.lloadN X4.here hx rfl (hb hby at_83) rfl k) ?_
    refine OGoal.mp (S' := (T3.setTop (mkF m 87 #[.val (.long p1), .second, .val (.int p2), .val (.long n1), .second, .val (.int (p2 &&& (3 : Int32))), .val (.ref a1), .val (.long (500 : Int64)), .second, .val (.long u7), .second, .unset, .unset, .unset, .unset, .unset, .unset, .unset, .unset, .unset, .unset] [(.long (1023 : Int64)), (.long n1)]))) (fun _ k => Stand.ldc2J X4 hx hown (mvT hZ (hw _ (List.mem_of_getElem? (i := 5) rfl))) rfl (hb hby at_84) k) ?_
    refine OGoal.mp (S' := (T3.setTop (mkF m 88 #[.val (.long p1), .second, .val (.int p2), .val (.long n1), .second, .val (.int (p2 &&& (3 : Int32))), .val (.ref a1), .val (.long (500 : Int64)), .second, .val (.long u7), .second, .unset, .unset, .unset, .unset, .unset, .unset, .unset, .unset, .unset, .unset] [(.long (n1 &&& (1023 : Int64)))]))) (fun _ k => XT.land X4.here hx rfl (hb hby at_87) rfl k) ?_
    refine OGoal.mp (S' := (T3.setTop (mkF m 90 #[.val (.long p1), .second, .val (.int p2), .val (.long n1), .second, .val (.int (p2 &&& (3 : Int32))), .val (.ref a1), .val (.long (500 : Int64)), .second, .val (.long u7), .second, .val (.long (n1 &&& (1023 : Int64))), .second, .unset, .unset, .unset, .unset, .unset, .unset, .unset, .unset] []))) (fun _ k => XT.lstore X4.here hx rfl (hb hby at_88) rfl (l' := #[.val (.long p1), .second, .val (.int p2), .val (.long n1), .second, .val (.int (p2 &&& (3 : Int32))), .val (.ref a1), .val (.long (500 : Int64)), .second, .val (.long u7), .second, .val (.long (n1 &&& (1023 : Int64))), .second, .unset, .unset, .unset, .unset, .unset, .unset, .unset, .unset]) rfl k) ?_
    obtain ⟨u8, hu8⟩ : ∃ z, z = (n1 &&& (1023 : Int64)) := ⟨_, rfl⟩
    rw [← hu8]
    refine OGoal.mp (S' := (T3.setTop (mkF m 92 #[.val (.long p1), .second, .val (.int p2), .val (.long n1), .second, .val (.int (p2 &&& (3 : Int32))), .val (.ref a1), .val (.long (500 : Int64)), .second, .val (.long u7), .second, .val (.long u8), .second, .unset, .unset, .unset, .unset, .unset, .unset, .unset, .unset] [(.long (500 : Int64))]))) (fun _ k => XT.lload X4.here hx rfl (hb hby at_90) rfl k) ?_
    refine OGoal.mp (S' := (T3.setTop (mkF m 94 #[.val (.long p1), .second, .val (.int p2), .val (.long n1), .second, .val (.int (p2 &&& (3 : Int32))), .val (.ref a1), .val (.long (500 : Int64)), .second, .val (.long u7), .second, .val (.long u8), .second, .unset, .unset, .unset, .unset, .unset, .unset, .unset, .unset] [(.long u7), (.long (500 : Int64))]))) (fun _ k => XT.lload X4.here hx rfl (hb hby at_92) rfl k) ?_
    refine OGoal.mp (S' := (T3.setTop (mkF m 95 #[.val (.long p1), .second, .val (.int p2), .val (.long n1), .second, .val (.int (p2 &&& (3 : Int32))), .val (.ref a1), .val (.long (500 : Int64)), .second, .val (.long u7), .second, .val (.long u8), .second, .unset, .unset, .unset, .unset, .unset, .unset, .unset, .unset] [(.long ((500 : Int64) * u7))]))) (fun _ k => XT.lmul X4.here hx rfl (hb hby at_94) rfl k) ?_
    refine OGoal.mp (S' := (T3.setTop (mkF m 97 #[.val (.long p1), .second, .val (.int p2), .val (.long n1), .second, .val (.int (p2 &&& (3 : Int32))), .val (.ref a1), .val (.long (500 : Int64)), .second, .val (.long u7), .second, .val (.long u8), .second, .val (.long ((500 : Int64) * u7)), .second, .unset, .unset, .unset, .unset, .unset, .unset] []))) (fun _ k => XT.lstore X4.here hx rfl (hb hby at_95) rfl (l' := #[.val (.long p1), .second, .val (.int p2), .val (.long n1), .second, .val (.int (p2 &&& (3 : Int32))), .val (.ref a1), .val (.long (500 : Int64)), .second, .val (.long u7), .second, .val (.long u8), .second, .val (.long ((500 : Int64) * u7)), .second, .unset, .unset, .unset, .unset, .unset, .unset]) rfl k) ?_
    obtain ⟨u9, hu9⟩ : ∃ z, z = ((500 : Int64) * u7) := ⟨_, rfl⟩
    rw [← hu9]
    refine OGoal.mp (S' := (T3.setTop (mkF m 99 #[.val (.long p1), .second, .val (.int p2), .val (.long n1), .second, .val (.int (p2 &&& (3 : Int32))), .val (.ref a1), .val (.long (500 : Int64)), .second, .val (.long u7), .second, .val (.long u8), .second, .val (.long u9), .second, .unset, .unset, .unset, .unset, .unset, .unset] [(.long u9)]))) (fun _ k => XT.lload X4.here hx rfl (hb hby at_97) rfl k) ?_
    refine OGoal.mp (S' := (T3.setTop (mkF m 102 #[.val (.long p1), .second, .val (.int p2), .val (.long n1), .second, .val (.int (p2 &&& (3 : Int32))), .val (.ref a1), .val (.long (500 : Int64)), .second, .val (.long u7), .second, .val (.long u8), .second, .val (.long u9), .second, .unset, .unset, .unset, .unset, .unset, .unset] [(.long (125 : Int64)), (.long u9)]))) (fun _ k => Stand.ldc2J X4 hx hown (mvT hZ (hw _ (List.mem_of_getElem? (i := 6) rfl))) rfl (hb hby at_99) k) ?_
    refine OGoal.mp (S' := (T3.setTop (mkF m 103 #[.val (.long p1), .second, .val (.int p2), .val (.long n1), .second, .val (.int (p2 &&& (3 : Int32))), .val (.ref a1), .val (.long (500 : Int64)), .second, .val (.long u7), .second, .val (.long u8), .second, .val (.long u9), .second, .unset, .unset, .unset, .unset, .unset, .unset] [(.long (u9 / (125 : Int64)))]))) (fun _ k => XT.ldiv X4.here hx rfl (hb hby at_102) rfl (by decide) k) ?_
    refine OGoal.mp (S' := (T3.setTop (mkF m 105 #[.val (.long p1), .second, .val (.int p2), .val (.long n1), .second, .val (.int (p2 &&& (3 : Int32))), .val (.ref a1), .val (.long (500 : Int64)), .second, .val (.long u7), .second, .val (.long u8), .second, .val (.long u9), .second, .val (.long (u9 / (125 : Int64))), .second, .unset, .unset, .unset, .unset] []))) (fun _ k => XT.lstore X4.here hx rfl (hb hby at_103) rfl (l' := #[.val (.long p1), .second, .val (.int p2), .val (.long n1), .second, .val (.int (p2 &&& (3 : Int32))), .val (.ref a1), .val (.long (500 : Int64)), .second, .val (.long u7), .second, .val (.long u8), .second, .val (.long u9), .second, .val (.long (u9 / (125 : Int64))), .second, .unset, .unset, .unset, .unset]) rfl k) ?_
    obtain ⟨u10, hu10⟩ : ∃ z, z = (u9 / (125 : Int64)) := ⟨_, rfl⟩
    rw [← hu10]
    refine OGoal.mp (S' := (T3.setTop (mkF m 107 #[.val (.long p1), .second, .val (.int p2), .val (.long n1), .second, .val (.int (p2 &&& (3 : Int32))), .val (.ref a1), .val (.long (500 : Int64)), .second, .val (.long u7), .second, .val (.long u8), .second, .val (.long u9), .second, .val (.long u10), .second, .unset, .unset, .unset, .unset] [(.long u9)]))) (fun _ k => XT.lload X4.here hx rfl (hb hby at_105) rfl k) ?_
    refine OGoal.mp (S' := (T3.setTop (mkF m 110 #[.val (.long p1), .second, .val (.int p2), .val (.long n1), .second, .val (.int (p2 &&& (3 : Int32))), .val (.ref a1), .val (.long (500 : Int64)), .second, .val (.long u7), .second, .val (.long u8), .second, .val (.long u9), .second, .val (.long u10), .second, .unset, .unset, .unset, .unset] [(.long (125 : Int64)), (.long u9)]))) (fun _ k => Stand.ldc2J X4 hx hown (mvT hZ (hw _ (List.mem_of_getElem? (i := 6) rfl))) rfl (hb hby at_107) k) ?_
    refine OGoal.mp (S' := (T3.setTop (mkF m 111 #[.val (.long p1), .second, .val (.int p2), .val (.long n1), .second, .val (.int (p2 &&& (3 : Int32))), .val (.ref a1), .val (.long (500 : Int64)), .second, .val (.long u7), .second, .val (.long u8), .second, .val (.long u9), .second, .val (.long u10), .second, .unset, .unset, .unset, .unset] [(.long (u9 % (125 : Int64)))]))) (fun _ k => oLrem X4 hx rfl (hb hby at_110) rfl (by decide) k) ?_
    refine OGoal.mp (S' := (T3.setTop (mkF m 113 #[.val (.long p1), .second, .val (.int p2), .val (.long n1), .second, .val (.int (p2 &&& (3 : Int32))), .val (.ref a1), .val (.long (500 : Int64)), .second, .val (.long u7), .second, .val (.long u8), .second, .val (.long u9), .second, .val (.long u10), .second, .val (.long (u9 % (125 : Int64))), .second, .unset, .unset] []))) (fun _ k => XT.lstore X4.here hx rfl (hb hby at_111) rfl (l' := #[.val (.long p1), .second, .val (.int p2), .val (.long n1), .second, .val (.int (p2 &&& (3 : Int32))), .val (.ref a1), .val (.long (500 : Int64)), .second, .val (.long u7), .second, .val (.long u8), .second, .val (.long u9), .second, .val (.long u10), .second, .val (.long (u9 % (125 : Int64))), .second, .unset, .unset]) rfl k) ?_
    obtain ⟨u11, hu11⟩ : ∃ z, z = (u9 % (125 : Int64)) := ⟨_, rfl⟩
    rw [← hu11]
    refine OGoal.mp (S' := (T3.setTop (mkF m 116 #[.val (.long p1), .second, .val (.int p2), .val (.long n1), .second, .val (.int (p2 &&& (3 : Int32))), .val (.ref a1), .val (.long (500 : Int64)), .second, .val (.long u7), .second, .val (.long u8), .second, .val (.long u9), .second, .val (.long u10), .second, .val (.long u11), .second, .unset, .unset] [(.long (128 : Int64))]))) (fun _ k => Stand.ldc2J X4 hx hown (mvT hZ (hw _ (List.mem_of_getElem? (i := 7) rfl))) rfl (hb hby at_113) k) ?_
    refine OGoal.mp (S' := (T3.setTop (mkF m 118 #[.val (.long p1), .second, .val (.int p2), .val (.long n1), .second, .val (.int (p2 &&& (3 : Int32))), .val (.ref a1), .val (.long (500 : Int64)), .second, .val (.long u7), .second, .val (.long u8), .second, .val (.long u9), .second, .val (.long u10), .second, .val (.long u11), .second, .unset, .unset] [(.long u10), (.long (128 : Int64))]))) (fun _ k => XT.lload X4.here hx rfl (hb hby at_116) rfl k) ?_
    refine OGoal.mp (S' := (T3.setTop (mkF m 119 #[.val (.long p1), .second, .val (.int p2), .val (.long n1), .second, .val (.int (p2 &&& (3 : Int32))), .val (.ref a1), .val (.long (500 : Int64)), .second, .val (.long u7), .second, .val (.long u8), .second, .val (.long u9), .second, .val (.long u10), .second, .val (.long u11), .second, .unset, .unset] [(.long ((128 : Int64) * u10))]))) (fun _ k => XT.lmul X4.here hx rfl (hb hby at_118) rfl k) ?_
    refine OGoal.mp (S' := (T3.setTop (mkF m 122 #[.val (.long p1), .second, .val (.int p2), .val (.long n1), .second, .val (.int (p2 &&& (3 : Int32))), .val (.ref a1), .val (.long (500 : Int64)), .second, .val (.long u7), .second, .val (.long u8), .second, .val (.long u9), .second, .val (.long u10), .second, .val (.long u11), .second, .unset, .unset] [(.long (1024 : Int64)), (.long ((128 : Int64) * u10))]))) (fun _ k => Stand.ldc2J X4 hx hown (mvT hZ (hw _ (List.mem_of_getElem? (i := 8) rfl))) rfl (hb hby at_119) k) ?_
    refine OGoal.mp (S' := (T3.setTop (mkF m 124 #[.val (.long p1), .second, .val (.int p2), .val (.long n1), .second, .val (.int (p2 &&& (3 : Int32))), .val (.ref a1), .val (.long (500 : Int64)), .second, .val (.long u7), .second, .val (.long u8), .second, .val (.long u9), .second, .val (.long u10), .second, .val (.long u11), .second, .unset, .unset] [(.long u11), (.long (1024 : Int64)), (.long ((128 : Int64) * u10))]))) (fun _ k => XT.lload X4.here hx rfl (hb hby at_122) rfl k) ?_
    refine OGoal.mp (S' := (T3.setTop (mkF m 125 #[.val (.long p1), .second, .val (.int p2), .val (.long n1), .second, .val (.int (p2 &&& (3 : Int32))), .val (.ref a1), .val (.long (500 : Int64)), .second, .val (.long u7), .second, .val (.long u8), .second, .val (.long u9), .second, .val (.long u10), .second, .val (.long u11), .second, .unset, .unset] [(.long ((1024 : Int64) * u11)), (.long ((128 : Int64) * u10))]))) (fun _ k => XT.lmul X4.here hx rfl (hb hby at_124) rfl k) ?_
    refine OGoal.mp (S' := (T3.setTop (mkF m 127 #[.val (.long p1), .second, .val (.int p2), .val (.long n1), .second, .val (.int (p2 &&& (3 : Int32))), .val (.ref a1), .val (.long (500 : Int64)), .second, .val (.long u7), .second, .val (.long u8), .second, .val (.long u9), .second, .val (.long u10), .second, .val (.long u11), .second, .unset, .unset] [(.long (500 : Int64)), (.long ((1024 : Int64) * u11)), (.long ((128 : Int64) * u10))]))) (fun _ k => XT.lload X4.here hx rfl (hb hby at_125) rfl k) ?_
    refine OGoal.mp (S' := (T3.setTop (mkF m 129 #[.val (.long p1), .second, .val (.int p2), .val (.long n1), .second, .val (.int (p2 &&& (3 : Int32))), .val (.ref a1), .val (.long (500 : Int64)), .second, .val (.long u7), .second, .val (.long u8), .second, .val (.long u9), .second, .val (.long u10), .second, .val (.long u11), .second, .unset, .unset] [(.long u8), (.long (500 : Int64)), (.long ((1024 : Int64) * u11)), (.long ((128 : Int64) * u10))]))) (fun _ k => XT.lload X4.here hx rfl (hb hby at_127) rfl k) ?_
    refine OGoal.mp (S' := (T3.setTop (mkF m 130 #[.val (.long p1), .second, .val (.int p2), .val (.long n1), .second, .val (.int (p2 &&& (3 : Int32))), .val (.ref a1), .val (.long (500 : Int64)), .second, .val (.long u7), .second, .val (.long u8), .second, .val (.long u9), .second, .val (.long u10), .second, .val (.long u11), .second, .unset, .unset] [(.long ((500 : Int64) * u8)), (.long ((1024 : Int64) * u11)), (.long ((128 : Int64) * u10))]))) (fun _ k => XT.lmul X4.here hx rfl (hb hby at_129) rfl k) ?_
    refine OGoal.mp (S' := (T3.setTop (mkF m 131 #[.val (.long p1), .second, .val (.int p2), .val (.long n1), .second, .val (.int (p2 &&& (3 : Int32))), .val (.ref a1), .val (.long (500 : Int64)), .second, .val (.long u7), .second, .val (.long u8), .second, .val (.long u9), .second, .val (.long u10), .second, .val (.long u11), .second, .unset, .unset] [(.long (((1024 : Int64) * u11) + ((500 : Int64) * u8))), (.long ((128 : Int64) * u10))]))) (fun _ k => XT.ladd X4.here hx rfl (hb hby at_130) rfl k) ?_
    refine OGoal.mp (S' := (T3.setTop (mkF m 134 #[.val (.long p1), .second, .val (.int p2), .val (.long n1), .second, .val (.int (p2 &&& (3 : Int32))), .val (.ref a1), .val (.long (500 : Int64)), .second, .val (.long u7), .second, .val (.long u8), .second, .val (.long u9), .second, .val (.long u10), .second, .val (.long u11), .second, .unset, .unset] [(.long (999 : Int64)), (.long (((1024 : Int64) * u11) + ((500 : Int64) * u8))), (.long ((128 : Int64) * u10))]))) (fun _ k => Stand.ldc2J X4 hx hown (mvT hZ (hw _ (List.mem_of_getElem? (i := 9) rfl))) rfl (hb hby at_131) k) ?_
    refine OGoal.mp (S' := (T3.setTop (mkF m 135 #[.val (.long p1), .second, .val (.int p2), .val (.long n1), .second, .val (.int (p2 &&& (3 : Int32))), .val (.ref a1), .val (.long (500 : Int64)), .second, .val (.long u7), .second, .val (.long u8), .second, .val (.long u9), .second, .val (.long u10), .second, .val (.long u11), .second, .unset, .unset] [(.long ((((1024 : Int64) * u11) + ((500 : Int64) * u8)) + (999 : Int64))), (.long ((128 : Int64) * u10))]))) (fun _ k => XT.ladd X4.here hx rfl (hb hby at_134) rfl k) ?_
    refine OGoal.mp (S' := (T3.setTop (mkF m 138 #[.val (.long p1), .second, .val (.int p2), .val (.long n1), .second, .val (.int (p2 &&& (3 : Int32))), .val (.ref a1), .val (.long (500 : Int64)), .second, .val (.long u7), .second, .val (.long u8), .second, .val (.long u9), .second, .val (.long u10), .second, .val (.long u11), .second, .unset, .unset] [(.long (1000 : Int64)), (.long ((((1024 : Int64) * u11) + ((500 : Int64) * u8)) + (999 : Int64))), (.long ((128 : Int64) * u10))]))) (fun _ k => Stand.ldc2J X4 hx hown (mvT hZ (hw _ (List.mem_of_getElem? (i := 10) rfl))) rfl (hb hby at_135) k) ?_
    refine OGoal.mp (S' := (T3.setTop (mkF m 139 #[.val (.long p1), .second, .val (.int p2), .val (.long n1), .second, .val (.int (p2 &&& (3 : Int32))), .val (.ref a1), .val (.long (500 : Int64)), .second, .val (.long u7), .second, .val (.long u8), .second, .val (.long u9), .second, .val (.long u10), .second, .val (.long u11), .second, .unset, .unset] [(.long (((((1024 : Int64) * u11) + ((500 : Int64) * u8)) + (999 : Int64)) / (1000 : Int64))), (.long ((128 : Int64) * u10))]))) (fun _ k => XT.ldiv X4.here hx rfl (hb hby at_138) rfl (by decide) k) ?_
    refine OGoal.mp (S' := (T3.setTop (mkF m 140 #[.val (.long p1), .second, .val (.int p2), .val (.long n1), .second, .val (.int (p2 &&& (3 : Int32))), .val (.ref a1), .val (.long (500 : Int64)), .second, .val (.long u7), .second, .val (.long u8), .second, .val (.long u9), .second, .val (.long u10), .second, .val (.long u11), .second, .unset, .unset] [(.long (((128 : Int64) * u10) + (((((1024 : Int64) * u11) + ((500 : Int64) * u8)) + (999 : Int64)) / (1000 : Int64))))]))) (fun _ k => XT.ladd X4.here hx rfl (hb hby at_139) rfl k) ?_
    refine OGoal.mp (S' := (T3.setTop (mkF m 142 #[.val (.long p1), .second, .val (.int p2), .val (.long n1), .second, .val (.int (p2 &&& (3 : Int32))), .val (.ref a1), .val (.long (500 : Int64)), .second, .val (.long u7), .second, .val (.long u8), .second, .val (.long u9), .second, .val (.long u10), .second, .val (.long u11), .second, .val (.long (((128 : Int64) * u10) + (((((1024 : Int64) * u11) + ((500 : Int64) * u8)) + (999 : Int64)) / (1000 : Int64)))), .second] []))) (fun _ k => XT.lstore X4.here hx rfl (hb hby at_140) rfl (l' := #[.val (.long p1), .second, .val (.int p2), .val (.long n1), .second, .val (.int (p2 &&& (3 : Int32))), .val (.ref a1), .val (.long (500 : Int64)), .second, .val (.long u7), .second, .val (.long u8), .second, .val (.long u9), .second, .val (.long u10), .second, .val (.long u11), .second, .val (.long (((128 : Int64) * u10) + (((((1024 : Int64) * u11) + ((500 : Int64) * u8)) + (999 : Int64)) / (1000 : Int64)))), .second]) rfl k) ?_
    obtain ⟨u12, hu12⟩ : ∃ z, z = (((128 : Int64) * u10) + (((((1024 : Int64) * u11) + ((500 : Int64) * u8)) + (999 : Int64)) / (1000 : Int64))) := ⟨_, rfl⟩
    rw [← hu12]
    refine OGoal.mp (S' := (T3.setTop (mkF m 144 #[.val (.long p1), .second, .val (.int p2), .val (.long n1), .second, .val (.int (p2 &&& (3 : Int32))), .val (.ref a1), .val (.long (500 : Int64)), .second, .val (.long u7), .second, .val (.long u8), .second, .val (.long u9), .second, .val (.long u10), .second, .val (.long u11), .second, .val (.long u12), .second] [(.ref a1)]))) (fun _ k => XS.aload X4.here hx rfl (hb hby at_142) rfl rfl k) ?_
    refine OGoal.mp (S' := (T3.setTop (mkF m 145 #[.val (.long p1), .second, .val (.int p2), .val (.long n1), .second, .val (.int (p2 &&& (3 : Int32))), .val (.ref a1), .val (.long (500 : Int64)), .second, .val (.long u7), .second, .val (.long u8), .second, .val (.long u9), .second, .val (.long u10), .second, .val (.long u11), .second, .val (.long u12), .second] [(.long n1), (.ref a1)]))) (fun _ k => XT.lloadN X4.here hx rfl (hb hby at_144) rfl k) ?_
    refine oCallV (y := (⟨"com/example/pausemark/pausemark/analysis/Percentile", "rankAmong", "(J)J"⟩ : MethodName)) (z := (⟨"com/example/pausemark/pausemark/analysis/Percentile", "rankAmong", "(J)J"⟩ : MethodName)) X4 hx hZ hown (hw _ (List.mem_of_getElem? (i := 11) rfl)) (hw _ (List.mem_of_getElem? (i := 12) rfl)) (hw _ (List.mem_of_getElem? (i := 14) rfl)) (hw _ (List.mem_of_getElem? (i := 13) rfl)) (hw _ (List.mem_of_getElem? (i := 2) rfl)) (hw _ (List.mem_of_getElem? (i := 15) rfl)) (by decide) (rmA l Z a0 hw a1 n1 (500 : Int64) h0 n0 Z0 Fa1) e5 Ea1 [(.long n1)] [] rfl rfl (by rw [hml]; rfl) (notFace_of_selects (args := #[]) (mvT hZ (hw _ (List.mem_of_getElem? (i := 14) rfl)))) (lenOf own_pd__J_J rfl) 0 (Nat.le_of_eq rfl) (by decide) (by decide) (by decide) (by decide) (hb hby at_145) ?_
    intro v13 T14 L15 X16 q17
    obtain ⟨rfl, N18, e19⟩ := q17
    have N20 := Fr.app (Fr.nil n0) N18
    show OGoal p e below s _ _ _ (T14.setTop (mkF m 148 #[.val (.long p1), .second, .val (.int p2), .val (.long n1), .second, .val (.int (p2 &&& (3 : Int32))), .val (.ref a1), .val (.long (500 : Int64)), .second, .val (.long u7), .second, .val (.long u8), .second, .val (.long u9), .second, .val (.long u10), .second, .val (.long u11), .second, .val (.long u12), .second] [(.long (own_rank n1 (500 : Int64)))]))
    refine OGoal.mp (S' := (T14.setTop (mkF m 150 #[.val (.long p1), .second, .val (.int p2), .val (.long n1), .second, .val (.int (p2 &&& (3 : Int32))), .val (.ref a1), .val (.long (500 : Int64)), .second, .val (.long u7), .second, .val (.long u8), .second, .val (.long u9), .second, .val (.long u10), .second, .val (.long u11), .second, .val (.long u12), .second] [(.long u12), (.long (own_rank n1 (500 : Int64)))]))) (fun _ k => XT.lload X16.here hx rfl (hb hby at_148) rfl k) ?_
    refine OGoal.mp (S' := (T14.setTop (mkF m 151 #[.val (.long p1), .second, .val (.int p2), .val (.long n1), .second, .val (.int (p2 &&& (3 : Int32))), .val (.ref a1), .val (.long (500 : Int64)), .second, .val (.long u7), .second, .val (.long u8), .second, .val (.long u9), .second, .val (.long u10), .second, .val (.long u11), .second, .val (.long u12), .second] [(.int (XT.cmpL (own_rank n1 (500 : Int64)) u12))]))) (fun _ k => XT.lcmp X16.here hx rfl (hb hby at_150) rfl k) ?_
    refine OGoal.mp (S' := (T14.setTop (mkF m 154 #[.val (.long p1), .second, .val (.int p2), .val (.long n1), .second, .val (.int (p2 &&& (3 : Int32))), .val (.ref a1), .val (.long (500 : Int64)), .second, .val (.long u7), .second, .val (.long u8), .second, .val (.long u9), .second, .val (.long u10), .second, .val (.long u11), .second, .val (.long u12), .second] []))) (fun _ k => XS.ifNo X16.here hx rfl (hb hby at_151) rfl (XT.ll_ne_f (by subst hu12 hu11 hu10 hu9 hu8 hu7; exact own_rk500 n1 hpos)) k) ?_
    refine OGoal.mp (S' := (T14.setTop (mkF m 155 #[.val (.long p1), .second, .val (.int p2), .val (.long n1), .second, .val (.int (p2 &&& (3 : Int32))), .val (.ref a1), .val (.long (500 : Int64)), .second, .val (.long u7), .second, .val (.long u8), .second, .val (.long u9), .second, .val (.long u10), .second, .val (.long u11), .second, .val (.long u12), .second] [(.int (1 : Int32))]))) (fun _ k => XS.iconst X16.here hx rfl (hb hby at_154) k) ?_
    refine OGoal.mp (S' := (T14.setTop (mkF m 159 #[.val (.long p1), .second, .val (.int p2), .val (.long n1), .second, .val (.int (p2 &&& (3 : Int32))), .val (.ref a1), .val (.long (500 : Int64)), .second, .val (.long u7), .second, .val (.long u8), .second, .val (.long u9), .second, .val (.long u10), .second, .val (.long u11), .second, .val (.long u12), .second] [(.int (1 : Int32))]))) (fun _ k => XS.goto X16.here hx rfl (pc0 := 155) (pc' := 159) rfl (hb hby at_155) (by decide) (by decide) k) ?_
    refine oRetZ X16 hx hlk hret (Or.inr rfl) (hb hby at_159) ?_ (by decide) (by decide)
    exact ⟨rfl, N20⟩
  · refine OGoal.mp (S' := (s₁.setTop (mkF m 29 #[.val (.long p1), .second, .val (.int p2), .val (.long n1), .second, .val (.int (p2 &&& (3 : Int32))), .unset, .unset, .unset, .unset, .unset, .unset, .unset, .unset, .unset, .unset, .unset, .unset, .unset, .unset, .unset] []))) (fun _ k => XS.ifYes X0.here hx rfl (pc0 := 13) (pc' := 29) rfl (hb hby at_13) rfl (XT.i0_ne_t hc2) (by decide) (by decide) k) ?_
    refine OGoal.mp (S' := (s₁.setTop (mkF m 31 #[.val (.long p1), .second, .val (.int p2), .val (.long n1), .second, .val (.int (p2 &&& (3 : Int32))), .unset, .unset, .unset, .unset, .unset, .unset, .unset, .unset, .unset, .unset, .unset, .unset, .unset, .unset, .unset] [(.int (p2 &&& (3 : Int32)))]))) (fun _ k => XS.iload X0.here hx rfl (hb hby at_29) rfl k) ?_
    refine OGoal.mp (S' := (s₁.setTop (mkF m 32 #[.val (.long p1), .second, .val (.int p2), .val (.long n1), .second, .val (.int (p2 &&& (3 : Int32))), .unset, .unset, .unset, .unset, .unset, .unset, .unset, .unset, .unset, .unset, .unset, .unset, .unset, .unset, .unset] [(.int (1 : Int32)), (.int (p2 &&& (3 : Int32)))]))) (fun _ k => XS.iconst X0.here hx rfl (hb hby at_31) k) ?_
    by_cases hc21 : (p2 &&& (3 : Int32)) = (1 : Int32)
    · refine OGoal.mp (S' := (s₁.setTop (mkF m 35 #[.val (.long p1), .second, .val (.int p2), .val (.long n1), .second, .val (.int (p2 &&& (3 : Int32))), .unset, .unset, .unset, .unset, .unset, .unset, .unset, .unset, .unset, .unset, .unset, .unset, .unset, .unset, .unset] []))) (fun _ k => XS.icmpNo X0.here hx rfl (hb hby at_32) rfl (XT.ii_ne_f hc21) k) ?_
      obtain ⟨T22, X23, e24, st25⟩ := getS X0 hx hZ hown (host := "") (hw _ (List.mem_of_getElem? (i := 25) rfl)) Via.refl e0 Sa2 (g := mkF m 35 #[.val (.long p1), .second, .val (.int p2), .val (.long n1), .second, .val (.int (p2 &&& (3 : Int32))), .unset, .unset, .unset, .unset, .unset, .unset, .unset, .unset, .unset, .unset, .unset, .unset, .unset, .unset, .unset] []) rfl (hb hby at_35)
      refine OGoal.mp (S' := (T22.setTop (mkF m 38 #[.val (.long p1), .second, .val (.int p2), .val (.long n1), .second, .val (.int (p2 &&& (3 : Int32))), .unset, .unset, .unset, .unset, .unset, .unset, .unset, .unset, .unset, .unset, .unset, .unset, .unset, .unset, .unset] [(.ref a2)]))) (fun _ k => st25 _ k) ?_
      refine OGoal.mp (S' := (T22.setTop (mkF m 40 #[.val (.long p1), .second, .val (.int p2), .val (.long n1), .second, .val (.int (p2 &&& (3 : Int32))), .val (.ref a2), .unset, .unset, .unset, .unset, .unset, .unset, .unset, .unset, .unset, .unset, .unset, .unset, .unset, .unset] []))) (fun _ k => XS.astore X23.here hx rfl (hb hby at_38) rfl rfl (l' := #[.val (.long p1), .second, .val (.int p2), .val (.long n1), .second, .val (.int (p2 &&& (3 : Int32))), .val (.ref a2), .unset, .unset, .unset, .unset, .unset, .unset, .unset, .unset, .unset, .unset, .unset, .unset, .unset, .unset]) rfl k) ?_
      refine OGoal.mp (S' := (T22.setTop (mkF m 43 #[.val (.long p1), .second, .val (.int p2), .val (.long n1), .second, .val (.int (p2 &&& (3 : Int32))), .val (.ref a2), .unset, .unset, .unset, .unset, .unset, .unset, .unset, .unset, .unset, .unset, .unset, .unset, .unset, .unset] [(.long (900 : Int64))]))) (fun _ k => Stand.ldc2J X23 hx hown (mvT hZ (hw _ (List.mem_of_getElem? (i := 27) rfl))) rfl (hb hby at_40) k) ?_
      refine OGoal.mp (S' := (T22.setTop (mkF m 45 #[.val (.long p1), .second, .val (.int p2), .val (.long n1), .second, .val (.int (p2 &&& (3 : Int32))), .val (.ref a2), .val (.long (900 : Int64)), .second, .unset, .unset, .unset, .unset, .unset, .unset, .unset, .unset, .unset, .unset, .unset, .unset] []))) (fun _ k => XT.lstore X23.here hx rfl (hb hby at_43) rfl (l' := #[.val (.long p1), .second, .val (.int p2), .val (.long n1), .second, .val (.int (p2 &&& (3 : Int32))), .val (.ref a2), .val (.long (900 : Int64)), .second, .unset, .unset, .unset, .unset, .unset, .unset, .unset, .unset, .unset, .unset, .unset, .unset]) rfl k) ?_
      refine OGoal.mp (S' := (T22.setTop (mkF m 77 #[.val (.long p1), .second, .val (.int p2), .val (.long n1), .second, .val (.int (p2 &&& (3 : Int32))), .val (.ref a2), .val (.long (900 : Int64)), .second, .unset, .unset, .unset, .unset, .unset, .unset, .unset, .unset, .unset, .unset, .unset, .unset] []))) (fun _ k => XS.goto X23.here hx rfl (pc0 := 45) (pc' := 77) rfl (hb hby at_45) (by decide) (by decide) k) ?_
      refine OGoal.mp (S' := (T22.setTop (mkF m 78 #[.val (.long p1), .second, .val (.int p2), .val (.long n1), .second, .val (.int (p2 &&& (3 : Int32))), .val (.ref a2), .val (.long (900 : Int64)), .second, .unset, .unset, .unset, .unset, .unset, .unset, .unset, .unset, .unset, .unset, .unset, .unset] [(.long n1)]))) (fun _ k => XT.lloadN X23.here hx rfl (hb hby at_77) rfl k) ?_
      refine OGoal.mp (S' := (T22.setTop (mkF m 80 #[.val (.long p1), .second, .val (.int p2), .val (.long n1), .second, .val (.int (p2 &&& (3 : Int32))), .val (.ref a2), .val (.long (900 : Int64)), .second, .unset, .unset, .unset, .unset, .unset, .unset, .unset, .unset, .unset, .unset, .unset, .unset] [(.int (10 : Int32)), (.long n1)]))) (fun _ k => XS.bipush X23.here hx rfl (hb hby at_78) k) ?_
      refine OGoal.mp (S' := (T22.setTop (mkF m 81 #[.val (.long p1), .second, .val (.int p2), .val (.long n1), .second, .val (.int (p2 &&& (3 : Int32))), .val (.ref a2), .val (.long (900 : Int64)), .second, .unset, .unset, .unset, .unset, .unset, .unset, .unset, .unset, .unset, .unset, .unset, .unset] [(.long (XT.ushrL n1 (10 : Int32)))]))) (fun _ k => XT.lushr X23.here hx rfl (hb hby at_80) rfl k) ?_
      refine OGoal.mp (S' := (T22.setTop (mkF m 83 #[.val (.long p1), .second, .val (.int p2), .val (.long n1), .second, .val (.int (p2 &&& (3 : Int32))), .val (.ref a2), .val (.long (900 : Int64)), .second, .val (.long (XT.ushrL n1 (10 : Int32))), .second, .unset, .unset, .unset, .unset, .unset, .unset, .unset, .unset, .unset, .unset] []))) (fun _ k => XT.lstore X23.here hx rfl (hb hby at_81) rfl (l' := #[.val (.long p1), .second, .val (.int p2), .val (.long n1), .second, .val (.int (p2 &&& (3 : Int32))), .val (.ref a2), .val (.long (900 : Int64)), .second, .val (.long (XT.ushrL n1 (10 : Int32))), .second, .unset, .unset, .unset, .unset, .unset, .unset, .unset, .unset, .unset, .unset]) rfl k) ?_
      obtain ⟨u26, hu26⟩ : ∃ z, z = (XT.ushrL n1 (10 : Int32)) := ⟨_, rfl⟩
      rw [← hu26]
      refine OGoal.mp (S' := (T22.setTop (mkF m 84 #[.val (.long p1), .second, .val (.int p2), .val (.long n1), .second, .val (.int (p2 &&& (3 : Int32))), .val (.ref a2), .val (.long (900 : Int64)), .second, .val (.long u26), .second, .unset, .unset, .unset, .unset, .unset, .unset, .unset, .unset, .unset, .unset] [(.long n1)]))) (fun _ k => XT.lloadN X23.here hx rfl (hb hby at_83) rfl k) ?_
      refine OGoal.mp (S' := (T22.setTop (mkF m 87 #[.val (.long p1), .second, .val (.int p2), .val (.long n1), .second, .val (.int (p2 &&& (3 : Int32))), .val (.ref a2), .val (.long (900 : Int64)), .second, .val (.long u26), .second, .unset, .unset, .unset, .unset, .unset, .unset, .unset, .unset, .unset, .unset] [(.long (1023 : Int64)), (.long n1)]))) (fun _ k => Stand.ldc2J X23 hx hown (mvT hZ (hw _ (List.mem_of_getElem? (i := 5) rfl))) rfl (hb hby at_84) k) ?_
      refine OGoal.mp (S' := (T22.setTop (mkF m 88 #[.val (.long p1), .second, .val (.int p2), .val (.long n1), .second, .val (.int (p2 &&& (3 : Int32))), .val (.ref a2), .val (.long (900 : Int64)), .second, .val (.long u26), .second, .unset, .unset, .unset, .unset, .unset, .unset, .unset, .unset, .unset, .unset] [(.long (n1 &&& (1023 : Int64)))]))) (fun _ k => XT.land X23.here hx rfl (hb hby at_87) rfl k) ?_
      refine OGoal.mp (S' := (T22.setTop (mkF m 90 #[.val (.long p1), .second, .val (.int p2), .val (.long n1), .second, .val (.int (p2 &&& (3 : Int32))), .val (.ref a2), .val (.long (900 : Int64)), .second, .val (.long u26), .second, .val (.long (n1 &&& (1023 : Int64))), .second, .unset, .unset, .unset, .unset, .unset, .unset, .unset, .unset] []))) (fun _ k => XT.lstore X23.here hx rfl (hb hby at_88) rfl (l' := #[.val (.long p1), .second, .val (.int p2), .val (.long n1), .second, .val (.int (p2 &&& (3 : Int32))), .val (.ref a2), .val (.long (900 : Int64)), .second, .val (.long u26), .second, .val (.long (n1 &&& (1023 : Int64))), .second, .unset, .unset, .unset, .unset, .unset, .unset, .unset, .unset]) rfl k) ?_
      obtain ⟨u27, hu27⟩ : ∃ z, z = (n1 &&& (1023 : Int64)) := ⟨_, rfl⟩
      rw [← hu27]
      refine OGoal.mp (S' := (T22.setTop (mkF m 92 #[.val (.long p1), .second, .val (.int p2), .val (.long n1), .second, .val (.int (p2 &&& (3 : Int32))), .val (.ref a2), .val (.long (900 : Int64)), .second, .val (.long u26), .second, .val (.long u27), .second, .unset, .unset, .unset, .unset, .unset, .unset, .unset, .unset] [(.long (900 : Int64))]))) (fun _ k => XT.lload X23.here hx rfl (hb hby at_90) rfl k) ?_
      refine OGoal.mp (S' := (T22.setTop (mkF m 94 #[.val (.long p1), .second, .val (.int p2), .val (.long n1), .second, .val (.int (p2 &&& (3 : Int32))), .val (.ref a2), .val (.long (900 : Int64)), .second, .val (.long u26), .second, .val (.long u27), .second, .unset, .unset, .unset, .unset, .unset, .unset, .unset, .unset] [(.long u26), (.long (900 : Int64))]))) (fun _ k => XT.lload X23.here hx rfl (hb hby at_92) rfl k) ?_
      refine OGoal.mp (S' := (T22.setTop (mkF m 95 #[.val (.long p1), .second, .val (.int p2), .val (.long n1), .second, .val (.int (p2 &&& (3 : Int32))), .val (.ref a2), .val (.long (900 : Int64)), .second, .val (.long u26), .second, .val (.long u27), .second, .unset, .unset, .unset, .unset, .unset, .unset, .unset, .unset] [(.long ((900 : Int64) * u26))]))) (fun _ k => XT.lmul X23.here hx rfl (hb hby at_94) rfl k) ?_
      refine OGoal.mp (S' := (T22.setTop (mkF m 97 #[.val (.long p1), .second, .val (.int p2), .val (.long n1), .second, .val (.int (p2 &&& (3 : Int32))), .val (.ref a2), .val (.long (900 : Int64)), .second, .val (.long u26), .second, .val (.long u27), .second, .val (.long ((900 : Int64) * u26)), .second, .unset, .unset, .unset, .unset, .unset, .unset] []))) (fun _ k => XT.lstore X23.here hx rfl (hb hby at_95) rfl (l' := #[.val (.long p1), .second, .val (.int p2), .val (.long n1), .second, .val (.int (p2 &&& (3 : Int32))), .val (.ref a2), .val (.long (900 : Int64)), .second, .val (.long u26), .second, .val (.long u27), .second, .val (.long ((900 : Int64) * u26)), .second, .unset, .unset, .unset, .unset, .unset, .unset]) rfl k) ?_
      obtain ⟨u28, hu28⟩ : ∃ z, z = ((900 : Int64) * u26) := ⟨_, rfl⟩
      rw [← hu28]
      refine OGoal.mp (S' := (T22.setTop (mkF m 99 #[.val (.long p1), .second, .val (.int p2), .val (.long n1), .second, .val (.int (p2 &&& (3 : Int32))), .val (.ref a2), .val (.long (900 : Int64)), .second, .val (.long u26), .second, .val (.long u27), .second, .val (.long u28), .second, .unset, .unset, .unset, .unset, .unset, .unset] [(.long u28)]))) (fun _ k => XT.lload X23.here hx rfl (hb hby at_97) rfl k) ?_
      refine OGoal.mp (S' := (T22.setTop (mkF m 102 #[.val (.long p1), .second, .val (.int p2), .val (.long n1), .second, .val (.int (p2 &&& (3 : Int32))), .val (.ref a2), .val (.long (900 : Int64)), .second, .val (.long u26), .second, .val (.long u27), .second, .val (.long u28), .second, .unset, .unset, .unset, .unset, .unset, .unset] [(.long (125 : Int64)), (.long u28)]))) (fun _ k => Stand.ldc2J X23 hx hown (mvT hZ (hw _ (List.mem_of_getElem? (i := 6) rfl))) rfl (hb hby at_99) k) ?_
      refine OGoal.mp (S' := (T22.setTop (mkF m 103 #[.val (.long p1), .second, .val (.int p2), .val (.long n1), .second, .val (.int (p2 &&& (3 : Int32))), .val (.ref a2), .val (.long (900 : Int64)), .second, .val (.long u26), .second, .val (.long u27), .second, .val (.long u28), .second, .unset, .unset, .unset, .unset, .unset, .unset] [(.long (u28 / (125 : Int64)))]))) (fun _ k => XT.ldiv X23.here hx rfl (hb hby at_102) rfl (by decide) k) ?_
      refine OGoal.mp (S' := (T22.setTop (mkF m 105 #[.val (.long p1), .second, .val (.int p2), .val (.long n1), .second, .val (.int (p2 &&& (3 : Int32))), .val (.ref a2), .val (.long (900 : Int64)), .second, .val (.long u26), .second, .val (.long u27), .second, .val (.long u28), .second, .val (.long (u28 / (125 : Int64))), .second, .unset, .unset, .unset, .unset] []))) (fun _ k => XT.lstore X23.here hx rfl (hb hby at_103) rfl (l' := #[.val (.long p1), .second, .val (.int p2), .val (.long n1), .second, .val (.int (p2 &&& (3 : Int32))), .val (.ref a2), .val (.long (900 : Int64)), .second, .val (.long u26), .second, .val (.long u27), .second, .val (.long u28), .second, .val (.long (u28 / (125 : Int64))), .second, .unset, .unset, .unset, .unset]) rfl k) ?_
      obtain ⟨u29, hu29⟩ : ∃ z, z = (u28 / (125 : Int64)) := ⟨_, rfl⟩
      rw [← hu29]
      refine OGoal.mp (S' := (T22.setTop (mkF m 107 #[.val (.long p1), .second, .val (.int p2), .val (.long n1), .second, .val (.int (p2 &&& (3 : Int32))), .val (.ref a2), .val (.long (900 : Int64)), .second, .val (.long u26), .second, .val (.long u27), .second, .val (.long u28), .second, .val (.long u29), .second, .unset, .unset, .unset, .unset] [(.long u28)]))) (fun _ k => XT.lload X23.here hx rfl (hb hby at_105) rfl k) ?_
      refine OGoal.mp (S' := (T22.setTop (mkF m 110 #[.val (.long p1), .second, .val (.int p2), .val (.long n1), .second, .val (.int (p2 &&& (3 : Int32))), .val (.ref a2), .val (.long (900 : Int64)), .second, .val (.long u26), .second, .val (.long u27), .second, .val (.long u28), .second, .val (.long u29), .second, .unset, .unset, .unset, .unset] [(.long (125 : Int64)), (.long u28)]))) (fun _ k => Stand.ldc2J X23 hx hown (mvT hZ (hw _ (List.mem_of_getElem? (i := 6) rfl))) rfl (hb hby at_107) k) ?_
      refine OGoal.mp (S' := (T22.setTop (mkF m 111 #[.val (.long p1), .second, .val (.int p2), .val (.long n1), .second, .val (.int (p2 &&& (3 : Int32))), .val (.ref a2), .val (.long (900 : Int64)), .second, .val (.long u26), .second, .val (.long u27), .second, .val (.long u28), .second, .val (.long u29), .second, .unset, .unset, .unset, .unset] [(.long (u28 % (125 : Int64)))]))) (fun _ k => oLrem X23 hx rfl (hb hby at_110) rfl (by decide) k) ?_
      refine OGoal.mp (S' := (T22.setTop (mkF m 113 #[.val (.long p1), .second, .val (.int p2), .val (.long n1), .second, .val (.int (p2 &&& (3 : Int32))), .val (.ref a2), .val (.long (900 : Int64)), .second, .val (.long u26), .second, .val (.long u27), .second, .val (.long u28), .second, .val (.long u29), .second, .val (.long (u28 % (125 : Int64))), .second, .unset, .unset] []))) (fun _ k => XT.lstore X23.here hx rfl (hb hby at_111) rfl (l' := #[.val (.long p1), .second, .val (.int p2), .val (.long n1), .second, .val (.int (p2 &&& (3 : Int32))), .val (.ref a2), .val (.long (900 : Int64)), .second, .val (.long u26), .second, .val (.long u27), .second, .val (.long u28), .second, .val (.long u29), .second, .val (.long (u28 % (125 : Int64))), .second, .unset, .unset]) rfl k) ?_
      obtain ⟨u30, hu30⟩ : ∃ z, z = (u28 % (125 : Int64)) := ⟨_, rfl⟩
      rw [← hu30]
      refine OGoal.mp (S' := (T22.setTop (mkF m 116 #[.val (.long p1), .second, .val (.int p2), .val (.long n1), .second, .val (.int (p2 &&& (3 : Int32))), .val (.ref a2), .val (.long (900 : Int64)), .second, .val (.long u26), .second, .val (.long u27), .second, .val (.long u28), .second, .val (.long u29), .second, .val (.long u30), .second, .unset, .unset] [(.long (128 : Int64))]))) (fun _ k => Stand.ldc2J X23 hx hown (mvT hZ (hw _ (List.mem_of_getElem? (i := 7) rfl))) rfl (hb hby at_113) k) ?_
      refine OGoal.mp (S' := (T22.setTop (mkF m 118 #[.val (.long p1), .second, .val (.int p2), .val (.long n1), .second, .val (.int (p2 &&& (3 : Int32))), .val (.ref a2), .val (.long (900 : Int64)), .second, .val (.long u26), .second, .val (.long u27), .second, .val (.long u28), .second, .val (.long u29), .second, .val (.long u30), .second, .unset, .unset] [(.long u29), (.long (128 : Int64))]))) (fun _ k => XT.lload X23.here hx rfl (hb hby at_116) rfl k) ?_
      refine OGoal.mp (S' := (T22.setTop (mkF m 119 #[.val (.long p1), .second, .val (.int p2), .val (.long n1), .second, .val (.int (p2 &&& (3 : Int32))), .val (.ref a2), .val (.long (900 : Int64)), .second, .val (.long u26), .second, .val (.long u27), .second, .val (.long u28), .second, .val (.long u29), .second, .val (.long u30), .second, .unset, .unset] [(.long ((128 : Int64) * u29))]))) (fun _ k => XT.lmul X23.here hx rfl (hb hby at_118) rfl k) ?_
      refine OGoal.mp (S' := (T22.setTop (mkF m 122 #[.val (.long p1), .second, .val (.int p2), .val (.long n1), .second, .val (.int (p2 &&& (3 : Int32))), .val (.ref a2), .val (.long (900 : Int64)), .second, .val (.long u26), .second, .val (.long u27), .second, .val (.long u28), .second, .val (.long u29), .second, .val (.long u30), .second, .unset, .unset] [(.long (1024 : Int64)), (.long ((128 : Int64) * u29))]))) (fun _ k => Stand.ldc2J X23 hx hown (mvT hZ (hw _ (List.mem_of_getElem? (i := 8) rfl))) rfl (hb hby at_119) k) ?_
      refine OGoal.mp (S' := (T22.setTop (mkF m 124 #[.val (.long p1), .second, .val (.int p2), .val (.long n1), .second, .val (.int (p2 &&& (3 : Int32))), .val (.ref a2), .val (.long (900 : Int64)), .second, .val (.long u26), .second, .val (.long u27), .second, .val (.long u28), .second, .val (.long u29), .second, .val (.long u30), .second, .unset, .unset] [(.long u30), (.long (1024 : Int64)), (.long ((128 : Int64) * u29))]))) (fun _ k => XT.lload X23.here hx rfl (hb hby at_122) rfl k) ?_
      refine OGoal.mp (S' := (T22.setTop (mkF m 125 #[.val (.long p1), .second, .val (.int p2), .val (.long n1), .second, .val (.int (p2 &&& (3 : Int32))), .val (.ref a2), .val (.long (900 : Int64)), .second, .val (.long u26), .second, .val (.long u27), .second, .val (.long u28), .second, .val (.long u29), .second, .val (.long u30), .second, .unset, .unset] [(.long ((1024 : Int64) * u30)), (.long ((128 : Int64) * u29))]))) (fun _ k => XT.lmul X23.here hx rfl (hb hby at_124) rfl k) ?_
      refine OGoal.mp (S' := (T22.setTop (mkF m 127 #[.val (.long p1), .second, .val (.int p2), .val (.long n1), .second, .val (.int (p2 &&& (3 : Int32))), .val (.ref a2), .val (.long (900 : Int64)), .second, .val (.long u26), .second, .val (.long u27), .second, .val (.long u28), .second, .val (.long u29), .second, .val (.long u30), .second, .unset, .unset] [(.long (900 : Int64)), (.long ((1024 : Int64) * u30)), (.long ((128 : Int64) * u29))]))) (fun _ k => XT.lload X23.here hx rfl (hb hby at_125) rfl k) ?_
      refine OGoal.mp (S' := (T22.setTop (mkF m 129 #[.val (.long p1), .second, .val (.int p2), .val (.long n1), .second, .val (.int (p2 &&& (3 : Int32))), .val (.ref a2), .val (.long (900 : Int64)), .second, .val (.long u26), .second, .val (.long u27), .second, .val (.long u28), .second, .val (.long u29), .second, .val (.long u30), .second, .unset, .unset] [(.long u27), (.long (900 : Int64)), (.long ((1024 : Int64) * u30)), (.long ((128 : Int64) * u29))]))) (fun _ k => XT.lload X23.here hx rfl (hb hby at_127) rfl k) ?_
      refine OGoal.mp (S' := (T22.setTop (mkF m 130 #[.val (.long p1), .second, .val (.int p2), .val (.long n1), .second, .val (.int (p2 &&& (3 : Int32))), .val (.ref a2), .val (.long (900 : Int64)), .second, .val (.long u26), .second, .val (.long u27), .second, .val (.long u28), .second, .val (.long u29), .second, .val (.long u30), .second, .unset, .unset] [(.long ((900 : Int64) * u27)), (.long ((1024 : Int64) * u30)), (.long ((128 : Int64) * u29))]))) (fun _ k => XT.lmul X23.here hx rfl (hb hby at_129) rfl k) ?_
      refine OGoal.mp (S' := (T22.setTop (mkF m 131 #[.val (.long p1), .second, .val (.int p2), .val (.long n1), .second, .val (.int (p2 &&& (3 : Int32))), .val (.ref a2), .val (.long (900 : Int64)), .second, .val (.long u26), .second, .val (.long u27), .second, .val (.long u28), .second, .val (.long u29), .second, .val (.long u30), .second, .unset, .unset] [(.long (((1024 : Int64) * u30) + ((900 : Int64) * u27))), (.long ((128 : Int64) * u29))]))) (fun _ k => XT.ladd X23.here hx rfl (hb hby at_130) rfl k) ?_
      refine OGoal.mp (S' := (T22.setTop (mkF m 134 #[.val (.long p1), .second, .val (.int p2), .val (.long n1), .second, .val (.int (p2 &&& (3 : Int32))), .val (.ref a2), .val (.long (900 : Int64)), .second, .val (.long u26), .second, .val (.long u27), .second, .val (.long u28), .second, .val (.long u29), .second, .val (.long u30), .second, .unset, .unset] [(.long (999 : Int64)), (.long (((1024 : Int64) * u30) + ((900 : Int64) * u27))), (.long ((128 : Int64) * u29))]))) (fun _ k => Stand.ldc2J X23 hx hown (mvT hZ (hw _ (List.mem_of_getElem? (i := 9) rfl))) rfl (hb hby at_131) k) ?_
      refine OGoal.mp (S' := (T22.setTop (mkF m 135 #[.val (.long p1), .second, .val (.int p2), .val (.long n1), .second, .val (.int (p2 &&& (3 : Int32))), .val (.ref a2), .val (.long (900 : Int64)), .second, .val (.long u26), .second, .val (.long u27), .second, .val (.long u28), .second, .val (.long u29), .second, .val (.long u30), .second, .unset, .unset] [(.long ((((1024 : Int64) * u30) + ((900 : Int64) * u27)) + (999 : Int64))), (.long ((128 : Int64) * u29))]))) (fun _ k => XT.ladd X23.here hx rfl (hb hby at_134) rfl k) ?_
      refine OGoal.mp (S' := (T22.setTop (mkF m 138 #[.val (.long p1), .second, .val (.int p2), .val (.long n1), .second, .val (.int (p2 &&& (3 : Int32))), .val (.ref a2), .val (.long (900 : Int64)), .second, .val (.long u26), .second, .val (.long u27), .second, .val (.long u28), .second, .val (.long u29), .second, .val (.long u30), .second, .unset, .unset] [(.long (1000 : Int64)), (.long ((((1024 : Int64) * u30) + ((900 : Int64) * u27)) + (999 : Int64))), (.long ((128 : Int64) * u29))]))) (fun _ k => Stand.ldc2J X23 hx hown (mvT hZ (hw _ (List.mem_of_getElem? (i := 10) rfl))) rfl (hb hby at_135) k) ?_
      refine OGoal.mp (S' := (T22.setTop (mkF m 139 #[.val (.long p1), .second, .val (.int p2), .val (.long n1), .second, .val (.int (p2 &&& (3 : Int32))), .val (.ref a2), .val (.long (900 : Int64)), .second, .val (.long u26), .second, .val (.long u27), .second, .val (.long u28), .second, .val (.long u29), .second, .val (.long u30), .second, .unset, .unset] [(.long (((((1024 : Int64) * u30) + ((900 : Int64) * u27)) + (999 : Int64)) / (1000 : Int64))), (.long ((128 : Int64) * u29))]))) (fun _ k => XT.ldiv X23.here hx rfl (hb hby at_138) rfl (by decide) k) ?_
      refine OGoal.mp (S' := (T22.setTop (mkF m 140 #[.val (.long p1), .second, .val (.int p2), .val (.long n1), .second, .val (.int (p2 &&& (3 : Int32))), .val (.ref a2), .val (.long (900 : Int64)), .second, .val (.long u26), .second, .val (.long u27), .second, .val (.long u28), .second, .val (.long u29), .second, .val (.long u30), .second, .unset, .unset] [(.long (((128 : Int64) * u29) + (((((1024 : Int64) * u30) + ((900 : Int64) * u27)) + (999 : Int64)) / (1000 : Int64))))]))) (fun _ k => XT.ladd X23.here hx rfl (hb hby at_139) rfl k) ?_
      refine OGoal.mp (S' := (T22.setTop (mkF m 142 #[.val (.long p1), .second, .val (.int p2), .val (.long n1), .second, .val (.int (p2 &&& (3 : Int32))), .val (.ref a2), .val (.long (900 : Int64)), .second, .val (.long u26), .second, .val (.long u27), .second, .val (.long u28), .second, .val (.long u29), .second, .val (.long u30), .second, .val (.long (((128 : Int64) * u29) + (((((1024 : Int64) * u30) + ((900 : Int64) * u27)) + (999 : Int64)) / (1000 : Int64)))), .second] []))) (fun _ k => XT.lstore X23.here hx rfl (hb hby at_140) rfl (l' := #[.val (.long p1), .second, .val (.int p2), .val (.long n1), .second, .val (.int (p2 &&& (3 : Int32))), .val (.ref a2), .val (.long (900 : Int64)), .second, .val (.long u26), .second, .val (.long u27), .second, .val (.long u28), .second, .val (.long u29), .second, .val (.long u30), .second, .val (.long (((128 : Int64) * u29) + (((((1024 : Int64) * u30) + ((900 : Int64) * u27)) + (999 : Int64)) / (1000 : Int64)))), .second]) rfl k) ?_
      obtain ⟨u31, hu31⟩ : ∃ z, z = (((128 : Int64) * u29) + (((((1024 : Int64) * u30) + ((900 : Int64) * u27)) + (999 : Int64)) / (1000 : Int64))) := ⟨_, rfl⟩
      rw [← hu31]
      refine OGoal.mp (S' := (T22.setTop (mkF m 144 #[.val (.long p1), .second, .val (.int p2), .val (.long n1), .second, .val (.int (p2 &&& (3 : Int32))), .val (.ref a2), .val (.long (900 : Int64)), .second, .val (.long u26), .second, .val (.long u27), .second, .val (.long u28), .second, .val (.long u29), .second, .val (.long u30), .second, .val (.long u31), .second] [(.ref a2)]))) (fun _ k => XS.aload X23.here hx rfl (hb hby at_142) rfl rfl k) ?_
      refine OGoal.mp (S' := (T22.setTop (mkF m 145 #[.val (.long p1), .second, .val (.int p2), .val (.long n1), .second, .val (.int (p2 &&& (3 : Int32))), .val (.ref a2), .val (.long (900 : Int64)), .second, .val (.long u26), .second, .val (.long u27), .second, .val (.long u28), .second, .val (.long u29), .second, .val (.long u30), .second, .val (.long u31), .second] [(.long n1), (.ref a2)]))) (fun _ k => XT.lloadN X23.here hx rfl (hb hby at_144) rfl k) ?_
      refine oCallV (y := (⟨"com/example/pausemark/pausemark/analysis/Percentile", "rankAmong", "(J)J"⟩ : MethodName)) (z := (⟨"com/example/pausemark/pausemark/analysis/Percentile", "rankAmong", "(J)J"⟩ : MethodName)) X23 hx hZ hown (hw _ (List.mem_of_getElem? (i := 11) rfl)) (hw _ (List.mem_of_getElem? (i := 12) rfl)) (hw _ (List.mem_of_getElem? (i := 14) rfl)) (hw _ (List.mem_of_getElem? (i := 13) rfl)) (hw _ (List.mem_of_getElem? (i := 2) rfl)) (hw _ (List.mem_of_getElem? (i := 15) rfl)) (by decide) (rmA l Z a0 hw a2 n1 (900 : Int64) h0 n0 Z0 Fa2) e24 Ea2 [(.long n1)] [] rfl rfl (by rw [hml]; rfl) (notFace_of_selects (args := #[]) (mvT hZ (hw _ (List.mem_of_getElem? (i := 14) rfl)))) (lenOf own_pd__J_J rfl) 0 (Nat.le_of_eq rfl) (by decide) (by decide) (by decide) (by decide) (hb hby at_145) ?_
      intro v32 T33 L34 X35 q36
      obtain ⟨rfl, N37, e38⟩ := q36
      have N39 := Fr.app (Fr.nil n0) N37
      show OGoal p e below s _ _ _ (T33.setTop (mkF m 148 #[.val (.long p1), .second, .val (.int p2), .val (.long n1), .second, .val (.int (p2 &&& (3 : Int32))), .val (.ref a2), .val (.long (900 : Int64)), .second, .val (.long u26), .second, .val (.long u27), .second, .val (.long u28), .second, .val (.long u29), .second, .val (.long u30), .second, .val (.long u31), .second] [(.long (own_rank n1 (900 : Int64)))]))
      refine OGoal.mp (S' := (T33.setTop (mkF m 150 #[.val (.long p1), .second, .val (.int p2), .val (.long n1), .second, .val (.int (p2 &&& (3 : Int32))), .val (.ref a2), .val (.long (900 : Int64)), .second, .val (.long u26), .second, .val (.long u27), .second, .val (.long u28), .second, .val (.long u29), .second, .val (.long u30), .second, .val (.long u31), .second] [(.long u31), (.long (own_rank n1 (900 : Int64)))]))) (fun _ k => XT.lload X35.here hx rfl (hb hby at_148) rfl k) ?_
      refine OGoal.mp (S' := (T33.setTop (mkF m 151 #[.val (.long p1), .second, .val (.int p2), .val (.long n1), .second, .val (.int (p2 &&& (3 : Int32))), .val (.ref a2), .val (.long (900 : Int64)), .second, .val (.long u26), .second, .val (.long u27), .second, .val (.long u28), .second, .val (.long u29), .second, .val (.long u30), .second, .val (.long u31), .second] [(.int (XT.cmpL (own_rank n1 (900 : Int64)) u31))]))) (fun _ k => XT.lcmp X35.here hx rfl (hb hby at_150) rfl k) ?_
      refine OGoal.mp (S' := (T33.setTop (mkF m 154 #[.val (.long p1), .second, .val (.int p2), .val (.long n1), .second, .val (.int (p2 &&& (3 : Int32))), .val (.ref a2), .val (.long (900 : Int64)), .second, .val (.long u26), .second, .val (.long u27), .second, .val (.long u28), .second, .val (.long u29), .second, .val (.long u30), .second, .val (.long u31), .second] []))) (fun _ k => XS.ifNo X35.here hx rfl (hb hby at_151) rfl (XT.ll_ne_f (by subst hu31 hu30 hu29 hu28 hu27 hu26; exact own_rk900 n1 hpos)) k) ?_
      refine OGoal.mp (S' := (T33.setTop (mkF m 155 #[.val (.long p1), .second, .val (.int p2), .val (.long n1), .second, .val (.int (p2 &&& (3 : Int32))), .val (.ref a2), .val (.long (900 : Int64)), .second, .val (.long u26), .second, .val (.long u27), .second, .val (.long u28), .second, .val (.long u29), .second, .val (.long u30), .second, .val (.long u31), .second] [(.int (1 : Int32))]))) (fun _ k => XS.iconst X35.here hx rfl (hb hby at_154) k) ?_
      refine OGoal.mp (S' := (T33.setTop (mkF m 159 #[.val (.long p1), .second, .val (.int p2), .val (.long n1), .second, .val (.int (p2 &&& (3 : Int32))), .val (.ref a2), .val (.long (900 : Int64)), .second, .val (.long u26), .second, .val (.long u27), .second, .val (.long u28), .second, .val (.long u29), .second, .val (.long u30), .second, .val (.long u31), .second] [(.int (1 : Int32))]))) (fun _ k => XS.goto X35.here hx rfl (pc0 := 155) (pc' := 159) rfl (hb hby at_155) (by decide) (by decide) k) ?_
      refine oRetZ X35 hx hlk hret (Or.inr rfl) (hb hby at_159) ?_ (by decide) (by decide)
      exact ⟨rfl, N39⟩
    · refine OGoal.mp (S' := (s₁.setTop (mkF m 48 #[.val (.long p1), .second, .val (.int p2), .val (.long n1), .second, .val (.int (p2 &&& (3 : Int32))), .unset, .unset, .unset, .unset, .unset, .unset, .unset, .unset, .unset, .unset, .unset, .unset, .unset, .unset, .unset] []))) (fun _ k => XS.icmpYes X0.here hx rfl (pc0 := 32) (pc' := 48) rfl (hb hby at_32) rfl (XT.ii_ne_t hc21) (by decide) (by decide) k) ?_
      refine OGoal.mp (S' := (s₁.setTop (mkF m 50 #[.val (.long p1), .second, .val (.int p2), .val (.long n1), .second, .val (.int (p2 &&& (3 : Int32))), .unset, .unset, .unset, .unset, .unset, .unset, .unset, .unset, .unset, .unset, .unset, .unset, .unset, .unset, .unset] [(.int (p2 &&& (3 : Int32)))]))) (fun _ k => XS.iload X0.here hx rfl (hb hby at_48) rfl k) ?_
      refine OGoal.mp (S' := (s₁.setTop (mkF m 51 #[.val (.long p1), .second, .val (.int p2), .val (.long n1), .second, .val (.int (p2 &&& (3 : Int32))), .unset, .unset, .unset, .unset, .unset, .unset, .unset, .unset, .unset, .unset, .unset, .unset, .unset, .unset, .unset] [(.int (2 : Int32)), (.int (p2 &&& (3 : Int32)))]))) (fun _ k => XS.iconst X0.here hx rfl (hb hby at_50) k) ?_
      by_cases hc40 : (p2 &&& (3 : Int32)) = (2 : Int32)
      · refine OGoal.mp (S' := (s₁.setTop (mkF m 54 #[.val (.long p1), .second, .val (.int p2), .val (.long n1), .second, .val (.int (p2 &&& (3 : Int32))), .unset, .unset, .unset, .unset, .unset, .unset, .unset, .unset, .unset, .unset, .unset, .unset, .unset, .unset, .unset] []))) (fun _ k => XS.icmpNo X0.here hx rfl (hb hby at_51) rfl (XT.ii_ne_f hc40) k) ?_
        obtain ⟨T41, X42, e43, st44⟩ := getS X0 hx hZ hown (host := "") (hw _ (List.mem_of_getElem? (i := 1) rfl)) Via.refl e0 Sa3 (g := mkF m 54 #[.val (.long p1), .second, .val (.int p2), .val (.long n1), .second, .val (.int (p2 &&& (3 : Int32))), .unset, .unset, .unset, .unset, .unset, .unset, .unset, .unset, .unset, .unset, .unset, .unset, .unset, .unset, .unset] []) rfl (hb hby at_54)
        refine OGoal.mp (S' := (T41.setTop (mkF m 57 #[.val (.long p1), .second, .val (.int p2), .val (.long n1), .second, .val (.int (p2 &&& (3 : Int32))), .unset, .unset, .unset, .unset, .unset, .unset, .unset, .unset, .unset, .unset, .unset, .unset, .unset, .unset, .unset] [(.ref a3)]))) (fun _ k => st44 _ k) ?_
        refine OGoal.mp (S' := (T41.setTop (mkF m 59 #[.val (.long p1), .second, .val (.int p2), .val (.long n1), .second, .val (.int (p2 &&& (3 : Int32))), .val (.ref a3), .unset, .unset, .unset, .unset, .unset, .unset, .unset, .unset, .unset, .unset, .unset, .unset, .unset, .unset] []))) (fun _ k => XS.astore X42.here hx rfl (hb hby at_57) rfl rfl (l' := #[.val (.long p1), .second, .val (.int p2), .val (.long n1), .second, .val (.int (p2 &&& (3 : Int32))), .val (.ref a3), .unset, .unset, .unset, .unset, .unset, .unset, .unset, .unset, .unset, .unset, .unset, .unset, .unset, .unset]) rfl k) ?_
        refine OGoal.mp (S' := (T41.setTop (mkF m 62 #[.val (.long p1), .second, .val (.int p2), .val (.long n1), .second, .val (.int (p2 &&& (3 : Int32))), .val (.ref a3), .unset, .unset, .unset, .unset, .unset, .unset, .unset, .unset, .unset, .unset, .unset, .unset, .unset, .unset] [(.long (990 : Int64))]))) (fun _ k => Stand.ldc2J X42 hx hown (mvT hZ (hw _ (List.mem_of_getElem? (i := 4) rfl))) rfl (hb hby at_59) k) ?_
        refine OGoal.mp (S' := (T41.setTop (mkF m 64 #[.val (.long p1), .second, .val (.int p2), .val (.long n1), .second, .val (.int (p2 &&& (3 : Int32))), .val (.ref a3), .val (.long (990 : Int64)), .second, .unset, .unset, .unset, .unset, .unset, .unset, .unset, .unset, .unset, .unset, .unset, .unset] []))) (fun _ k => XT.lstore X42.here hx rfl (hb hby at_62) rfl (l' := #[.val (.long p1), .second, .val (.int p2), .val (.long n1), .second, .val (.int (p2 &&& (3 : Int32))), .val (.ref a3), .val (.long (990 : Int64)), .second, .unset, .unset, .unset, .unset, .unset, .unset, .unset, .unset, .unset, .unset, .unset, .unset]) rfl k) ?_
        refine OGoal.mp (S' := (T41.setTop (mkF m 77 #[.val (.long p1), .second, .val (.int p2), .val (.long n1), .second, .val (.int (p2 &&& (3 : Int32))), .val (.ref a3), .val (.long (990 : Int64)), .second, .unset, .unset, .unset, .unset, .unset, .unset, .unset, .unset, .unset, .unset, .unset, .unset] []))) (fun _ k => XS.goto X42.here hx rfl (pc0 := 64) (pc' := 77) rfl (hb hby at_64) (by decide) (by decide) k) ?_
        refine OGoal.mp (S' := (T41.setTop (mkF m 78 #[.val (.long p1), .second, .val (.int p2), .val (.long n1), .second, .val (.int (p2 &&& (3 : Int32))), .val (.ref a3), .val (.long (990 : Int64)), .second, .unset, .unset, .unset, .unset, .unset, .unset, .unset, .unset, .unset, .unset, .unset, .unset] [(.long n1)]))) (fun _ k => XT.lloadN X42.here hx rfl (hb hby at_77) rfl k) ?_
        refine OGoal.mp (S' := (T41.setTop (mkF m 80 #[.val (.long p1), .second, .val (.int p2), .val (.long n1), .second, .val (.int (p2 &&& (3 : Int32))), .val (.ref a3), .val (.long (990 : Int64)), .second, .unset, .unset, .unset, .unset, .unset, .unset, .unset, .unset, .unset, .unset, .unset, .unset] [(.int (10 : Int32)), (.long n1)]))) (fun _ k => XS.bipush X42.here hx rfl (hb hby at_78) k) ?_
        refine OGoal.mp (S' := (T41.setTop (mkF m 81 #[.val (.long p1), .second, .val (.int p2), .val (.long n1), .second, .val (.int (p2 &&& (3 : Int32))), .val (.ref a3), .val (.long (990 : Int64)), .second, .unset, .unset, .unset, .unset, .unset, .unset, .unset, .unset, .unset, .unset, .unset, .unset] [(.long (XT.ushrL n1 (10 : Int32)))]))) (fun _ k => XT.lushr X42.here hx rfl (hb hby at_80) rfl k) ?_
        refine OGoal.mp (S' := (T41.setTop (mkF m 83 #[.val (.long p1), .second, .val (.int p2), .val (.long n1), .second, .val (.int (p2 &&& (3 : Int32))), .val (.ref a3), .val (.long (990 : Int64)), .second, .val (.long (XT.ushrL n1 (10 : Int32))), .second, .unset, .unset, .unset, .unset, .unset, .unset, .unset, .unset, .unset, .unset] []))) (fun _ k => XT.lstore X42.here hx rfl (hb hby at_81) rfl (l' := #[.val (.long p1), .second, .val (.int p2), .val (.long n1), .second, .val (.int (p2 &&& (3 : Int32))), .val (.ref a3), .val (.long (990 : Int64)), .second, .val (.long (XT.ushrL n1 (10 : Int32))), .second, .unset, .unset, .unset, .unset, .unset, .unset, .unset, .unset, .unset, .unset]) rfl k) ?_
        obtain ⟨u45, hu45⟩ : ∃ z, z = (XT.ushrL n1 (10 : Int32)) := ⟨_, rfl⟩
        rw [← hu45]
        refine OGoal.mp (S' := (T41.setTop (mkF m 84 #[.val (.long p1), .second, .val (.int p2), .val (.long n1), .second, .val (.int (p2 &&& (3 : Int32))), .val (.ref a3), .val (.long (990 : Int64)), .second, .val (.long u45), .second, .unset, .unset, .unset, .unset, .unset, .unset, .unset, .unset, .unset, .unset] [(.long n1)]))) (fun _ k => XT.lloadN X42.here hx rfl (hb hby at_83) rfl k) ?_
        refine OGoal.mp (S' := (T41.setTop (mkF m 87 #[.val (.long p1), .second, .val (.int p2), .val (.long n1), .second, .val (.int (p2 &&& (3 : Int32))), .val (.ref a3), .val (.long (990 : Int64)), .second, .val (.long u45), .second, .unset, .unset, .unset, .unset, .unset, .unset, .unset, .unset, .unset, .unset] [(.long (1023 : Int64)), (.long n1)]))) (fun _ k => Stand.ldc2J X42 hx hown (mvT hZ (hw _ (List.mem_of_getElem? (i := 5) rfl))) rfl (hb hby at_84) k) ?_
        refine OGoal.mp (S' := (T41.setTop (mkF m 88 #[.val (.long p1), .second, .val (.int p2), .val (.long n1), .second, .val (.int (p2 &&& (3 : Int32))), .val (.ref a3), .val (.long (990 : Int64)), .second, .val (.long u45), .second, .unset, .unset, .unset, .unset, .unset, .unset, .unset, .unset, .unset, .unset] [(.long (n1 &&& (1023 : Int64)))]))) (fun _ k => XT.land X42.here hx rfl (hb hby at_87) rfl k) ?_
        refine OGoal.mp (S' := (T41.setTop (mkF m 90 #[.val (.long p1), .second, .val (.int p2), .val (.long n1), .second, .val (.int (p2 &&& (3 : Int32))), .val (.ref a3), .val (.long (990 : Int64)), .second, .val (.long u45), .second, .val (.long (n1 &&& (1023 : Int64))), .second, .unset, .unset, .unset, .unset, .unset, .unset, .unset, .unset] []))) (fun _ k => XT.lstore X42.here hx rfl (hb hby at_88) rfl (l' := #[.val (.long p1), .second, .val (.int p2), .val (.long n1), .second, .val (.int (p2 &&& (3 : Int32))), .val (.ref a3), .val (.long (990 : Int64)), .second, .val (.long u45), .second, .val (.long (n1 &&& (1023 : Int64))), .second, .unset, .unset, .unset, .unset, .unset, .unset, .unset, .unset]) rfl k) ?_
        obtain ⟨u46, hu46⟩ : ∃ z, z = (n1 &&& (1023 : Int64)) := ⟨_, rfl⟩
        rw [← hu46]
        refine OGoal.mp (S' := (T41.setTop (mkF m 92 #[.val (.long p1), .second, .val (.int p2), .val (.long n1), .second, .val (.int (p2 &&& (3 : Int32))), .val (.ref a3), .val (.long (990 : Int64)), .second, .val (.long u45), .second, .val (.long u46), .second, .unset, .unset, .unset, .unset, .unset, .unset, .unset, .unset] [(.long (990 : Int64))]))) (fun _ k => XT.lload X42.here hx rfl (hb hby at_90) rfl k) ?_
        refine OGoal.mp (S' := (T41.setTop (mkF m 94 #[.val (.long p1), .second, .val (.int p2), .val (.long n1), .second, .val (.int (p2 &&& (3 : Int32))), .val (.ref a3), .val (.long (990 : Int64)), .second, .val (.long u45), .second, .val (.long u46), .second, .unset, .unset, .unset, .unset, .unset, .unset, .unset, .unset] [(.long u45), (.long (990 : Int64))]))) (fun _ k => XT.lload X42.here hx rfl (hb hby at_92) rfl k) ?_
        refine OGoal.mp (S' := (T41.setTop (mkF m 95 #[.val (.long p1), .second, .val (.int p2), .val (.long n1), .second, .val (.int (p2 &&& (3 : Int32))), .val (.ref a3), .val (.long (990 : Int64)), .second, .val (.long u45), .second, .val (.long u46), .second, .unset, .unset, .unset, .unset, .unset, .unset, .unset, .unset] [(.long ((990 : Int64) * u45))]))) (fun _ k => XT.lmul X42.here hx rfl (hb hby at_94) rfl k) ?_
        refine OGoal.mp (S' := (T41.setTop (mkF m 97 #[.val (.long p1), .second, .val (.int p2), .val (.long n1), .second, .val (.int (p2 &&& (3 : Int32))), .val (.ref a3), .val (.long (990 : Int64)), .second, .val (.long u45), .second, .val (.long u46), .second, .val (.long ((990 : Int64) * u45)), .second, .unset, .unset, .unset, .unset, .unset, .unset] []))) (fun _ k => XT.lstore X42.here hx rfl (hb hby at_95) rfl (l' := #[.val (.long p1), .second, .val (.int p2), .val (.long n1), .second, .val (.int (p2 &&& (3 : Int32))), .val (.ref a3), .val (.long (990 : Int64)), .second, .val (.long u45), .second, .val (.long u46), .second, .val (.long ((990 : Int64) * u45)), .second, .unset, .unset, .unset, .unset, .unset, .unset]) rfl k) ?_
        obtain ⟨u47, hu47⟩ : ∃ z, z = ((990 : Int64) * u45) := ⟨_, rfl⟩
        rw [← hu47]
        refine OGoal.mp (S' := (T41.setTop (mkF m 99 #[.val (.long p1), .second, .val (.int p2), .val (.long n1), .second, .val (.int (p2 &&& (3 : Int32))), .val (.ref a3), .val (.long (990 : Int64)), .second, .val (.long u45), .second, .val (.long u46), .second, .val (.long u47), .second, .unset, .unset, .unset, .unset, .unset, .unset] [(.long u47)]))) (fun _ k => XT.lload X42.here hx rfl (hb hby at_97) rfl k) ?_
        refine OGoal.mp (S' := (T41.setTop (mkF m 102 #[.val (.long p1), .second, .val (.int p2), .val (.long n1), .second, .val (.int (p2 &&& (3 : Int32))), .val (.ref a3), .val (.long (990 : Int64)), .second, .val (.long u45), .second, .val (.long u46), .second, .val (.long u47), .second, .unset, .unset, .unset, .unset, .unset, .unset] [(.long (125 : Int64)), (.long u47)]))) (fun _ k => Stand.ldc2J X42 hx hown (mvT hZ (hw _ (List.mem_of_getElem? (i := 6) rfl))) rfl (hb hby at_99) k) ?_
        refine OGoal.mp (S' := (T41.setTop (mkF m 103 #[.val (.long p1), .second, .val (.int p2), .val (.long n1), .second, .val (.int (p2 &&& (3 : Int32))), .val (.ref a3), .val (.long (990 : Int64)), .second, .val (.long u45), .second, .val (.long u46), .second, .val (.long u47), .second, .unset, .unset, .unset, .unset, .unset, .unset] [(.long (u47 / (125 : Int64)))]))) (fun _ k => XT.ldiv X42.here hx rfl (hb hby at_102) rfl (by decide) k) ?_
        refine OGoal.mp (S' := (T41.setTop (mkF m 105 #[.val (.long p1), .second, .val (.int p2), .val (.long n1), .second, .val (.int (p2 &&& (3 : Int32))), .val (.ref a3), .val (.long (990 : Int64)), .second, .val (.long u45), .second, .val (.long u46), .second, .val (.long u47), .second, .val (.long (u47 / (125 : Int64))), .second, .unset, .unset, .unset, .unset] []))) (fun _ k => XT.lstore X42.here hx rfl (hb hby at_103) rfl (l' := #[.val (.long p1), .second, .val (.int p2), .val (.long n1), .second, .val (.int (p2 &&& (3 : Int32))), .val (.ref a3), .val (.long (990 : Int64)), .second, .val (.long u45), .second, .val (.long u46), .second, .val (.long u47), .second, .val (.long (u47 / (125 : Int64))), .second, .unset, .unset, .unset, .unset]) rfl k) ?_
        obtain ⟨u48, hu48⟩ : ∃ z, z = (u47 / (125 : Int64)) := ⟨_, rfl⟩
        rw [← hu48]
        refine OGoal.mp (S' := (T41.setTop (mkF m 107 #[.val (.long p1), .second, .val (.int p2), .val (.long n1), .second, .val (.int (p2 &&& (3 : Int32))), .val (.ref a3), .val (.long (990 : Int64)), .second, .val (.long u45), .second, .val (.long u46), .second, .val (.long u47), .second, .val (.long u48), .second, .unset, .unset, .unset, .unset] [(.long u47)]))) (fun _ k => XT.lload X42.here hx rfl (hb hby at_105) rfl k) ?_
        refine OGoal.mp (S' := (T41.setTop (mkF m 110 #[.val (.long p1), .second, .val (.int p2), .val (.long n1), .second, .val (.int (p2 &&& (3 : Int32))), .val (.ref a3), .val (.long (990 : Int64)), .second, .val (.long u45), .second, .val (.long u46), .second, .val (.long u47), .second, .val (.long u48), .second, .unset, .unset, .unset, .unset] [(.long (125 : Int64)), (.long u47)]))) (fun _ k => Stand.ldc2J X42 hx hown (mvT hZ (hw _ (List.mem_of_getElem? (i := 6) rfl))) rfl (hb hby at_107) k) ?_
        refine OGoal.mp (S' := (T41.setTop (mkF m 111 #[.val (.long p1), .second, .val (.int p2), .val (.long n1), .second, .val (.int (p2 &&& (3 : Int32))), .val (.ref a3), .val (.long (990 : Int64)), .second, .val (.long u45), .second, .val (.long u46), .second, .val (.long u47), .second, .val (.long u48), .second, .unset, .unset, .unset, .unset] [(.long (u47 % (125 : Int64)))]))) (fun _ k => oLrem X42 hx rfl (hb hby at_110) rfl (by decide) k) ?_
        refine OGoal.mp (S' := (T41.setTop (mkF m 113 #[.val (.long p1), .second, .val (.int p2), .val (.long n1), .second, .val (.int (p2 &&& (3 : Int32))), .val (.ref a3), .val (.long (990 : Int64)), .second, .val (.long u45), .second, .val (.long u46), .second, .val (.long u47), .second, .val (.long u48), .second, .val (.long (u47 % (125 : Int64))), .second, .unset, .unset] []))) (fun _ k => XT.lstore X42.here hx rfl (hb hby at_111) rfl (l' := #[.val (.long p1), .second, .val (.int p2), .val (.long n1), .second, .val (.int (p2 &&& (3 : Int32))), .val (.ref a3), .val (.long (990 : Int64)), .second, .val (.long u45), .second, .val (.long u46), .second, .val (.long u47), .second, .val (.long u48), .second, .val (.long (u47 % (125 : Int64))), .second, .unset, .unset]) rfl k) ?_
        obtain ⟨u49, hu49⟩ : ∃ z, z = (u47 % (125 : Int64)) := ⟨_, rfl⟩
        rw [← hu49]
        refine OGoal.mp (S' := (T41.setTop (mkF m 116 #[.val (.long p1), .second, .val (.int p2), .val (.long n1), .second, .val (.int (p2 &&& (3 : Int32))), .val (.ref a3), .val (.long (990 : Int64)), .second, .val (.long u45), .second, .val (.long u46), .second, .val (.long u47), .second, .val (.long u48), .second, .val (.long u49), .second, .unset, .unset] [(.long (128 : Int64))]))) (fun _ k => Stand.ldc2J X42 hx hown (mvT hZ (hw _ (List.mem_of_getElem? (i := 7) rfl))) rfl (hb hby at_113) k) ?_
        refine OGoal.mp (S' := (T41.setTop (mkF m 118 #[.val (.long p1), .second, .val (.int p2), .val (.long n1), .second, .val (.int (p2 &&& (3 : Int32))), .val (.ref a3), .val (.long (990 : Int64)), .second, .val (.long u45), .second, .val (.long u46), .second, .val (.long u47), .second, .val (.long u48), .second, .val (.long u49), .second, .unset, .unset] [(.long u48), (.long (128 : Int64))]))) (fun _ k => XT.lload X42.here hx rfl (hb hby at_116) rfl k) ?_
        refine OGoal.mp (S' := (T41.setTop (mkF m 119 #[.val (.long p1), .second, .val (.int p2), .val (.long n1), .second, .val (.int (p2 &&& (3 : Int32))), .val (.ref a3), .val (.long (990 : Int64)), .second, .val (.long u45), .second, .val (.long u46), .second, .val (.long u47), .second, .val (.long u48), .second, .val (.long u49), .second, .unset, .unset] [(.long ((128 : Int64) * u48))]))) (fun _ k => XT.lmul X42.here hx rfl (hb hby at_118) rfl k) ?_
        refine OGoal.mp (S' := (T41.setTop (mkF m 122 #[.val (.long p1), .second, .val (.int p2), .val (.long n1), .second, .val (.int (p2 &&& (3 : Int32))), .val (.ref a3), .val (.long (990 : Int64)), .second, .val (.long u45), .second, .val (.long u46), .second, .val (.long u47), .second, .val (.long u48), .second, .val (.long u49), .second, .unset, .unset] [(.long (1024 : Int64)), (.long ((128 : Int64) * u48))]))) (fun _ k => Stand.ldc2J X42 hx hown (mvT hZ (hw _ (List.mem_of_getElem? (i := 8) rfl))) rfl (hb hby at_119) k) ?_
        refine OGoal.mp (S' := (T41.setTop (mkF m 124 #[.val (.long p1), .second, .val (.int p2), .val (.long n1), .second, .val (.int (p2 &&& (3 : Int32))), .val (.ref a3), .val (.long (990 : Int64)), .second, .val (.long u45), .second, .val (.long u46), .second, .val (.long u47), .second, .val (.long u48), .second, .val (.long u49), .second, .unset, .unset] [(.long u49), (.long (1024 : Int64)), (.long ((128 : Int64) * u48))]))) (fun _ k => XT.lload X42.here hx rfl (hb hby at_122) rfl k) ?_
        refine OGoal.mp (S' := (T41.setTop (mkF m 125 #[.val (.long p1), .second, .val (.int p2), .val (.long n1), .second, .val (.int (p2 &&& (3 : Int32))), .val (.ref a3), .val (.long (990 : Int64)), .second, .val (.long u45), .second, .val (.long u46), .second, .val (.long u47), .second, .val (.long u48), .second, .val (.long u49), .second, .unset, .unset] [(.long ((1024 : Int64) * u49)), (.long ((128 : Int64) * u48))]))) (fun _ k => XT.lmul X42.here hx rfl (hb hby at_124) rfl k) ?_
        refine OGoal.mp (S' := (T41.setTop (mkF m 127 #[.val (.long p1), .second, .val (.int p2), .val (.long n1), .second, .val (.int (p2 &&& (3 : Int32))), .val (.ref a3), .val (.long (990 : Int64)), .second, .val (.long u45), .second, .val (.long u46), .second, .val (.long u47), .second, .val (.long u48), .second, .val (.long u49), .second, .unset, .unset] [(.long (990 : Int64)), (.long ((1024 : Int64) * u49)), (.long ((128 : Int64) * u48))]))) (fun _ k => XT.lload X42.here hx rfl (hb hby at_125) rfl k) ?_
        refine OGoal.mp (S' := (T41.setTop (mkF m 129 #[.val (.long p1), .second, .val (.int p2), .val (.long n1), .second, .val (.int (p2 &&& (3 : Int32))), .val (.ref a3), .val (.long (990 : Int64)), .second, .val (.long u45), .second, .val (.long u46), .second, .val (.long u47), .second, .val (.long u48), .second, .val (.long u49), .second, .unset, .unset] [(.long u46), (.long (990 : Int64)), (.long ((1024 : Int64) * u49)), (.long ((128 : Int64) * u48))]))) (fun _ k => XT.lload X42.here hx rfl (hb hby at_127) rfl k) ?_
        refine OGoal.mp (S' := (T41.setTop (mkF m 130 #[.val (.long p1), .second, .val (.int p2), .val (.long n1), .second, .val (.int (p2 &&& (3 : Int32))), .val (.ref a3), .val (.long (990 : Int64)), .second, .val (.long u45), .second, .val (.long u46), .second, .val (.long u47), .second, .val (.long u48), .second, .val (.long u49), .second, .unset, .unset] [(.long ((990 : Int64) * u46)), (.long ((1024 : Int64) * u49)), (.long ((128 : Int64) * u48))]))) (fun _ k => XT.lmul X42.here hx rfl (hb hby at_129) rfl k) ?_
        refine OGoal.mp (S' := (T41.setTop (mkF m 131 #[.val (.long p1), .second, .val (.int p2), .val (.long n1), .second, .val (.int (p2 &&& (3 : Int32))), .val (.ref a3), .val (.long (990 : Int64)), .second, .val (.long u45), .second, .val (.long u46), .second, .val (.long u47), .second, .val (.long u48), .second, .val (.long u49), .second, .unset, .unset] [(.long (((1024 : Int64) * u49) + ((990 : Int64) * u46))), (.long ((128 : Int64) * u48))]))) (fun _ k => XT.ladd X42.here hx rfl (hb hby at_130) rfl k) ?_
        refine OGoal.mp (S' := (T41.setTop (mkF m 134 #[.val (.long p1), .second, .val (.int p2), .val (.long n1), .second, .val (.int (p2 &&& (3 : Int32))), .val (.ref a3), .val (.long (990 : Int64)), .second, .val (.long u45), .second, .val (.long u46), .second, .val (.long u47), .second, .val (.long u48), .second, .val (.long u49), .second, .unset, .unset] [(.long (999 : Int64)), (.long (((1024 : Int64) * u49) + ((990 : Int64) * u46))), (.long ((128 : Int64) * u48))]))) (fun _ k => Stand.ldc2J X42 hx hown (mvT hZ (hw _ (List.mem_of_getElem? (i := 9) rfl))) rfl (hb hby at_131) k) ?_
        refine OGoal.mp (S' := (T41.setTop (mkF m 135 #[.val (.long p1), .second, .val (.int p2), .val (.long n1), .second, .val (.int (p2 &&& (3 : Int32))), .val (.ref a3), .val (.long (990 : Int64)), .second, .val (.long u45), .second, .val (.long u46), .second, .val (.long u47), .second, .val (.long u48), .second, .val (.long u49), .second, .unset, .unset] [(.long ((((1024 : Int64) * u49) + ((990 : Int64) * u46)) + (999 : Int64))), (.long ((128 : Int64) * u48))]))) (fun _ k => XT.ladd X42.here hx rfl (hb hby at_134) rfl k) ?_
        refine OGoal.mp (S' := (T41.setTop (mkF m 138 #[.val (.long p1), .second, .val (.int p2), .val (.long n1), .second, .val (.int (p2 &&& (3 : Int32))), .val (.ref a3), .val (.long (990 : Int64)), .second, .val (.long u45), .second, .val (.long u46), .second, .val (.long u47), .second, .val (.long u48), .second, .val (.long u49), .second, .unset, .unset] [(.long (1000 : Int64)), (.long ((((1024 : Int64) * u49) + ((990 : Int64) * u46)) + (999 : Int64))), (.long ((128 : Int64) * u48))]))) (fun _ k => Stand.ldc2J X42 hx hown (mvT hZ (hw _ (List.mem_of_getElem? (i := 10) rfl))) rfl (hb hby at_135) k) ?_
        refine OGoal.mp (S' := (T41.setTop (mkF m 139 #[.val (.long p1), .second, .val (.int p2), .val (.long n1), .second, .val (.int (p2 &&& (3 : Int32))), .val (.ref a3), .val (.long (990 : Int64)), .second, .val (.long u45), .second, .val (.long u46), .second, .val (.long u47), .second, .val (.long u48), .second, .val (.long u49), .second, .unset, .unset] [(.long (((((1024 : Int64) * u49) + ((990 : Int64) * u46)) + (999 : Int64)) / (1000 : Int64))), (.long ((128 : Int64) * u48))]))) (fun _ k => XT.ldiv X42.here hx rfl (hb hby at_138) rfl (by decide) k) ?_
        refine OGoal.mp (S' := (T41.setTop (mkF m 140 #[.val (.long p1), .second, .val (.int p2), .val (.long n1), .second, .val (.int (p2 &&& (3 : Int32))), .val (.ref a3), .val (.long (990 : Int64)), .second, .val (.long u45), .second, .val (.long u46), .second, .val (.long u47), .second, .val (.long u48), .second, .val (.long u49), .second, .unset, .unset] [(.long (((128 : Int64) * u48) + (((((1024 : Int64) * u49) + ((990 : Int64) * u46)) + (999 : Int64)) / (1000 : Int64))))]))) (fun _ k => XT.ladd X42.here hx rfl (hb hby at_139) rfl k) ?_
        refine OGoal.mp (S' := (T41.setTop (mkF m 142 #[.val (.long p1), .second, .val (.int p2), .val (.long n1), .second, .val (.int (p2 &&& (3 : Int32))), .val (.ref a3), .val (.long (990 : Int64)), .second, .val (.long u45), .second, .val (.long u46), .second, .val (.long u47), .second, .val (.long u48), .second, .val (.long u49), .second, .val (.long (((128 : Int64) * u48) + (((((1024 : Int64) * u49) + ((990 : Int64) * u46)) + (999 : Int64)) / (1000 : Int64)))), .second] []))) (fun _ k => XT.lstore X42.here hx rfl (hb hby at_140) rfl (l' := #[.val (.long p1), .second, .val (.int p2), .val (.long n1), .second, .val (.int (p2 &&& (3 : Int32))), .val (.ref a3), .val (.long (990 : Int64)), .second, .val (.long u45), .second, .val (.long u46), .second, .val (.long u47), .second, .val (.long u48), .second, .val (.long u49), .second, .val (.long (((128 : Int64) * u48) + (((((1024 : Int64) * u49) + ((990 : Int64) * u46)) + (999 : Int64)) / (1000 : Int64)))), .second]) rfl k) ?_
        obtain ⟨u50, hu50⟩ : ∃ z, z = (((128 : Int64) * u48) + (((((1024 : Int64) * u49) + ((990 : Int64) * u46)) + (999 : Int64)) / (1000 : Int64))) := ⟨_, rfl⟩
        rw [← hu50]
        refine OGoal.mp (S' := (T41.setTop (mkF m 144 #[.val (.long p1), .second, .val (.int p2), .val (.long n1), .second, .val (.int (p2 &&& (3 : Int32))), .val (.ref a3), .val (.long (990 : Int64)), .second, .val (.long u45), .second, .val (.long u46), .second, .val (.long u47), .second, .val (.long u48), .second, .val (.long u49), .second, .val (.long u50), .second] [(.ref a3)]))) (fun _ k => XS.aload X42.here hx rfl (hb hby at_142) rfl rfl k) ?_
        refine OGoal.mp (S' := (T41.setTop (mkF m 145 #[.val (.long p1), .second, .val (.int p2), .val (.long n1), .second, .val (.int (p2 &&& (3 : Int32))), .val (.ref a3), .val (.long (990 : Int64)), .second, .val (.long u45), .second, .val (.long u46), .second, .val (.long u47), .second, .val (.long u48), .second, .val (.long u49), .second, .val (.long u50), .second] [(.long n1), (.ref a3)]))) (fun _ k => XT.lloadN X42.here hx rfl (hb hby at_144) rfl k) ?_
        refine oCallV (y := (⟨"com/example/pausemark/pausemark/analysis/Percentile", "rankAmong", "(J)J"⟩ : MethodName)) (z := (⟨"com/example/pausemark/pausemark/analysis/Percentile", "rankAmong", "(J)J"⟩ : MethodName)) X42 hx hZ hown (hw _ (List.mem_of_getElem? (i := 11) rfl)) (hw _ (List.mem_of_getElem? (i := 12) rfl)) (hw _ (List.mem_of_getElem? (i := 14) rfl)) (hw _ (List.mem_of_getElem? (i := 13) rfl)) (hw _ (List.mem_of_getElem? (i := 2) rfl)) (hw _ (List.mem_of_getElem? (i := 15) rfl)) (by decide) (rmA l Z a0 hw a3 n1 (990 : Int64) h0 n0 Z0 Fa3) e43 Ea3 [(.long n1)] [] rfl rfl (by rw [hml]; rfl) (notFace_of_selects (args := #[]) (mvT hZ (hw _ (List.mem_of_getElem? (i := 14) rfl)))) (lenOf own_pd__J_J rfl) 0 (Nat.le_of_eq rfl) (by decide) (by decide) (by decide) (by decide) (hb hby at_145) ?_
        intro v51 T52 L53 X54 q55
        obtain ⟨rfl, N56, e57⟩ := q55
        have N58 := Fr.app (Fr.nil n0) N56
        show OGoal p e below s _ _ _ (T52.setTop (mkF m 148 #[.val (.long p1), .second, .val (.int p2), .val (.long n1), .second, .val (.int (p2 &&& (3 : Int32))), .val (.ref a3), .val (.long (990 : Int64)), .second, .val (.long u45), .second, .val (.long u46), .second, .val (.long u47), .second, .val (.long u48), .second, .val (.long u49), .second, .val (.long u50), .second] [(.long (own_rank n1 (990 : Int64)))]))
        refine OGoal.mp (S' := (T52.setTop (mkF m 150 #[.val (.long p1), .second, .val (.int p2), .val (.long n1), .second, .val (.int (p2 &&& (3 : Int32))), .val (.ref a3), .val (.long (990 : Int64)), .second, .val (.long u45), .second, .val (.long u46), .second, .val (.long u47), .second, .val (.long u48), .second, .val (.long u49), .second, .val (.long u50), .second] [(.long u50), (.long (own_rank n1 (990 : Int64)))]))) (fun _ k => XT.lload X54.here hx rfl (hb hby at_148) rfl k) ?_
        refine OGoal.mp (S' := (T52.setTop (mkF m 151 #[.val (.long p1), .second, .val (.int p2), .val (.long n1), .second, .val (.int (p2 &&& (3 : Int32))), .val (.ref a3), .val (.long (990 : Int64)), .second, .val (.long u45), .second, .val (.long u46), .second, .val (.long u47), .second, .val (.long u48), .second, .val (.long u49), .second, .val (.long u50), .second] [(.int (XT.cmpL (own_rank n1 (990 : Int64)) u50))]))) (fun _ k => XT.lcmp X54.here hx rfl (hb hby at_150) rfl k) ?_
        refine OGoal.mp (S' := (T52.setTop (mkF m 154 #[.val (.long p1), .second, .val (.int p2), .val (.long n1), .second, .val (.int (p2 &&& (3 : Int32))), .val (.ref a3), .val (.long (990 : Int64)), .second, .val (.long u45), .second, .val (.long u46), .second, .val (.long u47), .second, .val (.long u48), .second, .val (.long u49), .second, .val (.long u50), .second] []))) (fun _ k => XS.ifNo X54.here hx rfl (hb hby at_151) rfl (XT.ll_ne_f (by subst hu50 hu49 hu48 hu47 hu46 hu45; exact own_rk990 n1 hpos)) k) ?_
        refine OGoal.mp (S' := (T52.setTop (mkF m 155 #[.val (.long p1), .second, .val (.int p2), .val (.long n1), .second, .val (.int (p2 &&& (3 : Int32))), .val (.ref a3), .val (.long (990 : Int64)), .second, .val (.long u45), .second, .val (.long u46), .second, .val (.long u47), .second, .val (.long u48), .second, .val (.long u49), .second, .val (.long u50), .second] [(.int (1 : Int32))]))) (fun _ k => XS.iconst X54.here hx rfl (hb hby at_154) k) ?_
        refine OGoal.mp (S' := (T52.setTop (mkF m 159 #[.val (.long p1), .second, .val (.int p2), .val (.long n1), .second, .val (.int (p2 &&& (3 : Int32))), .val (.ref a3), .val (.long (990 : Int64)), .second, .val (.long u45), .second, .val (.long u46), .second, .val (.long u47), .second, .val (.long u48), .second, .val (.long u49), .second, .val (.long u50), .second] [(.int (1 : Int32))]))) (fun _ k => XS.goto X54.here hx rfl (pc0 := 155) (pc' := 159) rfl (hb hby at_155) (by decide) (by decide) k) ?_
        refine oRetZ X54 hx hlk hret (Or.inr rfl) (hb hby at_159) ?_ (by decide) (by decide)
        exact ⟨rfl, N58⟩
      · refine OGoal.mp (S' := (s₁.setTop (mkF m 67 #[.val (.long p1), .second, .val (.int p2), .val (.long n1), .second, .val (.int (p2 &&& (3 : Int32))), .unset, .unset, .unset, .unset, .unset, .unset, .unset, .unset, .unset, .unset, .unset, .unset, .unset, .unset, .unset] []))) (fun _ k => XS.icmpYes X0.here hx rfl (pc0 := 51) (pc' := 67) rfl (hb hby at_51) rfl (XT.ii_ne_t hc40) (by decide) (by decide) k) ?_
        obtain ⟨T59, X60, e61, st62⟩ := getS X0 hx hZ hown (host := "") (hw _ (List.mem_of_getElem? (i := 23) rfl)) Via.refl e0 Sa4 (g := mkF m 67 #[.val (.long p1), .second, .val (.int p2), .val (.long n1), .second, .val (.int (p2 &&& (3 : Int32))), .unset, .unset, .unset, .unset, .unset, .unset, .unset, .unset, .unset, .unset, .unset, .unset, .unset, .unset, .unset] []) rfl (hb hby at_67)
        refine OGoal.mp (S' := (T59.setTop (mkF m 70 #[.val (.long p1), .second, .val (.int p2), .val (.long n1), .second, .val (.int (p2 &&& (3 : Int32))), .unset, .unset, .unset, .unset, .unset, .unset, .unset, .unset, .unset, .unset, .unset, .unset, .unset, .unset, .unset] [(.ref a4)]))) (fun _ k => st62 _ k) ?_
        refine OGoal.mp (S' := (T59.setTop (mkF m 72 #[.val (.long p1), .second, .val (.int p2), .val (.long n1), .second, .val (.int (p2 &&& (3 : Int32))), .val (.ref a4), .unset, .unset, .unset, .unset, .unset, .unset, .unset, .unset, .unset, .unset, .unset, .unset, .unset, .unset] []))) (fun _ k => XS.astore X60.here hx rfl (hb hby at_70) rfl rfl (l' := #[.val (.long p1), .second, .val (.int p2), .val (.long n1), .second, .val (.int (p2 &&& (3 : Int32))), .val (.ref a4), .unset, .unset, .unset, .unset, .unset, .unset, .unset, .unset, .unset, .unset, .unset, .unset, .unset, .unset]) rfl k) ?_
        refine OGoal.mp (S' := (T59.setTop (mkF m 75 #[.val (.long p1), .second, .val (.int p2), .val (.long n1), .second, .val (.int (p2 &&& (3 : Int32))), .val (.ref a4), .unset, .unset, .unset, .unset, .unset, .unset, .unset, .unset, .unset, .unset, .unset, .unset, .unset, .unset] [(.long (999 : Int64))]))) (fun _ k => Stand.ldc2J X60 hx hown (mvT hZ (hw _ (List.mem_of_getElem? (i := 9) rfl))) rfl (hb hby at_72) k) ?_
        refine OGoal.mp (S' := (T59.setTop (mkF m 77 #[.val (.long p1), .second, .val (.int p2), .val (.long n1), .second, .val (.int (p2 &&& (3 : Int32))), .val (.ref a4), .val (.long (999 : Int64)), .second, .unset, .unset, .unset, .unset, .unset, .unset, .unset, .unset, .unset, .unset, .unset, .unset] []))) (fun _ k => XT.lstore X60.here hx rfl (hb hby at_75) rfl (l' := #[.val (.long p1), .second, .val (.int p2), .val (.long n1), .second, .val (.int (p2 &&& (3 : Int32))), .val (.ref a4), .val (.long (999 : Int64)), .second, .unset, .unset, .unset, .unset, .unset, .unset, .unset, .unset, .unset, .unset, .unset, .unset]) rfl k) ?_
        refine OGoal.mp (S' := (T59.setTop (mkF m 78 #[.val (.long p1), .second, .val (.int p2), .val (.long n1), .second, .val (.int (p2 &&& (3 : Int32))), .val (.ref a4), .val (.long (999 : Int64)), .second, .unset, .unset, .unset, .unset, .unset, .unset, .unset, .unset, .unset, .unset, .unset, .unset] [(.long n1)]))) (fun _ k => XT.lloadN X60.here hx rfl (hb hby at_77) rfl k) ?_
        refine OGoal.mp (S' := (T59.setTop (mkF m 80 #[.val (.long p1), .second, .val (.int p2), .val (.long n1), .second, .val (.int (p2 &&& (3 : Int32))), .val (.ref a4), .val (.long (999 : Int64)), .second, .unset, .unset, .unset, .unset, .unset, .unset, .unset, .unset, .unset, .unset, .unset, .unset] [(.int (10 : Int32)), (.long n1)]))) (fun _ k => XS.bipush X60.here hx rfl (hb hby at_78) k) ?_
        refine OGoal.mp (S' := (T59.setTop (mkF m 81 #[.val (.long p1), .second, .val (.int p2), .val (.long n1), .second, .val (.int (p2 &&& (3 : Int32))), .val (.ref a4), .val (.long (999 : Int64)), .second, .unset, .unset, .unset, .unset, .unset, .unset, .unset, .unset, .unset, .unset, .unset, .unset] [(.long (XT.ushrL n1 (10 : Int32)))]))) (fun _ k => XT.lushr X60.here hx rfl (hb hby at_80) rfl k) ?_
        refine OGoal.mp (S' := (T59.setTop (mkF m 83 #[.val (.long p1), .second, .val (.int p2), .val (.long n1), .second, .val (.int (p2 &&& (3 : Int32))), .val (.ref a4), .val (.long (999 : Int64)), .second, .val (.long (XT.ushrL n1 (10 : Int32))), .second, .unset, .unset, .unset, .unset, .unset, .unset, .unset, .unset, .unset, .unset] []))) (fun _ k => XT.lstore X60.here hx rfl (hb hby at_81) rfl (l' := #[.val (.long p1), .second, .val (.int p2), .val (.long n1), .second, .val (.int (p2 &&& (3 : Int32))), .val (.ref a4), .val (.long (999 : Int64)), .second, .val (.long (XT.ushrL n1 (10 : Int32))), .second, .unset, .unset, .unset, .unset, .unset, .unset, .unset, .unset, .unset, .unset]) rfl k) ?_
        obtain ⟨u63, hu63⟩ : ∃ z, z = (XT.ushrL n1 (10 : Int32)) := ⟨_, rfl⟩
        rw [← hu63]
        refine OGoal.mp (S' := (T59.setTop (mkF m 84 #[.val (.long p1), .second, .val (.int p2), .val (.long n1), .second, .val (.int (p2 &&& (3 : Int32))), .val (.ref a4), .val (.long (999 : Int64)), .second, .val (.long u63), .second, .unset, .unset, .unset, .unset, .unset, .unset, .unset, .unset, .unset, .unset] [(.long n1)]))) (fun _ k => XT.lloadN X60.here hx rfl (hb hby at_83) rfl k) ?_
        refine OGoal.mp (S' := (T59.setTop (mkF m 87 #[.val (.long p1), .second, .val (.int p2), .val (.long n1), .second, .val (.int (p2 &&& (3 : Int32))), .val (.ref a4), .val (.long (999 : Int64)), .second, .val (.long u63), .second, .unset, .unset, .unset, .unset, .unset, .unset, .unset, .unset, .unset, .unset] [(.long (1023 : Int64)), (.long n1)]))) (fun _ k => Stand.ldc2J X60 hx hown (mvT hZ (hw _ (List.mem_of_getElem? (i := 5) rfl))) rfl (hb hby at_84) k) ?_
        refine OGoal.mp (S' := (T59.setTop (mkF m 88 #[.val (.long p1), .second, .val (.int p2), .val (.long n1), .second, .val (.int (p2 &&& (3 : Int32))), .val (.ref a4), .val (.long (999 : Int64)), .second, .val (.long u63), .second, .unset, .unset, .unset, .unset, .unset, .unset, .unset, .unset, .unset, .unset] [(.long (n1 &&& (1023 : Int64)))]))) (fun _ k => XT.land X60.here hx rfl (hb hby at_87) rfl k) ?_
        refine OGoal.mp (S' := (T59.setTop (mkF m 90 #[.val (.long p1), .second, .val (.int p2), .val (.long n1), .second, .val (.int (p2 &&& (3 : Int32))), .val (.ref a4), .val (.long (999 : Int64)), .second, .val (.long u63), .second, .val (.long (n1 &&& (1023 : Int64))), .second, .unset, .unset, .unset, .unset, .unset, .unset, .unset, .unset] []))) (fun _ k => XT.lstore X60.here hx rfl (hb hby at_88) rfl (l' := #[.val (.long p1), .second, .val (.int p2), .val (.long n1), .second, .val (.int (p2 &&& (3 : Int32))), .val (.ref a4), .val (.long (999 : Int64)), .second, .val (.long u63), .second, .val (.long (n1 &&& (1023 : Int64))), .second, .unset, .unset, .unset, .unset, .unset, .unset, .unset, .unset]) rfl k) ?_
        obtain ⟨u64, hu64⟩ : ∃ z, z = (n1 &&& (1023 : Int64)) := ⟨_, rfl⟩
        rw [← hu64]
        refine OGoal.mp (S' := (T59.setTop (mkF m 92 #[.val (.long p1), .second, .val (.int p2), .val (.long n1), .second, .val (.int (p2 &&& (3 : Int32))), .val (.ref a4), .val (.long (999 : Int64)), .second, .val (.long u63), .second, .val (.long u64), .second, .unset, .unset, .unset, .unset, .unset, .unset, .unset, .unset] [(.long (999 : Int64))]))) (fun _ k => XT.lload X60.here hx rfl (hb hby at_90) rfl k) ?_
        refine OGoal.mp (S' := (T59.setTop (mkF m 94 #[.val (.long p1), .second, .val (.int p2), .val (.long n1), .second, .val (.int (p2 &&& (3 : Int32))), .val (.ref a4), .val (.long (999 : Int64)), .second, .val (.long u63), .second, .val (.long u64), .second, .unset, .unset, .unset, .unset, .unset, .unset, .unset, .unset] [(.long u63), (.long (999 : Int64))]))) (fun _ k => XT.lload X60.here hx rfl (hb hby at_92) rfl k) ?_
        refine OGoal.mp (S' := (T59.setTop (mkF m 95 #[.val (.long p1), .second, .val (.int p2), .val (.long n1), .second, .val (.int (p2 &&& (3 : Int32))), .val (.ref a4), .val (.long (999 : Int64)), .second, .val (.long u63), .second, .val (.long u64), .second, .unset, .unset, .unset, .unset, .unset, .unset, .unset, .unset] [(.long ((999 : Int64) * u63))]))) (fun _ k => XT.lmul X60.here hx rfl (hb hby at_94) rfl k) ?_
        refine OGoal.mp (S' := (T59.setTop (mkF m 97 #[.val (.long p1), .second, .val (.int p2), .val (.long n1), .second, .val (.int (p2 &&& (3 : Int32))), .val (.ref a4), .val (.long (999 : Int64)), .second, .val (.long u63), .second, .val (.long u64), .second, .val (.long ((999 : Int64) * u63)), .second, .unset, .unset, .unset, .unset, .unset, .unset] []))) (fun _ k => XT.lstore X60.here hx rfl (hb hby at_95) rfl (l' := #[.val (.long p1), .second, .val (.int p2), .val (.long n1), .second, .val (.int (p2 &&& (3 : Int32))), .val (.ref a4), .val (.long (999 : Int64)), .second, .val (.long u63), .second, .val (.long u64), .second, .val (.long ((999 : Int64) * u63)), .second, .unset, .unset, .unset, .unset, .unset, .unset]) rfl k) ?_
        obtain ⟨u65, hu65⟩ : ∃ z, z = ((999 : Int64) * u63) := ⟨_, rfl⟩
        rw [← hu65]
        refine OGoal.mp (S' := (T59.setTop (mkF m 99 #[.val (.long p1), .second, .val (.int p2), .val (.long n1), .second, .val (.int (p2 &&& (3 : Int32))), .val (.ref a4), .val (.long (999 : Int64)), .second, .val (.long u63), .second, .val (.long u64), .second, .val (.long u65), .second, .unset, .unset, .unset, .unset, .unset, .unset] [(.long u65)]))) (fun _ k => XT.lload X60.here hx rfl (hb hby at_97) rfl k) ?_
        refine OGoal.mp (S' := (T59.setTop (mkF m 102 #[.val (.long p1), .second, .val (.int p2), .val (.long n1), .second, .val (.int (p2 &&& (3 : Int32))), .val (.ref a4), .val (.long (999 : Int64)), .second, .val (.long u63), .second, .val (.long u64), .second, .val (.long u65), .second, .unset, .unset, .unset, .unset, .unset, .unset] [(.long (125 : Int64)), (.long u65)]))) (fun _ k => Stand.ldc2J X60 hx hown (mvT hZ (hw _ (List.mem_of_getElem? (i := 6) rfl))) rfl (hb hby at_99) k) ?_
        refine OGoal.mp (S' := (T59.setTop (mkF m 103 #[.val (.long p1), .second, .val (.int p2), .val (.long n1), .second, .val (.int (p2 &&& (3 : Int32))), .val (.ref a4), .val (.long (999 : Int64)), .second, .val (.long u63), .second, .val (.long u64), .second, .val (.long u65), .second, .unset, .unset, .unset, .unset, .unset, .unset] [(.long (u65 / (125 : Int64)))]))) (fun _ k => XT.ldiv X60.here hx rfl (hb hby at_102) rfl (by decide) k) ?_
        refine OGoal.mp (S' := (T59.setTop (mkF m 105 #[.val (.long p1), .second, .val (.int p2), .val (.long n1), .second, .val (.int (p2 &&& (3 : Int32))), .val (.ref a4), .val (.long (999 : Int64)), .second, .val (.long u63), .second, .val (.long u64), .second, .val (.long u65), .second, .val (.long (u65 / (125 : Int64))), .second, .unset, .unset, .unset, .unset] []))) (fun _ k => XT.lstore X60.here hx rfl (hb hby at_103) rfl (l' := #[.val (.long p1), .second, .val (.int p2), .val (.long n1), .second, .val (.int (p2 &&& (3 : Int32))), .val (.ref a4), .val (.long (999 : Int64)), .second, .val (.long u63), .second, .val (.long u64), .second, .val (.long u65), .second, .val (.long (u65 / (125 : Int64))), .second, .unset, .unset, .unset, .unset]) rfl k) ?_
        obtain ⟨u66, hu66⟩ : ∃ z, z = (u65 / (125 : Int64)) := ⟨_, rfl⟩
        rw [← hu66]
        refine OGoal.mp (S' := (T59.setTop (mkF m 107 #[.val (.long p1), .second, .val (.int p2), .val (.long n1), .second, .val (.int (p2 &&& (3 : Int32))), .val (.ref a4), .val (.long (999 : Int64)), .second, .val (.long u63), .second, .val (.long u64), .second, .val (.long u65), .second, .val (.long u66), .second, .unset, .unset, .unset, .unset] [(.long u65)]))) (fun _ k => XT.lload X60.here hx rfl (hb hby at_105) rfl k) ?_
        refine OGoal.mp (S' := (T59.setTop (mkF m 110 #[.val (.long p1), .second, .val (.int p2), .val (.long n1), .second, .val (.int (p2 &&& (3 : Int32))), .val (.ref a4), .val (.long (999 : Int64)), .second, .val (.long u63), .second, .val (.long u64), .second, .val (.long u65), .second, .val (.long u66), .second, .unset, .unset, .unset, .unset] [(.long (125 : Int64)), (.long u65)]))) (fun _ k => Stand.ldc2J X60 hx hown (mvT hZ (hw _ (List.mem_of_getElem? (i := 6) rfl))) rfl (hb hby at_107) k) ?_
        refine OGoal.mp (S' := (T59.setTop (mkF m 111 #[.val (.long p1), .second, .val (.int p2), .val (.long n1), .second, .val (.int (p2 &&& (3 : Int32))), .val (.ref a4), .val (.long (999 : Int64)), .second, .val (.long u63), .second, .val (.long u64), .second, .val (.long u65), .second, .val (.long u66), .second, .unset, .unset, .unset, .unset] [(.long (u65 % (125 : Int64)))]))) (fun _ k => oLrem X60 hx rfl (hb hby at_110) rfl (by decide) k) ?_
        refine OGoal.mp (S' := (T59.setTop (mkF m 113 #[.val (.long p1), .second, .val (.int p2), .val (.long n1), .second, .val (.int (p2 &&& (3 : Int32))), .val (.ref a4), .val (.long (999 : Int64)), .second, .val (.long u63), .second, .val (.long u64), .second, .val (.long u65), .second, .val (.long u66), .second, .val (.long (u65 % (125 : Int64))), .second, .unset, .unset] []))) (fun _ k => XT.lstore X60.here hx rfl (hb hby at_111) rfl (l' := #[.val (.long p1), .second, .val (.int p2), .val (.long n1), .second, .val (.int (p2 &&& (3 : Int32))), .val (.ref a4), .val (.long (999 : Int64)), .second, .val (.long u63), .second, .val (.long u64), .second, .val (.long u65), .second, .val (.long u66), .second, .val (.long (u65 % (125 : Int64))), .second, .unset, .unset]) rfl k) ?_
        obtain ⟨u67, hu67⟩ : ∃ z, z = (u65 % (125 : Int64)) := ⟨_, rfl⟩
        rw [← hu67]
        refine OGoal.mp (S' := (T59.setTop (mkF m 116 #[.val (.long p1), .second, .val (.int p2), .val (.long n1), .second, .val (.int (p2 &&& (3 : Int32))), .val (.ref a4), .val (.long (999 : Int64)), .second, .val (.long u63), .second, .val (.long u64), .second, .val (.long u65), .second, .val (.long u66), .second, .val (.long u67), .second, .unset, .unset] [(.long (128 : Int64))]))) (fun _ k => Stand.ldc2J X60 hx hown (mvT hZ (hw _ (List.mem_of_getElem? (i := 7) rfl))) rfl (hb hby at_113) k) ?_
        refine OGoal.mp (S' := (T59.setTop (mkF m 118 #[.val (.long p1), .second, .val (.int p2), .val (.long n1), .second, .val (.int (p2 &&& (3 : Int32))), .val (.ref a4), .val (.long (999 : Int64)), .second, .val (.long u63), .second, .val (.long u64), .second, .val (.long u65), .second, .val (.long u66), .second, .val (.long u67), .second, .unset, .unset] [(.long u66), (.long (128 : Int64))]))) (fun _ k => XT.lload X60.here hx rfl (hb hby at_116) rfl k) ?_
        refine OGoal.mp (S' := (T59.setTop (mkF m 119 #[.val (.long p1), .second, .val (.int p2), .val (.long n1), .second, .val (.int (p2 &&& (3 : Int32))), .val (.ref a4), .val (.long (999 : Int64)), .second, .val (.long u63), .second, .val (.long u64), .second, .val (.long u65), .second, .val (.long u66), .second, .val (.long u67), .second, .unset, .unset] [(.long ((128 : Int64) * u66))]))) (fun _ k => XT.lmul X60.here hx rfl (hb hby at_118) rfl k) ?_
        refine OGoal.mp (S' := (T59.setTop (mkF m 122 #[.val (.long p1), .second, .val (.int p2), .val (.long n1), .second, .val (.int (p2 &&& (3 : Int32))), .val (.ref a4), .val (.long (999 : Int64)), .second, .val (.long u63), .second, .val (.long u64), .second, .val (.long u65), .second, .val (.long u66), .second, .val (.long u67), .second, .unset, .unset] [(.long (1024 : Int64)), (.long ((128 : Int64) * u66))]))) (fun _ k => Stand.ldc2J X60 hx hown (mvT hZ (hw _ (List.mem_of_getElem? (i := 8) rfl))) rfl (hb hby at_119) k) ?_
        refine OGoal.mp (S' := (T59.setTop (mkF m 124 #[.val (.long p1), .second, .val (.int p2), .val (.long n1), .second, .val (.int (p2 &&& (3 : Int32))), .val (.ref a4), .val (.long (999 : Int64)), .second, .val (.long u63), .second, .val (.long u64), .second, .val (.long u65), .second, .val (.long u66), .second, .val (.long u67), .second, .unset, .unset] [(.long u67), (.long (1024 : Int64)), (.long ((128 : Int64) * u66))]))) (fun _ k => XT.lload X60.here hx rfl (hb hby at_122) rfl k) ?_
        refine OGoal.mp (S' := (T59.setTop (mkF m 125 #[.val (.long p1), .second, .val (.int p2), .val (.long n1), .second, .val (.int (p2 &&& (3 : Int32))), .val (.ref a4), .val (.long (999 : Int64)), .second, .val (.long u63), .second, .val (.long u64), .second, .val (.long u65), .second, .val (.long u66), .second, .val (.long u67), .second, .unset, .unset] [(.long ((1024 : Int64) * u67)), (.long ((128 : Int64) * u66))]))) (fun _ k => XT.lmul X60.here hx rfl (hb hby at_124) rfl k) ?_
        refine OGoal.mp (S' := (T59.setTop (mkF m 127 #[.val (.long p1), .second, .val (.int p2), .val (.long n1), .second, .val (.int (p2 &&& (3 : Int32))), .val (.ref a4), .val (.long (999 : Int64)), .second, .val (.long u63), .second, .val (.long u64), .second, .val (.long u65), .second, .val (.long u66), .second, .val (.long u67), .second, .unset, .unset] [(.long (999 : Int64)), (.long ((1024 : Int64) * u67)), (.long ((128 : Int64) * u66))]))) (fun _ k => XT.lload X60.here hx rfl (hb hby at_125) rfl k) ?_
        refine OGoal.mp (S' := (T59.setTop (mkF m 129 #[.val (.long p1), .second, .val (.int p2), .val (.long n1), .second, .val (.int (p2 &&& (3 : Int32))), .val (.ref a4), .val (.long (999 : Int64)), .second, .val (.long u63), .second, .val (.long u64), .second, .val (.long u65), .second, .val (.long u66), .second, .val (.long u67), .second, .unset, .unset] [(.long u64), (.long (999 : Int64)), (.long ((1024 : Int64) * u67)), (.long ((128 : Int64) * u66))]))) (fun _ k => XT.lload X60.here hx rfl (hb hby at_127) rfl k) ?_
        refine OGoal.mp (S' := (T59.setTop (mkF m 130 #[.val (.long p1), .second, .val (.int p2), .val (.long n1), .second, .val (.int (p2 &&& (3 : Int32))), .val (.ref a4), .val (.long (999 : Int64)), .second, .val (.long u63), .second, .val (.long u64), .second, .val (.long u65), .second, .val (.long u66), .second, .val (.long u67), .second, .unset, .unset] [(.long ((999 : Int64) * u64)), (.long ((1024 : Int64) * u67)), (.long ((128 : Int64) * u66))]))) (fun _ k => XT.lmul X60.here hx rfl (hb hby at_129) rfl k) ?_
        refine OGoal.mp (S' := (T59.setTop (mkF m 131 #[.val (.long p1), .second, .val (.int p2), .val (.long n1), .second, .val (.int (p2 &&& (3 : Int32))), .val (.ref a4), .val (.long (999 : Int64)), .second, .val (.long u63), .second, .val (.long u64), .second, .val (.long u65), .second, .val (.long u66), .second, .val (.long u67), .second, .unset, .unset] [(.long (((1024 : Int64) * u67) + ((999 : Int64) * u64))), (.long ((128 : Int64) * u66))]))) (fun _ k => XT.ladd X60.here hx rfl (hb hby at_130) rfl k) ?_
        refine OGoal.mp (S' := (T59.setTop (mkF m 134 #[.val (.long p1), .second, .val (.int p2), .val (.long n1), .second, .val (.int (p2 &&& (3 : Int32))), .val (.ref a4), .val (.long (999 : Int64)), .second, .val (.long u63), .second, .val (.long u64), .second, .val (.long u65), .second, .val (.long u66), .second, .val (.long u67), .second, .unset, .unset] [(.long (999 : Int64)), (.long (((1024 : Int64) * u67) + ((999 : Int64) * u64))), (.long ((128 : Int64) * u66))]))) (fun _ k => Stand.ldc2J X60 hx hown (mvT hZ (hw _ (List.mem_of_getElem? (i := 9) rfl))) rfl (hb hby at_131) k) ?_
        refine OGoal.mp (S' := (T59.setTop (mkF m 135 #[.val (.long p1), .second, .val (.int p2), .val (.long n1), .second, .val (.int (p2 &&& (3 : Int32))), .val (.ref a4), .val (.long (999 : Int64)), .second, .val (.long u63), .second, .val (.long u64), .second, .val (.long u65), .second, .val (.long u66), .second, .val (.long u67), .second, .unset, .unset] [(.long ((((1024 : Int64) * u67) + ((999 : Int64) * u64)) + (999 : Int64))), (.long ((128 : Int64) * u66))]))) (fun _ k => XT.ladd X60.here hx rfl (hb hby at_134) rfl k) ?_
        refine OGoal.mp (S' := (T59.setTop (mkF m 138 #[.val (.long p1), .second, .val (.int p2), .val (.long n1), .second, .val (.int (p2 &&& (3 : Int32))), .val (.ref a4), .val (.long (999 : Int64)), .second, .val (.long u63), .second, .val (.long u64), .second, .val (.long u65), .second, .val (.long u66), .second, .val (.long u67), .second, .unset, .unset] [(.long (1000 : Int64)), (.long ((((1024 : Int64) * u67) + ((999 : Int64) * u64)) + (999 : Int64))), (.long ((128 : Int64) * u66))]))) (fun _ k => Stand.ldc2J X60 hx hown (mvT hZ (hw _ (List.mem_of_getElem? (i := 10) rfl))) rfl (hb hby at_135) k) ?_
        refine OGoal.mp (S' := (T59.setTop (mkF m 139 #[.val (.long p1), .second, .val (.int p2), .val (.long n1), .second, .val (.int (p2 &&& (3 : Int32))), .val (.ref a4), .val (.long (999 : Int64)), .second, .val (.long u63), .second, .val (.long u64), .second, .val (.long u65), .second, .val (.long u66), .second, .val (.long u67), .second, .unset, .unset] [(.long (((((1024 : Int64) * u67) + ((999 : Int64) * u64)) + (999 : Int64)) / (1000 : Int64))), (.long ((128 : Int64) * u66))]))) (fun _ k => XT.ldiv X60.here hx rfl (hb hby at_138) rfl (by decide) k) ?_
        refine OGoal.mp (S' := (T59.setTop (mkF m 140 #[.val (.long p1), .second, .val (.int p2), .val (.long n1), .second, .val (.int (p2 &&& (3 : Int32))), .val (.ref a4), .val (.long (999 : Int64)), .second, .val (.long u63), .second, .val (.long u64), .second, .val (.long u65), .second, .val (.long u66), .second, .val (.long u67), .second, .unset, .unset] [(.long (((128 : Int64) * u66) + (((((1024 : Int64) * u67) + ((999 : Int64) * u64)) + (999 : Int64)) / (1000 : Int64))))]))) (fun _ k => XT.ladd X60.here hx rfl (hb hby at_139) rfl k) ?_
        refine OGoal.mp (S' := (T59.setTop (mkF m 142 #[.val (.long p1), .second, .val (.int p2), .val (.long n1), .second, .val (.int (p2 &&& (3 : Int32))), .val (.ref a4), .val (.long (999 : Int64)), .second, .val (.long u63), .second, .val (.long u64), .second, .val (.long u65), .second, .val (.long u66), .second, .val (.long u67), .second, .val (.long (((128 : Int64) * u66) + (((((1024 : Int64) * u67) + ((999 : Int64) * u64)) + (999 : Int64)) / (1000 : Int64)))), .second] []))) (fun _ k => XT.lstore X60.here hx rfl (hb hby at_140) rfl (l' := #[.val (.long p1), .second, .val (.int p2), .val (.long n1), .second, .val (.int (p2 &&& (3 : Int32))), .val (.ref a4), .val (.long (999 : Int64)), .second, .val (.long u63), .second, .val (.long u64), .second, .val (.long u65), .second, .val (.long u66), .second, .val (.long u67), .second, .val (.long (((128 : Int64) * u66) + (((((1024 : Int64) * u67) + ((999 : Int64) * u64)) + (999 : Int64)) / (1000 : Int64)))), .second]) rfl k) ?_
        obtain ⟨u68, hu68⟩ : ∃ z, z = (((128 : Int64) * u66) + (((((1024 : Int64) * u67) + ((999 : Int64) * u64)) + (999 : Int64)) / (1000 : Int64))) := ⟨_, rfl⟩
        rw [← hu68]
        refine OGoal.mp (S' := (T59.setTop (mkF m 144 #[.val (.long p1), .second, .val (.int p2), .val (.long n1), .second, .val (.int (p2 &&& (3 : Int32))), .val (.ref a4), .val (.long (999 : Int64)), .second, .val (.long u63), .second, .val (.long u64), .second, .val (.long u65), .second, .val (.long u66), .second, .val (.long u67), .second, .val (.long u68), .second] [(.ref a4)]))) (fun _ k => XS.aload X60.here hx rfl (hb hby at_142) rfl rfl k) ?_
        refine OGoal.mp (S' := (T59.setTop (mkF m 145 #[.val (.long p1), .second, .val (.int p2), .val (.long n1), .second, .val (.int (p2 &&& (3 : Int32))), .val (.ref a4), .val (.long (999 : Int64)), .second, .val (.long u63), .second, .val (.long u64), .second, .val (.long u65), .second, .val (.long u66), .second, .val (.long u67), .second, .val (.long u68), .second] [(.long n1), (.ref a4)]))) (fun _ k => XT.lloadN X60.here hx rfl (hb hby at_144) rfl k) ?_
        refine oCallV (y := (⟨"com/example/pausemark/pausemark/analysis/Percentile", "rankAmong", "(J)J"⟩ : MethodName)) (z := (⟨"com/example/pausemark/pausemark/analysis/Percentile", "rankAmong", "(J)J"⟩ : MethodName)) X60 hx hZ hown (hw _ (List.mem_of_getElem? (i := 11) rfl)) (hw _ (List.mem_of_getElem? (i := 12) rfl)) (hw _ (List.mem_of_getElem? (i := 14) rfl)) (hw _ (List.mem_of_getElem? (i := 13) rfl)) (hw _ (List.mem_of_getElem? (i := 2) rfl)) (hw _ (List.mem_of_getElem? (i := 15) rfl)) (by decide) (rmA l Z a0 hw a4 n1 (999 : Int64) h0 n0 Z0 Fa4) e61 Ea4 [(.long n1)] [] rfl rfl (by rw [hml]; rfl) (notFace_of_selects (args := #[]) (mvT hZ (hw _ (List.mem_of_getElem? (i := 14) rfl)))) (lenOf own_pd__J_J rfl) 0 (Nat.le_of_eq rfl) (by decide) (by decide) (by decide) (by decide) (hb hby at_145) ?_
        intro v69 T70 L71 X72 q73
        obtain ⟨rfl, N74, e75⟩ := q73
        have N76 := Fr.app (Fr.nil n0) N74
        show OGoal p e below s _ _ _ (T70.setTop (mkF m 148 #[.val (.long p1), .second, .val (.int p2), .val (.long n1), .second, .val (.int (p2 &&& (3 : Int32))), .val (.ref a4), .val (.long (999 : Int64)), .second, .val (.long u63), .second, .val (.long u64), .second, .val (.long u65), .second, .val (.long u66), .second, .val (.long u67), .second, .val (.long u68), .second] [(.long (own_rank n1 (999 : Int64)))]))
        refine OGoal.mp (S' := (T70.setTop (mkF m 150 #[.val (.long p1), .second, .val (.int p2), .val (.long n1), .second, .val (.int (p2 &&& (3 : Int32))), .val (.ref a4), .val (.long (999 : Int64)), .second, .val (.long u63), .second, .val (.long u64), .second, .val (.long u65), .second, .val (.long u66), .second, .val (.long u67), .second, .val (.long u68), .second] [(.long u68), (.long (own_rank n1 (999 : Int64)))]))) (fun _ k => XT.lload X72.here hx rfl (hb hby at_148) rfl k) ?_
        refine OGoal.mp (S' := (T70.setTop (mkF m 151 #[.val (.long p1), .second, .val (.int p2), .val (.long n1), .second, .val (.int (p2 &&& (3 : Int32))), .val (.ref a4), .val (.long (999 : Int64)), .second, .val (.long u63), .second, .val (.long u64), .second, .val (.long u65), .second, .val (.long u66), .second, .val (.long u67), .second, .val (.long u68), .second] [(.int (XT.cmpL (own_rank n1 (999 : Int64)) u68))]))) (fun _ k => XT.lcmp X72.here hx rfl (hb hby at_150) rfl k) ?_
        refine OGoal.mp (S' := (T70.setTop (mkF m 154 #[.val (.long p1), .second, .val (.int p2), .val (.long n1), .second, .val (.int (p2 &&& (3 : Int32))), .val (.ref a4), .val (.long (999 : Int64)), .second, .val (.long u63), .second, .val (.long u64), .second, .val (.long u65), .second, .val (.long u66), .second, .val (.long u67), .second, .val (.long u68), .second] []))) (fun _ k => XS.ifNo X72.here hx rfl (hb hby at_151) rfl (XT.ll_ne_f (by subst hu68 hu67 hu66 hu65 hu64 hu63; exact own_rk999 n1 hpos)) k) ?_
        refine OGoal.mp (S' := (T70.setTop (mkF m 155 #[.val (.long p1), .second, .val (.int p2), .val (.long n1), .second, .val (.int (p2 &&& (3 : Int32))), .val (.ref a4), .val (.long (999 : Int64)), .second, .val (.long u63), .second, .val (.long u64), .second, .val (.long u65), .second, .val (.long u66), .second, .val (.long u67), .second, .val (.long u68), .second] [(.int (1 : Int32))]))) (fun _ k => XS.iconst X72.here hx rfl (hb hby at_154) k) ?_
        refine OGoal.mp (S' := (T70.setTop (mkF m 159 #[.val (.long p1), .second, .val (.int p2), .val (.long n1), .second, .val (.int (p2 &&& (3 : Int32))), .val (.ref a4), .val (.long (999 : Int64)), .second, .val (.long u63), .second, .val (.long u64), .second, .val (.long u65), .second, .val (.long u66), .second, .val (.long u67), .second, .val (.long u68), .second] [(.int (1 : Int32))]))) (fun _ k => XS.goto X72.here hx rfl (pc0 := 155) (pc' := 159) rfl (hb hby at_155) (by decide) (by decide) k) ?_
        refine oRetZ X72 hx hlk hret (Or.inr rfl) (hb hby at_159) ?_ (by decide) (by decide)
        exact ⟨rfl, N76⟩
set_option maxRecDepth 65536 in
set_option maxHeartbeats 40000000 in
theorem comes_1 {Post : Tables → Env → Array Value → State → Outcome → State → Prop} (hpost : ∀ tb e args s v u, (limb_1_1.after args s (.returned v) u = true ∧ limb_1_2.after args s (.returned v) u = true ∧ True) → FrameEnd s (.returned v) u (Jvm.fieldLocs frame_1_writes args s ++ Jvm.arrayLocs frame_1_arrays args s ++ Jvm.staticLocs frame_1_statics s) 0 0 → Post tb e args s (.returned v) u) :
    ArmFor flags0 classFile x code maxLocals ret World_1 tables_1 room_1 Calls_1 rest_1 Pre_1 Post := by
  intro l hfl _ _ p e ha hc hk s m args below hf hA hF happ hP
  obtain ⟨hcalls, hrest, hpre⟩ := hP
  obtain ⟨-, -, -, hnamed, -, -, -, hat⟩ := (Spec.applies_iff hf).mp happ
  obtain ⟨hg, hn⟩ := and_e (Cond.before_iff.mp (show (Jvm.Cond.and given_1 narrow_1).before args s = true from hpre))
  obtain ⟨hcnt, hg⟩ := and_e hg
  obtain ⟨w0, w1, rfl⟩ : ∃ w0 w1 : Value, args = #[w0, w1] := by
    have hs : args.size = 2 := by simpa [Cond.value, given_1] using hcnt
    obtain ⟨L⟩ := args
    match L, hs with
    | [w0, w1], _ => exact ⟨w0, w1, rfl⟩
  have hw := fun d (hd : d ∈ tables_1) => atoms_spec (ws := Jvm.Cond.code x code maxLocals ret :: tables_1) hat d (List.mem_cons_of_mem _ hd)
  have hfit : Fit s := fun {y c} hc i hi => by
    obtain ⟨ha, rfl⟩ := Array.getElem?_eq_some_iff.mp hc
    have q := List.all_eq_true.mp ((Array.all_eq_true_iff_forall_mem.mp hF) _ (Array.getElem_mem ha)) i (List.mem_range.mpr hi)
    simpa [Array.getElem?_eq_getElem hi] using q
  obtain ⟨hg0, hg⟩ := and_e hg
  obtain ⟨i0, ei0⟩ := isL_v hg0
  obtain rfl : w0 = (.long i0) := Option.some.inj ei0
  obtain ⟨i1, ei1⟩ := is_v hg
  obtain rfl : w1 = (.int i1) := Option.some.inj ei1
  obtain ⟨qa3, hn⟩ := and_e hn
  obtain ⟨oa3, hn⟩ := and_e hn
  obtain ⟨qa1, hn⟩ := and_e hn
  obtain ⟨oa1, hn⟩ := and_e hn
  obtain ⟨qa4, hn⟩ := and_e hn
  obtain ⟨oa4, hn⟩ := and_e hn
  obtain ⟨qa2, oa2⟩ := and_e hn
  obtain ⟨a1, va1⟩ := exa_v qa1
  have Sa1 := Sta.start va1 (Or.inr ⟨(hw _ (List.mem_of_getElem? (i := 2) rfl)), (hw _ (List.mem_of_getElem? (i := 21) rfl))⟩)
  have Ea1 := Exa.start va1 qa1
  have Fa1 := Fld.start (oFeq va1 oa1 (long_at (500 : Int64)))
  obtain ⟨a2, va2⟩ := exa_v qa2
  have Sa2 := Sta.start va2 (Or.inr ⟨(hw _ (List.mem_of_getElem? (i := 2) rfl)), (hw _ (List.mem_of_getElem? (i := 26) rfl))⟩)
  have Ea2 := Exa.start va2 qa2
  have Fa2 := Fld.start (oFeq va2 oa2 (long_at (900 : Int64)))
  obtain ⟨a3, va3⟩ := exa_v qa3
  have Sa3 := Sta.start va3 (Or.inr ⟨(hw _ (List.mem_of_getElem? (i := 2) rfl)), (hw _ (List.mem_of_getElem? (i := 3) rfl))⟩)
  have Ea3 := Exa.start va3 qa3
  have Fa3 := Fld.start (oFeq va3 oa3 (long_at (990 : Int64)))
  obtain ⟨a4, va4⟩ := exa_v qa4
  have Sa4 := Sta.start va4 (Or.inr ⟨(hw _ (List.mem_of_getElem? (i := 2) rfl)), (hw _ (List.mem_of_getElem? (i := 24) rfl))⟩)
  have Ea4 := Exa.start va4 qa4
  have Fa4 := Fld.start (oFeq va4 oa4 (long_at (999 : Int64)))
  obtain ⟨n, o, h1, h2, h3, _, L, rfl, ⟨rfl, N⟩, hq⟩ := rm0 l s _ hw i0 i1 s.heap s.heap.size (Nat.le_refl _) a1 a2 a3 a4 Sa1 Ea1 Fa1 Sa2 Ea2 Fa2 Sa3 Ea3 Fa3 Sa4 Ea4 Fa4 tables_1 p e ha hc hk s m _ below hf ((Spec.applies_iff_loose hf).mp happ).1 ⟨rfl, State.Warmed39.refl s, rfl⟩ trivial
  refine ⟨n, _, h1, h2, h3, hpost _ _ _ _ _ _ ⟨Cond.after_iff.mpr rfl, Cond.after_iff.mpr (eq_i res_at (Term.int_eval (1)) rfl), trivial⟩ ⟨hq.1, hq.2.1, (hq.2.2.sift fun y hy => Or.inr (N y hy)).mono (by decide) (by decide)⟩⟩
theorem main_1_1 : Claimed_1_1 := comes_1 fun _ _ _ _ _ _ h hF => ⟨h.1, hF⟩
theorem main_1_2 : Claimed_1_2 := comes_1 fun _ _ _ _ _ _ h hF => ⟨h.2.1, hF⟩
end Jvm.Pilot.@@N@@
namespace Jvm.Pilot.@@N@@
open Jvm Jvm.ClassFile Sem Op Lib Jvm.Free Jvm.Stand Jvm.Pilot.@@N@@.Jvm.D
/-! MADE BY PROGRAM (witnessworld.py) out of the Statement's table words and the real class files: 12 classes; the members and pool entries that the words name. The judged class is class 1, her method 1. -/
namespace start1
open Jvm.ClassFile
def u (s : String) : CpInfo := .utf8 (stringToUtf16 s)
/-- a pool by its gaps: so many unusable entries, then the entry; so many at the end -/
def gap : Nat → List CpInfo → List CpInfo
  | 0, r => r
  | n + 1, r => .unusable :: gap n r
def poolList (es : List (Nat × CpInfo)) (last : Nat) : List CpInfo := es.foldr (fun e r => gap e.1 (e.2 :: r)) (gap last [])
def pool (es : List (Nat × CpInfo)) (last : Nat) : Array CpInfo := ⟨poolList es last⟩
def fileOf (pool : Array CpInfo) (this : Nat) (attrs : Array Attribute := #[]) (ms : Array MethodInfo := #[]) (fl : Nat := 33) (sup : Nat := 0) (ifs : Array Nat := #[]) (fds : Array FieldInfo := #[]) : ClassFile where
  minorVersion := 0
  majorVersion := 65
  constantPool := pool
  accessFlags := fl
  thisClass := this
  superClass := sup
  interfaces := ifs
  fields := fds
  methods := ms
  attributes := attrs
def plain (name : String) (sup : Option ClassId) : Class where
  name := name
  kind := .ordinary
  loader := none
  accessFlags := 33
  super := sup
  interfaces := #[]
  cf := none
  fields := #[]
  methods := #[]
  instanceTypes := #[]
  staticTypes := #[]
  resolved := #[]
  callSites := []
  init := .initialized
  statics := none
  mirror := none

def pool0 : Array CpInfo := pool [(5, u "<init>"), (0, u "()V"), (1, .class_ 10), (1, u "java/lang/Object")] 113

def k0m0 : Method := { name := "<init>", desc := "()V", sig := { parameters := [], returnType := none }, accessFlags := 1, code := none }
/-- java/lang/Object -/
def k0 : Class := { plain "java/lang/Object" none with
  accessFlags := 33
  interfaces := #[]
  cf := some (fileOf pool0 8 #[] #[{ accessFlags := 1, nameIndex := 5, descriptorIndex := 6, attributes := #[] }] 33 0 #[] #[])
  fields := #[]
  methods := #[k0m0]
  instanceTypes := #[]
  staticTypes := #[]
  resolved := Array.replicate 124 none
  statics := none }

def pool1 : Array CpInfo := pool [(2, .class_ 4), (1, u "java/lang/Object"), (0, u "<init>"), (0, u "()V"), (2, .long 9223372036854775807), (1, .fieldref 12 13), (0, .class_ 14), (0, .nameAndType 15 16), (0, u "com/example/pausemark/pausemark/analysis/Percentile"), (0, u "P50"), (0, u "Lcom/example/pausemark/pausemark/analysis/Percentile;"), (0, .long 500), (1, .fieldref 12 20), (0, .nameAndType 21 16), (0, u "P90"), (0, .long 900), (1, .fieldref 12 25), (0, .nameAndType 26 16), (0, u "P99"), (0, .long 990), (1, .fieldref 12 30), (0, .nameAndType 31 16), (0, u "P999"), (0, .long 999), (1, .long 1023), (1, .long 125), (1, .long 128), (1, .long 1024), (1, .long 1000), (1, .methodref 12 45), (0, .nameAndType 46 47), (0, u "rankAmong"), (0, u "(J)J"), (0, .class_ 49), (0, u "com/example/pausemark/pausemark/analysis/PercentileRankAmongPinLaw"), (2, u "law"), (0, u "(JI)Z")] 3

def k1m0 : Method := { name := "<init>", desc := "()V", sig := { parameters := [], returnType := none }, accessFlags := 1, code := none }
def k1c1 : Code := { maxStack := 8, maxLocals := 21, code := code, exceptionTable := #[], attributes := #[] }
def k1m1 : Method := { name := "law", desc := "(JI)Z", sig := { parameters := [.long, .int], returnType := some .boolean }, accessFlags := 9, code := some k1c1 }
/-- com/example/pausemark/pausemark/analysis/PercentileRankAmongPinLaw -/
def k1 : Class := { plain "com/example/pausemark/pausemark/analysis/PercentileRankAmongPinLaw" (some 0) with
  accessFlags := 49
  interfaces := #[]
  cf := some (fileOf pool1 48 #[] #[{ accessFlags := 1, nameIndex := 5, descriptorIndex := 6, attributes := #[] }, { accessFlags := 9, nameIndex := 52, descriptorIndex := 53, attributes := #[] }] 49 2 #[] #[])
  fields := #[]
  methods := #[k1m0, k1m1]
  instanceTypes := #[]
  staticTypes := #[]
  resolved := Array.replicate 57 none
  statics := none }

def pool2 : Array CpInfo := pool [(1, .class_ 2), (0, u "java/lang/constant/Constable"), (0, .class_ 4), (0, u "java/lang/Object")] 6

/-- java/lang/constant/Constable -/
def k2 : Class := { plain "java/lang/constant/Constable" (some 0) with
  accessFlags := 1537
  interfaces := #[]
  cf := some (fileOf pool2 1 #[] #[] 1537 3 #[] #[])
  fields := #[]
  methods := #[]
  instanceTypes := #[]
  staticTypes := #[]
  resolved := Array.replicate 11 none
  statics := none }

def pool3 : Array CpInfo := pool [(1, .class_ 2), (0, u "java/lang/Comparable"), (0, .class_ 4), (0, u "java/lang/Object")] 7

/-- java/lang/Comparable -/
def k3 : Class := { plain "java/lang/Comparable" (some 0) with
  accessFlags := 1537
  interfaces := #[]
  cf := some (fileOf pool3 1 #[] #[] 1537 3 #[] #[])
  fields := #[]
  methods := #[]
  instanceTypes := #[]
  staticTypes := #[]
  resolved := Array.replicate 12 none
  statics := none }

def pool4 : Array CpInfo := pool [(1, .class_ 2), (0, u "java/io/Serializable"), (0, .class_ 4), (0, u "java/lang/Object")] 2

/-- java/io/Serializable -/
def k4 : Class := { plain "java/io/Serializable" (some 0) with
  accessFlags := 1537
  interfaces := #[]
  cf := some (fileOf pool4 1 #[] #[] 1537 3 #[] #[])
  fields := #[]
  methods := #[]
  instanceTypes := #[]
  staticTypes := #[]
  resolved := Array.replicate 7 none
  statics := none }

def pool5 : Array CpInfo := pool [(2, .class_ 4), (1, u "java/lang/Enum"), (0, u "name"), (0, u "Ljava/lang/String;"), (2, u "ordinal"), (0, u "I"), (1, .class_ 14), (1, u "java/lang/Object"), (4, u "hash"), (86, .class_ 108), (1, u "java/lang/Enum$EnumDesc"), (2, .class_ 112), (0, u "java/lang/constant/Constable"), (0, .class_ 114), (0, u "java/lang/Comparable"), (0, .class_ 116), (0, u "java/io/Serializable")] 87

/-- java/lang/Enum -/
def k5 : Class := { plain "java/lang/Enum" (some 0) with
  accessFlags := 1057
  interfaces := #[2, 3, 4]
  cf := some (fileOf pool5 2 #[.nestMembers #[106]] #[] 1057 12 #[111, 113, 115] #[{ accessFlags := 18, nameIndex := 5, descriptorIndex := 6, attributes := #[] }, { accessFlags := 18, nameIndex := 9, descriptorIndex := 10, attributes := #[] }, { accessFlags := 2, nameIndex := 19, descriptorIndex := 10, attributes := #[] }])
  fields := #[{ name := "name", type := (.object "java/lang/String"), accessFlags := 18, slot := 0, constantValue := 0 }, { name := "ordinal", type := .int, accessFlags := 18, slot := 1, constantValue := 0 }, { name := "hash", type := .int, accessFlags := 2, slot := 2, constantValue := 0 }]
  methods := #[]
  instanceTypes := #[(.object "java/lang/String"), .int, .int]
  staticTypes := #[]
  resolved := Array.replicate 204 none
  statics := none }

def pool6 : Array CpInfo := pool [(1, .class_ 2), (0, u "com/example/pausemark/pausemark/analysis/Percentile"), (2, u "P50"), (0, u "Lcom/example/pausemark/pausemark/analysis/Percentile;"), (2, u "P90"), (2, u "P99"), (2, u "P999"), (2, u "$VALUES"), (0, u "[Lcom/example/pausemark/pausemark/analysis/Percentile;"), (6, .class_ 28), (1, u "java/lang/Enum"), (8, u "id"), (0, u "Ljava/lang/String;"), (0, .fieldref 1 40), (0, .nameAndType 41 42), (0, u "perMille"), (0, u "J"), (0, .long 1000), (1, .long 999), (34, u "rankAmong"), (0, u "(J)J")] 5

def k6c0 : Code := { maxStack := 6, maxLocals := 7, code := prog_14_method_5_code, exceptionTable := #[], attributes := #[] }
def k6m0 : Method := { name := "rankAmong", desc := "(J)J", sig := { parameters := [.long], returnType := some .long }, accessFlags := 0, code := some k6c0 }
/-- com/example/pausemark/pausemark/analysis/Percentile -/
def k6 : Class := { plain "com/example/pausemark/pausemark/analysis/Percentile" (some 5) with
  accessFlags := 16433
  interfaces := #[]
  cf := some (fileOf pool6 1 #[] #[{ accessFlags := 0, nameIndex := 80, descriptorIndex := 81, attributes := #[] }] 16433 26 #[] #[{ accessFlags := 16409, nameIndex := 5, descriptorIndex := 6, attributes := #[] }, { accessFlags := 16409, nameIndex := 9, descriptorIndex := 6, attributes := #[] }, { accessFlags := 16409, nameIndex := 12, descriptorIndex := 6, attributes := #[] }, { accessFlags := 16409, nameIndex := 15, descriptorIndex := 6, attributes := #[] }, { accessFlags := 18, nameIndex := 37, descriptorIndex := 38, attributes := #[] }, { accessFlags := 18, nameIndex := 41, descriptorIndex := 42, attributes := #[] }, { accessFlags := 4122, nameIndex := 18, descriptorIndex := 19, attributes := #[] }])
  fields := #[{ name := "P50", type := (.object "com/example/pausemark/pausemark/analysis/Percentile"), accessFlags := 16409, slot := 0, constantValue := 0 }, { name := "P90", type := (.object "com/example/pausemark/pausemark/analysis/Percentile"), accessFlags := 16409, slot := 1, constantValue := 0 }, { name := "P99", type := (.object "com/example/pausemark/pausemark/analysis/Percentile"), accessFlags := 16409, slot := 2, constantValue := 0 }, { name := "P999", type := (.object "com/example/pausemark/pausemark/analysis/Percentile"), accessFlags := 16409, slot := 3, constantValue := 0 }, { name := "id", type := (.object "java/lang/String"), accessFlags := 18, slot := 3, constantValue := 0 }, { name := "perMille", type := .long, accessFlags := 18, slot := 4, constantValue := 0 }, { name := "$VALUES", type := (.array (.object "com/example/pausemark/pausemark/analysis/Percentile")), accessFlags := 4122, slot := 4, constantValue := 0 }]
  methods := #[k6m0]
  instanceTypes := #[(.object "java/lang/String"), .int, .int, (.object "java/lang/String"), .long]
  staticTypes := #[(.object "com/example/pausemark/pausemark/analysis/Percentile"), (.object "com/example/pausemark/pausemark/analysis/Percentile"), (.object "com/example/pausemark/pausemark/analysis/Percentile"), (.object "com/example/pausemark/pausemark/analysis/Percentile"), (.array (.object "com/example/pausemark/pausemark/analysis/Percentile"))]
  resolved := Array.replicate 87 none
  statics := some 0 }

def pool7 : Array CpInfo := pool [(1, u "java/lang/Cloneable"), (0, .class_ 1), (0, u "java/lang/Object"), (0, .class_ 3)] 3

/-- java/lang/Cloneable -/
def k7 : Class := { plain "java/lang/Cloneable" (some 0) with
  accessFlags := 1537
  interfaces := #[]
  cf := some (fileOf pool7 2 #[] #[] 1537 4 #[] #[])
  fields := #[]
  methods := #[]
  instanceTypes := #[]
  staticTypes := #[]
  resolved := Array.replicate 8 none
  statics := none }

/-- the primitive byte -/
def k8 : Class := { plain "byte" none with kind := .primitive 'B', accessFlags := 0x411 }
/-- [B -/
def k9 : Class := { plain "[B" (some 0) with kind := .array 8 .byte, interfaces := #[7, 4], accessFlags := 1041 }

/-- the primitive int -/
def k10 : Class := { plain "int" none with kind := .primitive 'I', accessFlags := 0x411 }
/-- [I -/
def k11 : Class := { plain "[I" (some 0) with kind := .array 10 .int, interfaces := #[7, 4], accessFlags := 1041 }

def heap : Heap := #[{ cls := 6, slots := #[.ref 1, .ref 2, .ref 3, .ref 4, .null], vm := .statics 6 },
  { cls := 6, slots := #[.null, .int 0, .int 0, .null, .long 500], vm := .none },
  { cls := 6, slots := #[.null, .int 1, .int 0, .null, .long 900], vm := .none },
  { cls := 6, slots := #[.null, .int 2, .int 0, .null, .long 990], vm := .none },
  { cls := 6, slots := #[.null, .int 3, .int 0, .null, .long 999], vm := .none }]
def classes : Array Class := #[k0, k1, k2, k3, k4, k5, k6, k7, k8, k9, k10, k11]
def interned : List (Array UInt16 × Addr) := []
def slotsUsed : Nat := 25
def theMethod : MethodId := ⟨1, 1⟩
def args0 : Array Value := #[.long 77, .int 1]
def aboutOver (below : List Frame) : State where
  vm := { classes := classes, interned := interned.toArray }
  heap := heap
  slotsUsed := slotsUsed
  threads := #[{ frames := .invoking theMethod args0 :: below }]
def below0 : List Frame := [.native { method := ⟨0, 0⟩, args := #[] }]
def about1 : State := aboutOver below0
def p0 : Program := .bare "" "" ""
def e0 : Env := launch0.env 0 0 0
theorem w_frames : about1.frames = Frame.invoking theMethod args0 :: below0 := rfl
set_option maxRecDepth 65536 in
theorem w_args : argsFit about1.vm theMethod args0 = true := by decide +kernel
set_option maxRecDepth 65536 in
theorem w_heap : heapFits about1 = true := by decide +kernel
set_option maxRecDepth 65536 in
theorem w_runnable : about1.curStatus? = some .runnable := by decide +kernel
set_option maxRecDepth 65536 in
theorem w_alone : about1.alone = true := by decide +kernel
set_option maxRecDepth 65536 in
theorem w_named : about1.methodNamed? x = some theMethod := by decide +kernel
set_option maxRecDepth 65536 in
theorem w_hears : about1.hears theMethod below0 = true := by decide +kernel
set_option maxRecDepth 65536 in
theorem w_ripe : about1.ripe theMethod args0 below0 = true := by decide +kernel
theorem w_running : about1.status = .running := rfl
set_option maxRecDepth 65536 in
theorem w_room : about1.hasRoom e0.platform room_1 = true :=
  launch0.hasRoom_least _ room_1 (by decide +kernel) (by decide +kernel) (by decide +kernel) (by decide +kernel) (by decide +kernel) (by decide +kernel)
theorem allAtoms_all (ts : List Jvm.Cond) (a : Array Jvm.Value) (st : Jvm.State) : (allAtoms ts).before a st = ts.all (fun c => c.before a st) := by
  induction ts with
  | nil => rfl
  | cons c t ih =>
    show (Jvm.Cond.and c (allAtoms t)).before a st = _
    rw [Jvm.Cond.before_and, ih, List.all_cons]
def words1 : List Jvm.Cond := Jvm.Cond.code x code maxLocals ret :: tables_1
/-- a 'code' word, met by the world's own term for the bytes: nothing is compared byte by byte -/
theorem code_word {y : MethodName} {bytes : ByteArray} {mx : Nat} {rt : Option FieldType} {a : Array Value} {s : State} {m : MethodId} {meth : Method} {c : Code} (h1 : s.methodNamed? y = some m) (h2 : s.vm.method? m = some meth) (h3 : meth.code = some c) (h4 : c.code = bytes)
    (h5 : (c.maxLocals == mx && c.exceptionTable.isEmpty && decide (c.maxStack ≤ mostOperands) && decide (meth.sig.returnType = rt) && !meth.locks && decide (parseMethodDescriptor y.desc = some meth.sig)) = true) : (Jvm.Cond.code y bytes mx rt).before a s = true := by
  simp only [Bool.and_eq_true, beq_iff_eq, Bool.not_eq_true', decide_eq_true_eq] at h5
  obtain ⟨⟨⟨⟨⟨g1, g2⟩, g3⟩, g4⟩, g5⟩, g6⟩ := h5
  simp [Cond.before, Cond.holds, Cond.value, h1, h2, h3, h4, g1, g2, g3, g4, g5, g6]
def isCode : Jvm.Cond → Bool
  | .code _ _ _ _ => true
  | _ => false
theorem all_split {L : List Jvm.Cond} {P : Jvm.Cond → Bool} (h1 : L.all (fun c => isCode c || P c) = true) (h2 : ∀ c ∈ L.filter isCode, P c = true) : L.all P = true := by
  refine List.all_eq_true.mpr fun c hc => ?_
  have h := List.all_eq_true.mp h1 c hc
  rcases Bool.eq_false_or_eq_true (isCode c) with hi | hi
  · exact h2 c (List.mem_filter.mpr ⟨hc, hi⟩)
  · simpa [hi] using h
set_option maxRecDepth 65536 in
theorem w_c0 : (Jvm.Cond.code x code maxLocals ret).before args0 about1 = true := code_word (m := ⟨1, 1⟩) (meth := k1m1) (c := k1c1) (by decide +kernel) rfl rfl rfl (by decide +kernel)
set_option maxRecDepth 65536 in
theorem w_c1 : (Jvm.Cond.code ({ cls := "com/example/pausemark/pausemark/analysis/Percentile", name := "rankAmong", desc := "(J)J" } : Jvm.MethodName) prog_14_method_5_code (7 : Nat) (Option.some Jvm.ClassFile.FieldType.long)).before args0 about1 = true := code_word (m := ⟨6, 0⟩) (meth := k6m0) (c := k6c0) (by decide +kernel) rfl rfl rfl (by decide +kernel)
def codes1 : List Jvm.Cond := [Jvm.Cond.code x code maxLocals ret, Jvm.Cond.code ({ cls := "com/example/pausemark/pausemark/analysis/Percentile", name := "rankAmong", desc := "(J)J" } : Jvm.MethodName) prog_14_method_5_code (7 : Nat) (Option.some Jvm.ClassFile.FieldType.long)]
set_option maxRecDepth 65536 in
theorem codes_eq : words1.filter isCode = codes1 := rfl
theorem w_codes : ∀ c ∈ words1.filter isCode, c.before args0 about1 = true := by
  rw [codes_eq]
  intro c hc
  simp only [codes1, List.mem_cons, List.not_mem_nil, or_false] at hc
  rcases hc with rfl | rfl
  · exact w_c0
  · exact w_c1
set_option maxRecDepth 65536 in
theorem w_t1 : (words1.take 24).all (fun c => isCode c || c.before args0 about1) = true := by decide +kernel
set_option maxRecDepth 65536 in
theorem w_t2 : (words1.drop 24).all (fun c => isCode c || c.before args0 about1) = true := by decide +kernel
theorem w_tables : (allAtoms (Jvm.Cond.code x code maxLocals ret :: tables_1)).before args0 about1 = true := by
  rw [allAtoms_all]
  show words1.all (fun c => c.before args0 about1) = true
  refine all_split ?_ w_codes
  rw [← List.take_append_drop 24 words1, List.all_append, w_t1, w_t2]
  rfl
set_option maxRecDepth 65536 in
theorem w_case : (Jvm.Cond.and given_1 narrow_1).before args0 about1 = true := by decide +kernel
theorem w_applies : (headSpec (Jvm.Cond.code x code maxLocals ret :: tables_1) room_1).applies x e0.platform about1 = true :=
  (Spec.applies_iff w_frames).mpr ⟨w_running, w_runnable, w_alone, w_named, w_hears, w_ripe, w_room, w_tables⟩
theorem atStart : AtStart classFile x code maxLocals ret World_1 tables_1 room_1 Calls_1 rest_1 Pre_1 launch0 p0 e0 about1 theMethod args0 below0 :=
  ⟨lists_1, trivial, launch0.admits_env _ _ _, launch0.least_env, fairChoices_fair.cas, fairChoices_fair.clock, w_frames, w_args, w_heap, w_applies, trivial, trivial, w_case⟩
end start1
theorem witness_1 : WitnessClaimed_1 := ⟨start1.p0, start1.e0, start1.about1, start1.theMethod, start1.args0, start1.below0, start1.atStart⟩
end Jvm.Pilot.@@N@@
