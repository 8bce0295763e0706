import JvmDerived
import JvmDerived.Pilot.@@N@@Statement
import JvmDerived.Pilot.@@N@@Code
set_option linter.unusedVariables false
set_option linter.unusedSimpArgs false
namespace Jvm.Pilot.@@N@@
open Jvm Jvm.ClassFile Sem Op Lib Jvm.Free Jvm.Stand Jvm.LawKit Jvm.RoadKit Bundle Jvm.Pilot.@@N@@.Jvm.D
/-! own helpers: the goal of a walk as one predicate, its steps, its calls -/
section OwnKit
variable {p : Program} {l : Launch} {e : Env} {R : Room} {s : State} {m : MethodId} {args : Array Value} {below : List Frame} {meth : Method} {c : Code} {T : State} {locs : List Loc} {cells slots : Nat} {Z : State} {a0 : Array Value} {h : Heap} {Q : Option Value → Heap → List Loc → Prop} {kc ks : Nat}
/-- from S the run ends, returns, and Q holds of what it returns, of the heap and of the places written -/
def OGoal (p : Program) (e : Env) (below : List Frame) (s : State) (Q : Option Value → Heap → List Loc → Prop) (kc ks : Nat) (S : State) : Prop :=
  ∃ s₂ o, Steps p.tables e below S s₂ ∧ s₂.status = .running ∧ Ended s₂ below o ∧ ∃ v L, o = .returned v ∧ Q v s₂.heap L ∧ FrameEnd s o s₂ L kc ks
theorem OGoal.mp {S S' : State} (k : ∀ t, Steps p.tables e below S' t → Steps p.tables e below S t) (g : OGoal p e below s Q kc ks S') : OGoal p e below s Q kc ks S := by
  obtain ⟨s₂, o, h1, h2⟩ := g
  exact ⟨s₂, o, k _ h1, h2⟩
theorem oRet (X : Stand p l e R s m args below meth c T locs cells slots) (hx : p.tables.exec = Jvm.exec) (hlk : meth.locks = false) {pc : Nat} {Ls : Array Slot} {w : Value} {t : FieldType} {i : Instr} {rest : List Value} (hret : meth.sig.returnType = some t) (hn : narrow t w = w)
    (hi : (i = .ireturn ∧ (t = .int ∨ t = .boolean ∨ t = .byte ∨ t = .char ∨ t = .short) ∧ ∃ z, w = .int z) ∨ (i = .lreturn ∧ t = .long ∧ ∃ z, w = .long z) ∨ (i = .dreturn ∧ t = .double ∧ ∃ z, w = .double z) ∨ (i = .freturn ∧ t = .float ∧ ∃ z, w = .float z) ∨ (i = .areturn ∧ t.isReference = true ∧ w.isRef = true))
    (hd : decode c.code pc = .ok (i, 1)) (hQ : Q (some w) T.heap locs) (hc : cells ≤ kc) (hs : slots ≤ ks) : OGoal p e below s Q kc ks (T.setTop (mkF m pc Ls (w :: rest))) := by
  obtain ⟨fs, hr, hrun, hended, hW, hsame⟩ := X.leave (v := some w) (fun q => by rw [hret] at q; cases q) hlk
  exact ⟨_, _, retOut X hx hret hn hi hd hr, hrun, hended, _, _, rfl, hQ, ⟨_, rfl⟩, hW, hsame.mono hc hs⟩
theorem oRetI (X : Stand p l e R s m args below meth c T locs cells slots) (hx : p.tables.exec = Jvm.exec) (hlk : meth.locks = false) {pc : Nat} {Ls : Array Slot} {z : Int32} {rest : List Value} (hret : meth.sig.returnType = some .int)
    (hd : decode c.code pc = .ok (.ireturn, 1)) (hQ : Q (some (.int z)) T.heap locs) (hc : cells ≤ kc) (hs : slots ≤ ks) : OGoal p e below s Q kc ks (T.setTop (mkF m pc Ls (.int z :: rest))) :=
  oRet X hx hlk hret rfl (Or.inl ⟨rfl, Or.inl rfl, _, rfl⟩) hd hQ hc hs
theorem oRetZ (X : Stand p l e R s m args below meth c T locs cells slots) (hx : p.tables.exec = Jvm.exec) (hlk : meth.locks = false) {pc : Nat} {Ls : Array Slot} {z : Int32} {rest : List Value} (hret : meth.sig.returnType = some .boolean) (hz : z = 0 ∨ z = 1)
    (hd : decode c.code pc = .ok (.ireturn, 1)) (hQ : Q (some (.int z)) T.heap locs) (hc : cells ≤ kc) (hs : slots ≤ ks) : OGoal p e below s Q kc ks (T.setTop (mkF m pc Ls (.int z :: rest))) :=
  oRet X hx hlk hret (by rcases hz with rfl | rfl <;> rfl) (Or.inl ⟨rfl, Or.inr (Or.inl rfl), _, rfl⟩) hd hQ hc hs
theorem oRetJ (X : Stand p l e R s m args below meth c T locs cells slots) (hx : p.tables.exec = Jvm.exec) (hlk : meth.locks = false) {pc : Nat} {Ls : Array Slot} {z : Int64} {rest : List Value} (hret : meth.sig.returnType = some .long)
    (hd : decode c.code pc = .ok (.lreturn, 1)) (hQ : Q (some (.long z)) T.heap locs) (hc : cells ≤ kc) (hs : slots ≤ ks) : OGoal p e below s Q kc ks (T.setTop (mkF m pc Ls (.long z :: rest))) :=
  oRet X hx hlk hret rfl (Or.inr (Or.inl ⟨rfl, rfl, _, rfl⟩)) hd hQ hc hs
theorem oRetD (X : Stand p l e R s m args below meth c T locs cells slots) (hx : p.tables.exec = Jvm.exec) (hlk : meth.locks = false) {pc : Nat} {Ls : Array Slot} {z : UInt64} {rest : List Value} (hret : meth.sig.returnType = some .double)
    (hd : decode c.code pc = .ok (.dreturn, 1)) (hQ : Q (some (.double z)) T.heap locs) (hc : cells ≤ kc) (hs : slots ≤ ks) : OGoal p e below s Q kc ks (T.setTop (mkF m pc Ls (.double z :: rest))) :=
  oRet X hx hlk hret rfl (Or.inr (Or.inr (Or.inl ⟨rfl, rfl, _, rfl⟩))) hd hQ hc hs
theorem oRetA (X : Stand p l e R s m args below meth c T locs cells slots) (hx : p.tables.exec = Jvm.exec) (hlk : meth.locks = false) {pc : Nat} {Ls : Array Slot} {w : Value} {t : FieldType} {rest : List Value} (hret : meth.sig.returnType = some t) (ht : t.isReference = true) (hw : w.isRef = true)
    (hd : decode c.code pc = .ok (.areturn, 1)) (hQ : Q (some w) T.heap locs) (hc : cells ≤ kc) (hs : slots ≤ ks) : OGoal p e below s Q kc ks (T.setTop (mkF m pc Ls (w :: rest))) :=
  oRet X hx hlk hret (by cases t <;> cases w <;> first | rfl | (cases ht; done) | (cases hw; done)) (Or.inr (Or.inr (Or.inr (Or.inr ⟨rfl, ht, hw⟩)))) hd hQ hc hs
theorem oRetV (X : Stand p l e R s m args below meth c T locs cells slots) (hx : p.tables.exec = Jvm.exec) (hlk : meth.locks = false) {pc : Nat} {Ls : Array Slot} (hret : meth.sig.returnType = none)
    (hd : decode c.code pc = .ok (.return_, 1)) (hQ : Q none T.heap locs) (hc : cells ≤ kc) (hs : slots ≤ ks) : OGoal p e below s Q kc ks (T.setTop (mkF m pc Ls [])) := by
  obtain ⟨fs, hr, hrun, hended, hW, hsame⟩ := X.leave (v := none) (fun _ => rfl) hlk
  exact ⟨_, _, X.returnOut hx hret hd hr, hrun, hended, _, _, rfl, hQ, ⟨_, rfl⟩, hW, hsame.mono hc hs⟩
/-- the contract of a method: called with as' over the heap h it returns, and Q holds; kc cells and ks slots are made at the most -/
def OConK (l : Launch) (Z : State) (y : MethodName) (bytes : ByteArray) (maxL : Nat) (ret : Option FieldType) (rm : Room) (kc ks : Nat) (as' : Array Value) (h : Heap) (Q : Option Value → Heap → List Loc → Prop) : Prop :=
  ∀ ws : List Jvm.Cond, MetFree l y (head1 (Jvm.Cond.code y bytes maxL ret :: ws) rm) (fun a U => a = as' ∧ Z.Warmed39 U.vm ∧ U.heap = h) (fun _ _ _ _ _ => True) (fun _ U o U' => ∃ v L, o = .returned v ∧ Q v U'.heap L ∧ FrameEnd U o U' L kc ks)
abbrev OCon (l : Launch) (Z : State) (y : MethodName) (bytes : ByteArray) (maxL : Nat) (ret : Option FieldType) (rm : Room) (as' : Array Value) (h : Heap) (Q : Option Value → Heap → List Loc → Prop) : Prop := OConK l Z y bytes maxL ret rm rm.cells rm.slots as' h Q
theorem OConK.intro {y : MethodName} {bytes : ByteArray} {maxL : Nat} {ret : Option FieldType} {rm : Room} {as' : Array Value} {Ls : Array Slot} (hpf : plainFor y = true) (ef : ∀ m, entryFrame m as' maxL = mkF m 0 Ls [])
    (H : ∀ p e s m below meth c s₁, p.tables.exec = Jvm.exec → c.code = bytes → c.maxLocals = maxL → s.vm.findClass y.cls = some m.cls → meth.name = y.name → meth.sig.returnType = ret → meth.locks = false → Z.Warmed39 s.vm →
      Stand p l e rm s m as' below meth c s₁ [] 0 0 → s₁.heap = h → OGoal p e below s Q kc ks (s₁.setTop (mkF m 0 Ls []))) : OConK l Z y bytes maxL ret rm kc ks as' h Q := by
  intro ws
  refine MetFree.of_bodySF hpf hisR ?_
  intro p e s m args below meth c s₁ Bd hml hP hK
  obtain ⟨rfl, hZ, hh⟩ := hP
  obtain ⟨s₂, o, h1, h2, h3, h4⟩ := H p e s m below meth c s₁ Bd.exec Bd.bytes hml (findClass_of_methodNamed Bd.named) (name_of_methodNamed Bd.named Bd.method).1 Bd.returns (BodyLoose.notSynchronized Bd) hZ (Stand.of_body Bd) (by rw [← hh, Bd.state]; rfl)
  exact ⟨s₂, o, castTop (ef m) h1, h2, h3, h4⟩
/-- weaker promise -/
theorem OConK.imp {y : MethodName} {bytes : ByteArray} {maxL : Nat} {ret : Option FieldType} {rm : Room} {as' : Array Value} {Q' : Option Value → Heap → List Loc → Prop} (H : OConK l Z y bytes maxL ret rm kc ks as' h Q) (k : ∀ v h' L, Q v h' L → Q' v h' L) : OConK l Z y bytes maxL ret rm kc ks as' h Q' := by
  intro ws p e ha hc hk s m args below hf happ hP hK
  obtain ⟨n, o, h1, h2, h3, v, L, h4, h5, h6⟩ := H ws p e ha hc hk s m args below hf happ hP hK
  exact ⟨n, o, h1, h2, h3, v, L, h4, k _ _ _ h5, h6⟩
theorem oCallS (X : Stand p l e R s m args below meth c T locs cells slots) (hx : p.tables.exec = Jvm.exec) (hZ : Z.Warmed39 s.vm) {own : String} {index : Nat} {y : MethodName} {bytes : ByteArray} {maxL : Nat} {ret : Option FieldType} {rm : Room} {as' : Array Value} {Qc : Option Value → Heap → List Loc → Prop}
    (hown : s.vm.findClass own = some m.cls) (w1 : (Jvm.Cond.methodLink own index y).before a0 Z = true) (w2 : (Jvm.Cond.static y).before a0 Z = true) (w3 : (Jvm.Cond.initialized y.cls).before a0 Z = true) (w4 : (Jvm.Cond.code y bytes maxL ret).before a0 Z = true)
    (hy : y.cls ≠ "java/lang/invoke/MethodHandle" ∧ y.cls ≠ "java/lang/invoke/VarHandle") (hM : OCon l Z y bytes maxL ret rm as' h Qc) (eT : T.heap = h) {pc : Nat} {Ls : Array Slot} {st : List Value} (argsL rest : List Value) (hst : st = argsL.reverse ++ rest) (has : argsL.toArray = as') (hsize : Ls.size = c.maxLocals)
    (hlen : ∀ sig, parseMethodDescriptor y.desc = some sig → argsL.length = sig.parameters.length) (W : Nat) (hW : (rest.map fun v => v.category).sum ≤ W) (hfr : rm.frames + 1 ≤ R.frames) (hlo : W + (maxL + 11) + rm.locals ≤ R.locals) (hce : cells + rm.cells ≤ R.cells) (hsl : slots + rm.slots ≤ R.slots)
    (hd : decode c.code pc = .ok (.invokestatic index, 3))
    (k : ∀ v T' Lc, Stand p l e R s m args below meth c T' (locs ++ Lc) (cells + rm.cells) (slots + rm.slots) → Qc v T'.heap Lc → OGoal p e below s Q kc ks (T'.setTop (mkF m (pc + 3) Ls (v.toList ++ rest)))) :
    OGoal p e below s Q kc ks (T.setTop (mkF m pc Ls st)) := by
  subst hst has
  obtain ⟨v, _, ⟨T', L', k', n'⟩, -, X', ⟨Lc, hQ, l', y', z'⟩, st⟩ := Jvm.LawKit.callS X hx (y := y) hown (mvT hZ w1) (mvT hZ w2) (mvT hZ w3) (mvT hZ w4) hy (backOf (W := W) (hM []) hZ w4 w3 hfr hlo) (g := mkF m pc Ls (argsL.reverse ++ rest)) rfl hsize (argsL := argsL) (rest := rest) hlen rfl (by show 2 * 0 + _ ≤ _; omega) hd (fun _ _ => ⟨rfl, eT, hce, hsl⟩)
  dsimp only [Pt.U, Pt.locs, Pt.cells, Pt.slots] at X' l' y' z' st hQ
  subst l' y' z'
  exact OGoal.mp st (k v T' Lc X' hQ)
theorem oCallV (X : Stand p l e R s m args below meth c T locs cells slots) (hx : p.tables.exec = Jvm.exec) (hZ : Z.Warmed39 s.vm) {own C : String} {index : Nat} {y z : MethodName} {bytes : ByteArray} {maxL : Nat} {ret : Option FieldType} {rm : Room} {as' : Array Value} {Qc : Option Value → Heap → List Loc → Prop}
    (hown : s.vm.findClass own = some m.cls) (w1 : (Jvm.Cond.methodLink own index y).before a0 Z = true) (w2 : (Jvm.Cond.declares y).before a0 Z = true) (w5 : (Jvm.Cond.selects C y z).before a0 Z = true) (w6 : (Jvm.Cond.instanceMethod z).before a0 Z = true) (w3 : (Jvm.Cond.initialized z.cls).before a0 Z = true) (w4 : (Jvm.Cond.code z bytes maxL ret).before a0 Z = true)
    (hy : y.cls ≠ "java/lang/invoke/MethodHandle" ∧ y.cls ≠ "java/lang/invoke/VarHandle") (hM : OCon l Z z bytes maxL ret rm as' h Qc) (eT : T.heap = h) {a : Addr} (E : Exa Z h a C) {pc : Nat} {Ls : Array Slot} {st : List Value} (argsL rest : List Value) (hst : st = argsL.reverse ++ .ref a :: rest) (has : (.ref a :: argsL).toArray = as') (hsize : Ls.size = c.maxLocals)
    (hnf : NotFace s y) (hlen : ∀ sig, parseMethodDescriptor y.desc = some sig → argsL.length = sig.parameters.length) (W : Nat) (hW : (rest.map fun v => v.category).sum ≤ W) (hfr : rm.frames + 1 ≤ R.frames) (hlo : W + (maxL + 11) + rm.locals ≤ R.locals) (hce : cells + rm.cells ≤ R.cells) (hsl : slots + rm.slots ≤ R.slots)
    (hd : decode c.code pc = .ok (.invokevirtual index, 3))
    (k : ∀ v T' Lc, Stand p l e R s m args below meth c T' (locs ++ Lc) (cells + rm.cells) (slots + rm.slots) → Qc v T'.heap Lc → OGoal p e below s Q kc ks (T'.setTop (mkF m (pc + 3) Ls (v.toList ++ rest)))) :
    OGoal p e below s Q kc ks (T.setTop (mkF m pc Ls st)) := by
  subst hst has
  obtain ⟨cq, kq, qa, qb, qc⟩ := isOf hZ eT E
  obtain ⟨v, _, ⟨T', L', k', n'⟩, -, X', ⟨Lc, hQ, l', y', z'⟩, st⟩ := X.virtualBack hx (y := y) (z := z) hown (mvT hZ w1) (mvT hZ w2) hnf (mvT hZ w5) (mvT hZ w6) hy (backOf (W := W) (hM []) hZ w4 w3 hfr hlo) qa qc (g := mkF m pc Ls (argsL.reverse ++ .ref a :: rest)) rfl hsize (Steps.refl _) (argsL := argsL) (rest := rest) hlen rfl (by show 2 * 0 + _ ≤ _; omega) hd (fun _ _ => ⟨rfl, eT, hce, hsl⟩)
  dsimp only [Pt.U, Pt.locs, Pt.cells, Pt.slots] at X' l' y' z' st hQ
  subst l' y' z'
  exact OGoal.mp (fun t q => st.trans q) (k v T' Lc X' hQ)
theorem oCallN (X : Stand p l e R s m args below meth c T locs cells slots) (hx : p.tables.exec = Jvm.exec) (hZ : Z.Warmed39 s.vm) {own : String} {index : Nat} {y : MethodName} {bytes : ByteArray} {maxL : Nat} {rm : Room} {as' : Array Value} {Qc : Option Value → Heap → List Loc → Prop}
    (hy1 : y.name = "<init>") (hown : s.vm.findClass own = some m.cls) (w1 : (Jvm.Cond.methodLink own index y).before a0 Z = true) (w6 : (Jvm.Cond.instanceMethod y).before a0 Z = true) (w3 : (Jvm.Cond.initialized y.cls).before a0 Z = true) (w4 : (Jvm.Cond.code y bytes maxL none).before a0 Z = true)
    (hy : y.cls ≠ "java/lang/invoke/MethodHandle" ∧ y.cls ≠ "java/lang/invoke/VarHandle") (hM : OCon l Z y bytes maxL none rm as' h Qc) (eT : T.heap = h) {a : Addr} {pc : Nat} {Ls : Array Slot} {st : List Value} (argsL rest : List Value) (hst : st = argsL.reverse ++ .ref a :: rest) (has : (.ref a :: argsL).toArray = as') (hsize : Ls.size = c.maxLocals)
    (hlen : ∀ sig, parseMethodDescriptor y.desc = some sig → argsL.length = sig.parameters.length) (W : Nat) (hW : (rest.map fun v => v.category).sum ≤ W) (hfr : rm.frames + 1 ≤ R.frames) (hlo : W + (maxL + 11) + rm.locals ≤ R.locals) (hce : cells + rm.cells ≤ R.cells) (hsl : slots + rm.slots ≤ R.slots)
    (hd : decode c.code pc = .ok (.invokespecial index, 3))
    (k : ∀ v T' Lc, Stand p l e R s m args below meth c T' (locs ++ Lc) (cells + rm.cells) (slots + rm.slots) → Qc v T'.heap Lc → OGoal p e below s Q kc ks (T'.setTop (mkF m (pc + 3) Ls (v.toList ++ rest)))) :
    OGoal p e below s Q kc ks (T.setTop (mkF m pc Ls st)) := by
  subst hst has
  obtain ⟨v, _, ⟨T', L', k', n'⟩, -, X', ⟨Lc, hQ, l', y', z'⟩, st⟩ := X.specialBack hx (y := y) hy1 hown (mvT hZ w1) (mvT hZ w6) (mvT hZ w4) hy (backOf (W := W) (hM []) hZ w4 w3 hfr hlo) (g := mkF m pc Ls (argsL.reverse ++ .ref a :: rest)) rfl hsize (Steps.refl _) (a := a) (argsL := argsL) (rest := rest) hlen rfl (by show 2 * 0 + _ ≤ _; omega) hd (fun _ _ => ⟨rfl, eT, hce, hsl⟩)
  dsimp only [Pt.U, Pt.locs, Pt.cells, Pt.slots] at X' l' y' z' st hQ
  subst l' y' z'
  exact OGoal.mp (fun t q => st.trans q) (k v T' Lc X' hQ)
theorem oNotFace {s : State} {C : String} {k : Nat} (h : (Jvm.Cond.instantiable C k).before args s = true) : ∃ c kc, s.vm.findClass C = some c ∧ s.vm.classes[c]? = some kc ∧ kc.isInterface = false := by
  obtain ⟨c, kc, h1, h2, -, h3, -, -⟩ := Cond.instantiable_spec h
  exact ⟨c, kc, h1, h2, (Bool.or_eq_false_iff.mp h3).1⟩
theorem oCallP (X : Stand p l e R s m args below meth c T locs cells slots) (hx : p.tables.exec = Jvm.exec) (hZ : Z.Warmed39 s.vm) {own C : String} {index : Nat} {y : MethodName} {bytes : ByteArray} {maxL : Nat} {ret : Option FieldType} {rm : Room} {as' : Array Value} {Qc : Option Value → Heap → List Loc → Prop}
    (hown : s.vm.findClass own = some m.cls) (w1 : (Jvm.Cond.methodLink own index y).before a0 Z = true) {kk : Nat} (w5 : (Jvm.Cond.instantiable y.cls kk).before a0 Z = true) (w6 : (Jvm.Cond.instanceMethod y).before a0 Z = true) (w7 : (Jvm.Cond.privateMethod y).before a0 Z = true) (w3 : (Jvm.Cond.initialized y.cls).before a0 Z = true) (w4 : (Jvm.Cond.code y bytes maxL ret).before a0 Z = true)
    (hy : y.cls ≠ "java/lang/invoke/MethodHandle" ∧ y.cls ≠ "java/lang/invoke/VarHandle") (hM : OCon l Z y bytes maxL ret rm as' h Qc) (eT : T.heap = h) {a : Addr} (E : Exa Z h a C) {pc : Nat} {Ls : Array Slot} {st : List Value} (argsL rest : List Value) (hst : st = argsL.reverse ++ .ref a :: rest) (has : (.ref a :: argsL).toArray = as') (hsize : Ls.size = c.maxLocals)
    (hlen : ∀ sig, parseMethodDescriptor y.desc = some sig → argsL.length = sig.parameters.length) (W : Nat) (hW : (rest.map fun v => v.category).sum ≤ W) (hfr : rm.frames + 1 ≤ R.frames) (hlo : W + (maxL + 11) + rm.locals ≤ R.locals) (hce : cells + rm.cells ≤ R.cells) (hsl : slots + rm.slots ≤ R.slots)
    (hd : decode c.code pc = .ok (.invokevirtual index, 3))
    (k : ∀ v T' Lc, Stand p l e R s m args below meth c T' (locs ++ Lc) (cells + rm.cells) (slots + rm.slots) → Qc v T'.heap Lc → OGoal p e below s Q kc ks (T'.setTop (mkF m (pc + 3) Ls (v.toList ++ rest)))) :
    OGoal p e below s Q kc ks (T.setTop (mkF m pc Ls st)) := by
  subst hst has
  obtain ⟨cq, q1, q2⟩ := E.cell
  obtain ⟨c1, k1, hc1, hk1, hi1⟩ := oNotFace (args := #[]) (mvT hZ w5)
  have hpr : s.PrivateAt y := Cond.privateMethod_at (mvP hZ w7 (args := #[]))
  have hse := selects_self_of_private (args := args) hc1 hk1 hi1 hpr (mvT hZ w6) hy
  obtain ⟨v, _, ⟨T', L', k', n'⟩, -, X', ⟨Lc, hQ, l', y', z'⟩, st⟩ := X.privateBack hx (y := y) hown (mvT hZ w1) (mvT hZ w6) hse hpr (mvT hZ w4) hy (backOf (W := W) (hM []) hZ w4 w3 hfr hlo) (g := mkF m pc Ls (argsL.reverse ++ .ref a :: rest)) rfl hsize (Steps.refl _) (a := a) (by rw [eT]; exact q1) q2 (argsL := argsL) (rest := rest) hlen rfl (by show 2 * 0 + _ ≤ _; omega) hd (fun _ _ => ⟨rfl, eT, hce, hsl⟩)
  dsimp only [Pt.U, Pt.locs, Pt.cells, Pt.slots] at X' l' y' z' st hQ
  subst l' y' z'
  exact OGoal.mp (fun t q => st.trans q) (k v T' Lc X' hQ)
theorem oLrem {g : JFrame} {target : State} (X : Stand p l e R s m args below meth c T locs cells slots) (hx : p.tables.exec = Jvm.exec) (hg : g.method = m) {x y : Int64} {rest : List Value} (hd : decode c.code g.pc = .ok (.lrem, 1)) (hs : g.stack = .long y :: .long x :: rest) (hy : y ≠ 0)
    (hr : Steps p.tables e below (T.setTop { g with pc := g.pc + 1, stack := .long (x % y) :: rest }) target) : Steps p.tables e below (T.setTop g) target := XT.lrem X.here hx hg hd hs hy (by rw [lrem_mod]; exact hr)
theorem oLt {x y : Int32} (h : x < y) : x.toInt < y.toInt := Int32.lt_iff_toInt_lt.mp h
theorem oNlt {x y : Int32} (h : ¬ x < y) : y.toInt ≤ x.toInt := Int.not_lt.mp fun q => h (Int32.lt_iff_toInt_lt.mpr q)
theorem oEq {x y : Int32} (h : x = y) : x.toInt = y.toInt := congrArg _ h
theorem oNe {x y : Int32} (h : ¬ x = y) : x.toInt ≠ y.toInt := fun q => h (Int32.toInt_inj.mp q)
theorem oLtL {x y : Int64} (h : x < y) : x.toInt < y.toInt := Int64.lt_iff_toInt_lt.mp h
theorem oNltL {x y : Int64} (h : ¬ x < y) : y.toInt ≤ x.toInt := Int.not_lt.mp fun q => h (Int64.lt_iff_toInt_lt.mpr q)
theorem oEqL {x y : Int64} (h : x = y) : x.toInt = y.toInt := congrArg _ h
theorem oNeL {x y : Int64} (h : ¬ x = y) : x.toInt ≠ y.toInt := fun q => h (Int64.toInt_inj.mp q)
theorem mLt {x y : Int32} (h : x.toInt < y.toInt) : x < y := Int32.lt_iff_toInt_lt.mpr h
theorem mNlt {x y : Int32} (h : y.toInt ≤ x.toInt) : ¬ x < y := fun q => absurd (oLt q) (Int.not_lt.mpr h)
theorem mEq {x y : Int32} (h : x.toInt = y.toInt) : x = y := Int32.toInt_inj.mp h
theorem mNe {x y : Int32} (h : x.toInt ≠ y.toInt) : ¬ x = y := fun q => h (congrArg _ q)
theorem mLtL {x y : Int64} (h : x.toInt < y.toInt) : x < y := Int64.lt_iff_toInt_lt.mpr h
theorem mNltL {x y : Int64} (h : y.toInt ≤ x.toInt) : ¬ x < y := fun q => absurd (oLtL q) (Int.not_lt.mpr h)
theorem mEqL {x y : Int64} (h : x.toInt = y.toInt) : x = y := Int64.toInt_inj.mp h
theorem mNeL {x y : Int64} (h : x.toInt ≠ y.toInt) : ¬ x = y := fun q => h (congrArg _ q)
theorem oRemL (x y : Int64) : 0 ≤ x.toInt → 0 < y.toInt → 0 ≤ (x % y).toInt ∧ (x % y).toInt < y.toInt := by
  intro h1 h2
  rw [Int64.toInt_mod, Int.tmod_eq_emod_of_nonneg h1]
  exact ⟨Int.emod_nonneg _ (by omega), Int.emod_lt_of_pos _ h2⟩
theorem oRemI (x y : Int32) : 0 ≤ x.toInt → 0 < y.toInt → 0 ≤ (x % y).toInt ∧ (x % y).toInt < y.toInt := by
  intro h1 h2
  rw [Int32.toInt_mod, Int.tmod_eq_emod_of_nonneg h1]
  exact ⟨Int.emod_nonneg _ (by omega), Int.emod_lt_of_pos _ h2⟩
/-- an array of kind ty, of length z, whose i-th component is f i -/
def OArr (Z : State) (h : Heap) (a : Addr) (ty : FieldType) (z : Int32) (f : Nat → Value) : Prop := ∃ c : Cell, Arr Z h a c ty ∧ c.slots.size = z.toNatClampNeg ∧ ¬ z < 0 ∧ ∀ i, i < c.slots.size → c.slots[i]? = some (f i)
section OArrs
variable {h' : Heap} {a b : Addr} {ty : FieldType} {z : Int32} {f : Nat → Value} {sl : Nat} {v : Value}
theorem OArr.lt (F : OArr Z h a ty z f) : a < h.size := by obtain ⟨c, A, -⟩ := F; exact A.lt
theorem OArr.ext (F : OArr Z h a ty z f) (E : Ext h h') : OArr Z h' a ty z f := by obtain ⟨c, A, r⟩ := F; exact ⟨c, A.ext E, r⟩
theorem OArr.other (F : OArr Z h b ty z f) (W : Wr h h' a sl v) (q : b ≠ a) : OArr Z h' b ty z f := by obtain ⟨c, A, r⟩ := F; exact ⟨c, A.other W q, r⟩
theorem OArr.keep {ws : List Addr} (F : OArr Z h a ty z f) (K : Keep h h' ws) (q : a ∉ ws) : OArr Z h' a ty z f := by obtain ⟨c, A, r⟩ := F; exact ⟨c, ⟨K.2.1 a c A.1 q, A.2⟩, r⟩
theorem OArr.imp {g : Nat → Value} (F : OArr Z h a ty z f) (k : ∀ i, i < z.toNatClampNeg → f i = g i) : OArr Z h a ty z g := by
  obtain ⟨c, A, S, r, G⟩ := F
  exact ⟨c, A, S, r, fun i hi => by rw [G i hi, k i (by rw [← S]; exact hi)]⟩
theorem OArr.new {k : ClassId} (A : Arr Z h a (newA k ty z) ty) (q : ¬ z < 0) : OArr Z h a ty z (fun _ => defaultValue ty) :=
  ⟨_, A, sz_new _ _ _, q, fun i hi => by simp only [newA, Array.size_replicate] at hi; simp [newA, hi]⟩
theorem OArr.set (F : OArr Z h a ty z f) (W : Wr h h' a sl v) : OArr Z h' a ty z (fun i => if i = sl then v else f i) := by
  obtain ⟨c, A, S, r, G⟩ := F
  refine ⟨_, A.same W, by rw [sz_set]; exact S, r, fun i hi => ?_⟩
  rw [sz_set] at hi
  show (c.setSlot sl v).slots[i]? = some (if i = sl then v else f i)
  by_cases q : i = sl
  · subst q; simp [Cell.setSlot, hi]
  · rw [if_neg q, ← G i hi]
    simp [Cell.setSlot, Array.getElem?_setIfInBounds, Ne.symm q]
theorem oNeA {C : String} {k : Nat} (E : Exa Z h a C) (wi : (Jvm.Cond.instantiable C k).before a0 Z = true) (F : OArr Z h b ty z f) : a ≠ b := by
  obtain ⟨c, A, -⟩ := F; exact ne_arr E wi A
theorem oIn {j : Int32} {n : Nat} (S : n = z.toNatClampNeg) (h1 : 0 ≤ j.toInt) (h2 : j.toInt < z.toInt) : ¬ (j < 0 ∨ n ≤ j.toNatClampNeg) := by
  intro q
  have e0 : (0 : Int32).toInt = 0 := by decide
  have e1 : j.toNatClampNeg = j.toInt.toNat := rfl
  have e2 : z.toNatClampNeg = z.toInt.toNat := rfl
  rcases q with q | q
  · have := oLt q; omega
  · rw [S, e1, e2] at q; omega
theorem oLen (X : Stand p l e R s m args below meth c T locs cells slots) (hx : p.tables.exec = Jvm.exec) (hZ : Z.Warmed39 s.vm) (eT : T.heap = h) (F : OArr Z h a ty z f) {g : JFrame} (hg : g.method = m) {rest : List Value} (hs : g.stack = .ref a :: rest) (hd : decode c.code g.pc = .ok (.arraylength, 1)) {target : State}
    (k : Steps p.tables e below (T.setTop { g with pc := g.pc + 1, stack := .int z :: rest }) target) : Steps p.tables e below (T.setTop g) target := by
  obtain ⟨cl, A, S, r, -⟩ := F
  refine X.arraylength hx (by rw [eT]; exact A.1) (State.isArrayOf_alike hZ.alike A.2.1) (g := g) hg hs hd _ ?_
  rw [len_of S r]; exact k
theorem oInd (F : OArr Z h a ty z f) {j : Int32} (h1 : 0 ≤ j.toInt) (h2 : j.toInt < z.toInt) : ∃ cl, Arr Z h a cl ty ∧ ¬ (j < 0 ∨ cl.slots.size ≤ j.toNatClampNeg) ∧ cl.slots[j.toNatClampNeg]? = some (f j.toNatClampNeg) := by
  obtain ⟨cl, A, S, r, G⟩ := F
  have q := oIn S h1 h2
  exact ⟨cl, A, q, G _ (Nat.lt_of_not_le fun w => q (Or.inr w))⟩
theorem oLdI (X : Stand p l e R s m args below meth c T locs cells slots) (hx : p.tables.exec = Jvm.exec) (hZ : Z.Warmed39 s.vm) (eT : T.heap = h) (F : OArr Z h a .int z f) {j x : Int32} (h1 : 0 ≤ j.toInt) (h2 : j.toInt < z.toInt) (hv : f j.toNatClampNeg = .int x) {g : JFrame} (hg : g.method = m) {rest : List Value} (hs : g.stack = .int j :: .ref a :: rest) (hd : decode c.code g.pc = .ok (.iaload, 1)) {target : State}
    (k : Steps p.tables e below (T.setTop { g with pc := g.pc + 1, stack := .int x :: rest }) target) : Steps p.tables e below (T.setTop g) target := by
  obtain ⟨cl, A, q, G⟩ := oInd F h1 h2
  rw [hv] at G
  exact X.iaload hx (j := j) (v := .int x) (by rw [eT]; exact A.1) (State.isArrayOf_alike hZ.alike A.2.1) A.2.2 q G (g := g) hg hs hd _ k
theorem oLdD (X : Stand p l e R s m args below meth c T locs cells slots) (hx : p.tables.exec = Jvm.exec) (hZ : Z.Warmed39 s.vm) (eT : T.heap = h) (F : OArr Z h a .double z f) {j : Int32} {x : UInt64} (h1 : 0 ≤ j.toInt) (h2 : j.toInt < z.toInt) (hv : f j.toNatClampNeg = .double x) {g : JFrame} (hg : g.method = m) {rest : List Value} (hs : g.stack = .int j :: .ref a :: rest) (hd : decode c.code g.pc = .ok (.daload, 1)) {target : State}
    (k : Steps p.tables e below (T.setTop { g with pc := g.pc + 1, stack := .double x :: rest }) target) : Steps p.tables e below (T.setTop g) target := by
  obtain ⟨cl, A, q, G⟩ := oInd F h1 h2
  rw [hv] at G
  exact X.daload hx (j := j) (v := .double x) (by rw [eT]; exact A.1) (State.isArrayOf_alike hZ.alike A.2.1) A.2.2 q G (g := g) hg hs hd _ k
theorem oStI (X : Stand p l e R s m args below meth c T locs cells slots) (hx : p.tables.exec = Jvm.exec) (hZ : Z.Warmed39 s.vm) (eT : T.heap = h) (F : OArr Z h a .int z f) {j x : Int32} (h1 : 0 ≤ j.toInt) (h2 : j.toInt < z.toInt) {g : JFrame} (hg : g.method = m) {rest : List Value} (hs : g.stack = .int x :: .int j :: .ref a :: rest) (hd : decode c.code g.pc = .ok (.iastore, 1)) :
    ∃ T' h', Stand p l e R s m args below meth c T' (locs ++ [⟨a, j.toNatClampNeg⟩]) cells slots ∧ T'.heap = h' ∧ Wr h h' a j.toNatClampNeg (.int x) ∧ ∀ target, Steps p.tables e below (T'.setTop { g with pc := g.pc + 1, stack := rest }) target → Steps p.tables e below (T.setTop g) target := by
  obtain ⟨cl, A, q, G⟩ := oInd F h1 h2
  exact stI X hx hZ eT A q hg hs hd
theorem oStD (X : Stand p l e R s m args below meth c T locs cells slots) (hx : p.tables.exec = Jvm.exec) (hZ : Z.Warmed39 s.vm) (eT : T.heap = h) (F : OArr Z h a .double z f) {j : Int32} {x : UInt64} (h1 : 0 ≤ j.toInt) (h2 : j.toInt < z.toInt) {g : JFrame} (hg : g.method = m) {rest : List Value} (hs : g.stack = .double x :: .int j :: .ref a :: rest) (hd : decode c.code g.pc = .ok (.dastore, 1)) :
    ∃ T' h', Stand p l e R s m args below meth c T' (locs ++ [⟨a, j.toNatClampNeg⟩]) cells slots ∧ T'.heap = h' ∧ Wr h h' a j.toNatClampNeg (.double x) ∧ ∀ target, Steps p.tables e below (T'.setTop { g with pc := g.pc + 1, stack := rest }) target → Steps p.tables e below (T.setTop g) target := by
  obtain ⟨cl, A, q, G⟩ := oInd F h1 h2
  exact stD X hx hZ eT A q hg hs hd
theorem oClone (X : Stand p l e R s m args below meth c T locs cells slots) (hx : p.tables.exec = Jvm.exec) (hZ : Z.Warmed39 s.vm) {own ad : String} {index : Nat} (hown : s.vm.findClass own = some m.cls)
    (w1 : (Jvm.Cond.methodLink own index ⟨ad, "clone", "()Ljava/lang/Object;"⟩).before a0 Z = true) (w2 : (Jvm.Cond.sameMethod ad "java/lang/Object" "clone" "()Ljava/lang/Object;").before a0 Z = true) (w3 : (Jvm.Cond.native ⟨"java/lang/Object", "clone", "()Ljava/lang/Object;"⟩).before a0 Z = true)
    (w4 : (Jvm.Cond.instanceMethod ⟨"java/lang/Object", "clone", "()Ljava/lang/Object;"⟩).before a0 Z = true) (w5 : (Jvm.Cond.selects ad ⟨ad, "clone", "()Ljava/lang/Object;"⟩ ⟨"java/lang/Object", "clone", "()Ljava/lang/Object;"⟩).before a0 Z = true) (w6 : (Jvm.Cond.castable ad "java/lang/Cloneable").before a0 Z = true)
    (eT : T.heap = h) (F : OArr Z h a ty z f) (E : Exa Z h a ad) (hfit : ∀ i, i < z.toNatClampNeg → fits ty (f i) = true) {g : JFrame} (hg : g.method = m) (hsize : g.locals.size = c.maxLocals) {rest : List Value} (hst : g.stack = .ref a :: rest) (hd : decode c.code g.pc = .ok (.invokevirtual index, 3))
    (hf : 1 ≤ R.frames) {W cap : Nat} (hW : 2 * g.monitorRoom + (rest.map fun v => v.category).sum ≤ W) (hl : W + 14 ≤ R.locals) (hcap : z.toNatClampNeg ≤ cap) (hc : cells + 1 ≤ R.cells) (hsl : slots + cap ≤ R.slots) :
    ∃ T' h', Stand p l e R s m args below meth c T' locs (cells + 1) (slots + cap) ∧ T'.heap = h' ∧ Ext h h' ∧ OArr Z h' h.size ty z f ∧ Exa Z h' h.size ad ∧
      ∀ target, Steps p.tables e below (T'.setTop { g with pc := g.pc + 3, stack := .ref h.size :: rest }) target → Steps p.tables e below (T.setTop g) target := by
  obtain ⟨cl, A, S, r, G⟩ := F
  have FC : FitC Z cl := fitC_of A fun i hi v hv => by
    rw [G i hi] at hv; cases hv; exact hfit i (by rw [← S]; exact hi)
  obtain ⟨T', h', X', e', ex, A', E', st⟩ := cloneA X hx hZ hown w1 w2 w3 w4 w5 w6 eT A E FC hg hsize hst hd hf hW hl (by rw [S]; exact hcap) hc hsl
  exact ⟨T', h', X', e', ex, ⟨cloneOf cl, A', S, r, G⟩, E', st⟩
end OArrs
/-- from a case's equation to the value -/
theorem oEqv {f s : State} {o : Option Outcome} {idx : List Nat} {a b : Term} (h : (Jvm.Cond.eq a b).value args f o s idx = some true) : ∃ x, a.eval args f o idx s = some x ∧ b.eval args f o idx s = some x := by
  obtain ⟨x, y, h1, h2, -, -⟩ := cmp_v (Or.inl h)
  cases x <;> cases y <;> simp [Cond.value, h1, h2] at h <;> first | (subst h; exact ⟨_, h1, h2⟩) | exact ⟨_, h1, h2⟩
theorem oFeq {s : State} {t u : Term} {x : Addr} {C n d : String} {w : Value} (ht : t.eval args s none [] s = some (.ref x)) (h : (Jvm.Cond.eq (.field t C n d) u).value args s none s [] = some true) (hu : u.eval args s none [] s = some w) : s.fieldOf? x C n d = some w := by
  obtain ⟨v, h1, h2⟩ := oEqv h
  rw [fld_at ht] at h1
  rw [h1, ← h2, hu]
end OwnKit
theorem own_d_jdk_32_method_15_code_0 : decode jdk_32_method_15_code 0 = .ok (.aload_n 0, 1) := by decide +kernel
theorem own_d_jdk_32_method_15_code_1 : decode jdk_32_method_15_code 1 = .ok (.getfield 13, 3) := by decide +kernel
theorem own_d_jdk_32_method_15_code_4 : decode jdk_32_method_15_code 4 = .ok (.ifnull 10, 3) := by decide +kernel
theorem own_d_jdk_32_method_15_code_14 : decode jdk_32_method_15_code 14 = .ok (.aload_n 1, 1) := by decide +kernel
theorem own_d_jdk_32_method_15_code_15 : decode jdk_32_method_15_code 15 = .ok (.areturn, 1) := by decide +kernel
theorem own_pn_java_util_Optional : plainName "java/util/Optional" = true := by first | (simp [plainName, overriddenIn]; done) | decide +kernel
theorem own_ef_rmO0 (x0 : Addr) (x1 : Addr) (m : MethodId) : entryFrame m #[(.ref x0), (.ref x1)] 2 = mkF m 0 #[.val (.ref x0), .val (.ref x1)] [] := by first | (simp [entryFrame, mkF, argsToLocals, Value.category]; done) | rfl
set_option maxRecDepth 65536 in
set_option maxHeartbeats 40000000 in
theorem rmO0 (l : Launch) (Z : State) (a0 : Array Value) (hw : ∀ d ∈ tables_1, d.before a0 Z = true) (o j : Addr) (h0 : Heap) (n0 : Nat) (Z0 : n0 ≤ h0.size) (F : Fld Z h0 o "java/util/Optional" "value" "Ljava/lang/Object;" .null) :
    OCon l Z (⟨"java/util/Optional", "orElse", "(Ljava/lang/Object;)Ljava/lang/Object;"⟩ : MethodName) jdk_32_method_15_code 2 (some (.object "java/lang/Object")) ({ frames := 0, cells := 0, slots := 0, locals := 0 } : Room) #[(.ref o), (.ref j)] h0 (fun v h L => v = some (.ref j) ∧ Fr n0 L ∧ h = h0) := by
  refine OConK.intro (y := (⟨"java/util/Optional", "orElse", "(Ljava/lang/Object;)Ljava/lang/Object;"⟩ : MethodName)) (plainFor_of_name own_pn_java_util_Optional) (own_ef_rmO0 o j) ?_
  intro p e s m below meth c s₁ hx hby hml hown hnm hret hlk hZ X0 e0
  show OGoal p e below s _ _ _ (s₁.setTop (mkF m 0 #[.val (.ref o), .val (.ref j)] []))
  refine OGoal.mp (S' := (s₁.setTop (mkF m 1 #[.val (.ref o), .val (.ref j)] [(.ref o)]))) (fun _ k => XS.aloadN X0.here hx rfl (hb hby own_d_jdk_32_method_15_code_0) rfl rfl k) ?_
  obtain ⟨T1, X2, e3, st4⟩ := getF X0 hx hZ hown (host := "") (Or.inl (hw _ (List.mem_of_getElem? (i := 27) rfl))) Via.refl e0 F (g := mkF m 1 #[.val (.ref o), .val (.ref j)] [(.ref o)]) rfl rfl (hb hby own_d_jdk_32_method_15_code_1)
  refine OGoal.mp (S' := (T1.setTop (mkF m 4 #[.val (.ref o), .val (.ref j)] [.null]))) (fun _ k => st4 _ k) ?_
  refine OGoal.mp (S' := (T1.setTop (mkF m 14 #[.val (.ref o), .val (.ref j)] []))) (fun _ k => XS.ifnullYes X2.here hx rfl (pc0 := 4) (pc' := 14) rfl (hb hby own_d_jdk_32_method_15_code_4) rfl (by decide) (by decide) k) ?_
  refine OGoal.mp (S' := (T1.setTop (mkF m 15 #[.val (.ref o), .val (.ref j)] [(.ref j)]))) (fun _ k => XS.aloadN X2.here hx rfl (hb hby own_d_jdk_32_method_15_code_14) rfl rfl k) ?_
  refine oRetA X2 hx hlk hret rfl rfl (hb hby own_d_jdk_32_method_15_code_15) ?_ (by decide) (by decide)
  exact ⟨rfl, (Fr.nil n0), e3⟩
theorem own_d_jdk_32_method_15_code_7 : decode jdk_32_method_15_code 7 = .ok (.aload_n 0, 1) := by decide +kernel
theorem own_d_jdk_32_method_15_code_8 : decode jdk_32_method_15_code 8 = .ok (.getfield 13, 3) := by decide +kernel
theorem own_d_jdk_32_method_15_code_11 : decode jdk_32_method_15_code 11 = .ok (.goto 4, 3) := by decide +kernel
theorem own_ef_rmO1 (x0 : Addr) (x1 : Addr) (m : MethodId) : entryFrame m #[(.ref x0), (.ref x1)] 2 = mkF m 0 #[.val (.ref x0), .val (.ref x1)] [] := by first | (simp [entryFrame, mkF, argsToLocals, Value.category]; done) | rfl
set_option maxRecDepth 65536 in
set_option maxHeartbeats 40000000 in
theorem rmO1 (l : Launch) (Z : State) (a0 : Array Value) (hw : ∀ d ∈ tables_1, d.before a0 Z = true) (o j : Addr) (k : Addr) (h0 : Heap) (n0 : Nat) (Z0 : n0 ≤ h0.size) (F : Fld Z h0 o "java/util/Optional" "value" "Ljava/lang/Object;" (.ref k)) :
    OCon l Z (⟨"java/util/Optional", "orElse", "(Ljava/lang/Object;)Ljava/lang/Object;"⟩ : MethodName) jdk_32_method_15_code 2 (some (.object "java/lang/Object")) ({ frames := 0, cells := 0, slots := 0, locals := 0 } : Room) #[(.ref o), (.ref j)] h0 (fun v h L => v = some (.ref k) ∧ Fr n0 L ∧ h = h0) := by
  refine OConK.intro (y := (⟨"java/util/Optional", "orElse", "(Ljava/lang/Object;)Ljava/lang/Object;"⟩ : MethodName)) (plainFor_of_name own_pn_java_util_Optional) (own_ef_rmO1 o j) ?_
  intro p e s m below meth c s₁ hx hby hml hown hnm hret hlk hZ X0 e0
  show OGoal p e below s _ _ _ (s₁.setTop (mkF m 0 #[.val (.ref o), .val (.ref j)] []))
  refine OGoal.mp (S' := (s₁.setTop (mkF m 1 #[.val (.ref o), .val (.ref j)] [(.ref o)]))) (fun _ k => XS.aloadN X0.here hx rfl (hb hby own_d_jdk_32_method_15_code_0) rfl rfl k) ?_
  obtain ⟨T1, X2, e3, st4⟩ := getF X0 hx hZ hown (host := "") (Or.inl (hw _ (List.mem_of_getElem? (i := 27) rfl))) Via.refl e0 F (g := mkF m 1 #[.val (.ref o), .val (.ref j)] [(.ref o)]) rfl rfl (hb hby own_d_jdk_32_method_15_code_1)
  refine OGoal.mp (S' := (T1.setTop (mkF m 4 #[.val (.ref o), .val (.ref j)] [(.ref k)]))) (fun _ k => st4 _ k) ?_
  refine OGoal.mp (S' := (T1.setTop (mkF m 7 #[.val (.ref o), .val (.ref j)] []))) (fun _ k => XS.ifnullNo X2.here hx rfl (hb hby own_d_jdk_32_method_15_code_4) rfl k) ?_
  refine OGoal.mp (S' := (T1.setTop (mkF m 8 #[.val (.ref o), .val (.ref j)] [(.ref o)]))) (fun _ k => XS.aloadN X2.here hx rfl (hb hby own_d_jdk_32_method_15_code_7) rfl rfl k) ?_
  obtain ⟨T5, X6, e7, st8⟩ := getF X2 hx hZ hown (host := "") (Or.inl (hw _ (List.mem_of_getElem? (i := 27) rfl))) Via.refl e3 F (g := mkF m 8 #[.val (.ref o), .val (.ref j)] [(.ref o)]) rfl rfl (hb hby own_d_jdk_32_method_15_code_8)
  refine OGoal.mp (S' := (T5.setTop (mkF m 11 #[.val (.ref o), .val (.ref j)] [(.ref k)]))) (fun _ k => st8 _ k) ?_
  refine OGoal.mp (S' := (T5.setTop (mkF m 15 #[.val (.ref o), .val (.ref j)] [(.ref k)]))) (fun _ k => XS.goto X6.here hx rfl (pc0 := 11) (pc' := 15) rfl (hb hby own_d_jdk_32_method_15_code_11) (by decide) (by decide) k) ?_
  refine oRetA X6 hx hlk hret rfl rfl (hb hby own_d_jdk_32_method_15_code_15) ?_ (by decide) (by decide)
  exact ⟨rfl, (Fr.nil n0), e7⟩
theorem own_d_prog_41_method_6_code_0 : decode prog_41_method_6_code 0 = .ok (.aload_n 0, 1) := by decide +kernel
theorem own_d_prog_41_method_6_code_1 : decode prog_41_method_6_code 1 = .ok (.getfield 65, 3) := by decide +kernel
theorem own_d_prog_41_method_6_code_4 : decode prog_41_method_6_code 4 = .ok (.aload_n 1, 1) := by decide +kernel
theorem own_d_prog_41_method_6_code_5 : decode prog_41_method_6_code 5 = .ok (.invokevirtual 71, 3) := by decide +kernel
theorem own_pd__Ljava_lang_Object__Ljava_lang_Object_ : parseMethodDescriptor "(Ljava/lang/Object;)Ljava/lang/Object;" = some ⟨[(.object "java/lang/Object")], some (.object "java/lang/Object")⟩ := by decide +kernel
theorem own_d_prog_41_method_6_code_8 : decode prog_41_method_6_code 8 = .ok (.checkcast 75, 3) := by decide +kernel
theorem own_d_prog_41_method_6_code_11 : decode prog_41_method_6_code 11 = .ok (.areturn, 1) := by decide +kernel
theorem own_pn_com_example_pausemark_pausemark_formats_RecordNote : plainName "com/example/pausemark/pausemark/formats/RecordNote" = true := by first | (simp [plainName, overriddenIn]; done) | decide +kernel
theorem own_ef_rmK0 (x0 : Addr) (x1 : Addr) (m : MethodId) : entryFrame m #[(.ref x0), (.ref x1)] 2 = mkF m 0 #[.val (.ref x0), .val (.ref x1)] [] := by first | (simp [entryFrame, mkF, argsToLocals, Value.category]; done) | rfl
set_option maxRecDepth 65536 in
set_option maxHeartbeats 40000000 in
theorem rmK0 (l : Launch) (Z : State) (a0 : Array Value) (hw : ∀ d ∈ tables_1, d.before a0 Z = true) (b j : Addr) (h0 : Heap) (n0 : Nat) (Z0 : n0 ≤ h0.size) (o : Addr) (Fk : Fld Z h0 b "com/example/pausemark/pausemark/formats/RecordNote" "kind" "Ljava/util/Optional;" (.ref o)) (Eo : Exa Z h0 o "java/util/Optional") (Fv : Fld Z h0 o "java/util/Optional" "value" "Ljava/lang/Object;" .null) (Ek : Exa Z h0 j "com/example/pausemark/pausemark/formats/GcEvent$Kind") :
    OCon l Z (⟨"com/example/pausemark/pausemark/formats/RecordNote", "kindOf", "(Lcom/example/pausemark/pausemark/formats/GcEvent$Kind;)Lcom/example/pausemark/pausemark/formats/GcEvent$Kind;"⟩ : MethodName) prog_41_method_6_code 2 (some (.object "com/example/pausemark/pausemark/formats/GcEvent$Kind")) ({ frames := 1, cells := 0, slots := 0, locals := 13 } : Room) #[(.ref b), (.ref j)] h0 (fun v h L => v = some (.ref j) ∧ Fr n0 L ∧ h = h0) := by
  refine OConK.intro (y := (⟨"com/example/pausemark/pausemark/formats/RecordNote", "kindOf", "(Lcom/example/pausemark/pausemark/formats/GcEvent$Kind;)Lcom/example/pausemark/pausemark/formats/GcEvent$Kind;"⟩ : MethodName)) (plainFor_of_name own_pn_com_example_pausemark_pausemark_formats_RecordNote) (own_ef_rmK0 b j) ?_
  intro p e s m below meth c s₁ hx hby hml hown hnm hret hlk hZ X0 e0
  show OGoal p e below s _ _ _ (s₁.setTop (mkF m 0 #[.val (.ref b), .val (.ref j)] []))
  refine OGoal.mp (S' := (s₁.setTop (mkF m 1 #[.val (.ref b), .val (.ref j)] [(.ref b)]))) (fun _ k => XS.aloadN X0.here hx rfl (hb hby own_d_prog_41_method_6_code_0) rfl rfl k) ?_
  obtain ⟨T1, X2, e3, st4⟩ := getF X0 hx hZ hown (host := "") (Or.inl (hw _ (List.mem_of_getElem? (i := 19) rfl))) Via.refl e0 Fk (g := mkF m 1 #[.val (.ref b), .val (.ref j)] [(.ref b)]) rfl rfl (hb hby own_d_prog_41_method_6_code_1)
  refine OGoal.mp (S' := (T1.setTop (mkF m 4 #[.val (.ref b), .val (.ref j)] [(.ref o)]))) (fun _ k => st4 _ k) ?_
  refine OGoal.mp (S' := (T1.setTop (mkF m 5 #[.val (.ref b), .val (.ref j)] [(.ref j), (.ref o)]))) (fun _ k => XS.aloadN X2.here hx rfl (hb hby own_d_prog_41_method_6_code_4) rfl rfl k) ?_
  refine oCallV (y := (⟨"java/util/Optional", "orElse", "(Ljava/lang/Object;)Ljava/lang/Object;"⟩ : MethodName)) (z := (⟨"java/util/Optional", "orElse", "(Ljava/lang/Object;)Ljava/lang/Object;"⟩ : MethodName)) X2 hx hZ hown (hw _ (List.mem_of_getElem? (i := 21) rfl)) (hw _ (List.mem_of_getElem? (i := 22) rfl)) (hw _ (List.mem_of_getElem? (i := 24) rfl)) (hw _ (List.mem_of_getElem? (i := 23) rfl)) (hw _ (List.mem_of_getElem? (i := 25) rfl)) (hw _ (List.mem_of_getElem? (i := 26) rfl)) (by decide) (rmO0 l Z a0 hw o j h0 n0 Z0 Fv) e3 Eo [(.ref j)] [] rfl rfl (by rw [hml]; rfl) (notFace_of_selects (args := #[]) (mvT hZ (hw _ (List.mem_of_getElem? (i := 24) rfl)))) (lenOf own_pd__Ljava_lang_Object__Ljava_lang_Object_ rfl) 0 (Nat.le_of_eq rfl) (by decide) (by decide) (by decide) (by decide) (hb hby own_d_prog_41_method_6_code_5) ?_
  intro v5 T6 L7 X8 q9
  obtain ⟨rfl, N10, e11⟩ := q9
  have N12 := Fr.app (Fr.nil n0) N10
  show OGoal p e below s _ _ _ (T6.setTop (mkF m 8 #[.val (.ref b), .val (.ref j)] [(.ref j)]))
  obtain ⟨T13, X14, e15, st16⟩ := castY X8 hx hZ hown (hw _ (List.mem_of_getElem? (i := 29) rfl)) e11 (Ins.self Ek) (g := mkF m 8 #[.val (.ref b), .val (.ref j)] [(.ref j)]) rfl rfl (hb hby own_d_prog_41_method_6_code_8)
  refine OGoal.mp (S' := (T13.setTop (mkF m 11 #[.val (.ref b), .val (.ref j)] [(.ref j)]))) (fun _ k => st16 _ k) ?_
  refine oRetA X14 hx hlk hret rfl rfl (hb hby own_d_prog_41_method_6_code_11) ?_ (by decide) (by decide)
  exact ⟨rfl, N12, e15⟩
theorem own_ef_rmK1 (x0 : Addr) (x1 : Addr) (m : MethodId) : entryFrame m #[(.ref x0), (.ref x1)] 2 = mkF m 0 #[.val (.ref x0), .val (.ref x1)] [] := by first | (simp [entryFrame, mkF, argsToLocals, Value.category]; done) | rfl
set_option maxRecDepth 65536 in
set_option maxHeartbeats 40000000 in
theorem rmK1 (l : Launch) (Z : State) (a0 : Array Value) (hw : ∀ d ∈ tables_1, d.before a0 Z = true) (b j : Addr) (k : Addr) (h0 : Heap) (n0 : Nat) (Z0 : n0 ≤ h0.size) (o : Addr) (Fk : Fld Z h0 b "com/example/pausemark/pausemark/formats/RecordNote" "kind" "Ljava/util/Optional;" (.ref o)) (Eo : Exa Z h0 o "java/util/Optional") (Fv : Fld Z h0 o "java/util/Optional" "value" "Ljava/lang/Object;" (.ref k)) (Ek : Exa Z h0 k "com/example/pausemark/pausemark/formats/GcEvent$Kind") :
    OCon l Z (⟨"com/example/pausemark/pausemark/formats/RecordNote", "kindOf", "(Lcom/example/pausemark/pausemark/formats/GcEvent$Kind;)Lcom/example/pausemark/pausemark/formats/GcEvent$Kind;"⟩ : MethodName) prog_41_method_6_code 2 (some (.object "com/example/pausemark/pausemark/formats/GcEvent$Kind")) ({ frames := 1, cells := 0, slots := 0, locals := 13 } : Room) #[(.ref b), (.ref j)] h0 (fun v h L => v = some (.ref k) ∧ Fr n0 L ∧ h = h0) := by
  refine OConK.intro (y := (⟨"com/example/pausemark/pausemark/formats/RecordNote", "kindOf", "(Lcom/example/pausemark/pausemark/formats/GcEvent$Kind;)Lcom/example/pausemark/pausemark/formats/GcEvent$Kind;"⟩ : MethodName)) (plainFor_of_name own_pn_com_example_pausemark_pausemark_formats_RecordNote) (own_ef_rmK1 b j) ?_
  intro p e s m below meth c s₁ hx hby hml hown hnm hret hlk hZ X0 e0
  show OGoal p e below s _ _ _ (s₁.setTop (mkF m 0 #[.val (.ref b), .val (.ref j)] []))
  refine OGoal.mp (S' := (s₁.setTop (mkF m 1 #[.val (.ref b), .val (.ref j)] [(.ref b)]))) (fun _ k => XS.aloadN X0.here hx rfl (hb hby own_d_prog_41_method_6_code_0) rfl rfl k) ?_
  obtain ⟨T1, X2, e3, st4⟩ := getF X0 hx hZ hown (host := "") (Or.inl (hw _ (List.mem_of_getElem? (i := 19) rfl))) Via.refl e0 Fk (g := mkF m 1 #[.val (.ref b), .val (.ref j)] [(.ref b)]) rfl rfl (hb hby own_d_prog_41_method_6_code_1)
  refine OGoal.mp (S' := (T1.setTop (mkF m 4 #[.val (.ref b), .val (.ref j)] [(.ref o)]))) (fun _ k => st4 _ k) ?_
  refine OGoal.mp (S' := (T1.setTop (mkF m 5 #[.val (.ref b), .val (.ref j)] [(.ref j), (.ref o)]))) (fun _ k => XS.aloadN X2.here hx rfl (hb hby own_d_prog_41_method_6_code_4) rfl rfl k) ?_
  refine oCallV (y := (⟨"java/util/Optional", "orElse", "(Ljava/lang/Object;)Ljava/lang/Object;"⟩ : MethodName)) (z := (⟨"java/util/Optional", "orElse", "(Ljava/lang/Object;)Ljava/lang/Object;"⟩ : MethodName)) X2 hx hZ hown (hw _ (List.mem_of_getElem? (i := 21) rfl)) (hw _ (List.mem_of_getElem? (i := 22) rfl)) (hw _ (List.mem_of_getElem? (i := 24) rfl)) (hw _ (List.mem_of_getElem? (i := 23) rfl)) (hw _ (List.mem_of_getElem? (i := 25) rfl)) (hw _ (List.mem_of_getElem? (i := 26) rfl)) (by decide) (rmO1 l Z a0 hw o j k h0 n0 Z0 Fv) e3 Eo [(.ref j)] [] rfl rfl (by rw [hml]; rfl) (notFace_of_selects (args := #[]) (mvT hZ (hw _ (List.mem_of_getElem? (i := 24) rfl)))) (lenOf own_pd__Ljava_lang_Object__Ljava_lang_Object_ rfl) 0 (Nat.le_of_eq rfl) (by decide) (by decide) (by decide) (by decide) (hb hby own_d_prog_41_method_6_code_5) ?_
  intro v5 T6 L7 X8 q9
  obtain ⟨rfl, N10, e11⟩ := q9
  have N12 := Fr.app (Fr.nil n0) N10
  show OGoal p e below s _ _ _ (T6.setTop (mkF m 8 #[.val (.ref b), .val (.ref j)] [(.ref k)]))
  obtain ⟨T13, X14, e15, st16⟩ := castY X8 hx hZ hown (hw _ (List.mem_of_getElem? (i := 29) rfl)) e11 (Ins.self Ek) (g := mkF m 8 #[.val (.ref b), .val (.ref j)] [(.ref k)]) rfl rfl (hb hby own_d_prog_41_method_6_code_8)
  refine OGoal.mp (S' := (T13.setTop (mkF m 11 #[.val (.ref b), .val (.ref j)] [(.ref k)]))) (fun _ k => st16 _ k) ?_
  refine oRetA X14 hx hlk hret rfl rfl (hb hby own_d_prog_41_method_6_code_11) ?_ (by decide) (by decide)
  exact ⟨rfl, N12, e15⟩
def Q_note (Z : State) (i : Int32) (oY oM oI : Addr) (h0 : Heap) (n0 : Nat) (v : Option Value) (h : Heap) (L : List Loc) : Prop := ∃ b, v = some (.ref b) ∧ Exa Z h0 b "com/example/pausemark/pausemark/formats/RecordNote" ∧ ((i = (1 : Int32) ∧ Fld Z h0 b "com/example/pausemark/pausemark/formats/RecordNote" "kind" "Ljava/util/Optional;" (.ref oM)) ∨ (i = (2 : Int32) ∧ Fld Z h0 b "com/example/pausemark/pausemark/formats/RecordNote" "kind" "Ljava/util/Optional;" (.ref oI)) ∨ (¬ i = (1 : Int32) ∧ ¬ i = (2 : Int32) ∧ Fld Z h0 b "com/example/pausemark/pausemark/formats/RecordNote" "kind" "Ljava/util/Optional;" (.ref oY))) ∧ Fr n0 L ∧ h = h0
theorem own_d_method_2_code_0 : decode method_2_code 0 = .ok (.iload_n 0, 1) := by decide +kernel
theorem own_d_method_2_code_1 : decode method_2_code 1 = .ok (.ifCond .ne 7, 3) := by decide +kernel
theorem own_d_method_2_code_4 : decode method_2_code 4 = .ok (.getstatic 7, 3) := by decide +kernel
theorem own_d_method_2_code_7 : decode method_2_code 7 = .ok (.areturn, 1) := by decide +kernel
theorem own_d_method_2_code_8 : decode method_2_code 8 = .ok (.iload_n 0, 1) := by decide +kernel
theorem own_d_method_2_code_9 : decode method_2_code 9 = .ok (.iconst 1, 1) := by decide +kernel
theorem own_d_method_2_code_10 : decode method_2_code 10 = .ok (.if_icmp .ne 7, 3) := by decide +kernel
theorem own_d_method_2_code_13 : decode method_2_code 13 = .ok (.getstatic 13, 3) := by decide +kernel
theorem own_d_method_2_code_16 : decode method_2_code 16 = .ok (.areturn, 1) := by decide +kernel
theorem own_d_method_2_code_17 : decode method_2_code 17 = .ok (.iload_n 0, 1) := by decide +kernel
theorem own_d_method_2_code_18 : decode method_2_code 18 = .ok (.iconst 2, 1) := by decide +kernel
theorem own_d_method_2_code_19 : decode method_2_code 19 = .ok (.if_icmp .ne 7, 3) := by decide +kernel
theorem own_d_method_2_code_22 : decode method_2_code 22 = .ok (.getstatic 16, 3) := by decide +kernel
theorem own_d_method_2_code_25 : decode method_2_code 25 = .ok (.areturn, 1) := by decide +kernel
theorem own_d_method_2_code_26 : decode method_2_code 26 = .ok (.iload_n 0, 1) := by decide +kernel
theorem own_d_method_2_code_27 : decode method_2_code 27 = .ok (.iconst 3, 1) := by decide +kernel
theorem own_d_method_2_code_28 : decode method_2_code 28 = .ok (.if_icmp .ne 7, 3) := by decide +kernel
theorem own_d_method_2_code_31 : decode method_2_code 31 = .ok (.getstatic 19, 3) := by decide +kernel
theorem own_d_method_2_code_34 : decode method_2_code 34 = .ok (.areturn, 1) := by decide +kernel
theorem own_d_method_2_code_35 : decode method_2_code 35 = .ok (.iload_n 0, 1) := by decide +kernel
theorem own_d_method_2_code_36 : decode method_2_code 36 = .ok (.iconst 4, 1) := by decide +kernel
theorem own_d_method_2_code_37 : decode method_2_code 37 = .ok (.if_icmp .ne 7, 3) := by decide +kernel
theorem own_d_method_2_code_40 : decode method_2_code 40 = .ok (.getstatic 22, 3) := by decide +kernel
theorem own_d_method_2_code_43 : decode method_2_code 43 = .ok (.areturn, 1) := by decide +kernel
theorem own_d_method_2_code_44 : decode method_2_code 44 = .ok (.iload_n 0, 1) := by decide +kernel
theorem own_d_method_2_code_45 : decode method_2_code 45 = .ok (.iconst 5, 1) := by decide +kernel
theorem own_d_method_2_code_46 : decode method_2_code 46 = .ok (.if_icmp .ne 7, 3) := by decide +kernel
theorem own_d_method_2_code_49 : decode method_2_code 49 = .ok (.getstatic 25, 3) := by decide +kernel
theorem own_d_method_2_code_52 : decode method_2_code 52 = .ok (.areturn, 1) := by decide +kernel
theorem own_d_method_2_code_53 : decode method_2_code 53 = .ok (.iload_n 0, 1) := by decide +kernel
theorem own_d_method_2_code_54 : decode method_2_code 54 = .ok (.bipush 6, 2) := by decide +kernel
theorem own_d_method_2_code_56 : decode method_2_code 56 = .ok (.if_icmp .ne 7, 3) := by decide +kernel
theorem own_d_method_2_code_59 : decode method_2_code 59 = .ok (.getstatic 28, 3) := by decide +kernel
theorem own_d_method_2_code_62 : decode method_2_code 62 = .ok (.areturn, 1) := by decide +kernel
theorem own_d_method_2_code_63 : decode method_2_code 63 = .ok (.getstatic 31, 3) := by decide +kernel
theorem own_d_method_2_code_66 : decode method_2_code 66 = .ok (.areturn, 1) := by decide +kernel
theorem own_pn_com_example_pausemark_pausemark_formats_RecordNoteKindOfPinLaw : plainName "com/example/pausemark/pausemark/formats/RecordNoteKindOfPinLaw" = true := by first | (simp [plainName, overriddenIn]; done) | decide +kernel
theorem own_ef_rmT (x0 : Int32) (m : MethodId) : entryFrame m #[(.int x0)] 1 = mkF m 0 #[.val (.int x0)] [] := by first | (simp [entryFrame, mkF, argsToLocals, Value.category]; done) | rfl
set_option maxRecDepth 65536 in
set_option maxHeartbeats 40000000 in
theorem rmT (l : Launch) (Z : State) (a0 : Array Value) (hw : ∀ d ∈ tables_1, d.before a0 Z = true) (i : Int32) (h0 : Heap) (n0 : Nat) (Z0 : n0 ≤ h0.size) (b0 b1 b2 b3 b4 b5 b6 b7 oY oM oI : Addr) (Sb0 : Sta Z h0 "com/example/pausemark/pausemark/formats/RecordNote" "YOUNG" "Lcom/example/pausemark/pausemark/formats/RecordNote;" (.ref b0)) (Eb0 : Exa Z h0 b0 "com/example/pausemark/pausemark/formats/RecordNote") (Fb0 : Fld Z h0 b0 "com/example/pausemark/pausemark/formats/RecordNote" "kind" "Ljava/util/Optional;" (.ref oY)) (Sb1 : Sta Z h0 "com/example/pausemark/pausemark/formats/RecordNote" "MIXED" "Lcom/example/pausemark/pausemark/formats/RecordNote;" (.ref b1)) (Eb1 : Exa Z h0 b1 "com/example/pausemark/pausemark/formats/RecordNote") (Fb1 : Fld Z h0 b1 "com/example/pausemark/pausemark/formats/RecordNote" "kind" "Ljava/util/Optional;" (.ref oM)) (Sb2 : Sta Z h0 "com/example/pausemark/pausemark/formats/RecordNote" "INITIAL_MARK" "Lcom/example/pausemark/pausemark/formats/RecordNote;" (.ref b2)) (Eb2 : Exa Z h0 b2 "com/example/pausemark/pausemark/formats/RecordNote") (Fb2 : Fld Z h0 b2 "com/example/pausemark/pausemark/formats/RecordNote" "kind" "Ljava/util/Optional;" (.ref oI)) (Sb3 : Sta Z h0 "com/example/pausemark/pausemark/formats/RecordNote" "TO_SPACE_EXHAUSTED" "Lcom/example/pausemark/pausemark/formats/RecordNote;" (.ref b3)) (Eb3 : Exa Z h0 b3 "com/example/pausemark/pausemark/formats/RecordNote") (Fb3 : Fld Z h0 b3 "com/example/pausemark/pausemark/formats/RecordNote" "kind" "Ljava/util/Optional;" (.ref oY)) (Sb4 : Sta Z h0 "com/example/pausemark/pausemark/formats/RecordNote" "TO_SPACE_OVERFLOW" "Lcom/example/pausemark/pausemark/formats/RecordNote;" (.ref b4)) (Eb4 : Exa Z h0 b4 "com/example/pausemark/pausemark/formats/RecordNote") (Fb4 : Fld Z h0 b4 "com/example/pausemark/pausemark/formats/RecordNote" "kind" "Ljava/util/Optional;" (.ref oY)) (Sb5 : Sta Z h0 "com/example/pausemark/pausemark/formats/RecordNote" "CONCURRENT_MODE_FAILURE" "Lcom/example/pausemark/pausemark/formats/RecordNote;" (.ref b5)) (Eb5 : Exa Z h0 b5 "com/example/pausemark/pausemark/formats/RecordNote") (Fb5 : Fld Z h0 b5 "com/example/pausemark/pausemark/formats/RecordNote" "kind" "Ljava/util/Optional;" (.ref oY)) (Sb6 : Sta Z h0 "com/example/pausemark/pausemark/formats/RecordNote" "CONCURRENT_MODE_INTERRUPTED" "Lcom/example/pausemark/pausemark/formats/RecordNote;" (.ref b6)) (Eb6 : Exa Z h0 b6 "com/example/pausemark/pausemark/formats/RecordNote") (Fb6 : Fld Z h0 b6 "com/example/pausemark/pausemark/formats/RecordNote" "kind" "Ljava/util/Optional;" (.ref oY)) (Sb7 : Sta Z h0 "com/example/pausemark/pausemark/formats/RecordNote" "PROMOTION_FAILED" "Lcom/example/pausemark/pausemark/formats/RecordNote;" (.ref b7)) (Eb7 : Exa Z h0 b7 "com/example/pausemark/pausemark/formats/RecordNote") (Fb7 : Fld Z h0 b7 "com/example/pausemark/pausemark/formats/RecordNote" "kind" "Ljava/util/Optional;" (.ref oY)) :
    OCon l Z (⟨"com/example/pausemark/pausemark/formats/RecordNoteKindOfPinLaw", "note", "(I)Lcom/example/pausemark/pausemark/formats/RecordNote;"⟩ : MethodName) method_2_code 1 (some (.object "com/example/pausemark/pausemark/formats/RecordNote")) ({ frames := 0, cells := 0, slots := 0, locals := 0 } : Room) #[(.int i)] h0 (Q_note Z i oY oM oI h0 n0) := by
  refine OConK.intro (y := (⟨"com/example/pausemark/pausemark/formats/RecordNoteKindOfPinLaw", "note", "(I)Lcom/example/pausemark/pausemark/formats/RecordNote;"⟩ : MethodName)) (plainFor_of_name own_pn_com_example_pausemark_pausemark_formats_RecordNoteKindOfPinLaw) (own_ef_rmT i) ?_
  intro p e s m below meth c s₁ hx hby hml hown hnm hret hlk hZ X0 e0
  show OGoal p e below s _ _ _ (s₁.setTop (mkF m 0 #[.val (.int i)] []))
  refine OGoal.mp (S' := (s₁.setTop (mkF m 1 #[.val (.int i)] [(.int i)]))) (fun _ k => XS.iloadN X0.here hx rfl (hb hby own_d_method_2_code_0) rfl k) ?_
  by_cases hc1 : i = 0
  · refine OGoal.mp (S' := (s₁.setTop (mkF m 4 #[.val (.int i)] []))) (fun _ k => XS.ifNo X0.here hx rfl (hb hby own_d_method_2_code_1) rfl (XT.i0_ne_f hc1) k) ?_
    obtain ⟨T2, X3, e4, st5⟩ := getS X0 hx hZ hown (host := "") (hw _ (List.mem_of_getElem? (i := 5) rfl)) Via.refl e0 Sb0 (g := mkF m 4 #[.val (.int i)] []) rfl (hb hby own_d_method_2_code_4)
    refine OGoal.mp (S' := (T2.setTop (mkF m 7 #[.val (.int i)] [(.ref b0)]))) (fun _ k => st5 _ k) ?_
    refine oRetA X3 hx hlk hret rfl rfl (hb hby own_d_method_2_code_7) ?_ (by decide) (by decide)
    exact ⟨_, rfl, Eb0, Or.inr (Or.inr ⟨(by rw [hc1]; decide), (by rw [hc1]; decide), Fb0⟩), (Fr.nil n0), e4⟩
  · refine OGoal.mp (S' := (s₁.setTop (mkF m 8 #[.val (.int i)] []))) (fun _ k => XS.ifYes X0.here hx rfl (pc0 := 1) (pc' := 8) rfl (hb hby own_d_method_2_code_1) rfl (XT.i0_ne_t hc1) (by decide) (by decide) k) ?_
    refine OGoal.mp (S' := (s₁.setTop (mkF m 9 #[.val (.int i)] [(.int i)]))) (fun _ k => XS.iloadN X0.here hx rfl (hb hby own_d_method_2_code_8) rfl k) ?_
    refine OGoal.mp (S' := (s₁.setTop (mkF m 10 #[.val (.int i)] [(.int (1 : Int32)), (.int i)]))) (fun _ k => XS.iconst X0.here hx rfl (hb hby own_d_method_2_code_9) k) ?_
    by_cases hc6 : i = (1 : Int32)
    · refine OGoal.mp (S' := (s₁.setTop (mkF m 13 #[.val (.int i)] []))) (fun _ k => XS.icmpNo X0.here hx rfl (hb hby own_d_method_2_code_10) rfl (XT.ii_ne_f hc6) k) ?_
      obtain ⟨T7, X8, e9, st10⟩ := getS X0 hx hZ hown (host := "") (hw _ (List.mem_of_getElem? (i := 51) rfl)) Via.refl e0 Sb1 (g := mkF m 13 #[.val (.int i)] []) rfl (hb hby own_d_method_2_code_13)
      refine OGoal.mp (S' := (T7.setTop (mkF m 16 #[.val (.int i)] [(.ref b1)]))) (fun _ k => st10 _ k) ?_
      refine oRetA X8 hx hlk hret rfl rfl (hb hby own_d_method_2_code_16) ?_ (by decide) (by decide)
      exact ⟨_, rfl, Eb1, Or.inl ⟨hc6, Fb1⟩, (Fr.nil n0), e9⟩
    · refine OGoal.mp (S' := (s₁.setTop (mkF m 17 #[.val (.int i)] []))) (fun _ k => XS.icmpYes X0.here hx rfl (pc0 := 10) (pc' := 17) rfl (hb hby own_d_method_2_code_10) rfl (XT.ii_ne_t hc6) (by decide) (by decide) k) ?_
      refine OGoal.mp (S' := (s₁.setTop (mkF m 18 #[.val (.int i)] [(.int i)]))) (fun _ k => XS.iloadN X0.here hx rfl (hb hby own_d_method_2_code_17) rfl k) ?_
      refine OGoal.mp (S' := (s₁.setTop (mkF m 19 #[.val (.int i)] [(.int (2 : Int32)), (.int i)]))) (fun _ k => XS.iconst X0.here hx rfl (hb hby own_d_method_2_code_18) k) ?_
      by_cases hc11 : i = (2 : Int32)
      · refine OGoal.mp (S' := (s₁.setTop (mkF m 22 #[.val (.int i)] []))) (fun _ k => XS.icmpNo X0.here hx rfl (hb hby own_d_method_2_code_19) rfl (XT.ii_ne_f hc11) k) ?_
        obtain ⟨T12, X13, e14, st15⟩ := getS X0 hx hZ hown (host := "") (hw _ (List.mem_of_getElem? (i := 55) rfl)) Via.refl e0 Sb2 (g := mkF m 22 #[.val (.int i)] []) rfl (hb hby own_d_method_2_code_22)
        refine OGoal.mp (S' := (T12.setTop (mkF m 25 #[.val (.int i)] [(.ref b2)]))) (fun _ k => st15 _ k) ?_
        refine oRetA X13 hx hlk hret rfl rfl (hb hby own_d_method_2_code_25) ?_ (by decide) (by decide)
        exact ⟨_, rfl, Eb2, Or.inr (Or.inl ⟨hc11, Fb2⟩), (Fr.nil n0), e14⟩
      · refine OGoal.mp (S' := (s₁.setTop (mkF m 26 #[.val (.int i)] []))) (fun _ k => XS.icmpYes X0.here hx rfl (pc0 := 19) (pc' := 26) rfl (hb hby own_d_method_2_code_19) rfl (XT.ii_ne_t hc11) (by decide) (by decide) k) ?_
        refine OGoal.mp (S' := (s₁.setTop (mkF m 27 #[.val (.int i)] [(.int i)]))) (fun _ k => XS.iloadN X0.here hx rfl (hb hby own_d_method_2_code_26) rfl k) ?_
        refine OGoal.mp (S' := (s₁.setTop (mkF m 28 #[.val (.int i)] [(.int (3 : Int32)), (.int i)]))) (fun _ k => XS.iconst X0.here hx rfl (hb hby own_d_method_2_code_27) k) ?_
        by_cases hc16 : i = (3 : Int32)
        · refine OGoal.mp (S' := (s₁.setTop (mkF m 31 #[.val (.int i)] []))) (fun _ k => XS.icmpNo X0.here hx rfl (hb hby own_d_method_2_code_28) rfl (XT.ii_ne_f hc16) k) ?_
          obtain ⟨T17, X18, e19, st20⟩ := getS X0 hx hZ hown (host := "") (hw _ (List.mem_of_getElem? (i := 49) rfl)) Via.refl e0 Sb3 (g := mkF m 31 #[.val (.int i)] []) rfl (hb hby own_d_method_2_code_31)
          refine OGoal.mp (S' := (T17.setTop (mkF m 34 #[.val (.int i)] [(.ref b3)]))) (fun _ k => st20 _ k) ?_
          refine oRetA X18 hx hlk hret rfl rfl (hb hby own_d_method_2_code_34) ?_ (by decide) (by decide)
          exact ⟨_, rfl, Eb3, Or.inr (Or.inr ⟨hc6, hc11, Fb3⟩), (Fr.nil n0), e19⟩
        · refine OGoal.mp (S' := (s₁.setTop (mkF m 35 #[.val (.int i)] []))) (fun _ k => XS.icmpYes X0.here hx rfl (pc0 := 28) (pc' := 35) rfl (hb hby own_d_method_2_code_28) rfl (XT.ii_ne_t hc16) (by decide) (by decide) k) ?_
          refine OGoal.mp (S' := (s₁.setTop (mkF m 36 #[.val (.int i)] [(.int i)]))) (fun _ k => XS.iloadN X0.here hx rfl (hb hby own_d_method_2_code_35) rfl k) ?_
          refine OGoal.mp (S' := (s₁.setTop (mkF m 37 #[.val (.int i)] [(.int (4 : Int32)), (.int i)]))) (fun _ k => XS.iconst X0.here hx rfl (hb hby own_d_method_2_code_36) k) ?_
          by_cases hc21 : i = (4 : Int32)
          · refine OGoal.mp (S' := (s₁.setTop (mkF m 40 #[.val (.int i)] []))) (fun _ k => XS.icmpNo X0.here hx rfl (hb hby own_d_method_2_code_37) rfl (XT.ii_ne_f hc21) k) ?_
            obtain ⟨T22, X23, e24, st25⟩ := getS X0 hx hZ hown (host := "") (hw _ (List.mem_of_getElem? (i := 35) rfl)) Via.refl e0 Sb4 (g := mkF m 40 #[.val (.int i)] []) rfl (hb hby own_d_method_2_code_40)
            refine OGoal.mp (S' := (T22.setTop (mkF m 43 #[.val (.int i)] [(.ref b4)]))) (fun _ k => st25 _ k) ?_
            refine oRetA X23 hx hlk hret rfl rfl (hb hby own_d_method_2_code_43) ?_ (by decide) (by decide)
            exact ⟨_, rfl, Eb4, Or.inr (Or.inr ⟨hc6, hc11, Fb4⟩), (Fr.nil n0), e24⟩
          · refine OGoal.mp (S' := (s₁.setTop (mkF m 44 #[.val (.int i)] []))) (fun _ k => XS.icmpYes X0.here hx rfl (pc0 := 37) (pc' := 44) rfl (hb hby own_d_method_2_code_37) rfl (XT.ii_ne_t hc21) (by decide) (by decide) k) ?_
            refine OGoal.mp (S' := (s₁.setTop (mkF m 45 #[.val (.int i)] [(.int i)]))) (fun _ k => XS.iloadN X0.here hx rfl (hb hby own_d_method_2_code_44) rfl k) ?_
            refine OGoal.mp (S' := (s₁.setTop (mkF m 46 #[.val (.int i)] [(.int (5 : Int32)), (.int i)]))) (fun _ k => XS.iconst X0.here hx rfl (hb hby own_d_method_2_code_45) k) ?_
            by_cases hc26 : i = (5 : Int32)
            · refine OGoal.mp (S' := (s₁.setTop (mkF m 49 #[.val (.int i)] []))) (fun _ k => XS.icmpNo X0.here hx rfl (hb hby own_d_method_2_code_46) rfl (XT.ii_ne_f hc26) k) ?_
              obtain ⟨T27, X28, e29, st30⟩ := getS X0 hx hZ hown (host := "") (hw _ (List.mem_of_getElem? (i := 43) rfl)) Via.refl e0 Sb5 (g := mkF m 49 #[.val (.int i)] []) rfl (hb hby own_d_method_2_code_49)
              refine OGoal.mp (S' := (T27.setTop (mkF m 52 #[.val (.int i)] [(.ref b5)]))) (fun _ k => st30 _ k) ?_
              refine oRetA X28 hx hlk hret rfl rfl (hb hby own_d_method_2_code_52) ?_ (by decide) (by decide)
              exact ⟨_, rfl, Eb5, Or.inr (Or.inr ⟨hc6, hc11, Fb5⟩), (Fr.nil n0), e29⟩
            · refine OGoal.mp (S' := (s₁.setTop (mkF m 53 #[.val (.int i)] []))) (fun _ k => XS.icmpYes X0.here hx rfl (pc0 := 46) (pc' := 53) rfl (hb hby own_d_method_2_code_46) rfl (XT.ii_ne_t hc26) (by decide) (by decide) k) ?_
              refine OGoal.mp (S' := (s₁.setTop (mkF m 54 #[.val (.int i)] [(.int i)]))) (fun _ k => XS.iloadN X0.here hx rfl (hb hby own_d_method_2_code_53) rfl k) ?_
              refine OGoal.mp (S' := (s₁.setTop (mkF m 56 #[.val (.int i)] [(.int (6 : Int32)), (.int i)]))) (fun _ k => XS.bipush X0.here hx rfl (hb hby own_d_method_2_code_54) k) ?_
              by_cases hc31 : i = (6 : Int32)
              · refine OGoal.mp (S' := (s₁.setTop (mkF m 59 #[.val (.int i)] []))) (fun _ k => XS.icmpNo X0.here hx rfl (hb hby own_d_method_2_code_56) rfl (XT.ii_ne_f hc31) k) ?_
                obtain ⟨T32, X33, e34, st35⟩ := getS X0 hx hZ hown (host := "") (hw _ (List.mem_of_getElem? (i := 31) rfl)) Via.refl e0 Sb6 (g := mkF m 59 #[.val (.int i)] []) rfl (hb hby own_d_method_2_code_59)
                refine OGoal.mp (S' := (T32.setTop (mkF m 62 #[.val (.int i)] [(.ref b6)]))) (fun _ k => st35 _ k) ?_
                refine oRetA X33 hx hlk hret rfl rfl (hb hby own_d_method_2_code_62) ?_ (by decide) (by decide)
                exact ⟨_, rfl, Eb6, Or.inr (Or.inr ⟨hc6, hc11, Fb6⟩), (Fr.nil n0), e34⟩
              · refine OGoal.mp (S' := (s₁.setTop (mkF m 63 #[.val (.int i)] []))) (fun _ k => XS.icmpYes X0.here hx rfl (pc0 := 56) (pc' := 63) rfl (hb hby own_d_method_2_code_56) rfl (XT.ii_ne_t hc31) (by decide) (by decide) k) ?_
                obtain ⟨T36, X37, e38, st39⟩ := getS X0 hx hZ hown (host := "") (hw _ (List.mem_of_getElem? (i := 47) rfl)) Via.refl e0 Sb7 (g := mkF m 63 #[.val (.int i)] []) rfl (hb hby own_d_method_2_code_63)
                refine OGoal.mp (S' := (T36.setTop (mkF m 66 #[.val (.int i)] [(.ref b7)]))) (fun _ k => st39 _ k) ?_
                refine oRetA X37 hx hlk hret rfl rfl (hb hby own_d_method_2_code_66) ?_ (by decide) (by decide)
                exact ⟨_, rfl, Eb7, Or.inr (Or.inr ⟨hc6, hc11, Fb7⟩), (Fr.nil n0), e38⟩
theorem own_d_method_3_code_0 : decode method_3_code 0 = .ok (.iload_n 0, 1) := by decide +kernel
theorem own_d_method_3_code_1 : decode method_3_code 1 = .ok (.ifCond .ne 7, 3) := by decide +kernel
theorem own_d_method_3_code_4 : decode method_3_code 4 = .ok (.getstatic 34, 3) := by decide +kernel
theorem own_d_method_3_code_7 : decode method_3_code 7 = .ok (.areturn, 1) := by decide +kernel
theorem own_d_method_3_code_8 : decode method_3_code 8 = .ok (.iload_n 0, 1) := by decide +kernel
theorem own_d_method_3_code_9 : decode method_3_code 9 = .ok (.iconst 1, 1) := by decide +kernel
theorem own_d_method_3_code_10 : decode method_3_code 10 = .ok (.if_icmp .ne 7, 3) := by decide +kernel
theorem own_d_method_3_code_13 : decode method_3_code 13 = .ok (.getstatic 39, 3) := by decide +kernel
theorem own_d_method_3_code_16 : decode method_3_code 16 = .ok (.areturn, 1) := by decide +kernel
theorem own_d_method_3_code_17 : decode method_3_code 17 = .ok (.iload_n 0, 1) := by decide +kernel
theorem own_d_method_3_code_18 : decode method_3_code 18 = .ok (.iconst 2, 1) := by decide +kernel
theorem own_d_method_3_code_19 : decode method_3_code 19 = .ok (.if_icmp .ne 7, 3) := by decide +kernel
theorem own_d_method_3_code_22 : decode method_3_code 22 = .ok (.getstatic 41, 3) := by decide +kernel
theorem own_d_method_3_code_25 : decode method_3_code 25 = .ok (.areturn, 1) := by decide +kernel
theorem own_d_method_3_code_26 : decode method_3_code 26 = .ok (.iload_n 0, 1) := by decide +kernel
theorem own_d_method_3_code_27 : decode method_3_code 27 = .ok (.iconst 3, 1) := by decide +kernel
theorem own_d_method_3_code_28 : decode method_3_code 28 = .ok (.if_icmp .ne 7, 3) := by decide +kernel
theorem own_d_method_3_code_31 : decode method_3_code 31 = .ok (.getstatic 44, 3) := by decide +kernel
theorem own_d_method_3_code_34 : decode method_3_code 34 = .ok (.areturn, 1) := by decide +kernel
theorem own_d_method_3_code_35 : decode method_3_code 35 = .ok (.iload_n 0, 1) := by decide +kernel
theorem own_d_method_3_code_36 : decode method_3_code 36 = .ok (.iconst 4, 1) := by decide +kernel
theorem own_d_method_3_code_37 : decode method_3_code 37 = .ok (.if_icmp .ne 7, 3) := by decide +kernel
theorem own_d_method_3_code_40 : decode method_3_code 40 = .ok (.getstatic 47, 3) := by decide +kernel
theorem own_d_method_3_code_43 : decode method_3_code 43 = .ok (.areturn, 1) := by decide +kernel
theorem own_d_method_3_code_44 : decode method_3_code 44 = .ok (.iload_n 0, 1) := by decide +kernel
theorem own_d_method_3_code_45 : decode method_3_code 45 = .ok (.iconst 5, 1) := by decide +kernel
theorem own_d_method_3_code_46 : decode method_3_code 46 = .ok (.if_icmp .ne 7, 3) := by decide +kernel
theorem own_d_method_3_code_49 : decode method_3_code 49 = .ok (.getstatic 49, 3) := by decide +kernel
theorem own_d_method_3_code_52 : decode method_3_code 52 = .ok (.areturn, 1) := by decide +kernel
theorem own_d_method_3_code_53 : decode method_3_code 53 = .ok (.getstatic 52, 3) := by decide +kernel
theorem own_d_method_3_code_56 : decode method_3_code 56 = .ok (.areturn, 1) := by decide +kernel
theorem own_ef_rmD (x0 : Int32) (m : MethodId) : entryFrame m #[(.int x0)] 1 = mkF m 0 #[.val (.int x0)] [] := by first | (simp [entryFrame, mkF, argsToLocals, Value.category]; done) | rfl
set_option maxRecDepth 65536 in
set_option maxHeartbeats 40000000 in
theorem rmD (l : Launch) (Z : State) (a0 : Array Value) (hw : ∀ d ∈ tables_1, d.before a0 Z = true) (i : Int32) (h0 : Heap) (n0 : Nat) (Z0 : n0 ≤ h0.size) (k0 k1 k2 k3 k4 k5 k6 : Addr) (Sk0 : Sta Z h0 "com/example/pausemark/pausemark/formats/GcEvent$Kind" "YOUNG" "Lcom/example/pausemark/pausemark/formats/GcEvent$Kind;" (.ref k0)) (Ek0 : Exa Z h0 k0 "com/example/pausemark/pausemark/formats/GcEvent$Kind") (Sk1 : Sta Z h0 "com/example/pausemark/pausemark/formats/GcEvent$Kind" "MIXED" "Lcom/example/pausemark/pausemark/formats/GcEvent$Kind;" (.ref k1)) (Ek1 : Exa Z h0 k1 "com/example/pausemark/pausemark/formats/GcEvent$Kind") (Sk2 : Sta Z h0 "com/example/pausemark/pausemark/formats/GcEvent$Kind" "FULL" "Lcom/example/pausemark/pausemark/formats/GcEvent$Kind;" (.ref k2)) (Ek2 : Exa Z h0 k2 "com/example/pausemark/pausemark/formats/GcEvent$Kind") (Sk3 : Sta Z h0 "com/example/pausemark/pausemark/formats/GcEvent$Kind" "MARK" "Lcom/example/pausemark/pausemark/formats/GcEvent$Kind;" (.ref k3)) (Ek3 : Exa Z h0 k3 "com/example/pausemark/pausemark/formats/GcEvent$Kind") (Sk4 : Sta Z h0 "com/example/pausemark/pausemark/formats/GcEvent$Kind" "INITIAL_MARK" "Lcom/example/pausemark/pausemark/formats/GcEvent$Kind;" (.ref k4)) (Ek4 : Exa Z h0 k4 "com/example/pausemark/pausemark/formats/GcEvent$Kind") (Sk5 : Sta Z h0 "com/example/pausemark/pausemark/formats/GcEvent$Kind" "REMARK" "Lcom/example/pausemark/pausemark/formats/GcEvent$Kind;" (.ref k5)) (Ek5 : Exa Z h0 k5 "com/example/pausemark/pausemark/formats/GcEvent$Kind") (Sk6 : Sta Z h0 "com/example/pausemark/pausemark/formats/GcEvent$Kind" "CLEANUP" "Lcom/example/pausemark/pausemark/formats/GcEvent$Kind;" (.ref k6)) (Ek6 : Exa Z h0 k6 "com/example/pausemark/pausemark/formats/GcEvent$Kind") :
    OCon l Z (⟨"com/example/pausemark/pausemark/formats/RecordNoteKindOfPinLaw", "kind", "(I)Lcom/example/pausemark/pausemark/formats/GcEvent$Kind;"⟩ : MethodName) method_3_code 1 (some (.object "com/example/pausemark/pausemark/formats/GcEvent$Kind")) ({ frames := 0, cells := 0, slots := 0, locals := 0 } : Room) #[(.int i)] h0 (fun v h L => ∃ k, v = some (.ref k) ∧ Exa Z h0 k "com/example/pausemark/pausemark/formats/GcEvent$Kind" ∧ Fr n0 L ∧ h = h0) := by
  refine OConK.intro (y := (⟨"com/example/pausemark/pausemark/formats/RecordNoteKindOfPinLaw", "kind", "(I)Lcom/example/pausemark/pausemark/formats/GcEvent$Kind;"⟩ : MethodName)) (plainFor_of_name own_pn_com_example_pausemark_pausemark_formats_RecordNoteKindOfPinLaw) (own_ef_rmD i) ?_
  intro p e s m below meth c s₁ hx hby hml hown hnm hret hlk hZ X0 e0
  show OGoal p e below s _ _ _ (s₁.setTop (mkF m 0 #[.val (.int i)] []))
  refine OGoal.mp (S' := (s₁.setTop (mkF m 1 #[.val (.int i)] [(.int i)]))) (fun _ k => XS.iloadN X0.here hx rfl (hb hby own_d_method_3_code_0) rfl k) ?_
  by_cases hc1 : i = 0
  · refine OGoal.mp (S' := (s₁.setTop (mkF m 4 #[.val (.int i)] []))) (fun _ k => XS.ifNo X0.here hx rfl (hb hby own_d_method_3_code_1) rfl (XT.i0_ne_f hc1) k) ?_
    obtain ⟨T2, X3, e4, st5⟩ := getS X0 hx hZ hown (host := "") (hw _ (List.mem_of_getElem? (i := 41) rfl)) Via.refl e0 Sk0 (g := mkF m 4 #[.val (.int i)] []) rfl (hb hby own_d_method_3_code_4)
    refine OGoal.mp (S' := (T2.setTop (mkF m 7 #[.val (.int i)] [(.ref k0)]))) (fun _ k => st5 _ k) ?_
    refine oRetA X3 hx hlk hret rfl rfl (hb hby own_d_method_3_code_7) ?_ (by decide) (by decide)
    exact ⟨_, rfl, Ek0, (Fr.nil n0), e4⟩
  · refine OGoal.mp (S' := (s₁.setTop (mkF m 8 #[.val (.int i)] []))) (fun _ k => XS.ifYes X0.here hx rfl (pc0 := 1) (pc' := 8) rfl (hb hby own_d_method_3_code_1) rfl (XT.i0_ne_t hc1) (by decide) (by decide) k) ?_
    refine OGoal.mp (S' := (s₁.setTop (mkF m 9 #[.val (.int i)] [(.int i)]))) (fun _ k => XS.iloadN X0.here hx rfl (hb hby own_d_method_3_code_8) rfl k) ?_
    refine OGoal.mp (S' := (s₁.setTop (mkF m 10 #[.val (.int i)] [(.int (1 : Int32)), (.int i)]))) (fun _ k => XS.iconst X0.here hx rfl (hb hby own_d_method_3_code_9) k) ?_
    by_cases hc6 : i = (1 : Int32)
    · refine OGoal.mp (S' := (s₁.setTop (mkF m 13 #[.val (.int i)] []))) (fun _ k => XS.icmpNo X0.here hx rfl (hb hby own_d_method_3_code_10) rfl (XT.ii_ne_f hc6) k) ?_
      obtain ⟨T7, X8, e9, st10⟩ := getS X0 hx hZ hown (host := "") (hw _ (List.mem_of_getElem? (i := 33) rfl)) Via.refl e0 Sk1 (g := mkF m 13 #[.val (.int i)] []) rfl (hb hby own_d_method_3_code_13)
      refine OGoal.mp (S' := (T7.setTop (mkF m 16 #[.val (.int i)] [(.ref k1)]))) (fun _ k => st10 _ k) ?_
      refine oRetA X8 hx hlk hret rfl rfl (hb hby own_d_method_3_code_16) ?_ (by decide) (by decide)
      exact ⟨_, rfl, Ek1, (Fr.nil n0), e9⟩
    · refine OGoal.mp (S' := (s₁.setTop (mkF m 17 #[.val (.int i)] []))) (fun _ k => XS.icmpYes X0.here hx rfl (pc0 := 10) (pc' := 17) rfl (hb hby own_d_method_3_code_10) rfl (XT.ii_ne_t hc6) (by decide) (by decide) k) ?_
      refine OGoal.mp (S' := (s₁.setTop (mkF m 18 #[.val (.int i)] [(.int i)]))) (fun _ k => XS.iloadN X0.here hx rfl (hb hby own_d_method_3_code_17) rfl k) ?_
      refine OGoal.mp (S' := (s₁.setTop (mkF m 19 #[.val (.int i)] [(.int (2 : Int32)), (.int i)]))) (fun _ k => XS.iconst X0.here hx rfl (hb hby own_d_method_3_code_18) k) ?_
      by_cases hc11 : i = (2 : Int32)
      · refine OGoal.mp (S' := (s₁.setTop (mkF m 22 #[.val (.int i)] []))) (fun _ k => XS.icmpNo X0.here hx rfl (hb hby own_d_method_3_code_19) rfl (XT.ii_ne_f hc11) k) ?_
        obtain ⟨T12, X13, e14, st15⟩ := getS X0 hx hZ hown (host := "") (hw _ (List.mem_of_getElem? (i := 39) rfl)) Via.refl e0 Sk2 (g := mkF m 22 #[.val (.int i)] []) rfl (hb hby own_d_method_3_code_22)
        refine OGoal.mp (S' := (T12.setTop (mkF m 25 #[.val (.int i)] [(.ref k2)]))) (fun _ k => st15 _ k) ?_
        refine oRetA X13 hx hlk hret rfl rfl (hb hby own_d_method_3_code_25) ?_ (by decide) (by decide)
        exact ⟨_, rfl, Ek2, (Fr.nil n0), e14⟩
      · refine OGoal.mp (S' := (s₁.setTop (mkF m 26 #[.val (.int i)] []))) (fun _ k => XS.icmpYes X0.here hx rfl (pc0 := 19) (pc' := 26) rfl (hb hby own_d_method_3_code_19) rfl (XT.ii_ne_t hc11) (by decide) (by decide) k) ?_
        refine OGoal.mp (S' := (s₁.setTop (mkF m 27 #[.val (.int i)] [(.int i)]))) (fun _ k => XS.iloadN X0.here hx rfl (hb hby own_d_method_3_code_26) rfl k) ?_
        refine OGoal.mp (S' := (s₁.setTop (mkF m 28 #[.val (.int i)] [(.int (3 : Int32)), (.int i)]))) (fun _ k => XS.iconst X0.here hx rfl (hb hby own_d_method_3_code_27) k) ?_
        by_cases hc16 : i = (3 : Int32)
        · refine OGoal.mp (S' := (s₁.setTop (mkF m 31 #[.val (.int i)] []))) (fun _ k => XS.icmpNo X0.here hx rfl (hb hby own_d_method_3_code_28) rfl (XT.ii_ne_f hc16) k) ?_
          obtain ⟨T17, X18, e19, st20⟩ := getS X0 hx hZ hown (host := "") (hw _ (List.mem_of_getElem? (i := 11) rfl)) Via.refl e0 Sk3 (g := mkF m 31 #[.val (.int i)] []) rfl (hb hby own_d_method_3_code_31)
          refine OGoal.mp (S' := (T17.setTop (mkF m 34 #[.val (.int i)] [(.ref k3)]))) (fun _ k => st20 _ k) ?_
          refine oRetA X18 hx hlk hret rfl rfl (hb hby own_d_method_3_code_34) ?_ (by decide) (by decide)
          exact ⟨_, rfl, Ek3, (Fr.nil n0), e19⟩
        · refine OGoal.mp (S' := (s₁.setTop (mkF m 35 #[.val (.int i)] []))) (fun _ k => XS.icmpYes X0.here hx rfl (pc0 := 28) (pc' := 35) rfl (hb hby own_d_method_3_code_28) rfl (XT.ii_ne_t hc16) (by decide) (by decide) k) ?_
          refine OGoal.mp (S' := (s₁.setTop (mkF m 36 #[.val (.int i)] [(.int i)]))) (fun _ k => XS.iloadN X0.here hx rfl (hb hby own_d_method_3_code_35) rfl k) ?_
          refine OGoal.mp (S' := (s₁.setTop (mkF m 37 #[.val (.int i)] [(.int (4 : Int32)), (.int i)]))) (fun _ k => XS.iconst X0.here hx rfl (hb hby own_d_method_3_code_36) k) ?_
          by_cases hc21 : i = (4 : Int32)
          · refine OGoal.mp (S' := (s₁.setTop (mkF m 40 #[.val (.int i)] []))) (fun _ k => XS.icmpNo X0.here hx rfl (hb hby own_d_method_3_code_37) rfl (XT.ii_ne_f hc21) k) ?_
            obtain ⟨T22, X23, e24, st25⟩ := getS X0 hx hZ hown (host := "") (hw _ (List.mem_of_getElem? (i := 53) rfl)) Via.refl e0 Sk4 (g := mkF m 40 #[.val (.int i)] []) rfl (hb hby own_d_method_3_code_40)
            refine OGoal.mp (S' := (T22.setTop (mkF m 43 #[.val (.int i)] [(.ref k4)]))) (fun _ k => st25 _ k) ?_
            refine oRetA X23 hx hlk hret rfl rfl (hb hby own_d_method_3_code_43) ?_ (by decide) (by decide)
            exact ⟨_, rfl, Ek4, (Fr.nil n0), e24⟩
          · refine OGoal.mp (S' := (s₁.setTop (mkF m 44 #[.val (.int i)] []))) (fun _ k => XS.icmpYes X0.here hx rfl (pc0 := 37) (pc' := 44) rfl (hb hby own_d_method_3_code_37) rfl (XT.ii_ne_t hc21) (by decide) (by decide) k) ?_
            refine OGoal.mp (S' := (s₁.setTop (mkF m 45 #[.val (.int i)] [(.int i)]))) (fun _ k => XS.iloadN X0.here hx rfl (hb hby own_d_method_3_code_44) rfl k) ?_
            refine OGoal.mp (S' := (s₁.setTop (mkF m 46 #[.val (.int i)] [(.int (5 : Int32)), (.int i)]))) (fun _ k => XS.iconst X0.here hx rfl (hb hby own_d_method_3_code_45) k) ?_
            by_cases hc26 : i = (5 : Int32)
            · refine OGoal.mp (S' := (s₁.setTop (mkF m 49 #[.val (.int i)] []))) (fun _ k => XS.icmpNo X0.here hx rfl (hb hby own_d_method_3_code_46) rfl (XT.ii_ne_f hc26) k) ?_
              obtain ⟨T27, X28, e29, st30⟩ := getS X0 hx hZ hown (host := "") (hw _ (List.mem_of_getElem? (i := 37) rfl)) Via.refl e0 Sk5 (g := mkF m 49 #[.val (.int i)] []) rfl (hb hby own_d_method_3_code_49)
              refine OGoal.mp (S' := (T27.setTop (mkF m 52 #[.val (.int i)] [(.ref k5)]))) (fun _ k => st30 _ k) ?_
              refine oRetA X28 hx hlk hret rfl rfl (hb hby own_d_method_3_code_52) ?_ (by decide) (by decide)
              exact ⟨_, rfl, Ek5, (Fr.nil n0), e29⟩
            · refine OGoal.mp (S' := (s₁.setTop (mkF m 53 #[.val (.int i)] []))) (fun _ k => XS.icmpYes X0.here hx rfl (pc0 := 46) (pc' := 53) rfl (hb hby own_d_method_3_code_46) rfl (XT.ii_ne_t hc26) (by decide) (by decide) k) ?_
              obtain ⟨T31, X32, e33, st34⟩ := getS X0 hx hZ hown (host := "") (hw _ (List.mem_of_getElem? (i := 45) rfl)) Via.refl e0 Sk6 (g := mkF m 53 #[.val (.int i)] []) rfl (hb hby own_d_method_3_code_53)
              refine OGoal.mp (S' := (T31.setTop (mkF m 56 #[.val (.int i)] [(.ref k6)]))) (fun _ k => st34 _ k) ?_
              refine oRetA X32 hx hlk hret rfl rfl (hb hby own_d_method_3_code_56) ?_ (by decide) (by decide)
              exact ⟨_, rfl, Ek6, (Fr.nil n0), e33⟩
theorem own_pd__I_Lcom_example_pausemark_pausemark_formats_RecordNote_ : parseMethodDescriptor "(I)Lcom/example/pausemark/pausemark/formats/RecordNote;" = some ⟨[.int], some (.object "com/example/pausemark/pausemark/formats/RecordNote")⟩ := by decide +kernel
theorem own_pd__I_Lcom_example_pausemark_pausemark_formats_GcEvent_Kind_ : parseMethodDescriptor "(I)Lcom/example/pausemark/pausemark/formats/GcEvent$Kind;" = some ⟨[.int], some (.object "com/example/pausemark/pausemark/formats/GcEvent$Kind")⟩ := by decide +kernel
theorem own_pd__Lcom_example_pausemark_pausemark_formats_GcEvent_Kind__Lcom_example_pausemark_pausemark_formats_GcEvent_Kind_ : parseMethodDescriptor "(Lcom/example/pausemark/pausemark/formats/GcEvent$Kind;)Lcom/example/pausemark/pausemark/formats/GcEvent$Kind;" = some ⟨[(.object "com/example/pausemark/pausemark/formats/GcEvent$Kind")], some (.object "com/example/pausemark/pausemark/formats/GcEvent$Kind")⟩ := by decide +kernel
theorem own_ef_rm0 (x0 : Int32) (x1 : Int32) (m : MethodId) : entryFrame m #[(.int x0), (.int x1)] maxLocals = mkF m 0 #[.val (.int x0), .val (.int x1), .unset, .unset, .unset, .unset, .unset, .unset] [] := by first | (simp [entryFrame, mkF, argsToLocals, Value.category, maxLocals]; done) | rfl
set_option maxRecDepth 65536 in
set_option maxHeartbeats 40000000 in
theorem rm0 (l : Launch) (Z : State) (a0 : Array Value) (hw : ∀ d ∈ tables_1, d.before a0 Z = true) (p1 p2 : Int32) (h0 : Heap) (n0 : Nat) (Z0 : n0 ≤ h0.size) (b0 b1 b2 b3 b4 b5 b6 b7 oY oM oI : Addr) (Sb0 : Sta Z h0 "com/example/pausemark/pausemark/formats/RecordNote" "YOUNG" "Lcom/example/pausemark/pausemark/formats/RecordNote;" (.ref b0)) (Eb0 : Exa Z h0 b0 "com/example/pausemark/pausemark/formats/RecordNote") (Fb0 : Fld Z h0 b0 "com/example/pausemark/pausemark/formats/RecordNote" "kind" "Ljava/util/Optional;" (.ref oY)) (Sb1 : Sta Z h0 "com/example/pausemark/pausemark/formats/RecordNote" "MIXED" "Lcom/example/pausemark/pausemark/formats/RecordNote;" (.ref b1)) (Eb1 : Exa Z h0 b1 "com/example/pausemark/pausemark/formats/RecordNote") (Fb1 : Fld Z h0 b1 "com/example/pausemark/pausemark/formats/RecordNote" "kind" "Ljava/util/Optional;" (.ref oM)) (Sb2 : Sta Z h0 "com/example/pausemark/pausemark/formats/RecordNote" "INITIAL_MARK" "Lcom/example/pausemark/pausemark/formats/RecordNote;" (.ref b2)) (Eb2 : Exa Z h0 b2 "com/example/pausemark/pausemark/formats/RecordNote") (Fb2 : Fld Z h0 b2 "com/example/pausemark/pausemark/formats/RecordNote" "kind" "Ljava/util/Optional;" (.ref oI)) (Sb3 : Sta Z h0 "com/example/pausemark/pausemark/formats/RecordNote" "TO_SPACE_EXHAUSTED" "Lcom/example/pausemark/pausemark/formats/RecordNote;" (.ref b3)) (Eb3 : Exa Z h0 b3 "com/example/pausemark/pausemark/formats/RecordNote") (Fb3 : Fld Z h0 b3 "com/example/pausemark/pausemark/formats/RecordNote" "kind" "Ljava/util/Optional;" (.ref oY)) (Sb4 : Sta Z h0 "com/example/pausemark/pausemark/formats/RecordNote" "TO_SPACE_OVERFLOW" "Lcom/example/pausemark/pausemark/formats/RecordNote;" (.ref b4)) (Eb4 : Exa Z h0 b4 "com/example/pausemark/pausemark/formats/RecordNote") (Fb4 : Fld Z h0 b4 "com/example/pausemark/pausemark/formats/RecordNote" "kind" "Ljava/util/Optional;" (.ref oY)) (Sb5 : Sta Z h0 "com/example/pausemark/pausemark/formats/RecordNote" "CONCURRENT_MODE_FAILURE" "Lcom/example/pausemark/pausemark/formats/RecordNote;" (.ref b5)) (Eb5 : Exa Z h0 b5 "com/example/pausemark/pausemark/formats/RecordNote") (Fb5 : Fld Z h0 b5 "com/example/pausemark/pausemark/formats/RecordNote" "kind" "Ljava/util/Optional;" (.ref oY)) (Sb6 : Sta Z h0 "com/example/pausemark/pausemark/formats/RecordNote" "CONCURRENT_MODE_INTERRUPTED" "Lcom/example/pausemark/pausemark/formats/RecordNote;" (.ref b6)) (Eb6 : Exa Z h0 b6 "com/example/pausemark/pausemark/formats/RecordNote") (Fb6 : Fld Z h0 b6 "com/example/pausemark/pausemark/formats/RecordNote" "kind" "Ljava/util/Optional;" (.ref oY)) (Sb7 : Sta Z h0 "com/example/pausemark/pausemark/formats/RecordNote" "PROMOTION_FAILED" "Lcom/example/pausemark/pausemark/formats/RecordNote;" (.ref b7)) (Eb7 : Exa Z h0 b7 "com/example/pausemark/pausemark/formats/RecordNote") (Fb7 : Fld Z h0 b7 "com/example/pausemark/pausemark/formats/RecordNote" "kind" "Ljava/util/Optional;" (.ref oY)) (k0 k1 k2 k3 k4 k5 k6 : Addr) (Sk0 : Sta Z h0 "com/example/pausemark/pausemark/formats/GcEvent$Kind" "YOUNG" "Lcom/example/pausemark/pausemark/formats/GcEvent$Kind;" (.ref k0)) (Ek0 : Exa Z h0 k0 "com/example/pausemark/pausemark/formats/GcEvent$Kind") (Sk1 : Sta Z h0 "com/example/pausemark/pausemark/formats/GcEvent$Kind" "MIXED" "Lcom/example/pausemark/pausemark/formats/GcEvent$Kind;" (.ref k1)) (Ek1 : Exa Z h0 k1 "com/example/pausemark/pausemark/formats/GcEvent$Kind") (Sk2 : Sta Z h0 "com/example/pausemark/pausemark/formats/GcEvent$Kind" "FULL" "Lcom/example/pausemark/pausemark/formats/GcEvent$Kind;" (.ref k2)) (Ek2 : Exa Z h0 k2 "com/example/pausemark/pausemark/formats/GcEvent$Kind") (Sk3 : Sta Z h0 "com/example/pausemark/pausemark/formats/GcEvent$Kind" "MARK" "Lcom/example/pausemark/pausemark/formats/GcEvent$Kind;" (.ref k3)) (Ek3 : Exa Z h0 k3 "com/example/pausemark/pausemark/formats/GcEvent$Kind") (Sk4 : Sta Z h0 "com/example/pausemark/pausemark/formats/GcEvent$Kind" "INITIAL_MARK" "Lcom/example/pausemark/pausemark/formats/GcEvent$Kind;" (.ref k4)) (Ek4 : Exa Z h0 k4 "com/example/pausemark/pausemark/formats/GcEvent$Kind") (Sk5 : Sta Z h0 "com/example/pausemark/pausemark/formats/GcEvent$Kind" "REMARK" "Lcom/example/pausemark/pausemark/formats/GcEvent$Kind;" (.ref k5)) (Ek5 : Exa Z h0 k5 "com/example/pausemark/pausemark/formats/GcEvent$Kind") (Sk6 : Sta Z h0 "com/example/pausemark/pausemark/formats/GcEvent$Kind" "CLEANUP" "Lcom/example/pausemark/pausemark/formats/GcEvent$Kind;" (.ref k6)) (Ek6 : Exa Z h0 k6 "com/example/pausemark/pausemark/formats/GcEvent$Kind") (EoY : Exa Z h0 oY "java/util/Optional") (VoY : Fld Z h0 oY "java/util/Optional" "value" "Ljava/lang/Object;" .null) (EoM : Exa Z h0 oM "java/util/Optional") (VoM : Fld Z h0 oM "java/util/Optional" "value" "Ljava/lang/Object;" (.ref k1)) (EoI : Exa Z h0 oI "java/util/Optional") (VoI : Fld Z h0 oI "java/util/Optional" "value" "Ljava/lang/Object;" (.ref k4)) :
    OConK l Z x code maxLocals ret room_1 0 0 #[(.int p1), (.int p2)] h0 (fun v h L => v = some (.int 1) ∧ Fr n0 L) := by
  refine OConK.intro (y := x) (plainFor_of_name own_pn_com_example_pausemark_pausemark_formats_RecordNoteKindOfPinLaw) (own_ef_rm0 p1 p2) ?_
  intro p e s m below meth c s₁ hx hby hml hown hnm hret hlk hZ X0 e0
  show OGoal p e below s _ _ _ (s₁.setTop (mkF m 0 #[.val (.int p1), .val (.int p2), .unset, .unset, .unset, .unset, .unset, .unset] []))
  refine OGoal.mp (S' := (s₁.setTop (mkF m 1 #[.val (.int p1), .val (.int p2), .unset, .unset, .unset, .unset, .unset, .unset] [(.int p1)]))) (fun _ k => XS.iloadN X0.here hx rfl (hb hby at_0) rfl k) ?_
  refine OGoal.mp (S' := (s₁.setTop (mkF m 3 #[.val (.int p1), .val (.int p2), .unset, .unset, .unset, .unset, .unset, .unset] [(.int (7 : Int32)), (.int p1)]))) (fun _ k => XS.bipush X0.here hx rfl (hb hby at_1) k) ?_
  refine OGoal.mp (S' := (s₁.setTop (mkF m 4 #[.val (.int p1), .val (.int p2), .unset, .unset, .unset, .unset, .unset, .unset] [(.int (p1 &&& (7 : Int32)))]))) (fun _ k => XS.iand X0.here hx rfl (hb hby at_3) rfl k) ?_
  refine OGoal.mp (S' := (s₁.setTop (mkF m 5 #[.val (.int p1), .val (.int p2), .val (.int (p1 &&& (7 : Int32))), .unset, .unset, .unset, .unset, .unset] []))) (fun _ k => XS.istoreN X0.here hx rfl (hb hby at_4) rfl (l' := #[.val (.int p1), .val (.int p2), .val (.int (p1 &&& (7 : Int32))), .unset, .unset, .unset, .unset, .unset]) rfl k) ?_
  obtain ⟨ni1, hni1⟩ : ∃ z, z = (p1 &&& (7 : Int32)) := ⟨_, rfl⟩
  rw [← hni1]
  refine OGoal.mp (S' := (s₁.setTop (mkF m 6 #[.val (.int p1), .val (.int p2), .val (.int ni1), .unset, .unset, .unset, .unset, .unset] [(.int p2)]))) (fun _ k => XS.iloadN X0.here hx rfl (hb hby at_5) rfl k) ?_
  refine OGoal.mp (S' := (s₁.setTop (mkF m 8 #[.val (.int p1), .val (.int p2), .val (.int ni1), .unset, .unset, .unset, .unset, .unset] [(.int (2147483647 : Int32)), (.int p2)]))) (fun _ k => Stand.ldcI X0 hx hown (mvT hZ (hw _ (List.mem_of_getElem? (i := 0) rfl))) rfl (hb hby at_6) k) ?_
  refine OGoal.mp (S' := (s₁.setTop (mkF m 9 #[.val (.int p1), .val (.int p2), .val (.int ni1), .unset, .unset, .unset, .unset, .unset] [(.int (p2 &&& (2147483647 : Int32)))]))) (fun _ k => XS.iand X0.here hx rfl (hb hby at_8) rfl k) ?_
  refine OGoal.mp (S' := (s₁.setTop (mkF m 11 #[.val (.int p1), .val (.int p2), .val (.int ni1), .unset, .unset, .unset, .unset, .unset] [(.int (7 : Int32)), (.int (p2 &&& (2147483647 : Int32)))]))) (fun _ k => XS.bipush X0.here hx rfl (hb hby at_9) k) ?_
  refine OGoal.mp (S' := (s₁.setTop (mkF m 12 #[.val (.int p1), .val (.int p2), .val (.int ni1), .unset, .unset, .unset, .unset, .unset] [(.int ((p2 &&& (2147483647 : Int32)) % (7 : Int32)))]))) (fun _ k => iremM X0 hx rfl (hb hby at_11) rfl (by decide) k) ?_
  refine OGoal.mp (S' := (s₁.setTop (mkF m 13 #[.val (.int p1), .val (.int p2), .val (.int ni1), .val (.int ((p2 &&& (2147483647 : Int32)) % (7 : Int32))), .unset, .unset, .unset, .unset] []))) (fun _ k => XS.istoreN X0.here hx rfl (hb hby at_12) rfl (l' := #[.val (.int p1), .val (.int p2), .val (.int ni1), .val (.int ((p2 &&& (2147483647 : Int32)) % (7 : Int32))), .unset, .unset, .unset, .unset]) rfl k) ?_
  obtain ⟨ki2, hki2⟩ : ∃ z, z = ((p2 &&& (2147483647 : Int32)) % (7 : Int32)) := ⟨_, rfl⟩
  rw [← hki2]
  refine OGoal.mp (S' := (s₁.setTop (mkF m 14 #[.val (.int p1), .val (.int p2), .val (.int ni1), .val (.int ki2), .unset, .unset, .unset, .unset] [(.int ni1)]))) (fun _ k => XS.iloadN X0.here hx rfl (hb hby at_13) rfl k) ?_
  refine oCallS (y := (⟨"com/example/pausemark/pausemark/formats/RecordNoteKindOfPinLaw", "note", "(I)Lcom/example/pausemark/pausemark/formats/RecordNote;"⟩ : MethodName)) X0 hx hZ hown (hw _ (List.mem_of_getElem? (i := 1) rfl)) (hw _ (List.mem_of_getElem? (i := 2) rfl)) (hw _ (List.mem_of_getElem? (i := 3) rfl)) (hw _ (List.mem_of_getElem? (i := 4) rfl)) (by decide) (rmT l Z a0 hw ni1 h0 n0 Z0 b0 b1 b2 b3 b4 b5 b6 b7 oY oM oI Sb0 Eb0 Fb0 Sb1 Eb1 Fb1 Sb2 Eb2 Fb2 Sb3 Eb3 Fb3 Sb4 Eb4 Fb4 Sb5 Eb5 Fb5 Sb6 Eb6 Fb6 Sb7 Eb7 Fb7) e0 [(.int ni1)] [] rfl rfl (by rw [hml]; rfl) (lenOf own_pd__I_Lcom_example_pausemark_pausemark_formats_RecordNote_ rfl) 0 (Nat.le_of_eq rfl) (by decide) (by decide) (by decide) (by decide) (hb hby at_14) ?_
  intro v3 T4 L5 X6 q7
  obtain ⟨b, rfl, Eb, hbk, N8, e9⟩ := q7
  have N10 := Fr.app (Fr.nil n0) N8
  show OGoal p e below s _ _ _ (T4.setTop (mkF m 17 #[.val (.int p1), .val (.int p2), .val (.int ni1), .val (.int ki2), .unset, .unset, .unset, .unset] [(.ref b)]))
  refine OGoal.mp (S' := (T4.setTop (mkF m 19 #[.val (.int p1), .val (.int p2), .val (.int ni1), .val (.int ki2), .val (.ref b), .unset, .unset, .unset] []))) (fun _ k => XS.astore X6.here hx rfl (hb hby at_17) rfl rfl (l' := #[.val (.int p1), .val (.int p2), .val (.int ni1), .val (.int ki2), .val (.ref b), .unset, .unset, .unset]) rfl k) ?_
  refine OGoal.mp (S' := (T4.setTop (mkF m 20 #[.val (.int p1), .val (.int p2), .val (.int ni1), .val (.int ki2), .val (.ref b), .unset, .unset, .unset] [(.int ki2)]))) (fun _ k => XS.iloadN X6.here hx rfl (hb hby at_19) rfl k) ?_
  refine oCallS (y := (⟨"com/example/pausemark/pausemark/formats/RecordNoteKindOfPinLaw", "kind", "(I)Lcom/example/pausemark/pausemark/formats/GcEvent$Kind;"⟩ : MethodName)) X6 hx hZ hown (hw _ (List.mem_of_getElem? (i := 8) rfl)) (hw _ (List.mem_of_getElem? (i := 9) rfl)) (hw _ (List.mem_of_getElem? (i := 3) rfl)) (hw _ (List.mem_of_getElem? (i := 10) rfl)) (by decide) (rmD l Z a0 hw ki2 h0 n0 Z0 k0 k1 k2 k3 k4 k5 k6 Sk0 Ek0 Sk1 Ek1 Sk2 Ek2 Sk3 Ek3 Sk4 Ek4 Sk5 Ek5 Sk6 Ek6) e9 [(.int ki2)] [] rfl rfl (by rw [hml]; rfl) (lenOf own_pd__I_Lcom_example_pausemark_pausemark_formats_GcEvent_Kind_ rfl) 0 (Nat.le_of_eq rfl) (by decide) (by decide) (by decide) (by decide) (hb hby at_20) ?_
  intro v11 T12 L13 X14 q15
  obtain ⟨j, rfl, Ej, N16, e17⟩ := q15
  have N18 := Fr.app N10 N16
  show OGoal p e below s _ _ _ (T12.setTop (mkF m 23 #[.val (.int p1), .val (.int p2), .val (.int ni1), .val (.int ki2), .val (.ref b), .unset, .unset, .unset] [(.ref j)]))
  refine OGoal.mp (S' := (T12.setTop (mkF m 25 #[.val (.int p1), .val (.int p2), .val (.int ni1), .val (.int ki2), .val (.ref b), .val (.ref j), .unset, .unset] []))) (fun _ k => XS.astore X14.here hx rfl (hb hby at_23) rfl rfl (l' := #[.val (.int p1), .val (.int p2), .val (.int ni1), .val (.int ki2), .val (.ref b), .val (.ref j), .unset, .unset]) rfl k) ?_
  rcases hbk with ⟨hi, Fb⟩ | ⟨hi, Fb⟩ | ⟨hi1, hi2, Fb⟩
  · show OGoal p e below s _ _ _ (T12.setTop (mkF m 25 #[.val (.int p1), .val (.int p2), .val (.int ni1), .val (.int ki2), .val (.ref b), .val (.ref j), .unset, .unset] []))
    refine OGoal.mp (S' := (T12.setTop (mkF m 27 #[.val (.int p1), .val (.int p2), .val (.int ni1), .val (.int ki2), .val (.ref b), .val (.ref j), .unset, .unset] [(.ref b)]))) (fun _ k => XS.aload X14.here hx rfl (hb hby at_25) rfl rfl k) ?_
    refine OGoal.mp (S' := (T12.setTop (mkF m 29 #[.val (.int p1), .val (.int p2), .val (.int ni1), .val (.int ki2), .val (.ref b), .val (.ref j), .unset, .unset] [(.ref j), (.ref b)]))) (fun _ k => XS.aload X14.here hx rfl (hb hby at_27) rfl rfl k) ?_
    refine oCallV (y := (⟨"com/example/pausemark/pausemark/formats/RecordNote", "kindOf", "(Lcom/example/pausemark/pausemark/formats/GcEvent$Kind;)Lcom/example/pausemark/pausemark/formats/GcEvent$Kind;"⟩ : MethodName)) (z := (⟨"com/example/pausemark/pausemark/formats/RecordNote", "kindOf", "(Lcom/example/pausemark/pausemark/formats/GcEvent$Kind;)Lcom/example/pausemark/pausemark/formats/GcEvent$Kind;"⟩ : MethodName)) X14 hx hZ hown (hw _ (List.mem_of_getElem? (i := 14) rfl)) (hw _ (List.mem_of_getElem? (i := 15) rfl)) (hw _ (List.mem_of_getElem? (i := 17) rfl)) (hw _ (List.mem_of_getElem? (i := 16) rfl)) (hw _ (List.mem_of_getElem? (i := 6) rfl)) (hw _ (List.mem_of_getElem? (i := 18) rfl)) (by decide) (rmK1 l Z a0 hw b j k1 h0 n0 Z0 oM Fb EoM VoM Ek1) e17 Eb [(.ref j)] [] rfl rfl (by rw [hml]; rfl) (notFace_of_selects (args := #[]) (mvT hZ (hw _ (List.mem_of_getElem? (i := 17) rfl)))) (lenOf own_pd__Lcom_example_pausemark_pausemark_formats_GcEvent_Kind__Lcom_example_pausemark_pausemark_formats_GcEvent_Kind_ rfl) 0 (Nat.le_of_eq rfl) (by decide) (by decide) (by decide) (by decide) (hb hby at_29) ?_
    intro v19 T20 L21 X22 q23
    obtain ⟨rfl, N24, e25⟩ := q23
    have N26 := Fr.app N18 N24
    show OGoal p e below s _ _ _ (T20.setTop (mkF m 32 #[.val (.int p1), .val (.int p2), .val (.int ni1), .val (.int ki2), .val (.ref b), .val (.ref j), .unset, .unset] [(.ref k1)]))
    refine OGoal.mp (S' := (T20.setTop (mkF m 34 #[.val (.int p1), .val (.int p2), .val (.int ni1), .val (.int ki2), .val (.ref b), .val (.ref j), .val (.ref k1), .unset] []))) (fun _ k => XS.astore X22.here hx rfl (hb hby at_32) rfl rfl (l' := #[.val (.int p1), .val (.int p2), .val (.int ni1), .val (.int ki2), .val (.ref b), .val (.ref j), .val (.ref k1), .unset]) rfl k) ?_
    refine OGoal.mp (S' := (T20.setTop (mkF m 35 #[.val (.int p1), .val (.int p2), .val (.int ni1), .val (.int ki2), .val (.ref b), .val (.ref j), .val (.ref k1), .unset] [(.int ni1)]))) (fun _ k => XS.iloadN X22.here hx rfl (hb hby at_34) rfl k) ?_
    refine OGoal.mp (S' := (T20.setTop (mkF m 36 #[.val (.int p1), .val (.int p2), .val (.int ni1), .val (.int ki2), .val (.ref b), .val (.ref j), .val (.ref k1), .unset] [(.int (1 : Int32)), (.int ni1)]))) (fun _ k => XS.iconst X22.here hx rfl (hb hby at_35) k) ?_
    refine OGoal.mp (S' := (T20.setTop (mkF m 39 #[.val (.int p1), .val (.int p2), .val (.int ni1), .val (.int ki2), .val (.ref b), .val (.ref j), .val (.ref k1), .unset] []))) (fun _ k => XS.icmpNo X22.here hx rfl (hb hby at_36) rfl (XT.ii_ne_f hi) k) ?_
    obtain ⟨T27, X28, e29, st30⟩ := getS X22 hx hZ hown (host := "") (hw _ (List.mem_of_getElem? (i := 33) rfl)) Via.refl e25 Sk1 (g := mkF m 39 #[.val (.int p1), .val (.int p2), .val (.int ni1), .val (.int ki2), .val (.ref b), .val (.ref j), .val (.ref k1), .unset] []) rfl (hb hby at_39)
    refine OGoal.mp (S' := (T27.setTop (mkF m 42 #[.val (.int p1), .val (.int p2), .val (.int ni1), .val (.int ki2), .val (.ref b), .val (.ref j), .val (.ref k1), .unset] [(.ref k1)]))) (fun _ k => st30 _ k) ?_
    refine OGoal.mp (S' := (T27.setTop (mkF m 44 #[.val (.int p1), .val (.int p2), .val (.int ni1), .val (.int ki2), .val (.ref b), .val (.ref j), .val (.ref k1), .val (.ref k1)] []))) (fun _ k => XS.astore X28.here hx rfl (hb hby at_42) rfl rfl (l' := #[.val (.int p1), .val (.int p2), .val (.int ni1), .val (.int ki2), .val (.ref b), .val (.ref j), .val (.ref k1), .val (.ref k1)]) rfl k) ?_
    refine OGoal.mp (S' := (T27.setTop (mkF m 64 #[.val (.int p1), .val (.int p2), .val (.int ni1), .val (.int ki2), .val (.ref b), .val (.ref j), .val (.ref k1), .val (.ref k1)] []))) (fun _ k => XS.goto X28.here hx rfl (pc0 := 44) (pc' := 64) rfl (hb hby at_44) (by decide) (by decide) k) ?_
    refine OGoal.mp (S' := (T27.setTop (mkF m 66 #[.val (.int p1), .val (.int p2), .val (.int ni1), .val (.int ki2), .val (.ref b), .val (.ref j), .val (.ref k1), .val (.ref k1)] [(.ref k1)]))) (fun _ k => XS.aload X28.here hx rfl (hb hby at_64) rfl rfl k) ?_
    refine OGoal.mp (S' := (T27.setTop (mkF m 68 #[.val (.int p1), .val (.int p2), .val (.int ni1), .val (.int ki2), .val (.ref b), .val (.ref j), .val (.ref k1), .val (.ref k1)] [(.ref k1), (.ref k1)]))) (fun _ k => XS.aload X28.here hx rfl (hb hby at_66) rfl rfl k) ?_
    refine OGoal.mp (S' := (T27.setTop (mkF m 71 #[.val (.int p1), .val (.int p2), .val (.int ni1), .val (.int ki2), .val (.ref b), .val (.ref j), .val (.ref k1), .val (.ref k1)] []))) (fun _ k => XT.acmpNo X28.here hx rfl (hb hby at_68) rfl rfl rfl (XT.aa_ne_f rfl) k) ?_
    refine OGoal.mp (S' := (T27.setTop (mkF m 72 #[.val (.int p1), .val (.int p2), .val (.int ni1), .val (.int ki2), .val (.ref b), .val (.ref j), .val (.ref k1), .val (.ref k1)] [(.int (1 : Int32))]))) (fun _ k => XS.iconst X28.here hx rfl (hb hby at_71) k) ?_
    refine OGoal.mp (S' := (T27.setTop (mkF m 76 #[.val (.int p1), .val (.int p2), .val (.int ni1), .val (.int ki2), .val (.ref b), .val (.ref j), .val (.ref k1), .val (.ref k1)] [(.int (1 : Int32))]))) (fun _ k => XS.goto X28.here hx rfl (pc0 := 72) (pc' := 76) rfl (hb hby at_72) (by decide) (by decide) k) ?_
    refine oRetZ X28 hx hlk hret (Or.inr rfl) (hb hby at_76) ?_ (by decide) (by decide)
    exact ⟨rfl, N26⟩
  · show OGoal p e below s _ _ _ (T12.setTop (mkF m 25 #[.val (.int p1), .val (.int p2), .val (.int ni1), .val (.int ki2), .val (.ref b), .val (.ref j), .unset, .unset] []))
    refine OGoal.mp (S' := (T12.setTop (mkF m 27 #[.val (.int p1), .val (.int p2), .val (.int ni1), .val (.int ki2), .val (.ref b), .val (.ref j), .unset, .unset] [(.ref b)]))) (fun _ k => XS.aload X14.here hx rfl (hb hby at_25) rfl rfl k) ?_
    refine OGoal.mp (S' := (T12.setTop (mkF m 29 #[.val (.int p1), .val (.int p2), .val (.int ni1), .val (.int ki2), .val (.ref b), .val (.ref j), .unset, .unset] [(.ref j), (.ref b)]))) (fun _ k => XS.aload X14.here hx rfl (hb hby at_27) rfl rfl k) ?_
    refine oCallV (y := (⟨"com/example/pausemark/pausemark/formats/RecordNote", "kindOf", "(Lcom/example/pausemark/pausemark/formats/GcEvent$Kind;)Lcom/example/pausemark/pausemark/formats/GcEvent$Kind;"⟩ : MethodName)) (z := (⟨"com/example/pausemark/pausemark/formats/RecordNote", "kindOf", "(Lcom/example/pausemark/pausemark/formats/GcEvent$Kind;)Lcom/example/pausemark/pausemark/formats/GcEvent$Kind;"⟩ : MethodName)) X14 hx hZ hown (hw _ (List.mem_of_getElem? (i := 14) rfl)) (hw _ (List.mem_of_getElem? (i := 15) rfl)) (hw _ (List.mem_of_getElem? (i := 17) rfl)) (hw _ (List.mem_of_getElem? (i := 16) rfl)) (hw _ (List.mem_of_getElem? (i := 6) rfl)) (hw _ (List.mem_of_getElem? (i := 18) rfl)) (by decide) (rmK1 l Z a0 hw b j k4 h0 n0 Z0 oI Fb EoI VoI Ek4) e17 Eb [(.ref j)] [] rfl rfl (by rw [hml]; rfl) (notFace_of_selects (args := #[]) (mvT hZ (hw _ (List.mem_of_getElem? (i := 17) rfl)))) (lenOf own_pd__Lcom_example_pausemark_pausemark_formats_GcEvent_Kind__Lcom_example_pausemark_pausemark_formats_GcEvent_Kind_ rfl) 0 (Nat.le_of_eq rfl) (by decide) (by decide) (by decide) (by decide) (hb hby at_29) ?_
    intro v31 T32 L33 X34 q35
    obtain ⟨rfl, N36, e37⟩ := q35
    have N38 := Fr.app N18 N36
    show OGoal p e below s _ _ _ (T32.setTop (mkF m 32 #[.val (.int p1), .val (.int p2), .val (.int ni1), .val (.int ki2), .val (.ref b), .val (.ref j), .unset, .unset] [(.ref k4)]))
    refine OGoal.mp (S' := (T32.setTop (mkF m 34 #[.val (.int p1), .val (.int p2), .val (.int ni1), .val (.int ki2), .val (.ref b), .val (.ref j), .val (.ref k4), .unset] []))) (fun _ k => XS.astore X34.here hx rfl (hb hby at_32) rfl rfl (l' := #[.val (.int p1), .val (.int p2), .val (.int ni1), .val (.int ki2), .val (.ref b), .val (.ref j), .val (.ref k4), .unset]) rfl k) ?_
    refine OGoal.mp (S' := (T32.setTop (mkF m 35 #[.val (.int p1), .val (.int p2), .val (.int ni1), .val (.int ki2), .val (.ref b), .val (.ref j), .val (.ref k4), .unset] [(.int ni1)]))) (fun _ k => XS.iloadN X34.here hx rfl (hb hby at_34) rfl k) ?_
    refine OGoal.mp (S' := (T32.setTop (mkF m 36 #[.val (.int p1), .val (.int p2), .val (.int ni1), .val (.int ki2), .val (.ref b), .val (.ref j), .val (.ref k4), .unset] [(.int (1 : Int32)), (.int ni1)]))) (fun _ k => XS.iconst X34.here hx rfl (hb hby at_35) k) ?_
    refine OGoal.mp (S' := (T32.setTop (mkF m 47 #[.val (.int p1), .val (.int p2), .val (.int ni1), .val (.int ki2), .val (.ref b), .val (.ref j), .val (.ref k4), .unset] []))) (fun _ k => XS.icmpYes X34.here hx rfl (pc0 := 36) (pc' := 47) rfl (hb hby at_36) rfl (XT.ii_ne_t (by rw [hi]; decide)) (by decide) (by decide) k) ?_
    refine OGoal.mp (S' := (T32.setTop (mkF m 48 #[.val (.int p1), .val (.int p2), .val (.int ni1), .val (.int ki2), .val (.ref b), .val (.ref j), .val (.ref k4), .unset] [(.int ni1)]))) (fun _ k => XS.iloadN X34.here hx rfl (hb hby at_47) rfl k) ?_
    refine OGoal.mp (S' := (T32.setTop (mkF m 49 #[.val (.int p1), .val (.int p2), .val (.int ni1), .val (.int ki2), .val (.ref b), .val (.ref j), .val (.ref k4), .unset] [(.int (2 : Int32)), (.int ni1)]))) (fun _ k => XS.iconst X34.here hx rfl (hb hby at_48) k) ?_
    refine OGoal.mp (S' := (T32.setTop (mkF m 52 #[.val (.int p1), .val (.int p2), .val (.int ni1), .val (.int ki2), .val (.ref b), .val (.ref j), .val (.ref k4), .unset] []))) (fun _ k => XS.icmpNo X34.here hx rfl (hb hby at_49) rfl (XT.ii_ne_f hi) k) ?_
    obtain ⟨T39, X40, e41, st42⟩ := getS X34 hx hZ hown (host := "") (hw _ (List.mem_of_getElem? (i := 53) rfl)) Via.refl e37 Sk4 (g := mkF m 52 #[.val (.int p1), .val (.int p2), .val (.int ni1), .val (.int ki2), .val (.ref b), .val (.ref j), .val (.ref k4), .unset] []) rfl (hb hby at_52)
    refine OGoal.mp (S' := (T39.setTop (mkF m 55 #[.val (.int p1), .val (.int p2), .val (.int ni1), .val (.int ki2), .val (.ref b), .val (.ref j), .val (.ref k4), .unset] [(.ref k4)]))) (fun _ k => st42 _ k) ?_
    refine OGoal.mp (S' := (T39.setTop (mkF m 57 #[.val (.int p1), .val (.int p2), .val (.int ni1), .val (.int ki2), .val (.ref b), .val (.ref j), .val (.ref k4), .val (.ref k4)] []))) (fun _ k => XS.astore X40.here hx rfl (hb hby at_55) rfl rfl (l' := #[.val (.int p1), .val (.int p2), .val (.int ni1), .val (.int ki2), .val (.ref b), .val (.ref j), .val (.ref k4), .val (.ref k4)]) rfl k) ?_
    refine OGoal.mp (S' := (T39.setTop (mkF m 64 #[.val (.int p1), .val (.int p2), .val (.int ni1), .val (.int ki2), .val (.ref b), .val (.ref j), .val (.ref k4), .val (.ref k4)] []))) (fun _ k => XS.goto X40.here hx rfl (pc0 := 57) (pc' := 64) rfl (hb hby at_57) (by decide) (by decide) k) ?_
    refine OGoal.mp (S' := (T39.setTop (mkF m 66 #[.val (.int p1), .val (.int p2), .val (.int ni1), .val (.int ki2), .val (.ref b), .val (.ref j), .val (.ref k4), .val (.ref k4)] [(.ref k4)]))) (fun _ k => XS.aload X40.here hx rfl (hb hby at_64) rfl rfl k) ?_
    refine OGoal.mp (S' := (T39.setTop (mkF m 68 #[.val (.int p1), .val (.int p2), .val (.int ni1), .val (.int ki2), .val (.ref b), .val (.ref j), .val (.ref k4), .val (.ref k4)] [(.ref k4), (.ref k4)]))) (fun _ k => XS.aload X40.here hx rfl (hb hby at_66) rfl rfl k) ?_
    refine OGoal.mp (S' := (T39.setTop (mkF m 71 #[.val (.int p1), .val (.int p2), .val (.int ni1), .val (.int ki2), .val (.ref b), .val (.ref j), .val (.ref k4), .val (.ref k4)] []))) (fun _ k => XT.acmpNo X40.here hx rfl (hb hby at_68) rfl rfl rfl (XT.aa_ne_f rfl) k) ?_
    refine OGoal.mp (S' := (T39.setTop (mkF m 72 #[.val (.int p1), .val (.int p2), .val (.int ni1), .val (.int ki2), .val (.ref b), .val (.ref j), .val (.ref k4), .val (.ref k4)] [(.int (1 : Int32))]))) (fun _ k => XS.iconst X40.here hx rfl (hb hby at_71) k) ?_
    refine OGoal.mp (S' := (T39.setTop (mkF m 76 #[.val (.int p1), .val (.int p2), .val (.int ni1), .val (.int ki2), .val (.ref b), .val (.ref j), .val (.ref k4), .val (.ref k4)] [(.int (1 : Int32))]))) (fun _ k => XS.goto X40.here hx rfl (pc0 := 72) (pc' := 76) rfl (hb hby at_72) (by decide) (by decide) k) ?_
    refine oRetZ X40 hx hlk hret (Or.inr rfl) (hb hby at_76) ?_ (by decide) (by decide)
    exact ⟨rfl, N38⟩
  · show OGoal p e below s _ _ _ (T12.setTop (mkF m 25 #[.val (.int p1), .val (.int p2), .val (.int ni1), .val (.int ki2), .val (.ref b), .val (.ref j), .unset, .unset] []))
    refine OGoal.mp (S' := (T12.setTop (mkF m 27 #[.val (.int p1), .val (.int p2), .val (.int ni1), .val (.int ki2), .val (.ref b), .val (.ref j), .unset, .unset] [(.ref b)]))) (fun _ k => XS.aload X14.here hx rfl (hb hby at_25) rfl rfl k) ?_
    refine OGoal.mp (S' := (T12.setTop (mkF m 29 #[.val (.int p1), .val (.int p2), .val (.int ni1), .val (.int ki2), .val (.ref b), .val (.ref j), .unset, .unset] [(.ref j), (.ref b)]))) (fun _ k => XS.aload X14.here hx rfl (hb hby at_27) rfl rfl k) ?_
    refine oCallV (y := (⟨"com/example/pausemark/pausemark/formats/RecordNote", "kindOf", "(Lcom/example/pausemark/pausemark/formats/GcEvent$Kind;)Lcom/example/pausemark/pausemark/formats/GcEvent$Kind;"⟩ : MethodName)) (z := (⟨"com/example/pausemark/pausemark/formats/RecordNote", "kindOf", "(Lcom/example/pausemark/pausemark/formats/GcEvent$Kind;)Lcom/example/pausemark/pausemark/formats/GcEvent$Kind;"⟩ : MethodName)) X14 hx hZ hown (hw _ (List.mem_of_getElem? (i := 14) rfl)) (hw _ (List.mem_of_getElem? (i := 15) rfl)) (hw _ (List.mem_of_getElem? (i := 17) rfl)) (hw _ (List.mem_of_getElem? (i := 16) rfl)) (hw _ (List.mem_of_getElem? (i := 6) rfl)) (hw _ (List.mem_of_getElem? (i := 18) rfl)) (by decide) (rmK0 l Z a0 hw b j h0 n0 Z0 oY Fb EoY VoY Ej) e17 Eb [(.ref j)] [] rfl rfl (by rw [hml]; rfl) (notFace_of_selects (args := #[]) (mvT hZ (hw _ (List.mem_of_getElem? (i := 17) rfl)))) (lenOf own_pd__Lcom_example_pausemark_pausemark_formats_GcEvent_Kind__Lcom_example_pausemark_pausemark_formats_GcEvent_Kind_ rfl) 0 (Nat.le_of_eq rfl) (by decide) (by decide) (by decide) (by decide) (hb hby at_29) ?_
    intro v43 T44 L45 X46 q47
    obtain ⟨rfl, N48, e49⟩ := q47
    have N50 := Fr.app N18 N48
    show OGoal p e below s _ _ _ (T44.setTop (mkF m 32 #[.val (.int p1), .val (.int p2), .val (.int ni1), .val (.int ki2), .val (.ref b), .val (.ref j), .unset, .unset] [(.ref j)]))
    refine OGoal.mp (S' := (T44.setTop (mkF m 34 #[.val (.int p1), .val (.int p2), .val (.int ni1), .val (.int ki2), .val (.ref b), .val (.ref j), .val (.ref j), .unset] []))) (fun _ k => XS.astore X46.here hx rfl (hb hby at_32) rfl rfl (l' := #[.val (.int p1), .val (.int p2), .val (.int ni1), .val (.int ki2), .val (.ref b), .val (.ref j), .val (.ref j), .unset]) rfl k) ?_
    refine OGoal.mp (S' := (T44.setTop (mkF m 35 #[.val (.int p1), .val (.int p2), .val (.int ni1), .val (.int ki2), .val (.ref b), .val (.ref j), .val (.ref j), .unset] [(.int ni1)]))) (fun _ k => XS.iloadN X46.here hx rfl (hb hby at_34) rfl k) ?_
    refine OGoal.mp (S' := (T44.setTop (mkF m 36 #[.val (.int p1), .val (.int p2), .val (.int ni1), .val (.int ki2), .val (.ref b), .val (.ref j), .val (.ref j), .unset] [(.int (1 : Int32)), (.int ni1)]))) (fun _ k => XS.iconst X46.here hx rfl (hb hby at_35) k) ?_
    refine OGoal.mp (S' := (T44.setTop (mkF m 47 #[.val (.int p1), .val (.int p2), .val (.int ni1), .val (.int ki2), .val (.ref b), .val (.ref j), .val (.ref j), .unset] []))) (fun _ k => XS.icmpYes X46.here hx rfl (pc0 := 36) (pc' := 47) rfl (hb hby at_36) rfl (XT.ii_ne_t hi1) (by decide) (by decide) k) ?_
    refine OGoal.mp (S' := (T44.setTop (mkF m 48 #[.val (.int p1), .val (.int p2), .val (.int ni1), .val (.int ki2), .val (.ref b), .val (.ref j), .val (.ref j), .unset] [(.int ni1)]))) (fun _ k => XS.iloadN X46.here hx rfl (hb hby at_47) rfl k) ?_
    refine OGoal.mp (S' := (T44.setTop (mkF m 49 #[.val (.int p1), .val (.int p2), .val (.int ni1), .val (.int ki2), .val (.ref b), .val (.ref j), .val (.ref j), .unset] [(.int (2 : Int32)), (.int ni1)]))) (fun _ k => XS.iconst X46.here hx rfl (hb hby at_48) k) ?_
    refine OGoal.mp (S' := (T44.setTop (mkF m 60 #[.val (.int p1), .val (.int p2), .val (.int ni1), .val (.int ki2), .val (.ref b), .val (.ref j), .val (.ref j), .unset] []))) (fun _ k => XS.icmpYes X46.here hx rfl (pc0 := 49) (pc' := 60) rfl (hb hby at_49) rfl (XT.ii_ne_t hi2) (by decide) (by decide) k) ?_
    refine OGoal.mp (S' := (T44.setTop (mkF m 62 #[.val (.int p1), .val (.int p2), .val (.int ni1), .val (.int ki2), .val (.ref b), .val (.ref j), .val (.ref j), .unset] [(.ref j)]))) (fun _ k => XS.aload X46.here hx rfl (hb hby at_60) rfl rfl k) ?_
    refine OGoal.mp (S' := (T44.setTop (mkF m 64 #[.val (.int p1), .val (.int p2), .val (.int ni1), .val (.int ki2), .val (.ref b), .val (.ref j), .val (.ref j), .val (.ref j)] []))) (fun _ k => XS.astore X46.here hx rfl (hb hby at_62) rfl rfl (l' := #[.val (.int p1), .val (.int p2), .val (.int ni1), .val (.int ki2), .val (.ref b), .val (.ref j), .val (.ref j), .val (.ref j)]) rfl k) ?_
    refine OGoal.mp (S' := (T44.setTop (mkF m 66 #[.val (.int p1), .val (.int p2), .val (.int ni1), .val (.int ki2), .val (.ref b), .val (.ref j), .val (.ref j), .val (.ref j)] [(.ref j)]))) (fun _ k => XS.aload X46.here hx rfl (hb hby at_64) rfl rfl k) ?_
    refine OGoal.mp (S' := (T44.setTop (mkF m 68 #[.val (.int p1), .val (.int p2), .val (.int ni1), .val (.int ki2), .val (.ref b), .val (.ref j), .val (.ref j), .val (.ref j)] [(.ref j), (.ref j)]))) (fun _ k => XS.aload X46.here hx rfl (hb hby at_66) rfl rfl k) ?_
    refine OGoal.mp (S' := (T44.setTop (mkF m 71 #[.val (.int p1), .val (.int p2), .val (.int ni1), .val (.int ki2), .val (.ref b), .val (.ref j), .val (.ref j), .val (.ref j)] []))) (fun _ k => XT.acmpNo X46.here hx rfl (hb hby at_68) rfl rfl rfl (XT.aa_ne_f rfl) k) ?_
    refine OGoal.mp (S' := (T44.setTop (mkF m 72 #[.val (.int p1), .val (.int p2), .val (.int ni1), .val (.int ki2), .val (.ref b), .val (.ref j), .val (.ref j), .val (.ref j)] [(.int (1 : Int32))]))) (fun _ k => XS.iconst X46.here hx rfl (hb hby at_71) k) ?_
    refine OGoal.mp (S' := (T44.setTop (mkF m 76 #[.val (.int p1), .val (.int p2), .val (.int ni1), .val (.int ki2), .val (.ref b), .val (.ref j), .val (.ref j), .val (.ref j)] [(.int (1 : Int32))]))) (fun _ k => XS.goto X46.here hx rfl (pc0 := 72) (pc' := 76) rfl (hb hby at_72) (by decide) (by decide) k) ?_
    refine oRetZ X46 hx hlk hret (Or.inr rfl) (hb hby at_76) ?_ (by decide) (by decide)
    exact ⟨rfl, N50⟩
set_option maxRecDepth 65536 in
set_option maxHeartbeats 40000000 in
theorem comes_1 {Post : Tables → Env → Array Value → State → Outcome → State → Prop} (hpost : ∀ tb e args s v u, (limb_1_1.after args s (.returned v) u = true ∧ limb_1_2.after args s (.returned v) u = true ∧ True) → FrameEnd s (.returned v) u (Jvm.fieldLocs frame_1_writes args s ++ Jvm.arrayLocs frame_1_arrays args s ++ Jvm.staticLocs frame_1_statics s) 0 0 → Post tb e args s (.returned v) u) :
    ArmFor flags0 classFile x code maxLocals ret World_1 tables_1 room_1 Calls_1 rest_1 Pre_1 Post := by
  intro l hfl _ _ p e ha hc hk s m args below hf hA hF happ hP
  obtain ⟨hcalls, hrest, hpre⟩ := hP
  obtain ⟨-, -, -, hnamed, -, -, -, hat⟩ := (Spec.applies_iff hf).mp happ
  obtain ⟨hg, hn⟩ := and_e (Cond.before_iff.mp (show (Jvm.Cond.and given_1 narrow_1).before args s = true from hpre))
  obtain ⟨hcnt, hg⟩ := and_e hg
  obtain ⟨w0, w1, rfl⟩ : ∃ w0 w1 : Value, args = #[w0, w1] := by
    have hs : args.size = 2 := by simpa [Cond.value, given_1] using hcnt
    obtain ⟨L⟩ := args
    match L, hs with
    | [w0, w1], _ => exact ⟨w0, w1, rfl⟩
  have hw := fun d (hd : d ∈ tables_1) => atoms_spec (ws := Jvm.Cond.code x code maxLocals ret :: tables_1) hat d (List.mem_cons_of_mem _ hd)
  have hfit : Fit s := fun {y c} hc i hi => by
    obtain ⟨ha, rfl⟩ := Array.getElem?_eq_some_iff.mp hc
    have q := List.all_eq_true.mp ((Array.all_eq_true_iff_forall_mem.mp hF) _ (Array.getElem_mem ha)) i (List.mem_range.mpr hi)
    simpa [Array.getElem?_eq_getElem hi] using q
  obtain ⟨hg0, hg⟩ := and_e hg
  obtain ⟨i0, ei0⟩ := is_v hg0
  obtain rfl : w0 = (.int i0) := Option.some.inj ei0
  obtain ⟨i1, ei1⟩ := is_v hg
  obtain rfl : w1 = (.int i1) := Option.some.inj ei1
  obtain ⟨q0, hn⟩ := and_e hn
  obtain ⟨q1, hn⟩ := and_e hn
  obtain ⟨q2, hn⟩ := and_e hn
  obtain ⟨q3, hn⟩ := and_e hn
  obtain ⟨q4, hn⟩ := and_e hn
  obtain ⟨q5, hn⟩ := and_e hn
  obtain ⟨q6, hn⟩ := and_e hn
  obtain ⟨q7, hn⟩ := and_e hn
  obtain ⟨q8, hn⟩ := and_e hn
  obtain ⟨q9, hn⟩ := and_e hn
  obtain ⟨q10, hn⟩ := and_e hn
  obtain ⟨q11, hn⟩ := and_e hn
  obtain ⟨q12, hn⟩ := and_e hn
  obtain ⟨q13, hn⟩ := and_e hn
  obtain ⟨q14, hn⟩ := and_e hn
  obtain ⟨q15, hn⟩ := and_e hn
  obtain ⟨q16, hn⟩ := and_e hn
  obtain ⟨q17, hn⟩ := and_e hn
  obtain ⟨q18, hn⟩ := and_e hn
  obtain ⟨q19, hn⟩ := and_e hn
  obtain ⟨q20, hn⟩ := and_e hn
  obtain ⟨q21, hn⟩ := and_e hn
  obtain ⟨q22, hn⟩ := and_e hn
  obtain ⟨q23, hn⟩ := and_e hn
  obtain ⟨q24, q25⟩ := and_e hn
  obtain ⟨b0, vb0⟩ := exa_v q0
  have Sb0 := Sta.start vb0 (Or.inr ⟨(hw _ (List.mem_of_getElem? (i := 6) rfl)), (hw _ (List.mem_of_getElem? (i := 7) rfl))⟩)
  have Eb0 := Exa.start vb0 q0
  obtain ⟨k3, vk3⟩ := exa_v q1
  have Sk3 := Sta.start vk3 (Or.inr ⟨(hw _ (List.mem_of_getElem? (i := 12) rfl)), (hw _ (List.mem_of_getElem? (i := 13) rfl))⟩)
  have Ek3 := Exa.start vk3 q1
  obtain ⟨b6, vb6⟩ := exa_v q4
  have Sb6 := Sta.start vb6 (Or.inr ⟨(hw _ (List.mem_of_getElem? (i := 6) rfl)), (hw _ (List.mem_of_getElem? (i := 32) rfl))⟩)
  have Eb6 := Exa.start vb6 q4
  obtain ⟨k1, vk1⟩ := exa_v q5
  have Sk1 := Sta.start vk1 (Or.inr ⟨(hw _ (List.mem_of_getElem? (i := 12) rfl)), (hw _ (List.mem_of_getElem? (i := 34) rfl))⟩)
  have Ek1 := Exa.start vk1 q5
  obtain ⟨b4, vb4⟩ := exa_v q7
  have Sb4 := Sta.start vb4 (Or.inr ⟨(hw _ (List.mem_of_getElem? (i := 6) rfl)), (hw _ (List.mem_of_getElem? (i := 36) rfl))⟩)
  have Eb4 := Exa.start vb4 q7
  obtain ⟨k5, vk5⟩ := exa_v q8
  have Sk5 := Sta.start vk5 (Or.inr ⟨(hw _ (List.mem_of_getElem? (i := 12) rfl)), (hw _ (List.mem_of_getElem? (i := 38) rfl))⟩)
  have Ek5 := Exa.start vk5 q8
  obtain ⟨k2, vk2⟩ := exa_v q10
  have Sk2 := Sta.start vk2 (Or.inr ⟨(hw _ (List.mem_of_getElem? (i := 12) rfl)), (hw _ (List.mem_of_getElem? (i := 40) rfl))⟩)
  have Ek2 := Exa.start vk2 q10
  obtain ⟨k0, vk0⟩ := exa_v q11
  have Sk0 := Sta.start vk0 (Or.inr ⟨(hw _ (List.mem_of_getElem? (i := 12) rfl)), (hw _ (List.mem_of_getElem? (i := 42) rfl))⟩)
  have Ek0 := Exa.start vk0 q11
  obtain ⟨b5, vb5⟩ := exa_v q12
  have Sb5 := Sta.start vb5 (Or.inr ⟨(hw _ (List.mem_of_getElem? (i := 6) rfl)), (hw _ (List.mem_of_getElem? (i := 44) rfl))⟩)
  have Eb5 := Exa.start vb5 q12
  obtain ⟨k6, vk6⟩ := exa_v q13
  have Sk6 := Sta.start vk6 (Or.inr ⟨(hw _ (List.mem_of_getElem? (i := 12) rfl)), (hw _ (List.mem_of_getElem? (i := 46) rfl))⟩)
  have Ek6 := Exa.start vk6 q13
  obtain ⟨b7, vb7⟩ := exa_v q15
  have Sb7 := Sta.start vb7 (Or.inr ⟨(hw _ (List.mem_of_getElem? (i := 6) rfl)), (hw _ (List.mem_of_getElem? (i := 48) rfl))⟩)
  have Eb7 := Exa.start vb7 q15
  obtain ⟨b3, vb3⟩ := exa_v q17
  have Sb3 := Sta.start vb3 (Or.inr ⟨(hw _ (List.mem_of_getElem? (i := 6) rfl)), (hw _ (List.mem_of_getElem? (i := 50) rfl))⟩)
  have Eb3 := Exa.start vb3 q17
  obtain ⟨b1, vb1⟩ := exa_v q19
  have Sb1 := Sta.start vb1 (Or.inr ⟨(hw _ (List.mem_of_getElem? (i := 6) rfl)), (hw _ (List.mem_of_getElem? (i := 52) rfl))⟩)
  have Eb1 := Exa.start vb1 q19
  obtain ⟨k4, vk4⟩ := exa_v q22
  have Sk4 := Sta.start vk4 (Or.inr ⟨(hw _ (List.mem_of_getElem? (i := 12) rfl)), (hw _ (List.mem_of_getElem? (i := 54) rfl))⟩)
  have Ek4 := Exa.start vk4 q22
  obtain ⟨b2, vb2⟩ := exa_v q23
  have Sb2 := Sta.start vb2 (Or.inr ⟨(hw _ (List.mem_of_getElem? (i := 6) rfl)), (hw _ (List.mem_of_getElem? (i := 56) rfl))⟩)
  have Eb2 := Exa.start vb2 q23
  obtain ⟨oY, voY⟩ := exa_v q2
  have EoY := Exa.start voY q2
  have Fb0 := Fld.start ((fld_at vb0).symm.trans voY)
  obtain ⟨oM, voM⟩ := exa_v q20
  have EoM := Exa.start voM q20
  have Fb1 := Fld.start ((fld_at vb1).symm.trans voM)
  obtain ⟨oI, voI⟩ := exa_v q24
  have EoI := Exa.start voI q24
  have Fb2 := Fld.start ((fld_at vb2).symm.trans voI)
  have VoY := Fld.start (oFeq voY q3 null_at)
  have Fb6 := Fld.start (oFeq vb6 q6 voY)
  have Fb4 := Fld.start (oFeq vb4 q9 voY)
  have Fb5 := Fld.start (oFeq vb5 q14 voY)
  have Fb7 := Fld.start (oFeq vb7 q16 voY)
  have Fb3 := Fld.start (oFeq vb3 q18 voY)
  have VoM := Fld.start (oFeq voM q21 vk1)
  have VoI := Fld.start (oFeq voI q25 vk4)
  obtain ⟨n, o, h1, h2, h3, _, L, rfl, ⟨rfl, N⟩, hq⟩ := rm0 l s _ hw i0 i1 s.heap s.heap.size (Nat.le_refl _) b0 b1 b2 b3 b4 b5 b6 b7 oY oM oI Sb0 Eb0 Fb0 Sb1 Eb1 Fb1 Sb2 Eb2 Fb2 Sb3 Eb3 Fb3 Sb4 Eb4 Fb4 Sb5 Eb5 Fb5 Sb6 Eb6 Fb6 Sb7 Eb7 Fb7 k0 k1 k2 k3 k4 k5 k6 Sk0 Ek0 Sk1 Ek1 Sk2 Ek2 Sk3 Ek3 Sk4 Ek4 Sk5 Ek5 Sk6 Ek6 EoY VoY EoM VoM EoI VoI tables_1 p e ha hc hk s m _ below hf ((Spec.applies_iff_loose hf).mp happ).1 ⟨rfl, State.Warmed39.refl s, rfl⟩ trivial
  refine ⟨n, _, h1, h2, h3, hpost _ _ _ _ _ _ ⟨Cond.after_iff.mpr rfl, Cond.after_iff.mpr (eq_i res_at (Term.int_eval (1)) rfl), trivial⟩ ⟨hq.1, hq.2.1, (hq.2.2.sift fun y hy => Or.inr (N y hy)).mono (by decide) (by decide)⟩⟩
theorem main_1_1 : Claimed_1_1 := comes_1 fun _ _ _ _ _ _ h hF => ⟨h.1, hF⟩
theorem main_1_2 : Claimed_1_2 := comes_1 fun _ _ _ _ _ _ h hF => ⟨h.2.1, hF⟩
end Jvm.Pilot.@@N@@
namespace Jvm.Pilot.@@N@@
open Jvm Jvm.ClassFile Sem Op Lib Jvm.Free Jvm.Stand Jvm.Pilot.@@N@@.Jvm.D
/-! MADE BY PROGRAM (witnessworld.py) out of the Statement's table words and the real class files: 14 classes; the members and pool entries that the words name. The judged class is class 1, her method 3. -/
namespace start1
open Jvm.ClassFile
def u (s : String) : CpInfo := .utf8 (stringToUtf16 s)
/-- a pool by its gaps: so many unusable entries, then the entry; so many at the end -/
def gap : Nat → List CpInfo → List CpInfo
  | 0, r => r
  | n + 1, r => .unusable :: gap n r
def poolList (es : List (Nat × CpInfo)) (last : Nat) : List CpInfo := es.foldr (fun e r => gap e.1 (e.2 :: r)) (gap last [])
def pool (es : List (Nat × CpInfo)) (last : Nat) : Array CpInfo := ⟨poolList es last⟩
def fileOf (pool : Array CpInfo) (this : Nat) (attrs : Array Attribute := #[]) (ms : Array MethodInfo := #[]) (fl : Nat := 33) (sup : Nat := 0) (ifs : Array Nat := #[]) (fds : Array FieldInfo := #[]) : ClassFile where
  minorVersion := 0
  majorVersion := 65
  constantPool := pool
  accessFlags := fl
  thisClass := this
  superClass := sup
  interfaces := ifs
  fields := fds
  methods := ms
  attributes := attrs
def plain (name : String) (sup : Option ClassId) : Class where
  name := name
  kind := .ordinary
  loader := none
  accessFlags := 33
  super := sup
  interfaces := #[]
  cf := none
  fields := #[]
  methods := #[]
  instanceTypes := #[]
  staticTypes := #[]
  resolved := #[]
  callSites := []
  init := .initialized
  statics := none
  mirror := none

def pool0 : Array CpInfo := pool [(5, u "<init>"), (0, u "()V"), (1, .class_ 10), (1, u "java/lang/Object")] 113

def k0m0 : Method := { name := "<init>", desc := "()V", sig := { parameters := [], returnType := none }, accessFlags := 1, code := none }
/-- java/lang/Object -/
def k0 : Class := { plain "java/lang/Object" none with
  accessFlags := 33
  interfaces := #[]
  cf := some (fileOf pool0 8 #[] #[{ accessFlags := 1, nameIndex := 5, descriptorIndex := 6, attributes := #[] }] 33 0 #[] #[])
  fields := #[]
  methods := #[k0m0]
  instanceTypes := #[]
  staticTypes := #[]
  resolved := Array.replicate 124 none
  statics := none }

def pool1 : Array CpInfo := pool [(2, .class_ 4), (1, u "java/lang/Object"), (0, u "<init>"), (0, u "()V"), (0, .fieldref 8 9), (0, .class_ 10), (0, .nameAndType 11 12), (0, u "com/example/pausemark/pausemark/formats/RecordNote"), (0, u "YOUNG"), (0, u "Lcom/example/pausemark/pausemark/formats/RecordNote;"), (0, .fieldref 8 14), (0, .nameAndType 15 12), (0, u "MIXED"), (0, .fieldref 8 17), (0, .nameAndType 18 12), (0, u "INITIAL_MARK"), (0, .fieldref 8 20), (0, .nameAndType 21 12), (0, u "TO_SPACE_EXHAUSTED"), (0, .fieldref 8 23), (0, .nameAndType 24 12), (0, u "TO_SPACE_OVERFLOW"), (0, .fieldref 8 26), (0, .nameAndType 27 12), (0, u "CONCURRENT_MODE_FAILURE"), (0, .fieldref 8 29), (0, .nameAndType 30 12), (0, u "CONCURRENT_MODE_INTERRUPTED"), (0, .fieldref 8 32), (0, .nameAndType 33 12), (0, u "PROMOTION_FAILED"), (0, .fieldref 35 36), (0, .class_ 37), (0, .nameAndType 11 38), (0, u "com/example/pausemark/pausemark/formats/GcEvent$Kind"), (0, u "Lcom/example/pausemark/pausemark/formats/GcEvent$Kind;"), (0, .fieldref 35 40), (0, .nameAndType 15 38), (0, .fieldref 35 42), (0, .nameAndType 43 38), (0, u "FULL"), (0, .fieldref 35 45), (0, .nameAndType 46 38), (0, u "MARK"), (0, .fieldref 35 48), (0, .nameAndType 18 38), (0, .fieldref 35 50), (0, .nameAndType 51 38), (0, u "REMARK"), (0, .fieldref 35 53), (0, .nameAndType 54 38), (0, u "CLEANUP"), (0, .integer 2147483647), (0, .methodref 57 58), (0, .class_ 59), (0, .nameAndType 60 61), (0, u "com/example/pausemark/pausemark/formats/RecordNoteKindOfPinLaw"), (0, u "note"), (0, u "(I)Lcom/example/pausemark/pausemark/formats/RecordNote;"), (0, .methodref 57 63), (0, .nameAndType 64 65), (0, u "kind"), (0, u "(I)Lcom/example/pausemark/pausemark/formats/GcEvent$Kind;"), (0, .methodref 8 67), (0, .nameAndType 68 69), (0, u "kindOf"), (0, u "(Lcom/example/pausemark/pausemark/formats/GcEvent$Kind;)Lcom/example/pausemark/pausemark/formats/GcEvent$Kind;"), (3, u "law"), (0, u "(II)Z")] 6

def k1m0 : Method := { name := "<init>", desc := "()V", sig := { parameters := [], returnType := none }, accessFlags := 2, code := none }
def k1c1 : Code := { maxStack := 2, maxLocals := 1, code := method_2_code, exceptionTable := #[], attributes := #[] }
def k1m1 : Method := { name := "note", desc := "(I)Lcom/example/pausemark/pausemark/formats/RecordNote;", sig := { parameters := [.int], returnType := some (.object "com/example/pausemark/pausemark/formats/RecordNote") }, accessFlags := 10, code := some k1c1 }
def k1c2 : Code := { maxStack := 2, maxLocals := 1, code := method_3_code, exceptionTable := #[], attributes := #[] }
def k1m2 : Method := { name := "kind", desc := "(I)Lcom/example/pausemark/pausemark/formats/GcEvent$Kind;", sig := { parameters := [.int], returnType := some (.object "com/example/pausemark/pausemark/formats/GcEvent$Kind") }, accessFlags := 10, code := some k1c2 }
def k1c3 : Code := { maxStack := 2, maxLocals := 8, code := code, exceptionTable := #[], attributes := #[] }
def k1m3 : Method := { name := "law", desc := "(II)Z", sig := { parameters := [.int, .int], returnType := some .boolean }, accessFlags := 9, code := some k1c3 }
/-- com/example/pausemark/pausemark/formats/RecordNoteKindOfPinLaw -/
def k1 : Class := { plain "com/example/pausemark/pausemark/formats/RecordNoteKindOfPinLaw" (some 0) with
  accessFlags := 49
  interfaces := #[]
  cf := some (fileOf pool1 57 #[] #[{ accessFlags := 2, nameIndex := 5, descriptorIndex := 6, attributes := #[] }, { accessFlags := 10, nameIndex := 60, descriptorIndex := 61, attributes := #[] }, { accessFlags := 10, nameIndex := 64, descriptorIndex := 65, attributes := #[] }, { accessFlags := 9, nameIndex := 73, descriptorIndex := 74, attributes := #[] }] 49 2 #[] #[])
  fields := #[]
  methods := #[k1m0, k1m1, k1m2, k1m3]
  instanceTypes := #[]
  staticTypes := #[]
  resolved := Array.replicate 81 none
  statics := none }

def pool2 : Array CpInfo := pool [(1, .class_ 2), (0, u "java/lang/constant/Constable"), (0, .class_ 4), (0, u "java/lang/Object")] 6

/-- java/lang/constant/Constable -/
def k2 : Class := { plain "java/lang/constant/Constable" (some 0) with
  accessFlags := 1537
  interfaces := #[]
  cf := some (fileOf pool2 1 #[] #[] 1537 3 #[] #[])
  fields := #[]
  methods := #[]
  instanceTypes := #[]
  staticTypes := #[]
  resolved := Array.replicate 11 none
  statics := none }

def pool3 : Array CpInfo := pool [(1, .class_ 2), (0, u "java/lang/Comparable"), (0, .class_ 4), (0, u "java/lang/Object")] 7

/-- java/lang/Comparable -/
def k3 : Class := { plain "java/lang/Comparable" (some 0) with
  accessFlags := 1537
  interfaces := #[]
  cf := some (fileOf pool3 1 #[] #[] 1537 3 #[] #[])
  fields := #[]
  methods := #[]
  instanceTypes := #[]
  staticTypes := #[]
  resolved := Array.replicate 12 none
  statics := none }

def pool4 : Array CpInfo := pool [(1, .class_ 2), (0, u "java/io/Serializable"), (0, .class_ 4), (0, u "java/lang/Object")] 2

/-- java/io/Serializable -/
def k4 : Class := { plain "java/io/Serializable" (some 0) with
  accessFlags := 1537
  interfaces := #[]
  cf := some (fileOf pool4 1 #[] #[] 1537 3 #[] #[])
  fields := #[]
  methods := #[]
  instanceTypes := #[]
  staticTypes := #[]
  resolved := Array.replicate 7 none
  statics := none }

def pool5 : Array CpInfo := pool [(2, .class_ 4), (1, u "java/lang/Enum"), (0, u "name"), (0, u "Ljava/lang/String;"), (2, u "ordinal"), (0, u "I"), (1, .class_ 14), (1, u "java/lang/Object"), (4, u "hash"), (86, .class_ 108), (1, u "java/lang/Enum$EnumDesc"), (2, .class_ 112), (0, u "java/lang/constant/Constable"), (0, .class_ 114), (0, u "java/lang/Comparable"), (0, .class_ 116), (0, u "java/io/Serializable")] 87

/-- java/lang/Enum -/
def k5 : Class := { plain "java/lang/Enum" (some 0) with
  accessFlags := 1057
  interfaces := #[2, 3, 4]
  cf := some (fileOf pool5 2 #[.nestMembers #[106]] #[] 1057 12 #[111, 113, 115] #[{ accessFlags := 18, nameIndex := 5, descriptorIndex := 6, attributes := #[] }, { accessFlags := 18, nameIndex := 9, descriptorIndex := 10, attributes := #[] }, { accessFlags := 2, nameIndex := 19, descriptorIndex := 10, attributes := #[] }])
  fields := #[{ name := "name", type := (.object "java/lang/String"), accessFlags := 18, slot := 0, constantValue := 0 }, { name := "ordinal", type := .int, accessFlags := 18, slot := 1, constantValue := 0 }, { name := "hash", type := .int, accessFlags := 2, slot := 2, constantValue := 0 }]
  methods := #[]
  instanceTypes := #[(.object "java/lang/String"), .int, .int]
  staticTypes := #[]
  resolved := Array.replicate 204 none
  statics := none }

def pool6 : Array CpInfo := pool [(1, .class_ 2), (0, u "com/example/pausemark/pausemark/formats/RecordNote"), (2, u "YOUNG"), (0, u "Lcom/example/pausemark/pausemark/formats/RecordNote;"), (2, u "MIXED"), (2, u "INITIAL_MARK"), (2, u "TO_SPACE_EXHAUSTED"), (2, u "TO_SPACE_OVERFLOW"), (2, u "CONCURRENT_MODE_FAILURE"), (2, u "CONCURRENT_MODE_INTERRUPTED"), (2, u "PROMOTION_FAILED"), (2, u "$VALUES"), (0, u "[Lcom/example/pausemark/pausemark/formats/RecordNote;"), (6, .class_ 40), (1, u "java/lang/Enum"), (7, .class_ 50), (1, u "java/util/Optional"), (4, u "found"), (0, u "Ljava/util/Optional;"), (2, u "text"), (0, u "Ljava/lang/String;"), (4, .fieldref 1 66), (0, .nameAndType 67 56), (0, u "kind"), (2, u "failure"), (0, .methodref 48 72), (0, .nameAndType 73 74), (0, u "orElse"), (0, u "(Ljava/lang/Object;)Ljava/lang/Object;"), (0, .class_ 76), (0, u "com/example/pausemark/pausemark/formats/GcEvent$Kind"), (12, u "ALL"), (0, u "Ljava/util/List;"), (95, u "kindOf"), (0, u "(Lcom/example/pausemark/pausemark/formats/GcEvent$Kind;)Lcom/example/pausemark/pausemark/formats/GcEvent$Kind;")] 14

def k6c0 : Code := { maxStack := 2, maxLocals := 2, code := prog_41_method_6_code, exceptionTable := #[], attributes := #[] }
def k6m0 : Method := { name := "kindOf", desc := "(Lcom/example/pausemark/pausemark/formats/GcEvent$Kind;)Lcom/example/pausemark/pausemark/formats/GcEvent$Kind;", sig := { parameters := [(.object "com/example/pausemark/pausemark/formats/GcEvent$Kind")], returnType := some (.object "com/example/pausemark/pausemark/formats/GcEvent$Kind") }, accessFlags := 0, code := some k6c0 }
/-- com/example/pausemark/pausemark/formats/RecordNote -/
def k6 : Class := { plain "com/example/pausemark/pausemark/formats/RecordNote" (some 5) with
  accessFlags := 16432
  interfaces := #[]
  cf := some (fileOf pool6 1 #[] #[{ accessFlags := 0, nameIndex := 186, descriptorIndex := 187, attributes := #[] }] 16432 38 #[] #[{ accessFlags := 16409, nameIndex := 5, descriptorIndex := 6, attributes := #[] }, { accessFlags := 16409, nameIndex := 9, descriptorIndex := 6, attributes := #[] }, { accessFlags := 16409, nameIndex := 12, descriptorIndex := 6, attributes := #[] }, { accessFlags := 16409, nameIndex := 15, descriptorIndex := 6, attributes := #[] }, { accessFlags := 16409, nameIndex := 18, descriptorIndex := 6, attributes := #[] }, { accessFlags := 16409, nameIndex := 21, descriptorIndex := 6, attributes := #[] }, { accessFlags := 16409, nameIndex := 24, descriptorIndex := 6, attributes := #[] }, { accessFlags := 16409, nameIndex := 27, descriptorIndex := 6, attributes := #[] }, { accessFlags := 26, nameIndex := 89, descriptorIndex := 90, attributes := #[] }, { accessFlags := 16, nameIndex := 59, descriptorIndex := 60, attributes := #[] }, { accessFlags := 18, nameIndex := 67, descriptorIndex := 56, attributes := #[] }, { accessFlags := 16, nameIndex := 70, descriptorIndex := 56, attributes := #[] }, { accessFlags := 18, nameIndex := 55, descriptorIndex := 56, attributes := #[] }, { accessFlags := 4122, nameIndex := 30, descriptorIndex := 31, attributes := #[] }])
  fields := #[{ name := "YOUNG", type := (.object "com/example/pausemark/pausemark/formats/RecordNote"), accessFlags := 16409, slot := 0, constantValue := 0 }, { name := "MIXED", type := (.object "com/example/pausemark/pausemark/formats/RecordNote"), accessFlags := 16409, slot := 1, constantValue := 0 }, { name := "INITIAL_MARK", type := (.object "com/example/pausemark/pausemark/formats/RecordNote"), accessFlags := 16409, slot := 2, constantValue := 0 }, { name := "TO_SPACE_EXHAUSTED", type := (.object "com/example/pausemark/pausemark/formats/RecordNote"), accessFlags := 16409, slot := 3, constantValue := 0 }, { name := "TO_SPACE_OVERFLOW", type := (.object "com/example/pausemark/pausemark/formats/RecordNote"), accessFlags := 16409, slot := 4, constantValue := 0 }, { name := "CONCURRENT_MODE_FAILURE", type := (.object "com/example/pausemark/pausemark/formats/RecordNote"), accessFlags := 16409, slot := 5, constantValue := 0 }, { name := "CONCURRENT_MODE_INTERRUPTED", type := (.object "com/example/pausemark/pausemark/formats/RecordNote"), accessFlags := 16409, slot := 6, constantValue := 0 }, { name := "PROMOTION_FAILED", type := (.object "com/example/pausemark/pausemark/formats/RecordNote"), accessFlags := 16409, slot := 7, constantValue := 0 }, { name := "ALL", type := (.object "java/util/List"), accessFlags := 26, slot := 8, constantValue := 0 }, { name := "text", type := (.object "java/lang/String"), accessFlags := 16, slot := 3, constantValue := 0 }, { name := "kind", type := (.object "java/util/Optional"), accessFlags := 18, slot := 4, constantValue := 0 }, { name := "failure", type := (.object "java/util/Optional"), accessFlags := 16, slot := 5, constantValue := 0 }, { name := "found", type := (.object "java/util/Optional"), accessFlags := 18, slot := 6, constantValue := 0 }, { name := "$VALUES", type := (.array (.object "com/example/pausemark/pausemark/formats/RecordNote")), accessFlags := 4122, slot := 9, constantValue := 0 }]
  methods := #[k6m0]
  instanceTypes := #[(.object "java/lang/String"), .int, .int, (.object "java/lang/String"), (.object "java/util/Optional"), (.object "java/util/Optional"), (.object "java/util/Optional")]
  staticTypes := #[(.object "com/example/pausemark/pausemark/formats/RecordNote"), (.object "com/example/pausemark/pausemark/formats/RecordNote"), (.object "com/example/pausemark/pausemark/formats/RecordNote"), (.object "com/example/pausemark/pausemark/formats/RecordNote"), (.object "com/example/pausemark/pausemark/formats/RecordNote"), (.object "com/example/pausemark/pausemark/formats/RecordNote"), (.object "com/example/pausemark/pausemark/formats/RecordNote"), (.object "com/example/pausemark/pausemark/formats/RecordNote"), (.object "java/util/List"), (.array (.object "com/example/pausemark/pausemark/formats/RecordNote"))]
  resolved := Array.replicate 202 none
  statics := some 0 }

def pool7 : Array CpInfo := pool [(1, .class_ 2), (0, u "com/example/pausemark/pausemark/formats/GcEvent$Kind"), (2, u "YOUNG"), (0, u "Lcom/example/pausemark/pausemark/formats/GcEvent$Kind;"), (2, u "MIXED"), (2, u "FULL"), (2, u "MARK"), (2, u "INITIAL_MARK"), (2, u "REMARK"), (2, u "CLEANUP"), (2, u "$VALUES"), (0, u "[Lcom/example/pausemark/pausemark/formats/GcEvent$Kind;"), (6, .class_ 37), (1, u "java/lang/Enum"), (8, u "id"), (0, u "Ljava/lang/String;"), (42, .class_ 91), (0, u "com/example/pausemark/pausemark/formats/GcEvent")] 2

/-- com/example/pausemark/pausemark/formats/GcEvent$Kind -/
def k7 : Class := { plain "com/example/pausemark/pausemark/formats/GcEvent$Kind" (some 5) with
  accessFlags := 16433
  interfaces := #[]
  cf := some (fileOf pool7 1 #[.nestHost 90] #[] 16433 35 #[] #[{ accessFlags := 16409, nameIndex := 5, descriptorIndex := 6, attributes := #[] }, { accessFlags := 16409, nameIndex := 9, descriptorIndex := 6, attributes := #[] }, { accessFlags := 16409, nameIndex := 12, descriptorIndex := 6, attributes := #[] }, { accessFlags := 16409, nameIndex := 15, descriptorIndex := 6, attributes := #[] }, { accessFlags := 16409, nameIndex := 18, descriptorIndex := 6, attributes := #[] }, { accessFlags := 16409, nameIndex := 21, descriptorIndex := 6, attributes := #[] }, { accessFlags := 16409, nameIndex := 24, descriptorIndex := 6, attributes := #[] }, { accessFlags := 18, nameIndex := 46, descriptorIndex := 47, attributes := #[] }, { accessFlags := 4122, nameIndex := 27, descriptorIndex := 28, attributes := #[] }])
  fields := #[{ name := "YOUNG", type := (.object "com/example/pausemark/pausemark/formats/GcEvent$Kind"), accessFlags := 16409, slot := 0, constantValue := 0 }, { name := "MIXED", type := (.object "com/example/pausemark/pausemark/formats/GcEvent$Kind"), accessFlags := 16409, slot := 1, constantValue := 0 }, { name := "FULL", type := (.object "com/example/pausemark/pausemark/formats/GcEvent$Kind"), accessFlags := 16409, slot := 2, constantValue := 0 }, { name := "MARK", type := (.object "com/example/pausemark/pausemark/formats/GcEvent$Kind"), accessFlags := 16409, slot := 3, constantValue := 0 }, { name := "INITIAL_MARK", type := (.object "com/example/pausemark/pausemark/formats/GcEvent$Kind"), accessFlags := 16409, slot := 4, constantValue := 0 }, { name := "REMARK", type := (.object "com/example/pausemark/pausemark/formats/GcEvent$Kind"), accessFlags := 16409, slot := 5, constantValue := 0 }, { name := "CLEANUP", type := (.object "com/example/pausemark/pausemark/formats/GcEvent$Kind"), accessFlags := 16409, slot := 6, constantValue := 0 }, { name := "id", type := (.object "java/lang/String"), accessFlags := 18, slot := 3, constantValue := 0 }, { name := "$VALUES", type := (.array (.object "com/example/pausemark/pausemark/formats/GcEvent$Kind")), accessFlags := 4122, slot := 7, constantValue := 0 }]
  methods := #[]
  instanceTypes := #[(.object "java/lang/String"), .int, .int, (.object "java/lang/String")]
  staticTypes := #[(.object "com/example/pausemark/pausemark/formats/GcEvent$Kind"), (.object "com/example/pausemark/pausemark/formats/GcEvent$Kind"), (.object "com/example/pausemark/pausemark/formats/GcEvent$Kind"), (.object "com/example/pausemark/pausemark/formats/GcEvent$Kind"), (.object "com/example/pausemark/pausemark/formats/GcEvent$Kind"), (.object "com/example/pausemark/pausemark/formats/GcEvent$Kind"), (.object "com/example/pausemark/pausemark/formats/GcEvent$Kind"), (.array (.object "com/example/pausemark/pausemark/formats/GcEvent$Kind"))]
  resolved := Array.replicate 94 none
  statics := some 1 }

def pool8 : Array CpInfo := pool [(2, .class_ 4), (1, u "java/util/Optional"), (0, u "EMPTY"), (0, u "Ljava/util/Optional;"), (1, .class_ 10), (1, u "java/lang/Object"), (2, .fieldref 2 14), (0, .nameAndType 15 16), (0, u "value"), (0, u "Ljava/lang/Object;"), (5, u "(Ljava/lang/Object;)Ljava/lang/Object;"), (142, u "orElse")] 21

def k8c0 : Code := { maxStack := 1, maxLocals := 2, code := jdk_32_method_15_code, exceptionTable := #[], attributes := #[] }
def k8m0 : Method := { name := "orElse", desc := "(Ljava/lang/Object;)Ljava/lang/Object;", sig := { parameters := [(.object "java/lang/Object")], returnType := some (.object "java/lang/Object") }, accessFlags := 1, code := some k8c0 }
/-- java/util/Optional -/
def k8 : Class := { plain "java/util/Optional" (some 0) with
  accessFlags := 49
  interfaces := #[]
  cf := some (fileOf pool8 2 #[] #[{ accessFlags := 1, nameIndex := 165, descriptorIndex := 22, attributes := #[] }] 49 8 #[] #[{ accessFlags := 26, nameIndex := 5, descriptorIndex := 6, attributes := #[] }, { accessFlags := 18, nameIndex := 15, descriptorIndex := 16, attributes := #[] }])
  fields := #[{ name := "EMPTY", type := (.object "java/util/Optional"), accessFlags := 26, slot := 0, constantValue := 0 }, { name := "value", type := (.object "java/lang/Object"), accessFlags := 18, slot := 0, constantValue := 0 }]
  methods := #[k8m0]
  instanceTypes := #[(.object "java/lang/Object")]
  staticTypes := #[(.object "java/util/Optional")]
  resolved := Array.replicate 187 none
  statics := none }

def pool9 : Array CpInfo := pool [(1, u "java/lang/Cloneable"), (0, .class_ 1), (0, u "java/lang/Object"), (0, .class_ 3)] 3

/-- java/lang/Cloneable -/
def k9 : Class := { plain "java/lang/Cloneable" (some 0) with
  accessFlags := 1537
  interfaces := #[]
  cf := some (fileOf pool9 2 #[] #[] 1537 4 #[] #[])
  fields := #[]
  methods := #[]
  instanceTypes := #[]
  staticTypes := #[]
  resolved := Array.replicate 8 none
  statics := none }

/-- the primitive byte -/
def k10 : Class := { plain "byte" none with kind := .primitive 'B', accessFlags := 0x411 }
/-- [B -/
def k11 : Class := { plain "[B" (some 0) with kind := .array 10 .byte, interfaces := #[9, 4], accessFlags := 1041 }

/-- the primitive int -/
def k12 : Class := { plain "int" none with kind := .primitive 'I', accessFlags := 0x411 }
/-- [I -/
def k13 : Class := { plain "[I" (some 0) with kind := .array 12 .int, interfaces := #[9, 4], accessFlags := 1041 }

def heap : Heap := #[{ cls := 6, slots := #[.ref 2, .ref 3, .ref 4, .ref 5, .ref 6, .ref 7, .ref 8, .ref 9, .null, .null], vm := .statics 6 },
  { cls := 7, slots := #[.ref 10, .ref 11, .ref 12, .ref 13, .ref 14, .ref 15, .ref 16, .null], vm := .statics 7 },
  { cls := 6, slots := #[.null, .int 0, .int 0, .null, .ref 17, .ref 17, .ref 17], vm := .none },
  { cls := 6, slots := #[.null, .int 1, .int 0, .null, .ref 18, .ref 17, .ref 17], vm := .none },
  { cls := 6, slots := #[.null, .int 2, .int 0, .null, .ref 19, .ref 17, .ref 17], vm := .none },
  { cls := 6, slots := #[.null, .int 3, .int 0, .null, .ref 17, .ref 17, .ref 17], vm := .none },
  { cls := 6, slots := #[.null, .int 4, .int 0, .null, .ref 17, .ref 17, .ref 17], vm := .none },
  { cls := 6, slots := #[.null, .int 5, .int 0, .null, .ref 17, .ref 17, .ref 17], vm := .none },
  { cls := 6, slots := #[.null, .int 6, .int 0, .null, .ref 17, .ref 17, .ref 17], vm := .none },
  { cls := 6, slots := #[.null, .int 7, .int 0, .null, .ref 17, .ref 17, .ref 17], vm := .none },
  { cls := 7, slots := #[.null, .int 0, .int 0, .null], vm := .none },
  { cls := 7, slots := #[.null, .int 1, .int 0, .null], vm := .none },
  { cls := 7, slots := #[.null, .int 2, .int 0, .null], vm := .none },
  { cls := 7, slots := #[.null, .int 3, .int 0, .null], vm := .none },
  { cls := 7, slots := #[.null, .int 4, .int 0, .null], vm := .none },
  { cls := 7, slots := #[.null, .int 5, .int 0, .null], vm := .none },
  { cls := 7, slots := #[.null, .int 6, .int 0, .null], vm := .none },
  { cls := 8, slots := #[.null], vm := .none },
  { cls := 8, slots := #[.ref 11], vm := .none },
  { cls := 8, slots := #[.ref 14], vm := .none }]
def classes : Array Class := #[k0, k1, k2, k3, k4, k5, k6, k7, k8, k9, k10, k11, k12, k13]
def interned : List (Array UInt16 × Addr) := []
def slotsUsed : Nat := 105
def theMethod : MethodId := ⟨1, 3⟩
def args0 : Array Value := #[.int 3, .int 4]
def aboutOver (below : List Frame) : State where
  vm := { classes := classes, interned := interned.toArray }
  heap := heap
  slotsUsed := slotsUsed
  threads := #[{ frames := .invoking theMethod args0 :: below }]
def below0 : List Frame := [.native { method := ⟨0, 0⟩, args := #[] }]
def about1 : State := aboutOver below0
def p0 : Program := .bare "" "" ""
def e0 : Env := launch0.env 0 0 0
theorem w_frames : about1.frames = Frame.invoking theMethod args0 :: below0 := rfl
set_option maxRecDepth 65536 in
theorem w_args : argsFit about1.vm theMethod args0 = true := by decide +kernel
set_option maxRecDepth 65536 in
theorem w_heap : heapFits about1 = true := by decide +kernel
set_option maxRecDepth 65536 in
theorem w_runnable : about1.curStatus? = some .runnable := by decide +kernel
set_option maxRecDepth 65536 in
theorem w_alone : about1.alone = true := by decide +kernel
set_option maxRecDepth 65536 in
theorem w_named : about1.methodNamed? x = some theMethod := by decide +kernel
set_option maxRecDepth 65536 in
theorem w_hears : about1.hears theMethod below0 = true := by decide +kernel
set_option maxRecDepth 65536 in
theorem w_ripe : about1.ripe theMethod args0 below0 = true := by decide +kernel
theorem w_running : about1.status = .running := rfl
set_option maxRecDepth 65536 in
theorem w_room : about1.hasRoom e0.platform room_1 = true :=
  launch0.hasRoom_least _ room_1 (by decide +kernel) (by decide +kernel) (by decide +kernel) (by decide +kernel) (by decide +kernel) (by decide +kernel)
theorem allAtoms_all (ts : List Jvm.Cond) (a : Array Jvm.Value) (st : Jvm.State) : (allAtoms ts).before a st = ts.all (fun c => c.before a st) := by
  induction ts with
  | nil => rfl
  | cons c t ih =>
    show (Jvm.Cond.and c (allAtoms t)).before a st = _
    rw [Jvm.Cond.before_and, ih, List.all_cons]
def words1 : List Jvm.Cond := Jvm.Cond.code x code maxLocals ret :: tables_1
/-- a 'code' word, met by the world's own term for the bytes: nothing is compared byte by byte -/
theorem code_word {y : MethodName} {bytes : ByteArray} {mx : Nat} {rt : Option FieldType} {a : Array Value} {s : State} {m : MethodId} {meth : Method} {c : Code} (h1 : s.methodNamed? y = some m) (h2 : s.vm.method? m = some meth) (h3 : meth.code = some c) (h4 : c.code = bytes)
    (h5 : (c.maxLocals == mx && c.exceptionTable.isEmpty && decide (c.maxStack ≤ mostOperands) && decide (meth.sig.returnType = rt) && !meth.locks && decide (parseMethodDescriptor y.desc = some meth.sig)) = true) : (Jvm.Cond.code y bytes mx rt).before a s = true := by
  simp only [Bool.and_eq_true, beq_iff_eq, Bool.not_eq_true', decide_eq_true_eq] at h5
  obtain ⟨⟨⟨⟨⟨g1, g2⟩, g3⟩, g4⟩, g5⟩, g6⟩ := h5
  simp [Cond.before, Cond.holds, Cond.value, h1, h2, h3, h4, g1, g2, g3, g4, g5, g6]
def isCode : Jvm.Cond → Bool
  | .code _ _ _ _ => true
  | _ => false
theorem all_split {L : List Jvm.Cond} {P : Jvm.Cond → Bool} (h1 : L.all (fun c => isCode c || P c) = true) (h2 : ∀ c ∈ L.filter isCode, P c = true) : L.all P = true := by
  refine List.all_eq_true.mpr fun c hc => ?_
  have h := List.all_eq_true.mp h1 c hc
  rcases Bool.eq_false_or_eq_true (isCode c) with hi | hi
  · exact h2 c (List.mem_filter.mpr ⟨hc, hi⟩)
  · simpa [hi] using h
set_option maxRecDepth 65536 in
theorem w_c0 : (Jvm.Cond.code x code maxLocals ret).before args0 about1 = true := code_word (m := ⟨1, 3⟩) (meth := k1m3) (c := k1c3) (by decide +kernel) rfl rfl rfl (by decide +kernel)
set_option maxRecDepth 65536 in
theorem w_c1 : (Jvm.Cond.code ({ cls := "com/example/pausemark/pausemark/formats/RecordNoteKindOfPinLaw", name := "note", desc := "(I)Lcom/example/pausemark/pausemark/formats/RecordNote;" } : Jvm.MethodName) method_2_code (1 : Nat) (Option.some (Jvm.ClassFile.FieldType.object "com/example/pausemark/pausemark/formats/RecordNote"))).before args0 about1 = true := code_word (m := ⟨1, 1⟩) (meth := k1m1) (c := k1c1) (by decide +kernel) rfl rfl rfl (by decide +kernel)
set_option maxRecDepth 65536 in
theorem w_c2 : (Jvm.Cond.code ({ cls := "com/example/pausemark/pausemark/formats/RecordNoteKindOfPinLaw", name := "kind", desc := "(I)Lcom/example/pausemark/pausemark/formats/GcEvent$Kind;" } : Jvm.MethodName) method_3_code (1 : Nat) (Option.some (Jvm.ClassFile.FieldType.object "com/example/pausemark/pausemark/formats/GcEvent$Kind"))).before args0 about1 = true := code_word (m := ⟨1, 2⟩) (meth := k1m2) (c := k1c2) (by decide +kernel) rfl rfl rfl (by decide +kernel)
set_option maxRecDepth 65536 in
theorem w_c3 : (Jvm.Cond.code ({ cls := "com/example/pausemark/pausemark/formats/RecordNote", name := "kindOf", desc := "(Lcom/example/pausemark/pausemark/formats/GcEvent$Kind;)Lcom/example/pausemark/pausemark/formats/GcEvent$Kind;" } : Jvm.MethodName) prog_41_method_6_code (2 : Nat) (Option.some (Jvm.ClassFile.FieldType.object "com/example/pausemark/pausemark/formats/GcEvent$Kind"))).before args0 about1 = true := code_word (m := ⟨6, 0⟩) (meth := k6m0) (c := k6c0) (by decide +kernel) rfl rfl rfl (by decide +kernel)
set_option maxRecDepth 65536 in
theorem w_c4 : (Jvm.Cond.code ({ cls := "java/util/Optional", name := "orElse", desc := "(Ljava/lang/Object;)Ljava/lang/Object;" } : Jvm.MethodName) jdk_32_method_15_code (2 : Nat) (Option.some (Jvm.ClassFile.FieldType.object "java/lang/Object"))).before args0 about1 = true := code_word (m := ⟨8, 0⟩) (meth := k8m0) (c := k8c0) (by decide +kernel) rfl rfl rfl (by decide +kernel)
def codes1 : List Jvm.Cond := [Jvm.Cond.code x code maxLocals ret, Jvm.Cond.code ({ cls := "com/example/pausemark/pausemark/formats/RecordNoteKindOfPinLaw", name := "note", desc := "(I)Lcom/example/pausemark/pausemark/formats/RecordNote;" } : Jvm.MethodName) method_2_code (1 : Nat) (Option.some (Jvm.ClassFile.FieldType.object "com/example/pausemark/pausemark/formats/RecordNote")), Jvm.Cond.code ({ cls := "com/example/pausemark/pausemark/formats/RecordNoteKindOfPinLaw", name := "kind", desc := "(I)Lcom/example/pausemark/pausemark/formats/GcEvent$Kind;" } : Jvm.MethodName) method_3_code (1 : Nat) (Option.some (Jvm.ClassFile.FieldType.object "com/example/pausemark/pausemark/formats/GcEvent$Kind")), Jvm.Cond.code ({ cls := "com/example/pausemark/pausemark/formats/RecordNote", name := "kindOf", desc := "(Lcom/example/pausemark/pausemark/formats/GcEvent$Kind;)Lcom/example/pausemark/pausemark/formats/GcEvent$Kind;" } : Jvm.MethodName) prog_41_method_6_code (2 : Nat) (Option.some (Jvm.ClassFile.FieldType.object "com/example/pausemark/pausemark/formats/GcEvent$Kind")), Jvm.Cond.code ({ cls := "java/util/Optional", name := "orElse", desc := "(Ljava/lang/Object;)Ljava/lang/Object;" } : Jvm.MethodName) jdk_32_method_15_code (2 : Nat) (Option.some (Jvm.ClassFile.FieldType.object "java/lang/Object"))]
set_option maxRecDepth 65536 in
theorem codes_eq : words1.filter isCode = codes1 := rfl
theorem w_codes : ∀ c ∈ words1.filter isCode, c.before args0 about1 = true := by
  rw [codes_eq]
  intro c hc
  simp only [codes1, List.mem_cons, List.not_mem_nil, or_false] at hc
  rcases hc with rfl | rfl | rfl | rfl | rfl
  · exact w_c0
  · exact w_c1
  · exact w_c2
  · exact w_c3
  · exact w_c4
set_option maxRecDepth 65536 in
theorem w_t1 : (words1.take 24).all (fun c => isCode c || c.before args0 about1) = true := by decide +kernel
set_option maxRecDepth 65536 in
theorem w_t2 : ((words1.drop 24).take 24).all (fun c => isCode c || c.before args0 about1) = true := by decide +kernel
set_option maxRecDepth 65536 in
theorem w_t3 : ((words1.drop 24).drop 24).all (fun c => isCode c || c.before args0 about1) = true := by decide +kernel
theorem w_tables : (allAtoms (Jvm.Cond.code x code maxLocals ret :: tables_1)).before args0 about1 = true := by
  rw [allAtoms_all]
  show words1.all (fun c => c.before args0 about1) = true
  refine all_split ?_ w_codes
  rw [← List.take_append_drop 24 words1, List.all_append, w_t1, ← List.take_append_drop 24 (words1.drop 24), List.all_append, w_t2, w_t3]
  rfl
set_option maxRecDepth 65536 in
theorem w_case : (Jvm.Cond.and given_1 narrow_1).before args0 about1 = true := by decide +kernel
theorem w_applies : (headSpec (Jvm.Cond.code x code maxLocals ret :: tables_1) room_1).applies x e0.platform about1 = true :=
  (Spec.applies_iff w_frames).mpr ⟨w_running, w_runnable, w_alone, w_named, w_hears, w_ripe, w_room, w_tables⟩
theorem atStart : AtStart classFile x code maxLocals ret World_1 tables_1 room_1 Calls_1 rest_1 Pre_1 launch0 p0 e0 about1 theMethod args0 below0 :=
  ⟨lists_1, trivial, launch0.admits_env _ _ _, launch0.least_env, fairChoices_fair.cas, fairChoices_fair.clock, w_frames, w_args, w_heap, w_applies, trivial, trivial, w_case⟩
end start1
theorem witness_1 : WitnessClaimed_1 := ⟨start1.p0, start1.e0, start1.about1, start1.theMethod, start1.args0, start1.below0, start1.atStart⟩
end Jvm.Pilot.@@N@@
