import JvmDerived
import JvmDerived.Pilot.@@N@@Statement
import JvmDerived.Pilot.@@N@@Code
set_option linter.unusedVariables false
set_option linter.unusedSimpArgs false
namespace Jvm.Pilot.@@N@@
open Jvm Jvm.ClassFile Sem Op Lib Jvm.Free Jvm.Stand Jvm.LawKit Jvm.RoadKit Bundle Jvm.Pilot.@@N@@.Jvm.D
section Own
variable {p : Program} {l : Launch} {e : Env} {R : Room} {s : State} {m : MethodId} {args : Array Value} {below : List Frame} {meth : Method} {c : Code} {T : State} {locs : List Loc} {cells slots : Nat} {Z : State} {a0 : Array Value} {h : Heap} {P : State → Outcome → Prop} {pc : Nat} {Ls : Array Slot} {rest st : List Value}
/-- from T, with f on top, the run comes to an end of which P holds -/
def own_Go (p : Program) (e : Env) (below : List Frame) (P : State → Outcome → Prop) (T : State) (f : JFrame) : Prop :=
  ∃ t o, Steps p.tables e below (T.setTop f) t ∧ t.status = .running ∧ Ended t below o ∧ P t o
theorem own_by {T' : State} {f f' : JFrame} (st : ∀ t, Steps p.tables e below (T'.setTop f') t → Steps p.tables e below (T.setTop f) t) (k : own_Go p e below P T' f') : own_Go p e below P T f := by
  obtain ⟨t, o, h1, h2⟩ := k
  exact ⟨t, o, st _ h1, h2⟩
/-- a method's end: what it returns, the heap, what it wrote -/
def own_Ends (s : State) (rm : Room) (Q : Option Value → Heap → List Loc → Prop) (t : State) (o : Outcome) : Prop := ∃ v L, o = .returned v ∧ Q v t.heap L ∧ FrameEnd s o t L rm.cells rm.slots
/-- a body's contract, at one list of arguments and one heap -/
def own_Ct (l : Launch) (Z : State) (y : MethodName) (bytes : ByteArray) (mx : Nat) (rt : Option FieldType) (ws : List Jvm.Cond) (rm : Room) (as' : Array Value) (h0 : Heap) (Q : Option Value → Heap → List Loc → Prop) : Prop :=
  MetFree l y (head1 (Jvm.Cond.code y bytes mx rt :: ws) rm) (fun a U => a = as' ∧ Z.Warmed39 U.vm ∧ U.heap = h0) (fun _ _ _ _ _ => True) (fun _ U o U' => own_Ends U rm Q U' o)
theorem own_of {y : MethodName} {bytes : ByteArray} {mx : Nat} {rt : Option FieldType} {ws : List Jvm.Cond} {rm : Room} {as' : Array Value} {h0 : Heap} {Q : Option Value → Heap → List Loc → Prop} (hpl : plainFor y = true)
    (body : ∀ (p : Program) (e : Env) (s : State) (m : MethodId) (below : List Frame) (meth : Method) (c : Code) (s₁ : State), p.tables.exec = Jvm.exec → c.code = bytes → c.maxLocals = mx → s.vm.findClass y.cls = some m.cls → meth.name = y.name → meth.sig.returnType = rt → meth.locks = false → Z.Warmed39 s.vm →
      Stand p l e rm s m as' below meth c s₁ [] 0 0 → s₁.heap = h0 → own_Go p e below (own_Ends s rm Q) s₁ (entryFrame m as' mx)) : own_Ct l Z y bytes mx rt ws rm as' h0 Q := by
  refine MetFree.of_bodySF hpl hisR ?_
  intro p e s m args below meth c s₁ Bd hml hP hK
  obtain ⟨rfl, hZ, hh⟩ := hP
  exact body p e s m below meth c s₁ Bd.exec Bd.bytes hml (findClass_of_methodNamed Bd.named) (name_of_methodNamed Bd.named Bd.method).1 Bd.returns Bd.notSynchronized hZ (Stand.of_body Bd) (by rw [← hh, Bd.state]; rfl)
theorem own_ret {rm : Room} {Q : Option Value → Heap → List Loc → Prop} {t : FieldType} {w : Value} {i : Instr} (X : Stand p l e R s m args below meth c T locs cells slots) (hx : p.tables.exec = Jvm.exec) (hret : meth.sig.returnType = some t) (hlk : meth.locks = false) (hd : decode c.code pc = .ok (i, 1)) (hn : narrow t w = w)
    (hi : (i = .ireturn ∧ (t = .int ∨ t = .boolean ∨ t = .byte ∨ t = .char ∨ t = .short) ∧ ∃ z, w = .int z) ∨ (i = .lreturn ∧ t = .long ∧ ∃ z, w = .long z) ∨ (i = .dreturn ∧ t = .double ∧ ∃ z, w = .double z) ∨ (i = .freturn ∧ t = .float ∧ ∃ z, w = .float z) ∨ (i = .areturn ∧ t.isReference = true ∧ w.isRef = true))
    (hc : cells ≤ rm.cells) (hs : slots ≤ rm.slots) (hq : Q (some w) T.heap locs) : own_Go p e below (own_Ends s rm Q) T (mkF m pc Ls (w :: rest)) := by
  obtain ⟨fs, hr, hrun, hended, hW, hsame⟩ := X.leave (v := some w) (fun h => by rw [hret] at h; cases h) hlk
  exact ⟨_, _, retOut X hx hret hn hi hd hr, hrun, hended, _, _, rfl, hq, ⟨_, rfl⟩, hW, hsame.mono hc hs⟩
theorem own_retI {rm : Room} {Q : Option Value → Heap → List Loc → Prop} {w : Int32} (X : Stand p l e R s m args below meth c T locs cells slots) (hx : p.tables.exec = Jvm.exec) (hret : meth.sig.returnType = some .int) (hlk : meth.locks = false) (hd : decode c.code pc = .ok (.ireturn, 1)) 
    (hc : cells ≤ rm.cells) (hs : slots ≤ rm.slots) (hq : Q (some (.int w)) T.heap locs) : own_Go p e below (own_Ends s rm Q) T (mkF m pc Ls (.int w :: rest)) :=
  own_ret X hx hret hlk hd rfl (Or.inl ⟨rfl, Or.inl rfl, _, rfl⟩) hc hs hq
theorem own_retZ {rm : Room} {Q : Option Value → Heap → List Loc → Prop} {w : Int32} (X : Stand p l e R s m args below meth c T locs cells slots) (hx : p.tables.exec = Jvm.exec) (hret : meth.sig.returnType = some .boolean) (hlk : meth.locks = false) (hd : decode c.code pc = .ok (.ireturn, 1)) (hw : w = 0 ∨ w = 1)
    (hc : cells ≤ rm.cells) (hs : slots ≤ rm.slots) (hq : Q (some (.int w)) T.heap locs) : own_Go p e below (own_Ends s rm Q) T (mkF m pc Ls (.int w :: rest)) :=
  own_ret X hx hret hlk hd (by rcases hw with rfl | rfl <;> rfl) (Or.inl ⟨rfl, Or.inr (Or.inl rfl), _, rfl⟩) hc hs hq
theorem own_retJ {rm : Room} {Q : Option Value → Heap → List Loc → Prop} {w : Int64} (X : Stand p l e R s m args below meth c T locs cells slots) (hx : p.tables.exec = Jvm.exec) (hret : meth.sig.returnType = some .long) (hlk : meth.locks = false) (hd : decode c.code pc = .ok (.lreturn, 1)) 
    (hc : cells ≤ rm.cells) (hs : slots ≤ rm.slots) (hq : Q (some (.long w)) T.heap locs) : own_Go p e below (own_Ends s rm Q) T (mkF m pc Ls (.long w :: rest)) :=
  own_ret X hx hret hlk hd rfl (Or.inr (Or.inl ⟨rfl, rfl, _, rfl⟩)) hc hs hq
theorem own_retA {rm : Room} {Q : Option Value → Heap → List Loc → Prop} {w : Value} {t : FieldType} (X : Stand p l e R s m args below meth c T locs cells slots) (hx : p.tables.exec = Jvm.exec) (hret : meth.sig.returnType = some t) (hlk : meth.locks = false) (hd : decode c.code pc = .ok (.areturn, 1)) (ht : t.isReference = true) (hn : narrow t w = w) (hw : w.isRef = true)
    (hc : cells ≤ rm.cells) (hs : slots ≤ rm.slots) (hq : Q (some w) T.heap locs) : own_Go p e below (own_Ends s rm Q) T (mkF m pc Ls (w :: rest)) :=
  own_ret X hx hret hlk hd hn (Or.inr (Or.inr (Or.inr (Or.inr ⟨rfl, ht, hw⟩)))) hc hs hq
theorem own_retV {rm : Room} {Q : Option Value → Heap → List Loc → Prop} (X : Stand p l e R s m args below meth c T locs cells slots) (hx : p.tables.exec = Jvm.exec) (hret : meth.sig.returnType = none) (hlk : meth.locks = false) (hd : decode c.code pc = .ok (.return_, 1))
    (hc : cells ≤ rm.cells) (hs : slots ≤ rm.slots) (hq : Q none T.heap locs) : own_Go p e below (own_Ends s rm Q) T (mkF m pc Ls []) := by
  obtain ⟨fs, hr, hrun, hended, hW, hsame⟩ := X.leave (v := none) (fun _ => rfl) hlk
  exact ⟨_, _, X.returnOut hx hret hd hr, hrun, hended, _, _, rfl, hq, ⟨_, rfl⟩, hW, hsame.mono hc hs⟩
abbrev own_K (p : Program) (l : Launch) (e : Env) (R : Room) (s : State) (m : MethodId) (args : Array Value) (below : List Frame) (meth : Method) (c : Code) (P : State → Outcome → Prop) (locs : List Loc) (cells slots : Nat) (rm : Room) (Q : Option Value → Heap → List Loc → Prop) (pc : Nat) (Ls : Array Slot) (rest : List Value) : Prop :=
  ∀ (T' : State) (v : Option Value) (L : List Loc), Stand p l e R s m args below meth c T' (locs ++ L) (cells + rm.cells) (slots + rm.slots) → Q v T'.heap L → own_Go p e below P T' (mkF m pc Ls (v.toList ++ rest))
theorem own_callS {own : String} {index : Nat} {y : MethodName} {bytes : ByteArray} {maxL : Nat} {ret : Option FieldType} {rm : Room} {Q : Option Value → Heap → List Loc → Prop} {ps : List FieldType} {r : Option FieldType} (X : Stand p l e R s m args below meth c T locs cells slots) (hx : p.tables.exec = Jvm.exec) (hZ : Z.Warmed39 s.vm) (hown : s.vm.findClass own = some m.cls) (eT : T.heap = h) (hd : decode c.code pc = .ok (.invokestatic index, 3))
    (argsL rest : List Value) (W : Nat) (C : own_Ct l Z y bytes maxL ret [] rm argsL.toArray h Q) (w1 : (Cond.methodLink own index y).before a0 Z = true) (w2 : (Cond.static y).before a0 Z = true) (w3 : (Cond.initialized y.cls).before a0 Z = true) (w4 : (Cond.code y bytes maxL ret).before a0 Z = true)
    (hy : y.cls ≠ "java/lang/invoke/MethodHandle" ∧ y.cls ≠ "java/lang/invoke/VarHandle") (hpd : parseMethodDescriptor y.desc = some ⟨ps, r⟩) (hsize : Ls.size = c.maxLocals) (hlen : argsL.length = ps.length) (hst : st = argsL.reverse ++ rest)
    (hW : (rest.map fun v => v.category).sum ≤ W) (hf : rm.frames + 1 ≤ R.frames) (hl : W + (maxL + 11) + rm.locals ≤ R.locals) (hc : cells + rm.cells ≤ R.cells) (hs : slots + rm.slots ≤ R.slots)
    (k : own_K p l e R s m args below meth c P locs cells slots rm Q (pc + 3) Ls rest) : own_Go p e below P T (mkF m pc Ls st) := by
  obtain ⟨v, _, ⟨T', L', k', n'⟩, -, X', ⟨Lc, hQ, l', y', z'⟩, stp⟩ := Jvm.LawKit.callS X hx (y := y) hown (mvT hZ w1) (mvT hZ w2) (mvT hZ w3) (mvT hZ w4) hy (backOf (W := W) (Q := Q) C hZ w4 w3 hf hl) (g := mkF m pc Ls st) rfl hsize (argsL := argsL) (rest := rest) (lenOf hpd hlen) hst (by show 2 * 0 + _ ≤ _; omega) hd (fun _ _ => ⟨rfl, eT, hc, hs⟩)
  dsimp only [Pt.U, Pt.locs, Pt.cells, Pt.slots] at X' l' y' z' stp hQ
  subst l' y' z'
  exact own_by stp (k T' v Lc X' hQ)
theorem own_callN {own : String} {index : Nat} {y : MethodName} {bytes : ByteArray} {maxL : Nat} {rm : Room} {Q : Option Value → Heap → List Loc → Prop} {ps : List FieldType} {r : Option FieldType} {a : Addr} (X : Stand p l e R s m args below meth c T locs cells slots) (hx : p.tables.exec = Jvm.exec) (hZ : Z.Warmed39 s.vm) (hown : s.vm.findClass own = some m.cls) (eT : T.heap = h) (hd : decode c.code pc = .ok (.invokespecial index, 3))
    (argsL rest : List Value) (W : Nat) (C : own_Ct l Z y bytes maxL none [] rm (.ref a :: argsL).toArray h Q) (w1 : (Cond.methodLink own index y).before a0 Z = true) (w2 : (Cond.instanceMethod y).before a0 Z = true) (w3 : (Cond.initialized y.cls).before a0 Z = true) (w4 : (Cond.code y bytes maxL none).before a0 Z = true)
    (hyi : y.name = "<init>") (hy : y.cls ≠ "java/lang/invoke/MethodHandle" ∧ y.cls ≠ "java/lang/invoke/VarHandle") (hpd : parseMethodDescriptor y.desc = some ⟨ps, r⟩) (hsize : Ls.size = c.maxLocals) (hlen : argsL.length = ps.length) (hst : st = argsL.reverse ++ .ref a :: rest)
    (hW : (rest.map fun v => v.category).sum ≤ W) (hf : rm.frames + 1 ≤ R.frames) (hl : W + (maxL + 11) + rm.locals ≤ R.locals) (hc : cells + rm.cells ≤ R.cells) (hs : slots + rm.slots ≤ R.slots)
    (k : own_K p l e R s m args below meth c P locs cells slots rm Q (pc + 3) Ls rest) : own_Go p e below P T (mkF m pc Ls st) := by
  obtain ⟨v, _, ⟨T', L', k', n'⟩, -, X', ⟨Lc, hQ, l', y', z'⟩, stp⟩ := X.specialBack hx (y := y) hyi hown (mvT hZ w1) (mvT hZ w2) (mvT hZ w4) hy (backOf (W := W) (Q := Q) C hZ w4 w3 hf hl) (g := mkF m pc Ls st) rfl hsize (Steps.refl _) (a := a) (argsL := argsL) (rest := rest) (lenOf hpd hlen) hst (by show 2 * 0 + _ ≤ _; omega) hd (fun _ _ => ⟨rfl, eT, hc, hs⟩)
  dsimp only [Pt.U, Pt.locs, Pt.cells, Pt.slots] at X' l' y' z' stp hQ
  subst l' y' z'
  exact own_by (fun _ k => stp.trans k) (k T' v Lc X' hQ)
theorem own_callV {own : String} {index : Nat} {C0 : String} {y z : MethodName} {bytes : ByteArray} {maxL : Nat} {ret : Option FieldType} {rm : Room} {Q : Option Value → Heap → List Loc → Prop} {ps : List FieldType} {r : Option FieldType} {a : Addr} (X : Stand p l e R s m args below meth c T locs cells slots) (hx : p.tables.exec = Jvm.exec) (hZ : Z.Warmed39 s.vm) (hown : s.vm.findClass own = some m.cls) (eT : T.heap = h) (hd : decode c.code pc = .ok (.invokevirtual index, 3))
    (argsL rest : List Value) (W : Nat) (C : own_Ct l Z z bytes maxL ret [] rm (.ref a :: argsL).toArray h Q) (E : Exa Z h a C0) (w1 : (Cond.methodLink own index y).before a0 Z = true) (w0 : (Cond.declares y).before a0 Z = true) (nf : NotFace s y) (ws : (Cond.selects C0 y z).before a0 Z = true) (w2 : (Cond.instanceMethod z).before a0 Z = true) (w3 : (Cond.initialized z.cls).before a0 Z = true) (w4 : (Cond.code z bytes maxL ret).before a0 Z = true)
    (hy : y.cls ≠ "java/lang/invoke/MethodHandle" ∧ y.cls ≠ "java/lang/invoke/VarHandle") (hpd : parseMethodDescriptor y.desc = some ⟨ps, r⟩) (hsize : Ls.size = c.maxLocals) (hlen : argsL.length = ps.length) (hst : st = argsL.reverse ++ .ref a :: rest)
    (hW : (rest.map fun v => v.category).sum ≤ W) (hf : rm.frames + 1 ≤ R.frames) (hl : W + (maxL + 11) + rm.locals ≤ R.locals) (hc : cells + rm.cells ≤ R.cells) (hs : slots + rm.slots ≤ R.slots)
    (k : own_K p l e R s m args below meth c P locs cells slots rm Q (pc + 3) Ls rest) : own_Go p e below P T (mkF m pc Ls st) := by
  obtain ⟨cq, kq, qa, qb, qc⟩ := isOf hZ eT E
  obtain ⟨v, _, ⟨T', L', k', n'⟩, -, X', ⟨Lc, hQ, l', y', z'⟩, stp⟩ := X.virtualBack hx (y := y) (z := z) hown (mvT hZ w1) (mvT hZ w0) nf (mvT hZ ws) (mvT hZ w2) hy (backOf (W := W) (Q := Q) C hZ w4 w3 hf hl) qa qc (g := mkF m pc Ls st) rfl hsize (Steps.refl _) (argsL := argsL) (rest := rest) (lenOf hpd hlen) hst (by show 2 * 0 + _ ≤ _; omega) hd (fun _ _ => ⟨rfl, eT, hc, hs⟩)
  dsimp only [Pt.U, Pt.locs, Pt.cells, Pt.slots] at X' l' y' z' stp hQ
  subst l' y' z'
  exact own_by (fun _ k => stp.trans k) (k T' v Lc X' hQ)
theorem own_callP {own : String} {index : Nat} {C0 : String} {y : MethodName} {bytes : ByteArray} {maxL : Nat} {ret : Option FieldType} {rm : Room} {Q : Option Value → Heap → List Loc → Prop} {ps : List FieldType} {r : Option FieldType} {a : Addr} (X : Stand p l e R s m args below meth c T locs cells slots) (hx : p.tables.exec = Jvm.exec) (hZ : Z.Warmed39 s.vm) (hown : s.vm.findClass own = some m.cls) (eT : T.heap = h) (hd : decode c.code pc = .ok (.invokevirtual index, 3))
    (argsL rest : List Value) (W : Nat) (C : own_Ct l Z y bytes maxL ret [] rm (.ref a :: argsL).toArray h Q) (E : Exa Z h a C0) (w1 : (Cond.methodLink own index y).before a0 Z = true) (w2 : (Cond.instanceMethod y).before a0 Z = true) (ws : (Cond.selects y.cls y y).before a0 Z = true) (wp : (Cond.privateMethod y).before a0 Z = true) (w3 : (Cond.initialized y.cls).before a0 Z = true) (w4 : (Cond.code y bytes maxL ret).before a0 Z = true)
    (hy : y.cls ≠ "java/lang/invoke/MethodHandle" ∧ y.cls ≠ "java/lang/invoke/VarHandle") (hpd : parseMethodDescriptor y.desc = some ⟨ps, r⟩) (hsize : Ls.size = c.maxLocals) (hlen : argsL.length = ps.length) (hst : st = argsL.reverse ++ .ref a :: rest)
    (hW : (rest.map fun v => v.category).sum ≤ W) (hf : rm.frames + 1 ≤ R.frames) (hl : W + (maxL + 11) + rm.locals ≤ R.locals) (hc : cells + rm.cells ≤ R.cells) (hs : slots + rm.slots ≤ R.slots)
    (k : own_K p l e R s m args below meth c P locs cells slots rm Q (pc + 3) Ls rest) : own_Go p e below P T (mkF m pc Ls st) := by
  obtain ⟨cq, q1, q2⟩ := E.cell
  obtain ⟨v, _, ⟨T', L', k', n'⟩, -, X', ⟨Lc, hQ, l', y', z'⟩, stp⟩ := X.privateBack hx (y := y) hown (mvT hZ w1) (mvT hZ w2) (mvT hZ ws) (Cond.privateMethod_at (mvP hZ wp (args := #[]))) (mvT hZ w4) hy (backOf (W := W) (Q := Q) C hZ w4 w3 hf hl) (g := mkF m pc Ls st) rfl hsize (Steps.refl _) (a := a) (by rw [eT]; exact q1) q2 (argsL := argsL) (rest := rest) (lenOf hpd hlen) hst (by show 2 * 0 + _ ≤ _; omega) hd (fun _ _ => ⟨rfl, eT, hc, hs⟩)
  dsimp only [Pt.U, Pt.locs, Pt.cells, Pt.slots] at X' l' y' z' stp hQ
  subst l' y' z'
  exact own_by (fun _ k => stp.trans k) (k T' v Lc X' hQ)
abbrev own_K0 (p : Program) (l : Launch) (e : Env) (R : Room) (s : State) (m : MethodId) (args : Array Value) (below : List Frame) (meth : Method) (c : Code) (P : State → Outcome → Prop) (locs : List Loc) (cells slots : Nat) (h : Heap) (pc : Nat) (Ls : Array Slot) (st : List Value) : Prop :=
  ∀ (T' : State), Stand p l e R s m args below meth c T' locs cells slots → T'.heap = h → own_Go p e below P T' (mkF m pc Ls st)
theorem own_init {own : String} {index : Nat} {a : Addr} (X : Stand p l e R s m args below meth c T locs cells slots) (hx : p.tables.exec = Jvm.exec) (hZ : Z.Warmed39 s.vm) (hown : s.vm.findClass own = some m.cls) (eT : T.heap = h) (hd : decode c.code pc = .ok (.invokespecial index, 3)) (W : Nat)
    (w1 : (Cond.methodLink own index Lib.objectInit).before a0 Z = true) (w2 : (Cond.instanceMethod Lib.objectInit).before a0 Z = true) (w3 : (Cond.code Lib.objectInit ⟨#[0xb1]⟩ 1 none).before a0 Z = true) (hsize : Ls.size = c.maxLocals) (hW : (rest.map fun v => v.category).sum ≤ W) (hf : 1 ≤ R.frames) (hl : W + 12 ≤ R.locals)
    (k : own_K0 p l e R s m args below meth c P locs cells slots h (pc + 3) Ls rest) : own_Go p e below P T (mkF m pc Ls (.ref a :: rest)) := by
  obtain ⟨T', X', e', st⟩ := initO X hx hZ hown w1 w2 w3 eT (g := mkF m pc Ls (.ref a :: rest)) rfl hsize rfl hd hf (W := W) (by show 2 * 0 + _ ≤ _; omega) hl
  exact own_by st (k T' X' e')
theorem own_getF {own R0 O n d host : String} {index : Nat} {a : Addr} {v : Value} (X : Stand p l e R s m args below meth c T locs cells slots) (hx : p.tables.exec = Jvm.exec) (hZ : Z.Warmed39 s.vm) (hown : s.vm.findClass own = some m.cls) (eT : T.heap = h) (hd : decode c.code pc = .ok (.getfield index, 3))
    (w : (Cond.fieldLink own index R0 n d).before a0 Z = true ∨ (Cond.fieldLinkNest own index R0 n d host).before a0 Z = true) (via : Via Z R0 O n d) (F : Fld Z h a O n d v)
    (k : own_K0 p l e R s m args below meth c P locs cells slots h (pc + 3) Ls (v :: rest)) : own_Go p e below P T (mkF m pc Ls (.ref a :: rest)) := by
  obtain ⟨T', X', e', st⟩ := getF X hx hZ hown w via eT F (g := mkF m pc Ls (.ref a :: rest)) rfl rfl hd
  exact own_by st (k T' X' e')
theorem own_getS {own R0 O n d host : String} {index : Nat} {v : Value} (X : Stand p l e R s m args below meth c T locs cells slots) (hx : p.tables.exec = Jvm.exec) (hZ : Z.Warmed39 s.vm) (hown : s.vm.findClass own = some m.cls) (eT : T.heap = h) (hd : decode c.code pc = .ok (.getstatic index, 3))
    (w : (Cond.fieldLink own index R0 n d).before a0 Z = true ∨ (Cond.fieldLinkNest own index R0 n d host).before a0 Z = true) (via : Via Z R0 O n d) (F : Sta Z h O n d v)
    (k : own_K0 p l e R s m args below meth c P locs cells slots h (pc + 3) Ls (v :: st)) : own_Go p e below P T (mkF m pc Ls st) := by
  obtain ⟨T', X', e', stp⟩ := getS2 X hx hZ hown w via eT F (g := mkF m pc Ls st) rfl hd
  exact own_by stp (k T' X' e')
theorem own_new {own C : String} {index n : Nat} (X : Stand p l e R s m args below meth c T locs cells slots) (hx : p.tables.exec = Jvm.exec) (hZ : Z.Warmed39 s.vm) (hown : s.vm.findClass own = some m.cls) (eT : T.heap = h) (hd : decode c.code pc = .ok (.new index, 3))
    (w : (Cond.classLink own index C).before a0 Z = true) (wi : (Cond.instantiable C n).before a0 Z = true) (wz : (Cond.initialized C).before a0 Z = true) (hc : cells + 1 ≤ R.cells) (hl : slots + n ≤ R.slots)
    (k : ∀ (T' : State) (h' : Heap) (b : Addr), Stand p l e R s m args below meth c T' locs (cells + 1) (slots + n) → T'.heap = h' → b = h.size → Ext h h' → Exa Z h' b C → (∀ {O nm d : String} {ty : FieldType}, Laid Z a0 C O nm d → parseFieldDescriptor d = some ty → Fld Z h' b O nm d (defaultValue ty)) → own_Go p e below P T' (mkF m (pc + 3) Ls (.ref b :: st))) :
    own_Go p e below P T (mkF m pc Ls st) := by
  obtain ⟨T', h', X', e', E, A, D, -, stp⟩ := newO X hx hZ hown w wi wz eT (g := mkF m pc Ls st) rfl hd hc hl
  exact own_by stp (k T' h' _ X' e' rfl E A D)
theorem own_putF {own R0 O n d host C : String} {index kk : Nat} {ty : FieldType} {a : Addr} {v old : Value} (X : Stand p l e R s m args below meth c T locs cells slots) (hx : p.tables.exec = Jvm.exec) (hZ : Z.Warmed39 s.vm) (hown : s.vm.findClass own = some m.cls) (eT : T.heap = h) (hd : decode c.code pc = .ok (.putfield index, 3))
    (w : (Cond.fieldLink own index R0 n d).before a0 Z = true ∨ (Cond.fieldLinkNest own index R0 n d host).before a0 Z = true) (via : Via Z R0 O n d) (F : Fld Z h a O n d old) (E : Exa Z h a C) (L : (Cond.lays C O n d).before a0 Z = true ∨ ((Cond.laysFinal C O n d).before a0 Z = true ∧ own = O ∧ meth.name = "<init>")) (wi : (Cond.instantiable C kk).before a0 Z = true)
    (hty : parseFieldDescriptor d = some ty) (hn : narrow ty v = v) (hf : fits ty v = true)
    (k : ∀ (T' : State) (h' : Heap), Stand p l e R s m args below meth c T' (locs ++ [⟨a, Jvm.RoadKit.slotOf Z O n d⟩]) cells slots → T'.heap = h' → Wr h h' a (Jvm.RoadKit.slotOf Z O n d) v → own_Go p e below P T' (mkF m (pc + 3) Ls rest)) :
    own_Go p e below P T (mkF m pc Ls (v :: .ref a :: rest)) := by
  obtain ⟨T', h', X', e', W, st⟩ := putF X hx hZ hown w via eT F E L wi hty hn hf (g := mkF m pc Ls (v :: .ref a :: rest)) rfl rfl hd
  exact own_by st (k T' h' X' e' W)
theorem own_newA {aty : ArrayType} {n : Int32} (X : Stand p l e R s m args below meth c T locs cells slots) (hx : p.tables.exec = Jvm.exec) (hZ : Z.Warmed39 s.vm) (eT : T.heap = h) (hd : decode c.code pc = .ok (.newarray aty, 2))
    (w : (Cond.arrayClass (newarray.typeOf aty)).before a0 Z = true) (hn : ¬ n < 0) (cap : Nat) (hcap : n.toNatClampNeg ≤ cap) (hb : cap * 8 ≤ 536870912) (hc : cells + 1 ≤ R.cells) (hl : slots + cap ≤ R.slots)
    (k : ∀ (T' : State) (h' : Heap) (b : Addr) (cA : ClassId), Stand p l e R s m args below meth c T' locs (cells + 1) (slots + cap) → T'.heap = h' → b = h.size → Ext h h' → Arv Z h' b cA (newarray.typeOf aty) n [] (defaultValue (newarray.typeOf aty)) → own_Go p e below P T' (mkF m (pc + 2) Ls (.ref b :: rest))) :
    own_Go p e below P T (mkF m pc Ls (.int n :: rest)) := by
  obtain ⟨T', h', cA, X', e', E, A, stp⟩ := newP X hx hZ w eT (g := mkF m pc Ls (.int n :: rest)) rfl hd rfl hn hcap hb hc hl
  exact own_by stp (k T' h' _ cA X' e' rfl E (Arv.new A hn))
theorem own_ldcI {own : String} {index : Nat} {i : Int32} (X : Stand p l e R s m args below meth c T locs cells slots) (hx : p.tables.exec = Jvm.exec) (hZ : Z.Warmed39 s.vm) (hown : s.vm.findClass own = some m.cls) (hd : decode c.code pc = .ok (.ldc index, 2)) (w : (Cond.constant own index i).before a0 Z = true)
    (k : own_Go p e below P T (mkF m (pc + 2) Ls (.int i :: st))) : own_Go p e below P T (mkF m pc Ls st) :=
  own_by (fun t k => X.ldcInt hx hown (mvT hZ w) (g := mkF m pc Ls st) rfl hd t k) k
theorem own_ldcJ {own : String} {index : Nat} {i : Int64} (X : Stand p l e R s m args below meth c T locs cells slots) (hx : p.tables.exec = Jvm.exec) (hZ : Z.Warmed39 s.vm) (hown : s.vm.findClass own = some m.cls) (hd : decode c.code pc = .ok (.ldc2_w index, 3)) (w : (Cond.constantLong own index i).before a0 Z = true)
    (k : own_Go p e below P T (mkF m (pc + 3) Ls (.long i :: st))) : own_Go p e below P T (mkF m pc Ls st) :=
  own_by (fun t k => X.ldc2Long hx hown (mvT hZ w) (g := mkF m pc Ls st) rfl hd t k) k
theorem own_ns {a : Addr} {C : String} (F : Exa Z h a C) : ∃ c : Cell, h[a]? = some c ∧ c.vm.isStatics = false := by obtain ⟨c, _, h1, -, -, h4, -⟩ := F; exact ⟨c, h1, h4⟩
theorem own_sta_keep {h' : Heap} {C n d : String} {v : Value} {ws : List Addr} (F : Sta Z h C n d v) (K : Keep h h' ws) (q : ∀ x ∈ ws, ∃ c : Cell, h[x]? = some c ∧ c.vm.isStatics = false) : Sta Z h' C n d v := by
  obtain ⟨cf, i, k, f, st, cell, h1, h2, h3, h4, h5, h6, h7⟩ := F
  refine ⟨cf, i, k, f, st, cell, h1, h2, h3, h4, K.2.1 st cell h5 fun z => ?_, h6, h7⟩
  obtain ⟨c, c1, c2⟩ := q st z
  cases h5.symm.trans c1
  rw [h6] at c2; cases c2
end Own
section OwnArr
variable {p : Program} {l : Launch} {e : Env} {R : Room} {s : State} {m : MethodId} {args : Array Value} {below : List Frame} {meth : Method} {c : Code} {T : State} {locs : List Loc} {cells slots : Nat} {Z : State} {a0 : Array Value} {h h' : Heap} {P : State → Outcome → Prop} {pc : Nat} {Ls : Array Slot} {rest st : List Value} {a b : Addr} {ty : FieldType} {n : Nat} {f g : Nat → Int32}
/-- an array of ints (chars, bytes ..): its length, its elements -/
def own_A (Z : State) (h : Heap) (a : Addr) (ty : FieldType) (n : Nat) (f : Nat → Int32) : Prop := ∃ cl : Cell, Arr Z h a cl ty ∧ cl.slots.size = n ∧ n < 2147483648 ∧ ∀ i, i < n → cl.slots[i]? = some (.int (f i))
theorem own_A.lt (F : own_A Z h a ty n f) : a < h.size := by obtain ⟨_, A, -⟩ := F; exact A.lt
theorem own_A.ext (F : own_A Z h a ty n f) (E : Ext h h') : own_A Z h' a ty n f := by obtain ⟨cl, A, r⟩ := F; exact ⟨cl, A.ext E, r⟩
theorem own_A.other {sl : Nat} {v : Value} (F : own_A Z h b ty n f) (W : Wr h h' a sl v) (q : b ≠ a) : own_A Z h' b ty n f := by obtain ⟨cl, A, r⟩ := F; exact ⟨cl, A.other W q, r⟩
theorem own_A.keep {ws : List Addr} (F : own_A Z h a ty n f) (K : Keep h h' ws) (q : a ∉ ws) : own_A Z h' a ty n f := by obtain ⟨cl, A, r⟩ := F; exact ⟨cl, ⟨K.2.1 a cl A.1 q, A.2⟩, r⟩
theorem own_A.small (F : own_A Z h a ty n f) : n < 2147483648 := by obtain ⟨_, _, _, q, _⟩ := F; exact q
theorem own_A.congr (F : own_A Z h a ty n f) (q : ∀ i, i < n → f i = g i) : own_A Z h a ty n g := by
  obtain ⟨cl, A, h1, h2, h3⟩ := F
  exact ⟨cl, A, h1, h2, fun i hi => by rw [h3 i hi, q i hi]⟩
theorem own_A.set {j : Nat} {v : Int32} (F : own_A Z h a ty n f) (W : Wr h h' a j (.int v)) : own_A Z h' a ty n (fun i => if i = j then v else f i) := by
  obtain ⟨cl, A, h1, h2, h3⟩ := F
  have hw : j < cl.slots.size := by obtain ⟨c', q1, -, q3, -⟩ := W; cases q1.symm.trans A.1; exact q3
  refine ⟨_, A.same W, by rw [sz_set]; exact h1, h2, fun i hi => ?_⟩
  by_cases q : i = j
  · subst q; simp [Cell.setSlot, hw]
  · show _ = some (Value.int (if i = j then v else f i))
    rw [if_neg q, ← h3 i hi]; exact Array.getElem?_setIfInBounds_ne (Ne.symm q)
theorem own_nsA (F : own_A Z h a ty n f) : ∃ c : Cell, h[a]? = some c ∧ c.vm.isStatics = false := by obtain ⟨cl, A, -⟩ := F; exact ⟨cl, A.1, A.plain⟩
theorem own_clamp {j : Int32} (h0 : 0 ≤ j.toInt) : j.toNatClampNeg = j.toInt.toNat := rfl
theorem own_inb {j : Int32} {k : Nat} (h0 : 0 ≤ j.toInt) (h1 : j.toInt < k) : ¬ (j < 0 ∨ k ≤ j.toNatClampNeg) := by
  rintro (q | q)
  · have := Int32.lt_iff_toInt_lt.mp q
    have e : (0 : Int32).toInt = 0 := by decide
    omega
  · rw [own_clamp h0] at q; omega
theorem own_A.new {k : ClassId} {z : Int32} {v : Int32} (F : Arv Z h a k ty z [] (.int v)) : own_A Z h a ty z.toInt.toNat (fun _ => v) := by
  obtain ⟨cl, A, -, h2, h3, H, -⟩ := F
  have e : z.toNatClampNeg = z.toInt.toNat := rfl
  refine ⟨cl, A, h2.trans e, ?_, fun i hi => ?_⟩
  · have := rng32 z; omega
  · rw [H i (by rw [h2, e]; exact hi)]; rfl
theorem own_alen {j : Int32} (X : Stand p l e R s m args below meth c T locs cells slots) (hx : p.tables.exec = Jvm.exec) (hZ : Z.Warmed39 s.vm) (eT : T.heap = h) (hd : decode c.code pc = .ok (.arraylength, 1)) (F : own_A Z h a ty n f) (hj : j.toInt = n)
    (k : own_Go p e below P T (mkF m (pc + 1) Ls (.int j :: rest))) : own_Go p e below P T (mkF m pc Ls (.ref a :: rest)) := by
  obtain ⟨cl, A, h1, h2, -⟩ := F
  have e1 : cl.slots.size.toInt32 = j := by
    apply Int32.toInt_inj.mp
    rw [hj, h1]; exact Int32.toInt_ofNat_of_lt h2
  refine own_by (fun t k => X.arraylength hx (by rw [eT]; exact A.1) (State.isArrayOf_alike hZ.alike A.2.1) (g := mkF m pc Ls (.ref a :: rest)) rfl rfl hd t k) ?_
  rw [e1]; exact k
theorem own_ldI {j : Int32} (X : Stand p l e R s m args below meth c T locs cells slots) (hx : p.tables.exec = Jvm.exec) (hZ : Z.Warmed39 s.vm) (eT : T.heap = h) (hd : decode c.code pc = .ok (.iaload, 1)) (F : own_A Z h a .int n f) (h0 : 0 ≤ j.toInt) (h1 : j.toInt < n)
    (k : own_Go p e below P T (mkF m (pc + 1) Ls (.int (f j.toInt.toNat) :: rest))) : own_Go p e below P T (mkF m pc Ls (.int j :: .ref a :: rest)) := by
  obtain ⟨cl, A, e1, e2, e3⟩ := F
  exact own_by (fun t k => X.iaload hx (j := j) (v := .int (f j.toInt.toNat)) (by rw [eT]; exact A.1) (State.isArrayOf_alike hZ.alike A.2.1) A.2.2 (by rw [e1]; exact own_inb h0 h1) (e3 j.toInt.toNat (by omega)) (g := mkF m pc Ls (.int j :: .ref a :: rest)) rfl rfl hd t k) k
theorem own_ldC {j : Int32} (X : Stand p l e R s m args below meth c T locs cells slots) (hx : p.tables.exec = Jvm.exec) (hZ : Z.Warmed39 s.vm) (eT : T.heap = h) (hd : decode c.code pc = .ok (.caload, 1)) (F : own_A Z h a .char n f) (h0 : 0 ≤ j.toInt) (h1 : j.toInt < n)
    (k : own_Go p e below P T (mkF m (pc + 1) Ls (.int (f j.toInt.toNat) :: rest))) : own_Go p e below P T (mkF m pc Ls (.int j :: .ref a :: rest)) := by
  obtain ⟨cl, A, e1, e2, e3⟩ := F
  exact own_by (fun t k => X.caload hx (j := j) (v := .int (f j.toInt.toNat)) (by rw [eT]; exact A.1) (State.isArrayOf_alike hZ.alike A.2.1) A.2.2 (by rw [e1]; exact own_inb h0 h1) (e3 j.toInt.toNat (by omega)) (g := mkF m pc Ls (.int j :: .ref a :: rest)) rfl rfl hd t k) k
theorem own_ldB {j : Int32} (X : Stand p l e R s m args below meth c T locs cells slots) (hx : p.tables.exec = Jvm.exec) (hZ : Z.Warmed39 s.vm) (eT : T.heap = h) (hd : decode c.code pc = .ok (.baload, 1)) (F : own_A Z h a .byte n f) (h0 : 0 ≤ j.toInt) (h1 : j.toInt < n)
    (k : own_Go p e below P T (mkF m (pc + 1) Ls (.int (f j.toInt.toNat) :: rest))) : own_Go p e below P T (mkF m pc Ls (.int j :: .ref a :: rest)) := by
  obtain ⟨cl, A, e1, e2, e3⟩ := F
  exact own_by (fun t k => X.baloadBytes hx (j := j) (v := .int (f j.toInt.toNat)) (by rw [eT]; exact A.1) (State.isArrayOf_alike hZ.alike A.2.1) A.2.2 (by rw [e1]; exact own_inb h0 h1) (e3 j.toInt.toNat (by omega)) (g := mkF m pc Ls (.int j :: .ref a :: rest)) rfl rfl hd t k) k
abbrev own_KW (p : Program) (l : Launch) (e : Env) (R : Room) (s : State) (m : MethodId) (args : Array Value) (below : List Frame) (meth : Method) (c : Code) (P : State → Outcome → Prop) (locs : List Loc) (cells slots : Nat) (Z : State) (h : Heap) (a : Addr) (ty : FieldType) (n : Nat) (f : Nat → Int32) (j : Nat) (v : Int32) (pc : Nat) (Ls : Array Slot) (st : List Value) : Prop :=
  ∀ (T' : State) (h' : Heap), Stand p l e R s m args below meth c T' (locs ++ [⟨a, j⟩]) cells slots → T'.heap = h' → Wr h h' a j (.int v) → own_A Z h' a ty n (fun i => if i = j then v else f i) → own_Go p e below P T' (mkF m pc Ls st)
theorem own_stI {j x : Int32} (X : Stand p l e R s m args below meth c T locs cells slots) (hx : p.tables.exec = Jvm.exec) (hZ : Z.Warmed39 s.vm) (eT : T.heap = h) (hd : decode c.code pc = .ok (.iastore, 1)) (F : own_A Z h a .int n f) (h0 : 0 ≤ j.toInt) (h1 : j.toInt < n)
    (k : own_KW p l e R s m args below meth c P locs cells slots Z h a .int n f j.toInt.toNat x (pc + 1) Ls rest) : own_Go p e below P T (mkF m pc Ls (.int x :: .int j :: .ref a :: rest)) := by
  obtain ⟨cl, A, e1, e2, e3⟩ := F
  obtain ⟨T', h', X', e', W, stp⟩ := stI X hx hZ eT A (j := j) (x := x) (by rw [e1]; exact own_inb h0 h1) (g := mkF m pc Ls (.int x :: .int j :: .ref a :: rest)) rfl rfl hd
  exact own_by stp (k T' h' X' e' W (own_A.set ⟨cl, A, e1, e2, e3⟩ W))
theorem own_stC {j x : Int32} (X : Stand p l e R s m args below meth c T locs cells slots) (hx : p.tables.exec = Jvm.exec) (hZ : Z.Warmed39 s.vm) (eT : T.heap = h) (hd : decode c.code pc = .ok (.castore, 1)) (F : own_A Z h a .char n f) (h0 : 0 ≤ j.toInt) (h1 : j.toInt < n)
    (k : own_KW p l e R s m args below meth c P locs cells slots Z h a .char n f j.toInt.toNat (nar .char x) (pc + 1) Ls rest) : own_Go p e below P T (mkF m pc Ls (.int x :: .int j :: .ref a :: rest)) := by
  obtain ⟨cl, A, e1, e2, e3⟩ := F
  obtain ⟨T', h', X', e', W, stp⟩ := stC X hx hZ eT A (j := j) (x := x) (by rw [e1]; exact own_inb h0 h1) (g := mkF m pc Ls (.int x :: .int j :: .ref a :: rest)) rfl rfl hd
  exact own_by stp (k T' h' X' e' W (own_A.set ⟨cl, A, e1, e2, e3⟩ W))
theorem own_stB {j x : Int32} (X : Stand p l e R s m args below meth c T locs cells slots) (hx : p.tables.exec = Jvm.exec) (hZ : Z.Warmed39 s.vm) (eT : T.heap = h) (hd : decode c.code pc = .ok (.bastore, 1)) (F : own_A Z h a .byte n f) (h0 : 0 ≤ j.toInt) (h1 : j.toInt < n)
    (k : own_KW p l e R s m args below meth c P locs cells slots Z h a .byte n f j.toInt.toNat (nar .byte x) (pc + 1) Ls rest) : own_Go p e below P T (mkF m pc Ls (.int x :: .int j :: .ref a :: rest)) := by
  obtain ⟨cl, A, e1, e2, e3⟩ := F
  obtain ⟨T', h', X', e', W, stp⟩ := stB X hx hZ eT A (j := j) (x := x) (by rw [e1]; exact own_inb h0 h1) (g := mkF m pc Ls (.int x :: .int j :: .ref a :: rest)) rfl rfl hd
  exact own_by stp (k T' h' X' e' W (own_A.set ⟨cl, A, e1, e2, e3⟩ W))
theorem own_mkA {aty : ArrayType} {z : Int32} {v : Int32} (X : Stand p l e R s m args below meth c T locs cells slots) (hx : p.tables.exec = Jvm.exec) (hZ : Z.Warmed39 s.vm) (eT : T.heap = h) (hd : decode c.code pc = .ok (.newarray aty, 2))
    (w : (Cond.arrayClass (newarray.typeOf aty)).before a0 Z = true) (hv : defaultValue (newarray.typeOf aty) = .int v) (h0 : 0 ≤ z.toInt) (cap : Nat) (hcap : z.toInt ≤ cap) (hb : cap * 8 ≤ 536870912) (hc : cells + 1 ≤ R.cells) (hl : slots + cap ≤ R.slots)
    (k : ∀ (T' : State) (h' : Heap) (b : Addr), Stand p l e R s m args below meth c T' locs (cells + 1) (slots + cap) → T'.heap = h' → b = h.size → Ext h h' → own_A Z h' b (newarray.typeOf aty) z.toInt.toNat (fun _ => v) → own_Go p e below P T' (mkF m (pc + 2) Ls (.ref b :: rest))) :
    own_Go p e below P T (mkF m pc Ls (.int z :: rest)) := by
  have e0 : (0 : Int32).toInt = 0 := by decide
  refine own_newA X hx hZ eT hd w (fun q => ?_) cap ?_ hb hc hl ?_
  · have := Int32.lt_iff_toInt_lt.mp q; omega
  · rw [own_clamp h0]; omega
  · intro T' h' b' cA X' e' g' E A
    rw [hv] at A
    exact k T' h' b' X' e' g' E (own_A.new A)
end OwnArr
section OwnStr
/-- the first place whose sign is above 255, from i on, of k places -/
def own_fstA (f : Nat → Int32) : Nat → Nat → Nat
  | 0, i => i
  | k + 1, i => if (255 : Int32) < f i then i else own_fstA f k (i + 1)
def own_fst (f : Nat → Int32) (n : Nat) : Nat := own_fstA f n 0
/-- a sign's byte as it is stored -/
def own_b8 (x : Int32) : Int32 := nar .byte x.toInt8.toInt32
theorem own_upd (j : Nat) (φ g : Nat → Int32) (i : Nat) : (if i = j then φ j else if i < j then φ i else g i) = (if i < j + 1 then φ i else g i) := by
  by_cases h : i = j
  · subst h; simp
  · by_cases h2 : i < j
    · rw [if_neg h, if_pos h2, if_pos (by omega)]
    · rw [if_neg h, if_neg h2, if_neg (by omega)]
theorem own_inc {iv : Int32} {j n : Nat} (h : iv.toInt = j) (h1 : j < n) (h2 : n < 2147483648) : (iv + (1 : Int32)).toInt = ((j + 1 : Nat) : Int) := by
  have q := c_iadd iv 1
  have e1 : (1 : Int32).toInt = 1 := by decide
  have r := rng32 (iv + 1)
  omega
theorem own_nz {z : Int32} {n : Nat} (hz : z.toInt = n) (h1 : 1 ≤ n) : ¬ (z = (0 : Int32)) := fun q => by
  rw [q] at hz
  have : (0 : Int32).toInt = 0 := by decide
  omega
theorem own_cd0 (z : Int32) : ((((z - z).toUInt32 >>> ((31 : Int32) &&& 31).toUInt32).toInt32).toInt8.toInt32) = 0 := by rw [Int32.sub_self]; decide
theorem own_fstA_all {f : Nat → Int32} : ∀ (k i : Nat), (∀ q, i ≤ q → q < i + k → ¬ (255 : Int32) < f q) → own_fstA f k i = i + k
  | 0, i, _ => rfl
  | k + 1, i, h => by
    rw [own_fstA, if_neg (h i (Nat.le_refl _) (by omega)), own_fstA_all k (i + 1) (fun q h1 h2 => h q (by omega) (by omega))]; omega
theorem own_fst_all {f : Nat → Int32} {n : Nat} (h : ∀ q, q < n → ¬ (255 : Int32) < f q) : own_fst f n = n := by
  rw [own_fst, own_fstA_all n 0 (fun q _ h2 => h q (by omega))]; omega
theorem own_A.uniq {Z : State} {h : Heap} {a : Addr} {ty ty' : FieldType} {n n' : Nat} {f f' : Nat → Int32} (F : own_A Z h a ty n f) (G : own_A Z h a ty' n' f') : n = n' ∧ ∀ i, i < n → f i = f' i := by
  obtain ⟨c, A, h1, h2, h3⟩ := F
  obtain ⟨c', A', h1', h2', h3'⟩ := G
  cases A.1.symm.trans A'.1
  have e : n = n' := h1.symm.trans h1'
  refine ⟨e, fun i hi => ?_⟩
  have q := (h3 i hi).symm.trans (h3' i (e ▸ hi))
  simpa using q
theorem own_fld_uniq {Z : State} {h : Heap} {a : Addr} {C n d : String} {v w : Value} (F : Fld Z h a C n d v) (G : Fld Z h a C n d w) : v = w := by
  by_cases e : v = w
  · exact e
  · exact absurd rfl (Fld.ne F G e)
/-- the answer of an equals on two arrays -/
def own_eqA (n1 : Nat) (f1 : Nat → Int32) (n2 : Nat) (f2 : Nat → Int32) : Int32 := if n1 = n2 ∧ ∀ i, i < n1 → f1 i = f2 i then 1 else 0
theorem own_eqA_01 (n1 : Nat) (f1 : Nat → Int32) (n2 : Nat) (f2 : Nat → Int32) : own_eqA n1 f1 n2 f2 = 0 ∨ own_eqA n1 f1 n2 f2 = 1 := by unfold own_eqA; split <;> simp
theorem own_eqA_ne {n1 n2 : Nat} {f1 f2 : Nat → Int32} (h : ¬ n1 = n2) : own_eqA n1 f1 n2 f2 = 0 := by unfold own_eqA; rw [if_neg fun q => h q.1]
theorem own_eqA_at {n1 n2 : Nat} {f1 f2 : Nat → Int32} {j : Nat} (hj : j < n1) (h : ¬ f1 j = f2 j) : own_eqA n1 f1 n2 f2 = 0 := by unfold own_eqA; rw [if_neg fun q => h (q.2 j hj)]
theorem own_eqA_all {n1 n2 : Nat} {f1 f2 : Nat → Int32} (e : n1 = n2) (h : ∀ i, i < n1 → f1 i = f2 i) : own_eqA n1 f1 n2 f2 = 1 := by unfold own_eqA; rw [if_pos ⟨e, h⟩]
theorem own_i256 (z : Int32) (h0 : 0 ≤ z.toInt) (h1 : z.toInt < 256) : ∃ k : Fin 256, z = Int32.ofNat k.1 := by
  refine ⟨⟨z.toInt.toNat, by omega⟩, Int32.toInt_inj.mp ?_⟩
  rw [Int32.toInt_ofNat_of_lt (by simp only; omega)]
  simp only; omega
theorem own_b8_tab : ∀ k : Fin 256, ((own_b8 (Int32.ofNat k.1)) &&& (255 : Int32)).toUInt32.toUInt16.toUInt32.toInt32 = Int32.ofNat k.1 := by decide +kernel
/-- the byte read back -/
theorem own_b8_char (x : Int32) (h0 : 0 ≤ x.toInt) (h1 : x.toInt < 256) : ((own_b8 x) &&& (255 : Int32)).toUInt32.toUInt16.toUInt32.toInt32 = x := by
  obtain ⟨k, rfl⟩ := own_i256 x h0 h1
  exact own_b8_tab k
theorem own_b8_inj (x y : Int32) (h0 : 0 ≤ x.toInt) (h1 : x.toInt < 256) (g0 : 0 ≤ y.toInt) (g1 : y.toInt < 256) (e : own_b8 x = own_b8 y) : x = y := by
  rw [← own_b8_char x h0 h1, ← own_b8_char y g0 g1, e]
end OwnStr
section OwnU
def own_hi (x : Int32) : Int32 := nar .byte ((x >>> ((8 : Int32) &&& 31)).toInt8.toInt32)
def own_lo (x : Int32) : Int32 := nar .byte ((x >>> ((0 : Int32) &&& 31)).toInt8.toInt32)
/-- the bytes of the first j signs, two each -/
def own_u16 (f : Nat → Int32) (j : Nat) (q : Nat) : Int32 := if q < 2 * j then (if q % 2 = 0 then own_lo (f (q / 2)) else own_hi (f (q / 2))) else 0
theorem own_u16_step (f : Nat → Int32) (j q : Nat) : (if q = 2 * j + 1 then own_hi (f j) else if q = 2 * j then own_lo (f j) else own_u16 f j q) = own_u16 f (j + 1) q := by
  unfold own_u16
  by_cases h1 : q = 2 * j + 1
  · rw [if_pos h1, if_pos (by omega), if_neg (by omega), show q / 2 = j by omega]
  · rw [if_neg h1]
    by_cases h2 : q = 2 * j
    · rw [if_pos h2, if_pos (by omega), if_pos (by omega), show q / 2 = j by omega]
    · rw [if_neg h2]
      by_cases h3 : q < 2 * j
      · rw [if_pos h3, if_pos (show q < 2 * (j + 1) by omega)]
      · rw [if_neg h3, if_neg (show ¬ q < 2 * (j + 1) by omega)]
theorem own_u16_lo {f : Nat → Int32} {j n : Nat} (h : j < n) : own_u16 f n (2 * j) = own_lo (f j) := by unfold own_u16; rw [if_pos (by omega), if_pos (by omega), show 2 * j / 2 = j by omega]
theorem own_u16_hi {f : Nat → Int32} {j n : Nat} (h : j < n) : own_u16 f n (2 * j + 1) = own_hi (f j) := by unfold own_u16; rw [if_pos (by omega), if_neg (by omega), show (2 * j + 1) / 2 = j by omega]
theorem own_shl1 {iv : Int32} {j : Nat} (h : iv.toInt = j) (hb : j < 1073741824) : (iv <<< ((1 : Int32) &&& 31)).toInt = ((2 * j : Nat) : Int) := by
  have q := c_ishl iv 1 1 (by decide)
  have r := rng32 (iv <<< ((1 : Int32) &&& 31))
  omega
theorem own_shr1 {z : Int32} {n : Nat} (h : z.toInt = (2 * n : Nat)) : (z >>> ((1 : Int32) &&& 31)).toInt = (n : Nat) := by
  have q := c_ishr z 1 1 (by decide)
  omega
theorem own_shr0 (z : Int32) : z >>> ((0 : Int32) &&& 31) = z := by
  apply Int32.toInt_inj.mp
  have q := c_ishr z 0 0 (by decide)
  omega
theorem own_nar_b (x : Int32) : (nar .byte x).toInt = x.toInt8.toInt32.toInt := rfl
theorem own_lo255 (c : Int32) : ((own_lo c) &&& (255 : Int32)).toInt = c.toInt % 256 := by
  have h1 := c_mask (own_lo c) 255 8 (by decide) (by decide)
  have h2 := c_i2b c
  have h3 := c_i2b (c.toInt8.toInt32)
  have h4 : (own_lo c).toInt = (c.toInt8.toInt32).toInt8.toInt32.toInt := by rw [own_lo, own_shr0]; rfl
  omega
theorem own_hi255 (c : Int32) : ((own_hi c) &&& (255 : Int32)).toInt = (c.toInt / 256) % 256 := by
  have h1 := c_mask (own_hi c) 255 8 (by decide) (by decide)
  have h0 := c_ishr c 8 8 (by decide)
  have h2 := c_i2b (c >>> ((8 : Int32) &&& 31))
  have h3 := c_i2b ((c >>> ((8 : Int32) &&& 31)).toInt8.toInt32)
  have h4 : (own_hi c).toInt = ((c >>> ((8 : Int32) &&& 31)).toInt8.toInt32).toInt8.toInt32.toInt := rfl
  omega
theorem own_u16_char (c : Int32) (h0 : 0 ≤ c.toInt) (h1 : c.toInt < 65536) : ((((own_lo c) &&& (255 : Int32)) <<< ((0 : Int32) &&& 31)) ||| (((own_hi c) &&& (255 : Int32)) <<< ((8 : Int32) &&& 31))).toUInt32.toUInt16.toUInt32.toInt32 = c := by
  have a := own_lo255 c
  have b := own_hi255 c
  generalize (own_lo c) &&& (255 : Int32) = x at a ⊢
  generalize (own_hi c) &&& (255 : Int32) = y at b ⊢
  have s0 := c_ishl x 0 0 (by decide)
  have s8 := c_ishl y 8 8 (by decide)
  have r0 := rng32 (x <<< ((0 : Int32) &&& 31))
  have r8 := rng32 (y <<< ((8 : Int32) &&& 31))
  generalize x <<< ((0 : Int32) &&& 31) = u at s0 r0 ⊢
  generalize y <<< ((8 : Int32) &&& 31) = w at s8 r8 ⊢
  have o := c_or' u w 8 (by decide) 256 (by decide) (by omega) (by omega) (by omega)
  have ro := rng32 (u ||| w)
  have q := c_i2c (u ||| w)
  apply Int32.toInt_inj.mp
  omega
theorem own_narC {w : Int32} (h0 : 0 ≤ w.toInt) (h1 : w.toInt < 65536) : narrow .char (.int w) = .int w := by
  have q := c_i2c w
  have e : w.toUInt32.toUInt16.toUInt32.toInt32 = w := Int32.toInt_inj.mp (by omega)
  show Value.int _ = Value.int w
  exact congrArg Value.int e
theorem own_cd1 {z y : Int32} {n : Nat} (hz : z.toInt = n) (hy : y.toInt = (2 * n : Nat)) (h1 : 1 ≤ n) : ((((z - y).toUInt32 >>> ((31 : Int32) &&& 31).toUInt32).toInt32).toInt8.toInt32) = 1 := by
  have q := c_iushr (z - y) 31 31 (by decide) (by decide)
  have s := c_isub z y
  have r := rng32 (z - y)
  have r1 := rng32 y
  have e : (((z - y).toUInt32 >>> ((31 : Int32) &&& 31).toUInt32).toInt32) = 1 := by
    apply Int32.toInt_inj.mp
    rw [q]
    have : (1 : Int32).toInt = 1 := by decide
    omega
  rw [e]; decide
theorem own_fstA_spec {f : Nat → Int32} : ∀ (k i : Nat), own_fstA f k i ≤ i + k ∧ i ≤ own_fstA f k i ∧ (own_fstA f k i < i + k → (255 : Int32) < f (own_fstA f k i)) ∧ (∀ q, i ≤ q → q < own_fstA f k i → ¬ (255 : Int32) < f q)
  | 0, i => ⟨Nat.le_refl _, Nat.le_refl _, fun h => absurd h (Nat.lt_irrefl _), fun q h1 h2 => by rw [own_fstA] at h2; omega⟩
  | k + 1, i => by
    by_cases h : (255 : Int32) < f i
    · rw [own_fstA, if_pos h]; exact ⟨by omega, Nat.le_refl _, fun _ => h, fun q h1 h2 => by omega⟩
    · rw [own_fstA, if_neg h]
      obtain ⟨a, b, c, d⟩ := own_fstA_spec (f := f) k (i + 1)
      refine ⟨by omega, by omega, fun q => c (by omega), fun q h1 h2 => ?_⟩
      by_cases e : q = i
      · exact e ▸ h
      · exact d q (by omega) h2
/-- a String as its signs -/
def own_JS (Z : State) (h : Heap) (a : Addr) (n : Nat) (f : Nat → Int32) : Prop := n < 1073741824 ∧ (∀ i, i < n → 0 ≤ (f i).toInt ∧ (f i).toInt < 65536) ∧ Exa Z h a "java/lang/String" ∧ ∃ (b : Addr) (z : Int32), Fld Z h a "java/lang/String" "value" "[B" (.ref b) ∧
  ((Fld Z h a "java/lang/String" "coder" "B" (.int 0) ∧ z.toInt = n ∧ (∀ i, i < n → ¬ (255 : Int32) < f i) ∧ own_A Z h b .byte n (fun i => own_b8 (f i))) ∨ (Fld Z h a "java/lang/String" "coder" "B" (.int 1) ∧ z.toInt = (2 * n : Nat) ∧ (∃ q, q < n ∧ (255 : Int32) < f q) ∧ own_A Z h b .byte (2 * n) (own_u16 f n)))
theorem own_JS.ext {Z : State} {h h' : Heap} {a : Addr} {n : Nat} {f : Nat → Int32} (F : own_JS Z h a n f) (E : Ext h h') : own_JS Z h' a n f := by
  obtain ⟨h0, h1, h2, b, z, h3, h4⟩ := F
  refine ⟨h0, h1, h2.ext E, b, z, h3.ext E, ?_⟩
  rcases h4 with ⟨q1, q2, q3, q4⟩ | ⟨q1, q2, q3, q4⟩
  · exact Or.inl ⟨q1.ext E, q2, q3, q4.ext E⟩
  · exact Or.inr ⟨q1.ext E, q2, q3, q4.ext E⟩
theorem own_JS.keep {Z : State} {h h' : Heap} {a : Addr} {n : Nat} {f : Nat → Int32} (F : own_JS Z h a n f) (K : Keep h h' []) : own_JS Z h' a n f := F.ext ⟨K.1, fun x c q => K.2.1 x c q (by simp)⟩
theorem own_JS.lt {Z : State} {h : Heap} {a : Addr} {n : Nat} {f : Nat → Int32} (F : own_JS Z h a n f) : a < h.size := by obtain ⟨_, _, h2, _⟩ := F; exact h2.lt
theorem own_nl0 {iv : Int32} (g0 : 0 ≤ iv.toInt) : ¬ (iv < (0 : Int32)) := by
  rw [Int32.lt_iff_toInt_lt]
  have : (0 : Int32).toInt = 0 := by decide
  omega
theorem own_lt30 {z : Int32} {n c : Nat} (hz : z.toInt = (n : Nat)) (hc : n ≤ c) (h : c < 1073741823) : z < (1073741823 : Int32) := by
  rw [Int32.lt_iff_toInt_lt]
  have : (1073741823 : Int32).toInt = 1073741823 := by decide
  omega
theorem own_lt256 {x : Int32} (h : ¬ (255 : Int32) < x) : x.toInt < 256 := by
  rw [Int32.lt_iff_toInt_lt] at h
  have : (255 : Int32).toInt = 255 := by decide
  omega
theorem own_z0 {z : Int32} {n m : Nat} (hz : z.toInt = (m : Nat)) (h : z = (0 : Int32)) (hm : m = n ∨ m = 2 * n := by omega) : n = 0 := by
  rw [h] at hz
  have : (0 : Int32).toInt = 0 := by decide
  omega
theorem own_z1 {z : Int32} {n m : Nat} (hz : z.toInt = (m : Nat)) (h : ¬ (z = (0 : Int32))) (hm : m = n ∨ m = 2 * n := by omega) : ¬ (n = 0) := fun q => h (Int32.toInt_inj.mp (by
  have : (0 : Int32).toInt = 0 := by decide
  omega))
/-- the JDK's statics that the String bodies read -/
def own_St (Z : State) (h : Heap) (cs : Int32) (fm : Value) : Prop := Sta Z h "java/lang/String" "COMPACT_STRINGS" "Z" (.int cs) ∧ Sta Z h "java/lang/StringUTF16" "$assertionsDisabled" "Z" (.int 1) ∧ Sta Z h "java/lang/StringUTF16" "HI_BYTE_SHIFT" "I" (.int 0) ∧ Sta Z h "java/lang/StringUTF16" "LO_BYTE_SHIFT" "I" (.int 8) ∧ Sta Z h "jdk/internal/util/Preconditions" "SIOOBE_FORMATTER" "Ljava/util/function/BiFunction;" fm ∧ ¬ (cs = (0 : Int32)) ∧ fm.isRef = true
theorem own_St.ext {Z : State} {h h' : Heap} {cs : Int32} {fm : Value} (F : own_St Z h cs fm) (E : Ext h h') : own_St Z h' cs fm := ⟨F.1.ext E, F.2.1.ext E, F.2.2.1.ext E, F.2.2.2.1.ext E, F.2.2.2.2.1.ext E, F.2.2.2.2.2⟩
theorem own_St.wr {Z : State} {h h' : Heap} {cs : Int32} {fm : Value} {a : Addr} {sl : Nat} {v : Value} (F : own_St Z h cs fm) (W : Wr h h' a sl v) : own_St Z h' cs fm := ⟨F.1.wr W, F.2.1.wr W, F.2.2.1.wr W, F.2.2.2.1.wr W, F.2.2.2.2.1.wr W, F.2.2.2.2.2⟩
theorem own_St.keep {Z : State} {h h' : Heap} {cs : Int32} {fm : Value} {ws : List Addr} (F : own_St Z h cs fm) (K : Keep h h' ws) (q : ∀ x ∈ ws, ∃ c : Cell, h[x]? = some c ∧ c.vm.isStatics = false) : own_St Z h' cs fm := ⟨own_sta_keep F.1 K q, own_sta_keep F.2.1 K q, own_sta_keep F.2.2.1 K q, own_sta_keep F.2.2.2.1 K q, own_sta_keep F.2.2.2.2.1 K q, F.2.2.2.2.2⟩
end OwnU
section OwnWide
variable {p : Program} {l : Launch} {e : Env} {R : Room} {s : State} {m : MethodId} {args : Array Value} {below : List Frame} {meth : Method} {c : Code} {T : State} {locs : List Loc} {cells slots : Nat} {Z : State} {a0 : Array Value} {h h0 : Heap} {P : State → Outcome → Prop} {pc : Nat} {Ls : Array Slot} {rest st : List Value} {EL : List (String × Nat)} {vm0 V0 : Vm} {k0 : Nat}
/-- the end of a method that may have interned -/
def own_EndsW (Z : State) (EL : List (String × Nat)) (s : State) (rm : Room) (Q : Option Value → Heap → List Loc → Prop) (t : State) (o : Outcome) : Prop := ∃ v L, o = .returned v ∧ Q v t.heap L ∧ CHr Z EL s.vm s.heap t.vm t.heap ∧ ReturnedEndW s o t L rm.cells rm.slots
def own_CtW (l : Launch) (Z : State) (EL : List (String × Nat)) (y : MethodName) (bytes : ByteArray) (mx : Nat) (rt : Option FieldType) (ws : List Jvm.Cond) (rm : Room) (as' : Array Value) (h0 : Heap) (Q : Option Value → Heap → List Loc → Prop) : Prop :=
  MetFree l y (head1 (Jvm.Cond.code y bytes mx rt :: ws) rm) (fun a U => a = as' ∧ Z.Warmed39 U.vm ∧ U.heap = h0 ∧ CHv Z EL U.vm h0) (fun _ _ _ _ _ => True) (fun _ U o U' => own_EndsW Z EL U rm Q U' o)
theorem own_ofW {y : MethodName} {bytes : ByteArray} {mx : Nat} {rt : Option FieldType} {ws : List Jvm.Cond} {rm : Room} {as' : Array Value} {Q : Option Value → Heap → List Loc → Prop} (hpl : plainFor y = true)
    (body : ∀ (p : Program) (e : Env) (s : State) (m : MethodId) (below : List Frame) (meth : Method) (c : Code) (s₁ : State), p.tables.exec = Jvm.exec → c.code = bytes → c.maxLocals = mx → (s.setVm s.vm).vm.findClass y.cls = some m.cls → meth.name = y.name → meth.sig.returnType = rt → meth.locks = false → Z.Warmed39 (s.setVm s.vm).vm →
      Stand p l e rm (s.setVm s.vm) m as' below meth c s₁ [] 0 0 → s₁.heap = h0 → s.heap = h0 → s.Since s.vm h0.size → h0.size ≤ h0.size → CHr Z EL s.vm h0 s.vm h0 → own_Go p e below (own_EndsW Z EL s rm Q) s₁ (entryFrame m as' mx)) : own_CtW l Z EL y bytes mx rt ws rm as' h0 Q := by
  refine MetFree.of_bodySF hpl hisR ?_
  intro p e s m args below meth c s₁ Bd hml hP hK
  obtain ⟨rfl, hZ, hh, hC⟩ := hP
  exact body p e s m below meth c s₁ Bd.exec Bd.bytes hml (findClass_of_methodNamed Bd.named) (name_of_methodNamed Bd.named Bd.method).1 Bd.returns Bd.notSynchronized hZ (Stand.of_body Bd) (by rw [← hh, Bd.state]; rfl) hh ((State.WarmedH.refl s).since _) (Nat.le_refl _) (CHr.refl hC)
theorem own_endW {rm : Room} {Q : Option Value → Heap → List Loc → Prop} {v : Option Value} {fs : List Frame} (X : Stand p l e R (s.setVm vm0) m args below meth c T locs cells slots) (hZ : Z.Warmed39 (s.setVm vm0).vm) (hEL : EW Z a0 EL) (hs0 : s.heap = h0) (eT : T.heap = h) (CH : CHr Z EL s.vm h0 vm0 h) (hc : cells ≤ rm.cells) (hs : slots ≤ rm.slots) (hq : Q v T.heap locs)
    (hE : ReturnedEndW s (.returned v) (T.setFrames fs) locs cells slots) : own_EndsW Z EL s rm Q (T.setFrames fs) (.returned v) := by
  refine ⟨v, locs, rfl, hq, ?_, hE.1, hE.2.1, hE.2.2.1, hE.2.2.2.mono hc hs⟩
  rw [hs0]
  have q := CH.trans (CHv.at X hZ hEL CH.1)
  show CHr Z EL s.vm h0 T.vm T.heap
  rw [eT]; exact q
theorem own_retW {rm : Room} {Q : Option Value → Heap → List Loc → Prop} {t : FieldType} {w : Value} {i : Instr} (X : Stand p l e R (s.setVm vm0) m args below meth c T locs cells slots) (hx : p.tables.exec = Jvm.exec) (hret : meth.sig.returnType = some t) (hlk : meth.locks = false) (hZ : Z.Warmed39 (s.setVm vm0).vm) (hEL : EW Z a0 EL) (hs0 : s.heap = h0) (eT : T.heap = h) (hS : s.Since vm0 k0) (hk : k0 ≤ h.size) (CH : CHr Z EL s.vm h0 vm0 h) (hd : decode c.code pc = .ok (i, 1)) (hn : narrow t w = w)
    (hi : (i = .ireturn ∧ (t = .int ∨ t = .boolean ∨ t = .byte ∨ t = .char ∨ t = .short) ∧ ∃ z, w = .int z) ∨ (i = .lreturn ∧ t = .long ∧ ∃ z, w = .long z) ∨ (i = .dreturn ∧ t = .double ∧ ∃ z, w = .double z) ∨ (i = .freturn ∧ t = .float ∧ ∃ z, w = .float z) ∨ (i = .areturn ∧ t.isReference = true ∧ w.isRef = true))
    (hc : cells ≤ rm.cells) (hs : slots ≤ rm.slots) (hq : Q (some w) T.heap locs) : own_Go p e below (own_EndsW Z EL s rm Q) T (mkF m pc Ls (w :: rest)) := by
  obtain ⟨fs, hr, hrun, hended, hE⟩ := X.leaveW hS (by rw [eT]; exact hk) (v := some w) (fun h => by rw [hret] at h; cases h) hlk
  exact ⟨_, _, retOut X hx hret hn hi hd hr, hrun, hended, own_endW X hZ hEL hs0 eT CH hc hs hq hE⟩
theorem own_retWV {rm : Room} {Q : Option Value → Heap → List Loc → Prop} (X : Stand p l e R (s.setVm vm0) m args below meth c T locs cells slots) (hx : p.tables.exec = Jvm.exec) (hret : meth.sig.returnType = none) (hlk : meth.locks = false) (hZ : Z.Warmed39 (s.setVm vm0).vm) (hEL : EW Z a0 EL) (hs0 : s.heap = h0) (eT : T.heap = h) (hS : s.Since vm0 k0) (hk : k0 ≤ h.size) (CH : CHr Z EL s.vm h0 vm0 h) (hd : decode c.code pc = .ok (.return_, 1))
    (hc : cells ≤ rm.cells) (hs : slots ≤ rm.slots) (hq : Q none T.heap locs) : own_Go p e below (own_EndsW Z EL s rm Q) T (mkF m pc Ls []) := by
  obtain ⟨fs, hr, hrun, hended, hE⟩ := X.leaveW hS (by rw [eT]; exact hk) (v := none) (fun _ => rfl) hlk
  exact ⟨_, _, X.returnOut hx hret hd hr, hrun, hended, own_endW X hZ hEL hs0 eT CH hc hs hq hE⟩
theorem own_A.ofArv {b : Addr} {k : ClassId} {z : Int32} {vs : List Value} {us : List Int32} (F : Arv Z h b k .byte z vs (.int 0)) (hvs : vs = us.map Value.int) (hz : z.toInt = us.length) : own_A Z h b .byte us.length (fun i => us.getD i 0) := by
  obtain ⟨cl, A, -, h2, h3, H, -⟩ := F
  have e : z.toNatClampNeg = us.length := by rw [show z.toNatClampNeg = z.toInt.toNat from rfl]; omega
  refine ⟨cl, A, h2.trans e, by have := rng32 z; omega, fun i hi => ?_⟩
  rw [H i (by rw [h2, e]; exact hi), hvs]
  simp [List.getD, List.getElem?_map, hi]
theorem own_A.safe {vm : Vm} {x : Addr} {ty : FieldType} {n : Nat} {f : Nat → Int32} (hal : Z.vm.Alike vm) (F : own_A Z h x ty n f) (ht : ty ≠ .byte) : Safe Z EL vm h x := by obtain ⟨cl, A, -⟩ := F; exact Safe.arr hal A ht
theorem own_safe_new {vm : Vm} {a : Addr} (hal : Z.vm.Alike vm) (E : Exa Z h a "java/lang/String") (F : Fld Z h a "java/lang/String" "value" "[B" .null) : Safe Z EL vm h a := by
  rintro ⟨q, -, u, x, -, sq, -, B, hy⟩
  have ha := B.ha
  have hd := B.hd
  obtain ⟨cS, ⟨⟨-, -, -, ⟨c1, k1, i1, f1, -⟩, -, -, -, v1, -⟩, -⟩, -, hB, -⟩ := B
  rcases hy with rfl | rfl
  · obtain ⟨cell, cf, k, i, f, g1, g2, -, -, -, -, g7⟩ := F
    obtain ⟨k3, e3, -⟩ := State.fieldFound?_setVm (s := Z) (vm' := vm) hal g2
    have e4 := (show (Wst Z vm h).fieldFound? _ _ _ = _ from e3).symm.trans f1
    simp only [Option.some.injEq, Prod.mk.injEq] at e4
    cases g1.symm.trans ha
    rw [← e4.2.2.2, g7] at v1
    cases v1
  · obtain ⟨cell, k, g1, g2, -⟩ := E
    cases g1.symm.trans hd
    have hB' : Z.vm.findClass "[B" = some sq.SA.cls := by rw [← hal.findClass]; exact hB
    obtain ⟨kk1, a1, a2⟩ := Vm.findClass_spec g2
    obtain ⟨kk2, b1, b2⟩ := Vm.findClass_spec hB'
    cases a1.symm.trans b1
    exact absurd (a2.symm.trans b2) (by decide)
theorem own_since_mono {vm1 : Vm} {n n' : Nat} (hS : s.Since vm1 n) (hn : n ≤ n') : s.Since vm1 n' := ⟨hS.1, fun j q hj hq => ⟨(hS.2 j q hj hq).1, Nat.lt_of_lt_of_le (hS.2 j q hj hq).2 hn⟩⟩
theorem own_ldc {own text : String} {index : Nat} {us : List Int32} {z : Int32} (X : Stand p l e R (s.setVm vm0) m args below meth c T locs cells slots) (hx : p.tables.exec = Jvm.exec) (hZ : Z.Warmed39 (s.setVm vm0).vm) (hown : (s.setVm vm0).vm.findClass own = some m.cls) (eT : T.heap = h) (hd : decode c.code pc = .ok (.ldc index, 2))
    (w : (Cond.stringLink own index text).before a0 Z = true) (wS : ∀ a ∈ Bundle.stringAtoms, a.before a0 Z = true) (hS : s.Since vm0 k0) (hk : k0 ≤ h.size) (hEL : EW Z a0 EL) (hmem : (own, index) ∈ EL) (CH : CHr Z EL V0 h0 vm0 h)
    (ht : (∀ c ∈ text.toList, c.toNat < 256) ∧ text.toList.map (fun c => Value.int (Jvm.Lit.byteI c.toNat.toUInt16)) = us.map Value.int) (hz : z.toInt = us.length) (hzn : ¬ z < 0) (n : Nat) (hn : 4 * text.toList.length ≤ n) (hbig : n ≤ 536870912) (hc : cells + 2 ≤ R.cells) (hl : slots + (n + 4) ≤ R.slots)
    (k : ∀ (a : Addr) (T' : State) (h' : Heap) (k1 : Nat) (b : Addr), Stand p l e R (s.setVm T'.vm) m args below meth c T' locs (cells + 2) (slots + (n + 4)) → T'.heap = h' → Ext h h' → s.Since T'.vm k1 → k1 ≤ h'.size → Z.Warmed39 (s.setVm T'.vm).vm → (s.setVm T'.vm).vm.findClass own = some m.cls → (s.setVm vm0).Warmed39 T'.vm → CHr Z EL vm0 h T'.vm h' → CHr Z EL V0 h0 T'.vm h' → Lit (s.setVm T'.vm) own index a →
      Exa Z h' a "java/lang/String" → Fld Z h' a "java/lang/String" "coder" "B" (.int 0) → Fld Z h' a "java/lang/String" "value" "[B" (.ref b) → own_A Z h' b .byte us.length (fun i => us.getD i 0) → (∀ x, Safe Z EL T'.vm h' x → x ≠ a ∧ x ≠ b) → own_Go p e below P T' (mkF m (pc + 2) Ls (.ref a :: st))) :
    own_Go p e below P T (mkF m pc Ls st) := by
  obtain ⟨a, T', h', k1, b, kk, X', e', E, hS', hk', hZ', hown', A, C, V, B, -, -, CH', L, sf, stp⟩ := ldcCH (s := s.setVm vm0) (vm0 := vm0) X hx hZ hown w wS eT (k0 := h.size) ((State.WarmedH.refl (s.setVm vm0)).since _) (Nat.le_refl _) hEL hmem CH.1 ht hzn (by rw [show z.toNatClampNeg = z.toInt.toNat from rfl, List.length_map]; omega) (g := mkF m pc Ls st) rfl hd hn hbig hc hl
  exact own_by stp (k a T' h' h'.size b X' e' E (hS.trans (own_since_mono hS' hk') (Nat.le_trans hk E.1)) (Nat.le_refl _) hZ' hown' hS'.1 CH' (CH.trans CH') L A C V (own_A.ofArv B rfl hz) sf)
abbrev own_KC (p : Program) (l : Launch) (e : Env) (R : Room) (s : State) (vm0 : Vm) (m : MethodId) (args : Array Value) (below : List Frame) (meth : Method) (c : Code) (P : State → Outcome → Prop) (locs : List Loc) (cells slots : Nat) (Z : State) (EL : List (String × Nat)) (V0 : Vm) (h0 h : Heap) (own : String) (rm : Room) (Q : Option Value → Heap → List Loc → Prop) (pc : Nat) (Ls : Array Slot) (rest : List Value) : Prop :=
  ∀ (T' : State) (v : Option Value) (L : List Loc), Stand p l e R (s.setVm T'.vm) m args below meth c T' (locs ++ L) (cells + rm.cells) (slots + rm.slots) → s.Since T'.vm T'.heap.size → T'.heap.size ≤ T'.heap.size → Z.Warmed39 (s.setVm T'.vm).vm → (s.setVm T'.vm).vm.findClass own = some m.cls → (s.setVm vm0).Warmed39 T'.vm → CHr Z EL vm0 h T'.vm T'.heap → CHr Z EL V0 h0 T'.vm T'.heap → Q v T'.heap L → own_Go p e below P T' (mkF m pc Ls (v.toList ++ rest))
theorem own_callSW {own : String} {index : Nat} {y : MethodName} {bytes : ByteArray} {maxL : Nat} {ret : Option FieldType} {rm : Room} {Q : Option Value → Heap → List Loc → Prop} {ps : List FieldType} {r : Option FieldType} (X : Stand p l e R (s.setVm vm0) m args below meth c T locs cells slots) (hx : p.tables.exec = Jvm.exec) (hZ : Z.Warmed39 (s.setVm vm0).vm) (hown : (s.setVm vm0).vm.findClass own = some m.cls) (eT : T.heap = h) (hd : decode c.code pc = .ok (.invokestatic index, 3))
    (hS : s.Since vm0 k0) (hk : k0 ≤ h.size) (hEL : EW Z a0 EL) (CH : CHr Z EL V0 h0 vm0 h)
    (argsL rest : List Value) (W : Nat) (C : own_CtW l Z EL y bytes maxL ret [] rm argsL.toArray h Q) (w1 : (Cond.methodLink own index y).before a0 Z = true) (w2 : (Cond.static y).before a0 Z = true) (w3 : (Cond.initialized y.cls).before a0 Z = true) (w4 : (Cond.code y bytes maxL ret).before a0 Z = true)
    (hy : y.cls ≠ "java/lang/invoke/MethodHandle" ∧ y.cls ≠ "java/lang/invoke/VarHandle") (hpd : parseMethodDescriptor y.desc = some ⟨ps, r⟩) (hsize : Ls.size = c.maxLocals) (hlen : argsL.length = ps.length) (hst : st = argsL.reverse ++ rest)
    (hW : (rest.map fun v => v.category).sum ≤ W) (hf : rm.frames + 1 ≤ R.frames) (hl : W + (maxL + 11) + rm.locals ≤ R.locals) (hc : cells + rm.cells ≤ R.cells) (hs : slots + rm.slots ≤ R.slots)
    (k : own_KC p l e R s vm0 m args below meth c P locs cells slots Z EL V0 h0 h own rm Q (pc + 3) Ls rest) : own_Go p e below P T (mkF m pc Ls st) := by
  obtain ⟨v, _, ⟨T', L', k', n'⟩, -, X', hS', hg', ⟨Lc, hQ, l', y', z', CH'⟩, stp⟩ := callSS X hx (y := y) hown (mvT hZ w1) (mvT hZ w2) (mvT hZ w3) (mvT hZ w4) hy (backOfSH (s := s) (W := W) (Q := Q) C hZ w4 w3 hf hl hEL CH.1) (g := mkF m pc Ls st) rfl hsize (argsL := argsL) (rest := rest) (lenOf hpd hlen) hst (by show 2 * 0 + _ ≤ _; omega) hd (fun _ _ => ⟨rfl, eT, hc, hs⟩)
  dsimp only [Pt.U, Pt.locs, Pt.cells, Pt.slots] at X' l' y' z' stp hQ hS' CH' hg'
  subst l' y' z'
  rw [eT] at hg'
  exact own_by (fun _ k => stp.trans k) (k T' v Lc X' (hS.trans hS' (Nat.le_trans hk hg')) (Nat.le_refl _) (State.Warmed39.trans hZ hS'.1) ((hS'.1.alike.findClass _ _).trans hown) hS'.1 CH' (CH.trans CH') hQ)
theorem own_callVW {own : String} {index : Nat} {C0 : String} {y z : MethodName} {bytes : ByteArray} {maxL : Nat} {ret : Option FieldType} {rm : Room} {Q : Option Value → Heap → List Loc → Prop} {ps : List FieldType} {r : Option FieldType} {a : Addr} (X : Stand p l e R (s.setVm vm0) m args below meth c T locs cells slots) (hx : p.tables.exec = Jvm.exec) (hZ : Z.Warmed39 (s.setVm vm0).vm) (hown : (s.setVm vm0).vm.findClass own = some m.cls) (eT : T.heap = h) (hd : decode c.code pc = .ok (.invokevirtual index, 3))
    (hS : s.Since vm0 k0) (hk : k0 ≤ h.size) (hEL : EW Z a0 EL) (CH : CHr Z EL V0 h0 vm0 h)
    (argsL rest : List Value) (W : Nat) (C : own_CtW l Z EL z bytes maxL ret [] rm (.ref a :: argsL).toArray h Q) (E : Exa Z h a C0) (w1 : (Cond.methodLink own index y).before a0 Z = true) (w0 : (Cond.declares y).before a0 Z = true) (nf : NotFace (s.setVm vm0) y) (ws : (Cond.selects C0 y z).before a0 Z = true) (w2 : (Cond.instanceMethod z).before a0 Z = true) (w3 : (Cond.initialized z.cls).before a0 Z = true) (w4 : (Cond.code z bytes maxL ret).before a0 Z = true)
    (hy : y.cls ≠ "java/lang/invoke/MethodHandle" ∧ y.cls ≠ "java/lang/invoke/VarHandle") (hpd : parseMethodDescriptor y.desc = some ⟨ps, r⟩) (hsize : Ls.size = c.maxLocals) (hlen : argsL.length = ps.length) (hst : st = argsL.reverse ++ .ref a :: rest)
    (hW : (rest.map fun v => v.category).sum ≤ W) (hf : rm.frames + 1 ≤ R.frames) (hl : W + (maxL + 11) + rm.locals ≤ R.locals) (hc : cells + rm.cells ≤ R.cells) (hs : slots + rm.slots ≤ R.slots)
    (k : own_KC p l e R s vm0 m args below meth c P locs cells slots Z EL V0 h0 h own rm Q (pc + 3) Ls rest) : own_Go p e below P T (mkF m pc Ls st) := by
  obtain ⟨cq, kq, qa, qb, qc⟩ := isOf hZ eT E
  obtain ⟨v, _, ⟨T', L', k', n'⟩, -, X', hS', hg', ⟨Lc, hQ, l', y', z', CH'⟩, stp⟩ := X.virtualBackS hx (y := y) (z := z) hown (mvT hZ w1) (mvT hZ w0) nf (mvT hZ ws) (mvT hZ w2) hy (backOfSH (s := s) (W := W) (Q := Q) C hZ w4 w3 hf hl hEL CH.1) qa qc (g := mkF m pc Ls st) rfl hsize (Steps.refl _) (argsL := argsL) (rest := rest) (lenOf hpd hlen) hst (by show 2 * 0 + _ ≤ _; omega) hd (fun _ _ => ⟨rfl, eT, hc, hs⟩)
  dsimp only [Pt.U, Pt.locs, Pt.cells, Pt.slots] at X' l' y' z' stp hQ hS' CH' hg'
  subst l' y' z'
  rw [eT] at hg'
  exact own_by (fun _ k => stp.trans k) (k T' v Lc X' (hS.trans hS' (Nat.le_trans hk hg')) (Nat.le_refl _) (State.Warmed39.trans hZ hS'.1) ((hS'.1.alike.findClass _ _).trans hown) hS'.1 CH' (CH.trans CH') hQ)
theorem own_callNW {own : String} {index : Nat} {y : MethodName} {bytes : ByteArray} {maxL : Nat} {rm : Room} {Q : Option Value → Heap → List Loc → Prop} {ps : List FieldType} {r : Option FieldType} {a : Addr} (X : Stand p l e R (s.setVm vm0) m args below meth c T locs cells slots) (hx : p.tables.exec = Jvm.exec) (hZ : Z.Warmed39 (s.setVm vm0).vm) (hown : (s.setVm vm0).vm.findClass own = some m.cls) (eT : T.heap = h) (hd : decode c.code pc = .ok (.invokespecial index, 3))
    (hS : s.Since vm0 k0) (hk : k0 ≤ h.size) (hEL : EW Z a0 EL) (CH : CHr Z EL V0 h0 vm0 h)
    (argsL rest : List Value) (W : Nat) (C : own_CtW l Z EL y bytes maxL none [] rm (.ref a :: argsL).toArray h Q) (w1 : (Cond.methodLink own index y).before a0 Z = true) (w2 : (Cond.instanceMethod y).before a0 Z = true) (w3 : (Cond.initialized y.cls).before a0 Z = true) (w4 : (Cond.code y bytes maxL none).before a0 Z = true)
    (hyi : y.name = "<init>") (hy : y.cls ≠ "java/lang/invoke/MethodHandle" ∧ y.cls ≠ "java/lang/invoke/VarHandle") (hpd : parseMethodDescriptor y.desc = some ⟨ps, r⟩) (hsize : Ls.size = c.maxLocals) (hlen : argsL.length = ps.length) (hst : st = argsL.reverse ++ .ref a :: rest)
    (hW : (rest.map fun v => v.category).sum ≤ W) (hf : rm.frames + 1 ≤ R.frames) (hl : W + (maxL + 11) + rm.locals ≤ R.locals) (hc : cells + rm.cells ≤ R.cells) (hs : slots + rm.slots ≤ R.slots)
    (k : own_KC p l e R s vm0 m args below meth c P locs cells slots Z EL V0 h0 h own rm Q (pc + 3) Ls rest) : own_Go p e below P T (mkF m pc Ls st) := by
  obtain ⟨v, _, ⟨T', L', k', n'⟩, -, X', hS', hg', ⟨Lc, hQ, l', y', z', CH'⟩, stp⟩ := X.specialBackS hx (y := y) hyi hown (mvT hZ w1) (mvT hZ w2) (mvT hZ w4) hy (backOfSH (s := s) (W := W) (Q := Q) C hZ w4 w3 hf hl hEL CH.1) (g := mkF m pc Ls st) rfl hsize (Steps.refl _) (a := a) (argsL := argsL) (rest := rest) (lenOf hpd hlen) hst (by show 2 * 0 + _ ≤ _; omega) hd (fun _ _ => ⟨rfl, eT, hc, hs⟩)
  dsimp only [Pt.U, Pt.locs, Pt.cells, Pt.slots] at X' l' y' z' stp hQ hS' CH' hg'
  subst l' y' z'
  rw [eT] at hg'
  exact own_by (fun _ k => stp.trans k) (k T' v Lc X' (hS.trans hS' (Nat.le_trans hk hg')) (Nat.le_refl _) (State.Warmed39.trans hZ hS'.1) ((hS'.1.alike.findClass _ _).trans hown) hS'.1 CH' (CH.trans CH') hQ)
end OwnWide
section OwnDec2
theorem own_ltn {x y : Int32} {j n : Nat} (hx : x.toInt = j) (hy : y.toInt = n) (h : x < y) : j < n := by rw [Int32.lt_iff_toInt_lt] at h; omega
theorem own_nltn {x y : Int32} {j n : Nat} (hx : x.toInt = j) (hy : y.toInt = n) (h : ¬ (x < y)) : ¬ j < n := by rw [Int32.lt_iff_toInt_lt] at h; omega
theorem own_eqn {x y : Int32} {j n : Nat} (hx : x.toInt = j) (hy : y.toInt = n) (h : x = y) : j = n := by rw [h] at hx; omega
theorem own_neqn {x y : Int32} {j n : Nat} (hx : x.toInt = j) (hy : y.toInt = n) (h : ¬ (x = y)) : ¬ j = n := fun q => h (Int32.toInt_inj.mp (by omega))
theorem own_sub {x y : Int32} {a b : Nat} (hx : x.toInt = a) (hy : y.toInt = b) (h : b ≤ a) : (x - y).toInt = ((a - b : Nat) : Int) := by
  have q := c_isub x y
  have r := rng32 (x - y)
  have r1 := rng32 x
  omega
theorem own_add {x y : Int32} {a b : Nat} (hx : x.toInt = a) (hy : y.toInt = b) (h : a + b < 2147483648) : (x + y).toInt = ((a + b : Nat) : Int) := by
  have q := c_iadd x y
  have r := rng32 (x + y)
  omega
theorem own_chr (w : Int32) : 0 ≤ (w.toUInt32.toUInt16.toUInt32.toInt32).toInt ∧ (w.toUInt32.toUInt16.toUInt32.toInt32).toInt < 65536 := (c_i2c w).2
theorem own_nc {w : Int32} (h : 0 ≤ w.toInt ∧ w.toInt < 65536) : nar .char w = w := Value.int.inj (own_narC h.1 h.2)
theorem own_len (x : Int32) : (if (6 : Int32) < (x &&& (7 : Int32)) then (6 : Int32) else (x &&& (7 : Int32))) = 0 ∨ (if (6 : Int32) < (x &&& (7 : Int32)) then (6 : Int32) else (x &&& (7 : Int32))) = 1 ∨ (if (6 : Int32) < (x &&& (7 : Int32)) then (6 : Int32) else (x &&& (7 : Int32))) = 2 ∨ (if (6 : Int32) < (x &&& (7 : Int32)) then (6 : Int32) else (x &&& (7 : Int32))) = 3 ∨ (if (6 : Int32) < (x &&& (7 : Int32)) then (6 : Int32) else (x &&& (7 : Int32))) = 4 ∨ (if (6 : Int32) < (x &&& (7 : Int32)) then (6 : Int32) else (x &&& (7 : Int32))) = 5 ∨ (if (6 : Int32) < (x &&& (7 : Int32)) then (6 : Int32) else (x &&& (7 : Int32))) = 6 := by
  have h1 := c_mask x 7 3 (by decide) (by decide)
  obtain ⟨y, hy⟩ : ∃ y, y = x &&& (7 : Int32) := ⟨_, rfl⟩
  rw [← hy] at h1 ⊢
  have e : ∃ k : Fin 8, y = Int32.ofNat k.1 := by
    have h0 : 0 ≤ y.toInt ∧ y.toInt < 8 := by omega
    refine ⟨⟨y.toInt.toNat, by omega⟩, Int32.toInt_inj.mp ?_⟩
    rw [Int32.toInt_ofNat_of_lt (by simp only; omega)]
    simp only; omega
  obtain ⟨k, rfl⟩ := e
  clear hy h1
  revert k; decide +kernel
end OwnDec2
section OwnId
theorem own_if01' {q : Prop} [Decidable q] {a b : Int32} (h1 : a = 0 ∨ a = 1) (h2 : b = 0 ∨ b = 1) : (if q then a else b) = 0 ∨ (if q then a else b) = 1 := by split <;> assumption
def own_v4 (c : Int32) : Int32 := (if c = (45 : Int32) then (1 : Int32) else (if c = (46 : Int32) then (1 : Int32) else (0 : Int32)))
def own_v3 (c : Int32) : Int32 := (if c < (48 : Int32) then own_v4 c else (if (57 : Int32) < c then own_v4 c else (1 : Int32)))
def own_v2 (c : Int32) : Int32 := (if c < (97 : Int32) then own_v3 c else (if (122 : Int32) < c then own_v3 c else (1 : Int32)))
def own_vc (c : Int32) : Int32 := (if c < (65 : Int32) then own_v2 c else (if (90 : Int32) < c then own_v2 c else (1 : Int32)))
def own_vb (c : Int32) : Int32 := (if c < (45 : Int32) then (0 : Int32) else (if (57 : Int32) < c then (0 : Int32) else (if c = (47 : Int32) then (0 : Int32) else (1 : Int32))))
def own_vl (c : Int32) : Int32 := if (c ||| (32 : Int32)) < (97 : Int32) then own_vb c else if (122 : Int32) < (c ||| (32 : Int32)) then own_vb c else 1
theorem own_vb01 (c : Int32) : own_vb c = 0 ∨ own_vb c = 1 := own_if01' (Or.inl rfl) (own_if01' (Or.inl rfl) (own_if01' (Or.inl rfl) (Or.inr rfl)))
theorem own_v401 (c : Int32) : own_v4 c = 0 ∨ own_v4 c = 1 := own_if01' (Or.inr rfl) (own_if01' (Or.inr rfl) (Or.inl rfl))
theorem own_v301 (c : Int32) : own_v3 c = 0 ∨ own_v3 c = 1 := own_if01' (own_v401 c) (own_if01' (own_v401 c) (Or.inr rfl))
theorem own_v201 (c : Int32) : own_v2 c = 0 ∨ own_v2 c = 1 := own_if01' (own_v301 c) (own_if01' (own_v301 c) (Or.inr rfl))
theorem own_vc01 (c : Int32) : own_vc c = 0 ∨ own_vc c = 1 := own_if01' (own_v201 c) (own_if01' (own_v201 c) (Or.inr rfl))
theorem own_vl01 (c : Int32) : own_vl c = 0 ∨ own_vl c = 1 := own_if01' (own_vb01 c) (own_if01' (own_vb01 c) (Or.inr rfl))
theorem own_vc_vl (c : Int32) (h : 0 ≤ c.toInt ∧ c.toInt < 65536) : own_vc c = own_vl c := by
  by_cases hb : c.toInt < 128
  · have e : c = Int32.ofNat c.toInt.toNat := Int32.toInt_inj.mp (by rw [Int32.toInt_ofNat_of_lt (by omega)]; omega)
    have q := (by decide +kernel : ∀ k : Fin 128, own_vc (Int32.ofNat k.1) = own_vl (Int32.ofNat k.1)) ⟨c.toInt.toNat, by omega⟩
    rw [e]; exact q
  · have ho := (c_or0 c 32 h.1 (by decide)).1
    have ne : ∀ q : Int32, q.toInt < 127 → ¬ c = q := fun q hq e => by rw [e] at hb; omega
    have nl : ∀ q : Int32, q.toInt < 127 → ¬ c < q := fun q hq e => by rw [Int32.lt_iff_toInt_lt] at e; omega
    have gt : ∀ q : Int32, q.toInt < 127 → q < c := fun q hq => by rw [Int32.lt_iff_toInt_lt]; omega
    have nl' : ∀ q : Int32, q.toInt < 127 → ¬ (c ||| (32 : Int32)) < q := fun q hq e => by rw [Int32.lt_iff_toInt_lt] at e; omega
    have gt' : ∀ q : Int32, q.toInt < 127 → q < (c ||| (32 : Int32)) := fun q hq => by rw [Int32.lt_iff_toInt_lt]; omega
    have e4 : own_v4 c = 0 := by unfold own_v4; rw [if_neg (ne 45 (by decide)), if_neg (ne 46 (by decide))]
    have e1 : own_vc c = 0 := by
      unfold own_vc own_v2 own_v3
      rw [if_neg (nl 65 (by decide)), if_pos (gt 90 (by decide)), if_neg (nl 97 (by decide)), if_pos (gt 122 (by decide)), if_neg (nl 48 (by decide)), if_pos (gt 57 (by decide)), e4]
    rw [e1]; unfold own_vl own_vb
    rw [if_neg (nl' 97 (by decide)), if_pos (gt' 122 (by decide)), if_neg (nl 45 (by decide)), if_pos (gt 57 (by decide))]
theorem own_b46 (c : Int32) (h0 : 0 ≤ c.toInt) (h1 : ¬ (255 : Int32) < c) : own_b8 c = 46 ↔ c = 46 := by
  rw [Int32.lt_iff_toInt_lt] at h1
  have h255 : (255 : Int32).toInt = 255 := by decide
  have e : c = Int32.ofNat c.toInt.toNat := Int32.toInt_inj.mp (by rw [Int32.toInt_ofNat_of_lt (by omega)]; omega)
  have q := (by decide +kernel : ∀ k : Fin 256, (own_b8 (Int32.ofNat k.1) = 46 ↔ Int32.ofNat k.1 = 46)) ⟨c.toInt.toNat, by omega⟩
  rw [e]; exact q
def own_d1 (n : Nat) (f : Nat → Int32) : Int32 := if n = 1 ∧ f 0 = 46 then 1 else 0
def own_d2 (n : Nat) (f : Nat → Int32) : Int32 := if n = 2 ∧ f 0 = 46 ∧ f 1 = 46 then 1 else 0
theorem own_eq1 {n : Nat} {f : Nat → Int32} (h0 : ∀ i, i < n → 0 ≤ (f i).toInt ∧ (f i).toInt < 65536) (h1 : ∀ i, i < n → ¬ (255 : Int32) < f i) : own_eqA n (fun i => own_b8 (f i)) 1 (fun i => List.getD [(46 : Int32)] i 0) = own_d1 n f := by
  unfold own_d1
  by_cases hn : n = 1
  · subst hn
    have b0 := own_b46 (f 0) (h0 0 (by decide)).1 (h1 0 (by decide))
    by_cases e0 : f 0 = 46
    · rw [if_pos ⟨rfl, e0⟩]; exact own_eqA_all rfl (fun i hi => by match i, hi with | 0, _ => exact b0.mpr e0 | (q + 1), h => exact absurd h (by omega))
    · rw [if_neg (fun q => e0 q.2)]; exact own_eqA_at (j := 0) (by decide) (fun q => e0 (b0.mp q))
  · rw [if_neg (fun q => hn q.1)]; exact own_eqA_ne hn
theorem own_eq2 {n : Nat} {f : Nat → Int32} (h0 : ∀ i, i < n → 0 ≤ (f i).toInt ∧ (f i).toInt < 65536) (h1 : ∀ i, i < n → ¬ (255 : Int32) < f i) : own_eqA n (fun i => own_b8 (f i)) 2 (fun i => List.getD [(46 : Int32), (46 : Int32)] i 0) = own_d2 n f := by
  unfold own_d2
  by_cases hn : n = 2
  · subst hn
    have b0 := own_b46 (f 0) (h0 0 (by decide)).1 (h1 0 (by decide))
    have b1 := own_b46 (f 1) (h0 1 (by decide)).1 (h1 1 (by decide))
    by_cases e0 : f 0 = 46
    · by_cases e1 : f 1 = 46
      · rw [if_pos ⟨rfl, e0, e1⟩]; exact own_eqA_all rfl (fun i hi => by match i, hi with | 0, _ => exact b0.mpr e0 | 1, _ => exact b1.mpr e1 | (q + 2), h => exact absurd h (by omega))
      · rw [if_neg (fun q => e1 q.2.2)]; exact own_eqA_at (j := 1) (by decide) (fun q => e1 (b1.mp q))
    · rw [if_neg (fun q => e0 q.2.1)]; exact own_eqA_at (j := 0) (by decide) (fun q => e0 (b0.mp q))
  · rw [if_neg (fun q => hn q.1)]; exact own_eqA_ne hn
theorem own_dz1 {n : Nat} {f : Nat → Int32} (h : ∃ q, q < n ∧ (255 : Int32) < f q) : own_d1 n f = 0 := by
  obtain ⟨q, h1, h2⟩ := h
  unfold own_d1; refine if_neg ?_
  rintro ⟨rfl, e⟩
  match q, h1 with
  | 0, _ => rw [e] at h2; exact absurd h2 (by decide)
theorem own_dz2 {n : Nat} {f : Nat → Int32} (h : ∃ q, q < n ∧ (255 : Int32) < f q) : own_d2 n f = 0 := by
  obtain ⟨q, h1, h2⟩ := h
  unfold own_d2; refine if_neg ?_
  rintro ⟨rfl, e, e'⟩
  match q, h1 with
  | 0, _ => rw [e] at h2; exact absurd h2 (by decide)
  | 1, _ => rw [e'] at h2; exact absurd h2 (by decide)
theorem own_d101 (n : Nat) (f : Nat → Int32) : own_d1 n f = 0 ∨ own_d1 n f = 1 := own_if01' (Or.inr rfl) (Or.inl rfl)
theorem own_d201 (n : Nat) (f : Nat → Int32) : own_d2 n f = 0 ∨ own_d2 n f = 1 := own_if01' (Or.inr rfl) (Or.inl rfl)
/-- what isId answers -/
def own_idr (n : Nat) (f : Nat → Int32) (r : Int32) : Prop := (r = 1 ∧ 1 ≤ n ∧ n ≤ 64 ∧ (∀ q, q < n → own_vc (f q) = 1) ∧ own_d1 n f = 0 ∧ own_d2 n f = 0) ∨ (r = 0 ∧ (n = 0 ∨ 64 < n ∨ (∃ q, q < n ∧ own_vc (f q) = 0) ∨ own_d1 n f = 1 ∨ own_d2 n f = 1))
theorem own_m7 (y : Int32) : (y &&& (7 : Int32)) = 0 ∨ (y &&& (7 : Int32)) = 1 ∨ (y &&& (7 : Int32)) = 2 ∨ (y &&& (7 : Int32)) = 3 ∨ (y &&& (7 : Int32)) = 4 ∨ (y &&& (7 : Int32)) = 5 ∨ (y &&& (7 : Int32)) = 6 ∨ (y &&& (7 : Int32)) = 7 := by
  have h1 := c_mask y 7 3 (by decide) (by decide)
  obtain ⟨z, hz⟩ : ∃ z, z = y &&& (7 : Int32) := ⟨_, rfl⟩
  rw [← hz] at h1 ⊢
  have e : ∃ k : Fin 8, z = Int32.ofNat k.1 := by
    refine ⟨⟨z.toInt.toNat, by omega⟩, Int32.toInt_inj.mp ?_⟩
    rw [Int32.toInt_ofNat_of_lt (by simp only; omega)]
    simp only; omega
  obtain ⟨k, rfl⟩ := e
  clear hz h1
  revert k; decide +kernel
def own_pt (m : Nat) (a b c g : Int32) (i : Nat) : Int32 := if i = 0 then a else if i = 32 then b else if i = m then c else g
def own_pf (m : Nat) (a b c g : Int32) (k i : Nat) : Int32 := if i < k then own_pt m a b c g i else 0
theorem own_pf_step {m : Nat} {a b c g w : Int32} {k : Nat} (h : own_pt m a b c g k = w) (i : Nat) : (if i = k then w else own_pf m a b c g k i) = own_pf m a b c g (k + 1) i := by
  unfold own_pf
  by_cases e : i = k
  · subst e; rw [if_pos rfl, if_pos (by omega), h]
  · rw [if_neg e]
    by_cases e2 : i < k
    · rw [if_pos e2, if_pos (by omega)]
    · rw [if_neg e2, if_neg (by omega)]
end OwnId
section OwnId2
theorem own_pt_rng {m : Nat} {a b c g : Int32} (ha : 0 ≤ a.toInt ∧ a.toInt < 65536) (hb : 0 ≤ b.toInt ∧ b.toInt < 65536) (hc : 0 ≤ c.toInt ∧ c.toInt < 65536) (hg : 0 ≤ g.toInt ∧ g.toInt < 65536) (i : Nat) : 0 ≤ (own_pt m a b c g i).toInt ∧ (own_pt m a b c g i).toInt < 65536 := by
  unfold own_pt; split
  · exact ha
  · split
    · exact hb
    · split
      · exact hc
      · exact hg
theorem own_n01 {x : Int32} (h : x = 1) : ¬ x = 0 := fun q => absurd (h.symm.trans q) (by decide)
theorem own_lw0 {f : Nat → Int32} {r : Int32} (h : own_idr 0 f r) : r = (0 : Int32) := by
  rcases h with ⟨_, h1, _⟩ | ⟨h, _⟩
  · exact absurd h1 (by decide)
  · exact h
theorem own_lw65 {f : Nat → Int32} {r : Int32} (h : own_idr 65 f r) : r = (0 : Int32) := by
  rcases h with ⟨_, _, h1, _⟩ | ⟨h, _⟩
  · exact absurd h1 (by decide)
  · exact h
theorem own_d2n {n : Nat} {f : Nat → Int32} (h : own_d2 n f = 1) : n = 2 ∧ f 0 = 46 ∧ f 1 = 46 := by
  unfold own_d2 at h; split at h
  · assumption
  · exact absurd h (by decide)
theorem own_d1n {n : Nat} {f : Nat → Int32} (h : own_d1 n f = 1) : n = 1 ∧ f 0 = 46 := by
  unfold own_d1 at h; split at h
  · assumption
  · exact absurd h (by decide)
theorem own_d1z {n : Nat} {f : Nat → Int32} (h : own_d1 n f = 0) : ¬ (n = 1 ∧ f 0 = 46) := fun q => by
  unfold own_d1 at h; rw [if_pos q] at h; exact absurd h (by decide)
theorem own_d2z {n : Nat} {f : Nat → Int32} (h : own_d2 n f = 0) : ¬ (n = 2 ∧ f 0 = 46 ∧ f 1 = 46) := fun q => by
  unfold own_d2 at h; rw [if_pos q] at h; exact absurd h (by decide)
theorem own_lw1 {f : Nat → Int32} {r : Int32} (h : own_idr 1 f r) (hr : ∀ i, i < 1 → own_vc (f i) = own_vl (f i)) : r = (if own_vl (f 0) = 0 then 0 else if f 0 = 46 then 0 else 1) := by
  have e0 := hr 0 (by decide)
  rcases h with ⟨rfl, _, _, hall, d1, _⟩ | ⟨rfl, hR⟩
  · have v0 := hall 0 (by decide)
    rw [if_neg (own_n01 (e0 ▸ v0)), if_neg (fun q => own_d1z d1 ⟨rfl, q⟩)]
  · by_cases h1 : own_vl (f 0) = 0
    · rw [if_pos h1]
    · rw [if_neg h1]
      by_cases h2 : f 0 = 46
      · rw [if_pos h2]
      · rcases hR with q | q | ⟨q, hq, hv⟩ | q | q
        · omega
        · omega
        · obtain rfl : q = 0 := by omega
          exact absurd (e0 ▸ hv) h1
        · exact absurd (own_d1n q).2 h2
        · exact absurd (own_d2n q).1 (by decide)
theorem own_lw2 {f : Nat → Int32} {r : Int32} (h : own_idr 2 f r) (hr : ∀ i, i < 2 → own_vc (f i) = own_vl (f i)) : r = (if own_vl (f 0) = 0 then 0 else if own_vl (f 1) = 0 then 0 else if f 0 = 46 then (if f 1 = 46 then 0 else 1) else 1) := by
  have e0 := hr 0 (by decide)
  have e1 := hr 1 (by decide)
  rcases h with ⟨rfl, _, _, hall, _, d2⟩ | ⟨rfl, hR⟩
  · have v0 := hall 0 (by decide)
    have v1 := hall 1 (by decide)
    rw [if_neg (own_n01 (e0 ▸ v0)), if_neg (own_n01 (e1 ▸ v1))]
    by_cases h2 : f 0 = 46
    · rw [if_pos h2, if_neg (fun q => own_d2z d2 ⟨rfl, h2, q⟩)]
    · rw [if_neg h2]
  · by_cases h1 : own_vl (f 0) = 0
    · rw [if_pos h1]
    · rw [if_neg h1]
      by_cases h2 : own_vl (f 1) = 0
      · rw [if_pos h2]
      · rw [if_neg h2]
        rcases hR with q | q | ⟨q, hq, hv⟩ | q | q
        · omega
        · omega
        · match q, hq with
          | 0, _ => exact absurd (e0 ▸ hv) h1
          | 1, _ => exact absurd (e1 ▸ hv) h2
        · exact absurd (own_d1n q).1 (by decide)
        · rw [if_pos (own_d2n q).2.1, if_pos (own_d2n q).2.2]
theorem own_lw3 {f : Nat → Int32} {r : Int32} (h : own_idr 3 f r) (hr : ∀ i, i < 3 → own_vc (f i) = own_vl (f i)) : r = (if own_vl (f 0) = 0 then 0 else if own_vl (f 1) = 0 then 0 else if own_vl (f 2) = 0 then 0 else 1) := by
  have e0 := hr 0 (by decide)
  have e1 := hr 1 (by decide)
  have e2 := hr 2 (by decide)
  rcases h with ⟨rfl, _, _, hall, _, _⟩ | ⟨rfl, hR⟩
  · rw [if_neg (own_n01 (e0 ▸ hall 0 (by decide))), if_neg (own_n01 (e1 ▸ hall 1 (by decide))), if_neg (own_n01 (e2 ▸ hall 2 (by decide)))]
  · by_cases h1 : own_vl (f 0) = 0
    · rw [if_pos h1]
    · rw [if_neg h1]
      by_cases h2 : own_vl (f 1) = 0
      · rw [if_pos h2]
      · rw [if_neg h2]
        by_cases h3 : own_vl (f 2) = 0
        · rw [if_pos h3]
        · exfalso
          rcases hR with q | q | ⟨q, hq, hv⟩ | q | q
          · omega
          · omega
          · match q, hq with
            | 0, _ => exact absurd (e0 ▸ hv) h1
            | 1, _ => exact absurd (e1 ▸ hv) h2
            | 2, _ => exact absurd (e2 ▸ hv) h3
          · exact absurd (own_d1n q).1 (by decide)
          · exact absurd (own_d2n q).1 (by decide)
theorem own_lw64 {a b c g r : Int32} (h : own_idr 64 (own_pt 63 a b c g) r) (ea : own_vc a = own_vl a) (eb : own_vc b = own_vl b) (ec : own_vc c = own_vl c) (eg : own_vc g = own_vl g) : r = (if own_vl a = 0 then 0 else if own_vl b = 0 then 0 else if own_vl c = 0 then 0 else if own_vl g = 0 then 0 else 1) := by
  rcases h with ⟨rfl, _, _, hall, _, _⟩ | ⟨rfl, hR⟩
  · rw [if_neg (own_n01 (ea ▸ hall 0 (by decide))), if_neg (own_n01 (eb ▸ hall 32 (by decide))), if_neg (own_n01 (ec ▸ hall 63 (by decide))), if_neg (own_n01 (eg ▸ hall 1 (by decide)))]
  · by_cases h1 : own_vl a = 0
    · rw [if_pos h1]
    · rw [if_neg h1]
      by_cases h2 : own_vl b = 0
      · rw [if_pos h2]
      · rw [if_neg h2]
        by_cases h3 : own_vl c = 0
        · rw [if_pos h3]
        · rw [if_neg h3]
          by_cases h4 : own_vl g = 0
          · rw [if_pos h4]
          · exfalso
            rcases hR with q | q | ⟨q, hq, hv⟩ | q | q
            · omega
            · omega
            · unfold own_pt at hv
              split at hv
              · exact absurd (ea ▸ hv) h1
              · split at hv
                · exact absurd (eb ▸ hv) h2
                · split at hv
                  · exact absurd (ec ▸ hv) h3
                  · exact absurd (eg ▸ hv) h4
            · exact absurd (own_d1n q).1 (by decide)
            · exact absurd (own_d2n q).1 (by decide)
end OwnId2
theorem own_wS {a0 : Array Value} {Z : State} (hw : ∀ d ∈ tables_1, d.before a0 Z = true) : ∀ a ∈ Bundle.stringAtoms, a.before a0 Z = true := by
  intro a ha
  simp only [Bundle.stringAtoms, List.mem_cons, List.not_mem_nil, or_false] at ha
  rcases ha with rfl | rfl | rfl | rfl | rfl | rfl | rfl
  · exact (hw _ (List.mem_of_getElem? (i := 7) rfl))
  · exact (hw _ (List.mem_of_getElem? (i := 6) rfl))
  · exact (hw _ (List.mem_of_getElem? (i := 19) rfl))
  · exact (hw _ (List.mem_of_getElem? (i := 20) rfl))
  · exact (hw _ (List.mem_of_getElem? (i := 21) rfl))
  · exact (hw _ (List.mem_of_getElem? (i := 22) rfl))
  · exact (hw _ (List.mem_of_getElem? (i := 23) rfl))
theorem own_EW {a0 : Array Value} {Z : State} (hw : ∀ d ∈ tables_1, d.before a0 Z = true) : EW Z a0 consts_1 := EW.cons (hw _ (List.mem_of_getElem? (i := 46) rfl)) (by decide +kernel) (EW.cons (hw _ (List.mem_of_getElem? (i := 57) rfl)) (by decide +kernel) (EW.cons (hw _ (List.mem_of_getElem? (i := 18) rfl)) (by decide +kernel) (EW.nil)))
theorem d13_0 : decode jdk_52_method_15_code 0 = .ok (.iload_n 1, 1) := by decide +kernel
theorem d13_1 : decode jdk_52_method_15_code 1 = .ok (.aload_n 0, 1) := by decide +kernel
theorem d13_2 : decode jdk_52_method_15_code 2 = .ok (.arraylength, 1) := by decide +kernel
theorem d13_3 : decode jdk_52_method_15_code 3 = .ok (.isub, 1) := by decide +kernel
theorem d13_4 : decode jdk_52_method_15_code 4 = .ok (.bipush 31, 2) := by decide +kernel
theorem d13_6 : decode jdk_52_method_15_code 6 = .ok (.iushr, 1) := by decide +kernel
theorem d13_7 : decode jdk_52_method_15_code 7 = .ok (.i2b, 1) := by decide +kernel
theorem d13_8 : decode jdk_52_method_15_code 8 = .ok (.ireturn, 1) := by decide +kernel
theorem pn_java_lang_StringUTF16 : plainName "java/lang/StringUTF16" = true := by first | (simp [plainName, overriddenIn]; done) | decide +kernel
theorem d12_3 : decode jdk_52_method_21_code 3 = .ok (.iload 5, 2) := by decide +kernel
theorem d12_5 : decode jdk_52_method_21_code 5 = .ok (.iload 4, 2) := by decide +kernel
theorem d12_7 : decode jdk_52_method_21_code 7 = .ok (.if_icmp .ge 37, 3) := by decide +kernel
theorem d12_44 : decode jdk_52_method_21_code 44 = .ok (.iload 4, 2) := by decide +kernel
theorem d12_46 : decode jdk_52_method_21_code 46 = .ok (.ireturn, 1) := by decide +kernel
theorem d12_10 : decode jdk_52_method_21_code 10 = .ok (.aload_n 0, 1) := by decide +kernel
theorem d12_11 : decode jdk_52_method_21_code 11 = .ok (.iload_n 1, 1) := by decide +kernel
theorem d12_12 : decode jdk_52_method_21_code 12 = .ok (.caload, 1) := by decide +kernel
theorem d12_13 : decode jdk_52_method_21_code 13 = .ok (.istore 6, 2) := by decide +kernel
theorem os_C5_12_13 {y0 : Value} {y1 : Value} {y2 : Value} {y3 : Value} {y4 : Value} {y5 : Value} {s6 : Slot} {v : Int32} (h : One s6) : storeLocals #[.val y0, .val y1, .val y2, .val y3, .val y4, .val y5, s6] 6 (.int v) = some #[.val y0, .val y1, .val y2, .val y3, .val y4, .val y5, .val (.int v)] := by
  rcases h with rfl | ⟨w, rfl, hw⟩
  · rfl
  · cases w <;> first | rfl | (simp [Value.category] at hw)
theorem d12_15 : decode jdk_52_method_21_code 15 = .ok (.iload 6, 2) := by decide +kernel
theorem d12_17 : decode jdk_52_method_21_code 17 = .ok (.sipush 255, 3) := by decide +kernel
theorem d12_20 : decode jdk_52_method_21_code 20 = .ok (.if_icmp .le 6, 3) := by decide +kernel
theorem d12_23 : decode jdk_52_method_21_code 23 = .ok (.iload 5, 2) := by decide +kernel
theorem d12_25 : decode jdk_52_method_21_code 25 = .ok (.ireturn, 1) := by decide +kernel
theorem d12_26 : decode jdk_52_method_21_code 26 = .ok (.aload_n 2, 1) := by decide +kernel
theorem d12_27 : decode jdk_52_method_21_code 27 = .ok (.iload_n 3, 1) := by decide +kernel
theorem d12_28 : decode jdk_52_method_21_code 28 = .ok (.iload 6, 2) := by decide +kernel
theorem d12_30 : decode jdk_52_method_21_code 30 = .ok (.i2b, 1) := by decide +kernel
theorem d12_31 : decode jdk_52_method_21_code 31 = .ok (.bastore, 1) := by decide +kernel
theorem d12_32 : decode jdk_52_method_21_code 32 = .ok (.iinc 1 1, 3) := by decide +kernel
theorem d12_35 : decode jdk_52_method_21_code 35 = .ok (.iinc 3 1, 3) := by decide +kernel
theorem d12_38 : decode jdk_52_method_21_code 38 = .ok (.iinc 5 1, 3) := by decide +kernel
theorem d12_41 : decode jdk_52_method_21_code 41 = .ok (.goto (-38), 3) := by decide +kernel
theorem d12_0 : decode jdk_52_method_21_code 0 = .ok (.iconst 0, 1) := by decide +kernel
theorem d12_1 : decode jdk_52_method_21_code 1 = .ok (.istore 5, 2) := by decide +kernel
theorem d18_0 : decode jdk_41_method_11_code 0 = .ok (.iload_n 0, 1) := by decide +kernel
theorem d18_1 : decode jdk_41_method_11_code 1 = .ok (.ifCond .lt 8, 3) := by decide +kernel
theorem d18_4 : decode jdk_41_method_11_code 4 = .ok (.iload_n 0, 1) := by decide +kernel
theorem d18_5 : decode jdk_41_method_11_code 5 = .ok (.iload_n 1, 1) := by decide +kernel
theorem d18_6 : decode jdk_41_method_11_code 6 = .ok (.if_icmp .lt 10, 3) := by decide +kernel
theorem d18_16 : decode jdk_41_method_11_code 16 = .ok (.iload_n 0, 1) := by decide +kernel
theorem d18_17 : decode jdk_41_method_11_code 17 = .ok (.ireturn, 1) := by decide +kernel
theorem pn_jdk_internal_util_Preconditions : plainName "jdk/internal/util/Preconditions" = true := by first | (simp [plainName, overriddenIn]; done) | decide +kernel
theorem d17_0 : decode jdk_42_method_155_code 0 = .ok (.iload_n 0, 1) := by decide +kernel
theorem d17_1 : decode jdk_42_method_155_code 1 = .ok (.iload_n 1, 1) := by decide +kernel
theorem d17_2 : decode jdk_42_method_155_code 2 = .ok (.getstatic 1053, 3) := by decide +kernel
theorem d17_5 : decode jdk_42_method_155_code 5 = .ok (.invokestatic 1059, 3) := by decide +kernel
theorem pd__IILjava_util_function_BiFunction__I : parseMethodDescriptor "(IILjava/util/function/BiFunction;)I" = some ⟨[.int, .int, (.object "java/util/function/BiFunction")], some .int⟩ := by decide +kernel
theorem d17_8 : decode jdk_42_method_155_code 8 = .ok (.pop, 1) := by decide +kernel
theorem d17_9 : decode jdk_42_method_155_code 9 = .ok (.return_, 1) := by decide +kernel
theorem pn_java_lang_String : plainName "java/lang/String" = true := by first | (simp [plainName, overriddenIn]; done) | decide +kernel
theorem d16_0 : decode jdk_43_method_2_code 0 = .ok (.iload_n 1, 1) := by decide +kernel
theorem d16_1 : decode jdk_43_method_2_code 1 = .ok (.aload_n 0, 1) := by decide +kernel
theorem d16_2 : decode jdk_43_method_2_code 2 = .ok (.arraylength, 1) := by decide +kernel
theorem d16_3 : decode jdk_43_method_2_code 3 = .ok (.invokestatic 9, 3) := by decide +kernel
theorem pd__II_V : parseMethodDescriptor "(II)V" = some ⟨[.int, .int], none⟩ := by decide +kernel
theorem d16_6 : decode jdk_43_method_2_code 6 = .ok (.aload_n 0, 1) := by decide +kernel
theorem d16_7 : decode jdk_43_method_2_code 7 = .ok (.iload_n 1, 1) := by decide +kernel
theorem d16_8 : decode jdk_43_method_2_code 8 = .ok (.baload, 1) := by decide +kernel
theorem d16_9 : decode jdk_43_method_2_code 9 = .ok (.sipush 255, 3) := by decide +kernel
theorem d16_12 : decode jdk_43_method_2_code 12 = .ok (.iand, 1) := by decide +kernel
theorem d16_13 : decode jdk_43_method_2_code 13 = .ok (.i2c, 1) := by decide +kernel
theorem d16_14 : decode jdk_43_method_2_code 14 = .ok (.ireturn, 1) := by decide +kernel
theorem pn_java_lang_StringLatin1 : plainName "java/lang/StringLatin1" = true := by first | (simp [plainName, overriddenIn]; done) | decide +kernel
theorem d27_0 : decode jdk_52_method_6_code 0 = .ok (.aload_n 0, 1) := by decide +kernel
theorem d27_1 : decode jdk_52_method_6_code 1 = .ok (.arraylength, 1) := by decide +kernel
theorem d27_2 : decode jdk_52_method_6_code 2 = .ok (.iconst 1, 1) := by decide +kernel
theorem d27_3 : decode jdk_52_method_6_code 3 = .ok (.ishr, 1) := by decide +kernel
theorem d27_4 : decode jdk_52_method_6_code 4 = .ok (.ireturn, 1) := by decide +kernel
theorem d26_0 : decode jdk_52_method_91_code 0 = .ok (.iload_n 0, 1) := by decide +kernel
theorem d26_1 : decode jdk_52_method_91_code 1 = .ok (.aload_n 1, 1) := by decide +kernel
theorem d26_2 : decode jdk_52_method_91_code 2 = .ok (.invokestatic 48, 3) := by decide +kernel
theorem pd___B_I : parseMethodDescriptor "([B)I" = some ⟨[(.array .byte)], some .int⟩ := by decide +kernel
theorem d26_5 : decode jdk_52_method_91_code 5 = .ok (.invokestatic 414, 3) := by decide +kernel
theorem d26_8 : decode jdk_52_method_91_code 8 = .ok (.return_, 1) := by decide +kernel
theorem d24_0 : decode jdk_52_method_5_code 0 = .ok (.getstatic 44, 3) := by decide +kernel
theorem d24_3 : decode jdk_52_method_5_code 3 = .ok (.ifCond .ne 25, 3) := by decide +kernel
theorem d24_28 : decode jdk_52_method_5_code 28 = .ok (.iload_n 1, 1) := by decide +kernel
theorem d24_29 : decode jdk_52_method_5_code 29 = .ok (.iconst 1, 1) := by decide +kernel
theorem d24_30 : decode jdk_52_method_5_code 30 = .ok (.ishl, 1) := by decide +kernel
theorem d24_31 : decode jdk_52_method_5_code 31 = .ok (.istore_n 1, 1) := by decide +kernel
theorem d24_32 : decode jdk_52_method_5_code 32 = .ok (.aload_n 0, 1) := by decide +kernel
theorem d24_33 : decode jdk_52_method_5_code 33 = .ok (.iload_n 1, 1) := by decide +kernel
theorem d24_34 : decode jdk_52_method_5_code 34 = .ok (.iinc 1 1, 3) := by decide +kernel
theorem d24_37 : decode jdk_52_method_5_code 37 = .ok (.baload, 1) := by decide +kernel
theorem d24_38 : decode jdk_52_method_5_code 38 = .ok (.sipush 255, 3) := by decide +kernel
theorem d24_41 : decode jdk_52_method_5_code 41 = .ok (.iand, 1) := by decide +kernel
theorem d24_42 : decode jdk_52_method_5_code 42 = .ok (.getstatic 59, 3) := by decide +kernel
theorem d24_45 : decode jdk_52_method_5_code 45 = .ok (.ishl, 1) := by decide +kernel
theorem d24_46 : decode jdk_52_method_5_code 46 = .ok (.aload_n 0, 1) := by decide +kernel
theorem d24_47 : decode jdk_52_method_5_code 47 = .ok (.iload_n 1, 1) := by decide +kernel
theorem d24_48 : decode jdk_52_method_5_code 48 = .ok (.baload, 1) := by decide +kernel
theorem d24_49 : decode jdk_52_method_5_code 49 = .ok (.sipush 255, 3) := by decide +kernel
theorem d24_52 : decode jdk_52_method_5_code 52 = .ok (.iand, 1) := by decide +kernel
theorem d24_53 : decode jdk_52_method_5_code 53 = .ok (.getstatic 63, 3) := by decide +kernel
theorem d24_56 : decode jdk_52_method_5_code 56 = .ok (.ishl, 1) := by decide +kernel
theorem d24_57 : decode jdk_52_method_5_code 57 = .ok (.ior, 1) := by decide +kernel
theorem d24_58 : decode jdk_52_method_5_code 58 = .ok (.i2c, 1) := by decide +kernel
theorem d24_59 : decode jdk_52_method_5_code 59 = .ok (.ireturn, 1) := by decide +kernel
theorem d25_0 : decode jdk_52_method_83_code 0 = .ok (.iload_n 1, 1) := by decide +kernel
theorem d25_1 : decode jdk_52_method_83_code 1 = .ok (.aload_n 0, 1) := by decide +kernel
theorem d25_2 : decode jdk_52_method_83_code 2 = .ok (.invokestatic 67, 3) := by decide +kernel
theorem pd__I_B_V : parseMethodDescriptor "(I[B)V" = some ⟨[.int, (.array .byte)], none⟩ := by decide +kernel
theorem d25_5 : decode jdk_52_method_83_code 5 = .ok (.aload_n 0, 1) := by decide +kernel
theorem d25_6 : decode jdk_52_method_83_code 6 = .ok (.iload_n 1, 1) := by decide +kernel
theorem d25_7 : decode jdk_52_method_83_code 7 = .ok (.invokestatic 71, 3) := by decide +kernel
theorem pd___BI_C : parseMethodDescriptor "([BI)C" = some ⟨[(.array .byte), .int], some .char⟩ := by decide +kernel
theorem d25_10 : decode jdk_52_method_83_code 10 = .ok (.ireturn, 1) := by decide +kernel
theorem d15_0 : decode jdk_42_method_154_code 0 = .ok (.getstatic 38, 3) := by decide +kernel
theorem d15_3 : decode jdk_42_method_154_code 3 = .ok (.ifCond .eq 14, 3) := by decide +kernel
theorem d15_6 : decode jdk_42_method_154_code 6 = .ok (.aload_n 0, 1) := by decide +kernel
theorem d15_7 : decode jdk_42_method_154_code 7 = .ok (.getfield 15, 3) := by decide +kernel
theorem d15_10 : decode jdk_42_method_154_code 10 = .ok (.ifCond .ne 7, 3) := by decide +kernel
theorem d15_13 : decode jdk_42_method_154_code 13 = .ok (.iconst 1, 1) := by decide +kernel
theorem d15_14 : decode jdk_42_method_154_code 14 = .ok (.goto 4, 3) := by decide +kernel
theorem d15_18 : decode jdk_42_method_154_code 18 = .ok (.ireturn, 1) := by decide +kernel
theorem d8_0 : decode jdk_42_method_152_code 0 = .ok (.getstatic 38, 3) := by decide +kernel
theorem d8_3 : decode jdk_42_method_152_code 3 = .ok (.ifCond .eq 10, 3) := by decide +kernel
theorem d8_6 : decode jdk_42_method_152_code 6 = .ok (.aload_n 0, 1) := by decide +kernel
theorem d8_7 : decode jdk_42_method_152_code 7 = .ok (.getfield 15, 3) := by decide +kernel
theorem d8_10 : decode jdk_42_method_152_code 10 = .ok (.goto 4, 3) := by decide +kernel
theorem d8_14 : decode jdk_42_method_152_code 14 = .ok (.ireturn, 1) := by decide +kernel
theorem d7_0 : decode jdk_42_method_54_code 0 = .ok (.aload_n 0, 1) := by decide +kernel
theorem d7_1 : decode jdk_42_method_54_code 1 = .ok (.getfield 9, 3) := by decide +kernel
theorem d7_4 : decode jdk_42_method_54_code 4 = .ok (.arraylength, 1) := by decide +kernel
theorem d7_5 : decode jdk_42_method_54_code 5 = .ok (.aload_n 0, 1) := by decide +kernel
theorem d7_6 : decode jdk_42_method_54_code 6 = .ok (.invokevirtual 335, 3) := by decide +kernel
theorem pd___B : parseMethodDescriptor "()B" = some ⟨[], some .byte⟩ := by decide +kernel
theorem d7_9 : decode jdk_42_method_54_code 9 = .ok (.ishr, 1) := by decide +kernel
theorem d7_10 : decode jdk_42_method_54_code 10 = .ok (.ireturn, 1) := by decide +kernel
theorem d14_0 : decode jdk_42_method_56_code 0 = .ok (.aload_n 0, 1) := by decide +kernel
theorem d14_1 : decode jdk_42_method_56_code 1 = .ok (.invokevirtual 492, 3) := by decide +kernel
theorem pd___Z : parseMethodDescriptor "()Z" = some ⟨[], some .boolean⟩ := by decide +kernel
theorem d14_4 : decode jdk_42_method_56_code 4 = .ok (.ifCond .eq 12, 3) := by decide +kernel
theorem d14_7 : decode jdk_42_method_56_code 7 = .ok (.aload_n 0, 1) := by decide +kernel
theorem d14_8 : decode jdk_42_method_56_code 8 = .ok (.getfield 9, 3) := by decide +kernel
theorem d14_11 : decode jdk_42_method_56_code 11 = .ok (.iload_n 1, 1) := by decide +kernel
theorem d14_12 : decode jdk_42_method_56_code 12 = .ok (.invokestatic 495, 3) := by decide +kernel
theorem d14_15 : decode jdk_42_method_56_code 15 = .ok (.ireturn, 1) := by decide +kernel
theorem d6_0 : decode jdk_42_method_55_code 0 = .ok (.aload_n 0, 1) := by decide +kernel
theorem d6_1 : decode jdk_42_method_55_code 1 = .ok (.getfield 9, 3) := by decide +kernel
theorem d6_4 : decode jdk_42_method_55_code 4 = .ok (.arraylength, 1) := by decide +kernel
theorem d6_5 : decode jdk_42_method_55_code 5 = .ok (.ifCond .ne 7, 3) := by decide +kernel
theorem d6_8 : decode jdk_42_method_55_code 8 = .ok (.iconst 1, 1) := by decide +kernel
theorem d6_9 : decode jdk_42_method_55_code 9 = .ok (.goto 4, 3) := by decide +kernel
theorem d6_13 : decode jdk_42_method_55_code 13 = .ok (.ireturn, 1) := by decide +kernel
theorem d6_12 : decode jdk_42_method_55_code 12 = .ok (.iconst 0, 1) := by decide +kernel
theorem d15_17 : decode jdk_42_method_154_code 17 = .ok (.iconst 0, 1) := by decide +kernel
theorem d14_16 : decode jdk_42_method_56_code 16 = .ok (.aload_n 0, 1) := by decide +kernel
theorem d14_17 : decode jdk_42_method_56_code 17 = .ok (.getfield 9, 3) := by decide +kernel
theorem d14_20 : decode jdk_42_method_56_code 20 = .ok (.iload_n 1, 1) := by decide +kernel
theorem d14_21 : decode jdk_42_method_56_code 21 = .ok (.invokestatic 498, 3) := by decide +kernel
theorem d14_24 : decode jdk_42_method_56_code 24 = .ok (.ireturn, 1) := by decide +kernel
theorem d22_0 : decode jdk_52_method_3_code 0 = .ok (.iload_n 0, 1) := by decide +kernel
theorem d22_1 : decode jdk_52_method_3_code 1 = .ok (.ifCond .ge 11, 3) := by decide +kernel
theorem d22_12 : decode jdk_52_method_3_code 12 = .ok (.iload_n 0, 1) := by decide +kernel
theorem d22_13 : decode jdk_52_method_3_code 13 = .ok (.ldc 20, 2) := by decide +kernel
theorem d22_15 : decode jdk_52_method_3_code 15 = .ok (.if_icmp .lt 40, 3) := by decide +kernel
theorem d22_55 : decode jdk_52_method_3_code 55 = .ok (.iload_n 0, 1) := by decide +kernel
theorem d22_56 : decode jdk_52_method_3_code 56 = .ok (.iconst 1, 1) := by decide +kernel
theorem d22_57 : decode jdk_52_method_3_code 57 = .ok (.ishl, 1) := by decide +kernel
theorem d22_58 : decode jdk_52_method_3_code 58 = .ok (.ireturn, 1) := by decide +kernel
theorem d21_0 : decode jdk_52_method_2_code 0 = .ok (.iload_n 0, 1) := by decide +kernel
theorem d21_1 : decode jdk_52_method_2_code 1 = .ok (.invokestatic 11, 3) := by decide +kernel
theorem pd__I_I : parseMethodDescriptor "(I)I" = some ⟨[.int], some .int⟩ := by decide +kernel
theorem d21_4 : decode jdk_52_method_2_code 4 = .ok (.newarray .byte, 2) := by decide +kernel
theorem d21_6 : decode jdk_52_method_2_code 6 = .ok (.areturn, 1) := by decide +kernel
theorem d23_0 : decode jdk_52_method_4_code 0 = .ok (.getstatic 44, 3) := by decide +kernel
theorem d23_3 : decode jdk_52_method_4_code 3 = .ok (.ifCond .ne 25, 3) := by decide +kernel
theorem d23_28 : decode jdk_52_method_4_code 28 = .ok (.iload_n 1, 1) := by decide +kernel
theorem d23_29 : decode jdk_52_method_4_code 29 = .ok (.iconst 1, 1) := by decide +kernel
theorem d23_30 : decode jdk_52_method_4_code 30 = .ok (.ishl, 1) := by decide +kernel
theorem d23_31 : decode jdk_52_method_4_code 31 = .ok (.istore_n 1, 1) := by decide +kernel
theorem d23_32 : decode jdk_52_method_4_code 32 = .ok (.aload_n 0, 1) := by decide +kernel
theorem d23_33 : decode jdk_52_method_4_code 33 = .ok (.iload_n 1, 1) := by decide +kernel
theorem d23_34 : decode jdk_52_method_4_code 34 = .ok (.iinc 1 1, 3) := by decide +kernel
theorem d23_37 : decode jdk_52_method_4_code 37 = .ok (.iload_n 2, 1) := by decide +kernel
theorem d23_38 : decode jdk_52_method_4_code 38 = .ok (.getstatic 59, 3) := by decide +kernel
theorem d23_41 : decode jdk_52_method_4_code 41 = .ok (.ishr, 1) := by decide +kernel
theorem d23_42 : decode jdk_52_method_4_code 42 = .ok (.i2b, 1) := by decide +kernel
theorem d23_43 : decode jdk_52_method_4_code 43 = .ok (.bastore, 1) := by decide +kernel
theorem d23_44 : decode jdk_52_method_4_code 44 = .ok (.aload_n 0, 1) := by decide +kernel
theorem d23_45 : decode jdk_52_method_4_code 45 = .ok (.iload_n 1, 1) := by decide +kernel
theorem d23_46 : decode jdk_52_method_4_code 46 = .ok (.iload_n 2, 1) := by decide +kernel
theorem d23_47 : decode jdk_52_method_4_code 47 = .ok (.getstatic 63, 3) := by decide +kernel
theorem d23_50 : decode jdk_52_method_4_code 50 = .ok (.ishr, 1) := by decide +kernel
theorem d23_51 : decode jdk_52_method_4_code 51 = .ok (.i2b, 1) := by decide +kernel
theorem d23_52 : decode jdk_52_method_4_code 52 = .ok (.bastore, 1) := by decide +kernel
theorem d23_53 : decode jdk_52_method_4_code 53 = .ok (.return_, 1) := by decide +kernel
theorem d20_8 : decode jdk_52_method_14_code 8 = .ok (.iload 4, 2) := by decide +kernel
theorem d20_10 : decode jdk_52_method_14_code 10 = .ok (.iload_n 2, 1) := by decide +kernel
theorem d20_11 : decode jdk_52_method_14_code 11 = .ok (.if_icmp .ge 21, 3) := by decide +kernel
theorem d20_32 : decode jdk_52_method_14_code 32 = .ok (.aload_n 3, 1) := by decide +kernel
theorem d20_33 : decode jdk_52_method_14_code 33 = .ok (.areturn, 1) := by decide +kernel
theorem d20_14 : decode jdk_52_method_14_code 14 = .ok (.aload_n 3, 1) := by decide +kernel
theorem d20_15 : decode jdk_52_method_14_code 15 = .ok (.iload 4, 2) := by decide +kernel
theorem d20_17 : decode jdk_52_method_14_code 17 = .ok (.aload_n 0, 1) := by decide +kernel
theorem d20_18 : decode jdk_52_method_14_code 18 = .ok (.iload_n 1, 1) := by decide +kernel
theorem d20_19 : decode jdk_52_method_14_code 19 = .ok (.caload, 1) := by decide +kernel
theorem d20_20 : decode jdk_52_method_14_code 20 = .ok (.invokestatic 111, 3) := by decide +kernel
theorem pd___BII_V : parseMethodDescriptor "([BII)V" = some ⟨[(.array .byte), .int, .int], none⟩ := by decide +kernel
theorem d20_23 : decode jdk_52_method_14_code 23 = .ok (.iinc 1 1, 3) := by decide +kernel
theorem d20_26 : decode jdk_52_method_14_code 26 = .ok (.iinc 4 1, 3) := by decide +kernel
theorem d20_29 : decode jdk_52_method_14_code 29 = .ok (.goto (-21), 3) := by decide +kernel
theorem d20_0 : decode jdk_52_method_14_code 0 = .ok (.iload_n 2, 1) := by decide +kernel
theorem d20_1 : decode jdk_52_method_14_code 1 = .ok (.invokestatic 107, 3) := by decide +kernel
theorem pd__I__B : parseMethodDescriptor "(I)[B" = some ⟨[.int], some (.array .byte)⟩ := by decide +kernel
theorem d20_4 : decode jdk_52_method_14_code 4 = .ok (.astore_n 3, 1) := by decide +kernel
theorem d20_5 : decode jdk_52_method_14_code 5 = .ok (.iconst 0, 1) := by decide +kernel
theorem d20_6 : decode jdk_52_method_14_code 6 = .ok (.istore 4, 2) := by decide +kernel
theorem d11_0 : decode jdk_52_method_16_code 0 = .ok (.iload_n 2, 1) := by decide +kernel
theorem d11_1 : decode jdk_52_method_16_code 1 = .ok (.newarray .byte, 2) := by decide +kernel
theorem d11_3 : decode jdk_52_method_16_code 3 = .ok (.astore_n 3, 1) := by decide +kernel
theorem d11_4 : decode jdk_52_method_16_code 4 = .ok (.aload_n 0, 1) := by decide +kernel
theorem d11_5 : decode jdk_52_method_16_code 5 = .ok (.iload_n 1, 1) := by decide +kernel
theorem d11_6 : decode jdk_52_method_16_code 6 = .ok (.aload_n 3, 1) := by decide +kernel
theorem d11_7 : decode jdk_52_method_16_code 7 = .ok (.iconst 0, 1) := by decide +kernel
theorem d11_8 : decode jdk_52_method_16_code 8 = .ok (.iload_n 2, 1) := by decide +kernel
theorem d11_9 : decode jdk_52_method_16_code 9 = .ok (.invokestatic 115, 3) := by decide +kernel
theorem pd___CI_BII_I : parseMethodDescriptor "([CI[BII)I" = some ⟨[(.array .char), .int, (.array .byte), .int, .int], some .int⟩ := by decide +kernel
theorem d11_12 : decode jdk_52_method_16_code 12 = .ok (.istore 4, 2) := by decide +kernel
theorem d11_14 : decode jdk_52_method_16_code 14 = .ok (.iload 4, 2) := by decide +kernel
theorem d11_16 : decode jdk_52_method_16_code 16 = .ok (.iload_n 2, 1) := by decide +kernel
theorem d11_17 : decode jdk_52_method_16_code 17 = .ok (.if_icmp .eq 40, 3) := by decide +kernel
theorem d11_57 : decode jdk_52_method_16_code 57 = .ok (.aload_n 3, 1) := by decide +kernel
theorem d11_58 : decode jdk_52_method_16_code 58 = .ok (.areturn, 1) := by decide +kernel
theorem d11_20 : decode jdk_52_method_16_code 20 = .ok (.aload_n 0, 1) := by decide +kernel
theorem d11_21 : decode jdk_52_method_16_code 21 = .ok (.iload_n 1, 1) := by decide +kernel
theorem d11_22 : decode jdk_52_method_16_code 22 = .ok (.iload_n 2, 1) := by decide +kernel
theorem d11_23 : decode jdk_52_method_16_code 23 = .ok (.invokestatic 119, 3) := by decide +kernel
theorem pd___CII__B : parseMethodDescriptor "([CII)[B" = some ⟨[(.array .char), .int, .int], some (.array .byte)⟩ := by decide +kernel
theorem d11_26 : decode jdk_52_method_16_code 26 = .ok (.astore 5, 2) := by decide +kernel
theorem d11_28 : decode jdk_52_method_16_code 28 = .ok (.aload 5, 2) := by decide +kernel
theorem d11_30 : decode jdk_52_method_16_code 30 = .ok (.iload 4, 2) := by decide +kernel
theorem d11_32 : decode jdk_52_method_16_code 32 = .ok (.invokestatic 71, 3) := by decide +kernel
theorem d11_35 : decode jdk_52_method_16_code 35 = .ok (.sipush 255, 3) := by decide +kernel
theorem d11_38 : decode jdk_52_method_16_code 38 = .ok (.if_icmp .gt 16, 3) := by decide +kernel
theorem d11_54 : decode jdk_52_method_16_code 54 = .ok (.aload 5, 2) := by decide +kernel
theorem d11_56 : decode jdk_52_method_16_code 56 = .ok (.areturn, 1) := by decide +kernel
theorem d3_0 : decode jdk_42_method_149_code 0 = .ok (.aload_n 0, 1) := by decide +kernel
theorem d3_1 : decode jdk_42_method_149_code 1 = .ok (.invokespecial 1, 3) := by decide +kernel
theorem d3_4 : decode jdk_42_method_149_code 4 = .ok (.iload_n 3, 1) := by decide +kernel
theorem d3_5 : decode jdk_42_method_149_code 5 = .ok (.ifCond .ne 22, 3) := by decide +kernel
theorem d3_27 : decode jdk_42_method_149_code 27 = .ok (.getstatic 38, 3) := by decide +kernel
theorem d3_30 : decode jdk_42_method_149_code 30 = .ok (.ifCond .eq 28, 3) := by decide +kernel
theorem d3_33 : decode jdk_42_method_149_code 33 = .ok (.aload_n 1, 1) := by decide +kernel
theorem d3_34 : decode jdk_42_method_149_code 34 = .ok (.iload_n 2, 1) := by decide +kernel
theorem d3_35 : decode jdk_42_method_149_code 35 = .ok (.iload_n 3, 1) := by decide +kernel
theorem d3_36 : decode jdk_42_method_149_code 36 = .ok (.invokestatic 177, 3) := by decide +kernel
theorem d3_39 : decode jdk_42_method_149_code 39 = .ok (.astore 5, 2) := by decide +kernel
theorem d3_41 : decode jdk_42_method_149_code 41 = .ok (.aload_n 0, 1) := by decide +kernel
theorem d3_42 : decode jdk_42_method_149_code 42 = .ok (.aload 5, 2) := by decide +kernel
theorem d3_44 : decode jdk_42_method_149_code 44 = .ok (.iload_n 3, 1) := by decide +kernel
theorem d3_45 : decode jdk_42_method_149_code 45 = .ok (.invokestatic 47, 3) := by decide +kernel
theorem pd___BI_B : parseMethodDescriptor "([BI)B" = some ⟨[(.array .byte), .int], some .byte⟩ := by decide +kernel
theorem d3_48 : decode jdk_42_method_149_code 48 = .ok (.putfield 15, 3) := by decide +kernel
theorem d3_51 : decode jdk_42_method_149_code 51 = .ok (.aload_n 0, 1) := by decide +kernel
theorem d3_52 : decode jdk_42_method_149_code 52 = .ok (.aload 5, 2) := by decide +kernel
theorem d3_54 : decode jdk_42_method_149_code 54 = .ok (.putfield 9, 3) := by decide +kernel
theorem d3_57 : decode jdk_42_method_149_code 57 = .ok (.return_, 1) := by decide +kernel
theorem d2_0 : decode jdk_42_method_3_code 0 = .ok (.aload_n 0, 1) := by decide +kernel
theorem d2_1 : decode jdk_42_method_3_code 1 = .ok (.aload_n 1, 1) := by decide +kernel
theorem d2_2 : decode jdk_42_method_3_code 2 = .ok (.iconst 0, 1) := by decide +kernel
theorem d2_3 : decode jdk_42_method_3_code 3 = .ok (.aload_n 1, 1) := by decide +kernel
theorem d2_4 : decode jdk_42_method_3_code 4 = .ok (.arraylength, 1) := by decide +kernel
theorem d2_5 : decode jdk_42_method_3_code 5 = .ok (.aconst_null, 1) := by decide +kernel
theorem d2_6 : decode jdk_42_method_3_code 6 = .ok (.invokespecial 27, 3) := by decide +kernel
theorem pd___CIILjava_lang_Void__V : parseMethodDescriptor "([CIILjava/lang/Void;)V" = some ⟨[(.array .char), .int, .int, (.object "java/lang/Void")], none⟩ := by decide +kernel
theorem d2_9 : decode jdk_42_method_3_code 9 = .ok (.return_, 1) := by decide +kernel
theorem d3_8 : decode jdk_42_method_149_code 8 = .ok (.aload_n 0, 1) := by decide +kernel
theorem d3_9 : decode jdk_42_method_149_code 9 = .ok (.ldc 7, 2) := by decide +kernel
theorem own_t_18 : (∀ c ∈ ("" : String).toList, c.toNat < 256) ∧ ("" : String).toList.map (fun c => Value.int (Jvm.Lit.byteI c.toNat.toUInt16)) = ([] : List Int32).map Value.int := by decide +kernel
theorem d3_11 : decode jdk_42_method_149_code 11 = .ok (.getfield 9, 3) := by decide +kernel
theorem d3_14 : decode jdk_42_method_149_code 14 = .ok (.putfield 9, 3) := by decide +kernel
theorem d3_17 : decode jdk_42_method_149_code 17 = .ok (.aload_n 0, 1) := by decide +kernel
theorem d3_18 : decode jdk_42_method_149_code 18 = .ok (.ldc 7, 2) := by decide +kernel
theorem d3_20 : decode jdk_42_method_149_code 20 = .ok (.getfield 15, 3) := by decide +kernel
theorem d3_23 : decode jdk_42_method_149_code 23 = .ok (.putfield 15, 3) := by decide +kernel
theorem d3_26 : decode jdk_42_method_149_code 26 = .ok (.return_, 1) := by decide +kernel
theorem d10_9 : decode jdk_43_method_13_code 9 = .ok (.iload_n 2, 1) := by decide +kernel
theorem d10_10 : decode jdk_43_method_13_code 10 = .ok (.aload_n 0, 1) := by decide +kernel
theorem d10_11 : decode jdk_43_method_13_code 11 = .ok (.arraylength, 1) := by decide +kernel
theorem d10_12 : decode jdk_43_method_13_code 12 = .ok (.if_icmp .ge 20, 3) := by decide +kernel
theorem d10_32 : decode jdk_43_method_13_code 32 = .ok (.iconst 1, 1) := by decide +kernel
theorem d10_33 : decode jdk_43_method_13_code 33 = .ok (.ireturn, 1) := by decide +kernel
theorem d10_15 : decode jdk_43_method_13_code 15 = .ok (.aload_n 0, 1) := by decide +kernel
theorem d10_16 : decode jdk_43_method_13_code 16 = .ok (.iload_n 2, 1) := by decide +kernel
theorem d10_17 : decode jdk_43_method_13_code 17 = .ok (.baload, 1) := by decide +kernel
theorem d10_18 : decode jdk_43_method_13_code 18 = .ok (.aload_n 1, 1) := by decide +kernel
theorem d10_19 : decode jdk_43_method_13_code 19 = .ok (.iload_n 2, 1) := by decide +kernel
theorem d10_20 : decode jdk_43_method_13_code 20 = .ok (.baload, 1) := by decide +kernel
theorem d10_21 : decode jdk_43_method_13_code 21 = .ok (.if_icmp .eq 5, 3) := by decide +kernel
theorem d10_26 : decode jdk_43_method_13_code 26 = .ok (.iinc 2 1, 3) := by decide +kernel
theorem d10_29 : decode jdk_43_method_13_code 29 = .ok (.goto (-20), 3) := by decide +kernel
theorem d10_24 : decode jdk_43_method_13_code 24 = .ok (.iconst 0, 1) := by decide +kernel
theorem d10_25 : decode jdk_43_method_13_code 25 = .ok (.ireturn, 1) := by decide +kernel
theorem d10_0 : decode jdk_43_method_13_code 0 = .ok (.aload_n 0, 1) := by decide +kernel
theorem d10_1 : decode jdk_43_method_13_code 1 = .ok (.arraylength, 1) := by decide +kernel
theorem d10_2 : decode jdk_43_method_13_code 2 = .ok (.aload_n 1, 1) := by decide +kernel
theorem d10_3 : decode jdk_43_method_13_code 3 = .ok (.arraylength, 1) := by decide +kernel
theorem d10_4 : decode jdk_43_method_13_code 4 = .ok (.if_icmp .ne 30, 3) := by decide +kernel
theorem d10_7 : decode jdk_43_method_13_code 7 = .ok (.iconst 0, 1) := by decide +kernel
theorem d10_8 : decode jdk_43_method_13_code 8 = .ok (.istore_n 2, 1) := by decide +kernel
theorem d10_34 : decode jdk_43_method_13_code 34 = .ok (.iconst 0, 1) := by decide +kernel
theorem d10_35 : decode jdk_43_method_13_code 35 = .ok (.ireturn, 1) := by decide +kernel
theorem d9_0 : decode jdk_42_method_66_code 0 = .ok (.aload_n 0, 1) := by decide +kernel
theorem d9_1 : decode jdk_42_method_66_code 1 = .ok (.aload_n 1, 1) := by decide +kernel
theorem d9_2 : decode jdk_42_method_66_code 2 = .ok (.if_acmp .ne 5, 3) := by decide +kernel
theorem d9_5 : decode jdk_42_method_66_code 5 = .ok (.iconst 1, 1) := by decide +kernel
theorem d9_6 : decode jdk_42_method_66_code 6 = .ok (.ireturn, 1) := by decide +kernel
theorem d9_7 : decode jdk_42_method_66_code 7 = .ok (.aload_n 1, 1) := by decide +kernel
theorem d9_8 : decode jdk_42_method_66_code 8 = .ok (.instanceof 10, 3) := by decide +kernel
theorem d9_11 : decode jdk_42_method_66_code 11 = .ok (.ifCond .eq 43, 3) := by decide +kernel
theorem d9_14 : decode jdk_42_method_66_code 14 = .ok (.aload_n 1, 1) := by decide +kernel
theorem d9_15 : decode jdk_42_method_66_code 15 = .ok (.checkcast 10, 3) := by decide +kernel
theorem d9_18 : decode jdk_42_method_66_code 18 = .ok (.astore_n 2, 1) := by decide +kernel
theorem d9_19 : decode jdk_42_method_66_code 19 = .ok (.getstatic 38, 3) := by decide +kernel
theorem d9_22 : decode jdk_42_method_66_code 22 = .ok (.ifCond .eq 14, 3) := by decide +kernel
theorem d9_25 : decode jdk_42_method_66_code 25 = .ok (.aload_n 0, 1) := by decide +kernel
theorem d9_26 : decode jdk_42_method_66_code 26 = .ok (.getfield 15, 3) := by decide +kernel
theorem d9_29 : decode jdk_42_method_66_code 29 = .ok (.aload_n 2, 1) := by decide +kernel
theorem d9_30 : decode jdk_42_method_66_code 30 = .ok (.getfield 15, 3) := by decide +kernel
theorem d9_33 : decode jdk_42_method_66_code 33 = .ok (.if_icmp .ne 21, 3) := by decide +kernel
theorem d9_36 : decode jdk_42_method_66_code 36 = .ok (.aload_n 0, 1) := by decide +kernel
theorem d9_37 : decode jdk_42_method_66_code 37 = .ok (.getfield 9, 3) := by decide +kernel
theorem d9_40 : decode jdk_42_method_66_code 40 = .ok (.aload_n 2, 1) := by decide +kernel
theorem d9_41 : decode jdk_42_method_66_code 41 = .ok (.getfield 9, 3) := by decide +kernel
theorem d9_44 : decode jdk_42_method_66_code 44 = .ok (.invokestatic 541, 3) := by decide +kernel
theorem pd___B_B_Z : parseMethodDescriptor "([B[B)Z" = some ⟨[(.array .byte), (.array .byte)], some .boolean⟩ := by decide +kernel
theorem d9_47 : decode jdk_42_method_66_code 47 = .ok (.ifCond .eq 7, 3) := by decide +kernel
theorem d9_54 : decode jdk_42_method_66_code 54 = .ok (.iconst 0, 1) := by decide +kernel
theorem d9_55 : decode jdk_42_method_66_code 55 = .ok (.ireturn, 1) := by decide +kernel
theorem d9_50 : decode jdk_42_method_66_code 50 = .ok (.iconst 1, 1) := by decide +kernel
theorem d9_51 : decode jdk_42_method_66_code 51 = .ok (.goto 4, 3) := by decide +kernel
theorem d1_0 : decode method_2_code 0 = .ok (.iload_n 0, 1) := by decide +kernel
theorem d1_1 : decode method_2_code 1 = .ok (.bipush 32, 2) := by decide +kernel
theorem d1_3 : decode method_2_code 3 = .ok (.ior, 1) := by decide +kernel
theorem d1_4 : decode method_2_code 4 = .ok (.istore_n 1, 1) := by decide +kernel
theorem d1_5 : decode method_2_code 5 = .ok (.iload_n 1, 1) := by decide +kernel
theorem d1_6 : decode method_2_code 6 = .ok (.bipush 97, 2) := by decide +kernel
theorem d1_8 : decode method_2_code 8 = .ok (.if_icmp .lt 11, 3) := by decide +kernel
theorem d1_19 : decode method_2_code 19 = .ok (.iload_n 0, 1) := by decide +kernel
theorem d1_20 : decode method_2_code 20 = .ok (.bipush 45, 2) := by decide +kernel
theorem d1_22 : decode method_2_code 22 = .ok (.if_icmp .lt 19, 3) := by decide +kernel
theorem d1_41 : decode method_2_code 41 = .ok (.iconst 0, 1) := by decide +kernel
theorem d1_25 : decode method_2_code 25 = .ok (.iload_n 0, 1) := by decide +kernel
theorem d1_26 : decode method_2_code 26 = .ok (.bipush 57, 2) := by decide +kernel
theorem d1_28 : decode method_2_code 28 = .ok (.if_icmp .gt 13, 3) := by decide +kernel
theorem d1_31 : decode method_2_code 31 = .ok (.iload_n 0, 1) := by decide +kernel
theorem d1_32 : decode method_2_code 32 = .ok (.bipush 47, 2) := by decide +kernel
theorem d1_34 : decode method_2_code 34 = .ok (.if_icmp .eq 7, 3) := by decide +kernel
theorem d1_37 : decode method_2_code 37 = .ok (.iconst 1, 1) := by decide +kernel
theorem d1_38 : decode method_2_code 38 = .ok (.goto 4, 3) := by decide +kernel
theorem d1_42 : decode method_2_code 42 = .ok (.ireturn, 1) := by decide +kernel
theorem d1_11 : decode method_2_code 11 = .ok (.iload_n 1, 1) := by decide +kernel
theorem d1_12 : decode method_2_code 12 = .ok (.bipush 122, 2) := by decide +kernel
theorem d1_14 : decode method_2_code 14 = .ok (.if_icmp .gt 5, 3) := by decide +kernel
theorem d1_17 : decode method_2_code 17 = .ok (.iconst 1, 1) := by decide +kernel
theorem d1_18 : decode method_2_code 18 = .ok (.ireturn, 1) := by decide +kernel
theorem pn_com_example_bewaker_bewaker_fhir_InteractionIsIdPinLaw : plainName "com/example/bewaker/bewaker/fhir/InteractionIsIdPinLaw" = true := by first | (simp [plainName, overriddenIn]; done) | decide +kernel
theorem d28_0 : decode method_3_code 0 = .ok (.bipush 64, 2) := by decide +kernel
theorem d28_2 : decode method_3_code 2 = .ok (.newarray .char, 2) := by decide +kernel
theorem d28_4 : decode method_3_code 4 = .ok (.dup, 1) := by decide +kernel
theorem d28_5 : decode method_3_code 5 = .ok (.iconst 0, 1) := by decide +kernel
theorem d28_6 : decode method_3_code 6 = .ok (.iload_n 0, 1) := by decide +kernel
theorem d28_7 : decode method_3_code 7 = .ok (.castore, 1) := by decide +kernel
theorem d28_8 : decode method_3_code 8 = .ok (.dup, 1) := by decide +kernel
theorem d28_9 : decode method_3_code 9 = .ok (.iconst 1, 1) := by decide +kernel
theorem d28_10 : decode method_3_code 10 = .ok (.iload_n 3, 1) := by decide +kernel
theorem d28_11 : decode method_3_code 11 = .ok (.castore, 1) := by decide +kernel
theorem d28_12 : decode method_3_code 12 = .ok (.dup, 1) := by decide +kernel
theorem d28_13 : decode method_3_code 13 = .ok (.iconst 2, 1) := by decide +kernel
theorem d28_14 : decode method_3_code 14 = .ok (.iload_n 3, 1) := by decide +kernel
theorem d28_15 : decode method_3_code 15 = .ok (.castore, 1) := by decide +kernel
theorem d28_16 : decode method_3_code 16 = .ok (.dup, 1) := by decide +kernel
theorem d28_17 : decode method_3_code 17 = .ok (.iconst 3, 1) := by decide +kernel
theorem d28_18 : decode method_3_code 18 = .ok (.iload_n 3, 1) := by decide +kernel
theorem d28_19 : decode method_3_code 19 = .ok (.castore, 1) := by decide +kernel
theorem d28_20 : decode method_3_code 20 = .ok (.dup, 1) := by decide +kernel
theorem d28_21 : decode method_3_code 21 = .ok (.iconst 4, 1) := by decide +kernel
theorem d28_22 : decode method_3_code 22 = .ok (.iload_n 3, 1) := by decide +kernel
theorem d28_23 : decode method_3_code 23 = .ok (.castore, 1) := by decide +kernel
theorem d28_24 : decode method_3_code 24 = .ok (.dup, 1) := by decide +kernel
theorem d28_25 : decode method_3_code 25 = .ok (.iconst 5, 1) := by decide +kernel
theorem d28_26 : decode method_3_code 26 = .ok (.iload_n 3, 1) := by decide +kernel
theorem d28_27 : decode method_3_code 27 = .ok (.castore, 1) := by decide +kernel
theorem d28_28 : decode method_3_code 28 = .ok (.dup, 1) := by decide +kernel
theorem d28_29 : decode method_3_code 29 = .ok (.bipush 6, 2) := by decide +kernel
theorem d28_31 : decode method_3_code 31 = .ok (.iload_n 3, 1) := by decide +kernel
theorem d28_32 : decode method_3_code 32 = .ok (.castore, 1) := by decide +kernel
theorem d28_33 : decode method_3_code 33 = .ok (.dup, 1) := by decide +kernel
theorem d28_34 : decode method_3_code 34 = .ok (.bipush 7, 2) := by decide +kernel
theorem d28_36 : decode method_3_code 36 = .ok (.iload_n 3, 1) := by decide +kernel
theorem d28_37 : decode method_3_code 37 = .ok (.castore, 1) := by decide +kernel
theorem d28_38 : decode method_3_code 38 = .ok (.dup, 1) := by decide +kernel
theorem d28_39 : decode method_3_code 39 = .ok (.bipush 8, 2) := by decide +kernel
theorem d28_41 : decode method_3_code 41 = .ok (.iload_n 3, 1) := by decide +kernel
theorem d28_42 : decode method_3_code 42 = .ok (.castore, 1) := by decide +kernel
theorem d28_43 : decode method_3_code 43 = .ok (.dup, 1) := by decide +kernel
theorem d28_44 : decode method_3_code 44 = .ok (.bipush 9, 2) := by decide +kernel
theorem d28_46 : decode method_3_code 46 = .ok (.iload_n 3, 1) := by decide +kernel
theorem d28_47 : decode method_3_code 47 = .ok (.castore, 1) := by decide +kernel
theorem d28_48 : decode method_3_code 48 = .ok (.dup, 1) := by decide +kernel
theorem d28_49 : decode method_3_code 49 = .ok (.bipush 10, 2) := by decide +kernel
theorem d28_51 : decode method_3_code 51 = .ok (.iload_n 3, 1) := by decide +kernel
theorem d28_52 : decode method_3_code 52 = .ok (.castore, 1) := by decide +kernel
theorem d28_53 : decode method_3_code 53 = .ok (.dup, 1) := by decide +kernel
theorem d28_54 : decode method_3_code 54 = .ok (.bipush 11, 2) := by decide +kernel
theorem d28_56 : decode method_3_code 56 = .ok (.iload_n 3, 1) := by decide +kernel
theorem d28_57 : decode method_3_code 57 = .ok (.castore, 1) := by decide +kernel
theorem d28_58 : decode method_3_code 58 = .ok (.dup, 1) := by decide +kernel
theorem d28_59 : decode method_3_code 59 = .ok (.bipush 12, 2) := by decide +kernel
theorem d28_61 : decode method_3_code 61 = .ok (.iload_n 3, 1) := by decide +kernel
theorem d28_62 : decode method_3_code 62 = .ok (.castore, 1) := by decide +kernel
theorem d28_63 : decode method_3_code 63 = .ok (.dup, 1) := by decide +kernel
theorem d28_64 : decode method_3_code 64 = .ok (.bipush 13, 2) := by decide +kernel
theorem d28_66 : decode method_3_code 66 = .ok (.iload_n 3, 1) := by decide +kernel
theorem d28_67 : decode method_3_code 67 = .ok (.castore, 1) := by decide +kernel
theorem d28_68 : decode method_3_code 68 = .ok (.dup, 1) := by decide +kernel
theorem d28_69 : decode method_3_code 69 = .ok (.bipush 14, 2) := by decide +kernel
theorem d28_71 : decode method_3_code 71 = .ok (.iload_n 3, 1) := by decide +kernel
theorem d28_72 : decode method_3_code 72 = .ok (.castore, 1) := by decide +kernel
theorem d28_73 : decode method_3_code 73 = .ok (.dup, 1) := by decide +kernel
theorem d28_74 : decode method_3_code 74 = .ok (.bipush 15, 2) := by decide +kernel
theorem d28_76 : decode method_3_code 76 = .ok (.iload_n 3, 1) := by decide +kernel
theorem d28_77 : decode method_3_code 77 = .ok (.castore, 1) := by decide +kernel
theorem d28_78 : decode method_3_code 78 = .ok (.dup, 1) := by decide +kernel
theorem d28_79 : decode method_3_code 79 = .ok (.bipush 16, 2) := by decide +kernel
theorem d28_81 : decode method_3_code 81 = .ok (.iload_n 3, 1) := by decide +kernel
theorem d28_82 : decode method_3_code 82 = .ok (.castore, 1) := by decide +kernel
theorem d28_83 : decode method_3_code 83 = .ok (.dup, 1) := by decide +kernel
theorem d28_84 : decode method_3_code 84 = .ok (.bipush 17, 2) := by decide +kernel
theorem d28_86 : decode method_3_code 86 = .ok (.iload_n 3, 1) := by decide +kernel
theorem d28_87 : decode method_3_code 87 = .ok (.castore, 1) := by decide +kernel
theorem d28_88 : decode method_3_code 88 = .ok (.dup, 1) := by decide +kernel
theorem d28_89 : decode method_3_code 89 = .ok (.bipush 18, 2) := by decide +kernel
theorem d28_91 : decode method_3_code 91 = .ok (.iload_n 3, 1) := by decide +kernel
theorem d28_92 : decode method_3_code 92 = .ok (.castore, 1) := by decide +kernel
theorem d28_93 : decode method_3_code 93 = .ok (.dup, 1) := by decide +kernel
theorem d28_94 : decode method_3_code 94 = .ok (.bipush 19, 2) := by decide +kernel
theorem d28_96 : decode method_3_code 96 = .ok (.iload_n 3, 1) := by decide +kernel
theorem d28_97 : decode method_3_code 97 = .ok (.castore, 1) := by decide +kernel
theorem d28_98 : decode method_3_code 98 = .ok (.dup, 1) := by decide +kernel
theorem d28_99 : decode method_3_code 99 = .ok (.bipush 20, 2) := by decide +kernel
theorem d28_101 : decode method_3_code 101 = .ok (.iload_n 3, 1) := by decide +kernel
theorem d28_102 : decode method_3_code 102 = .ok (.castore, 1) := by decide +kernel
theorem d28_103 : decode method_3_code 103 = .ok (.dup, 1) := by decide +kernel
theorem d28_104 : decode method_3_code 104 = .ok (.bipush 21, 2) := by decide +kernel
theorem d28_106 : decode method_3_code 106 = .ok (.iload_n 3, 1) := by decide +kernel
theorem d28_107 : decode method_3_code 107 = .ok (.castore, 1) := by decide +kernel
theorem d28_108 : decode method_3_code 108 = .ok (.dup, 1) := by decide +kernel
theorem d28_109 : decode method_3_code 109 = .ok (.bipush 22, 2) := by decide +kernel
theorem d28_111 : decode method_3_code 111 = .ok (.iload_n 3, 1) := by decide +kernel
theorem d28_112 : decode method_3_code 112 = .ok (.castore, 1) := by decide +kernel
theorem d28_113 : decode method_3_code 113 = .ok (.dup, 1) := by decide +kernel
theorem d28_114 : decode method_3_code 114 = .ok (.bipush 23, 2) := by decide +kernel
theorem d28_116 : decode method_3_code 116 = .ok (.iload_n 3, 1) := by decide +kernel
theorem d28_117 : decode method_3_code 117 = .ok (.castore, 1) := by decide +kernel
theorem d28_118 : decode method_3_code 118 = .ok (.dup, 1) := by decide +kernel
theorem d28_119 : decode method_3_code 119 = .ok (.bipush 24, 2) := by decide +kernel
theorem d28_121 : decode method_3_code 121 = .ok (.iload_n 3, 1) := by decide +kernel
theorem d28_122 : decode method_3_code 122 = .ok (.castore, 1) := by decide +kernel
theorem d28_123 : decode method_3_code 123 = .ok (.dup, 1) := by decide +kernel
theorem d28_124 : decode method_3_code 124 = .ok (.bipush 25, 2) := by decide +kernel
theorem d28_126 : decode method_3_code 126 = .ok (.iload_n 3, 1) := by decide +kernel
theorem d28_127 : decode method_3_code 127 = .ok (.castore, 1) := by decide +kernel
theorem d28_128 : decode method_3_code 128 = .ok (.dup, 1) := by decide +kernel
theorem d28_129 : decode method_3_code 129 = .ok (.bipush 26, 2) := by decide +kernel
theorem d28_131 : decode method_3_code 131 = .ok (.iload_n 3, 1) := by decide +kernel
theorem d28_132 : decode method_3_code 132 = .ok (.castore, 1) := by decide +kernel
theorem d28_133 : decode method_3_code 133 = .ok (.dup, 1) := by decide +kernel
theorem d28_134 : decode method_3_code 134 = .ok (.bipush 27, 2) := by decide +kernel
theorem d28_136 : decode method_3_code 136 = .ok (.iload_n 3, 1) := by decide +kernel
theorem d28_137 : decode method_3_code 137 = .ok (.castore, 1) := by decide +kernel
theorem d28_138 : decode method_3_code 138 = .ok (.dup, 1) := by decide +kernel
theorem d28_139 : decode method_3_code 139 = .ok (.bipush 28, 2) := by decide +kernel
theorem d28_141 : decode method_3_code 141 = .ok (.iload_n 3, 1) := by decide +kernel
theorem d28_142 : decode method_3_code 142 = .ok (.castore, 1) := by decide +kernel
theorem d28_143 : decode method_3_code 143 = .ok (.dup, 1) := by decide +kernel
theorem d28_144 : decode method_3_code 144 = .ok (.bipush 29, 2) := by decide +kernel
theorem d28_146 : decode method_3_code 146 = .ok (.iload_n 3, 1) := by decide +kernel
theorem d28_147 : decode method_3_code 147 = .ok (.castore, 1) := by decide +kernel
theorem d28_148 : decode method_3_code 148 = .ok (.dup, 1) := by decide +kernel
theorem d28_149 : decode method_3_code 149 = .ok (.bipush 30, 2) := by decide +kernel
theorem d28_151 : decode method_3_code 151 = .ok (.iload_n 3, 1) := by decide +kernel
theorem d28_152 : decode method_3_code 152 = .ok (.castore, 1) := by decide +kernel
theorem d28_153 : decode method_3_code 153 = .ok (.dup, 1) := by decide +kernel
theorem d28_154 : decode method_3_code 154 = .ok (.bipush 31, 2) := by decide +kernel
theorem d28_156 : decode method_3_code 156 = .ok (.iload_n 3, 1) := by decide +kernel
theorem d28_157 : decode method_3_code 157 = .ok (.castore, 1) := by decide +kernel
theorem d28_158 : decode method_3_code 158 = .ok (.dup, 1) := by decide +kernel
theorem d28_159 : decode method_3_code 159 = .ok (.bipush 32, 2) := by decide +kernel
theorem d28_161 : decode method_3_code 161 = .ok (.iload_n 1, 1) := by decide +kernel
theorem d28_162 : decode method_3_code 162 = .ok (.castore, 1) := by decide +kernel
theorem d28_163 : decode method_3_code 163 = .ok (.dup, 1) := by decide +kernel
theorem d28_164 : decode method_3_code 164 = .ok (.bipush 33, 2) := by decide +kernel
theorem d28_166 : decode method_3_code 166 = .ok (.iload_n 3, 1) := by decide +kernel
theorem d28_167 : decode method_3_code 167 = .ok (.castore, 1) := by decide +kernel
theorem d28_168 : decode method_3_code 168 = .ok (.dup, 1) := by decide +kernel
theorem d28_169 : decode method_3_code 169 = .ok (.bipush 34, 2) := by decide +kernel
theorem d28_171 : decode method_3_code 171 = .ok (.iload_n 3, 1) := by decide +kernel
theorem d28_172 : decode method_3_code 172 = .ok (.castore, 1) := by decide +kernel
theorem d28_173 : decode method_3_code 173 = .ok (.dup, 1) := by decide +kernel
theorem d28_174 : decode method_3_code 174 = .ok (.bipush 35, 2) := by decide +kernel
theorem d28_176 : decode method_3_code 176 = .ok (.iload_n 3, 1) := by decide +kernel
theorem d28_177 : decode method_3_code 177 = .ok (.castore, 1) := by decide +kernel
theorem d28_178 : decode method_3_code 178 = .ok (.dup, 1) := by decide +kernel
theorem d28_179 : decode method_3_code 179 = .ok (.bipush 36, 2) := by decide +kernel
theorem d28_181 : decode method_3_code 181 = .ok (.iload_n 3, 1) := by decide +kernel
theorem d28_182 : decode method_3_code 182 = .ok (.castore, 1) := by decide +kernel
theorem d28_183 : decode method_3_code 183 = .ok (.dup, 1) := by decide +kernel
theorem d28_184 : decode method_3_code 184 = .ok (.bipush 37, 2) := by decide +kernel
theorem d28_186 : decode method_3_code 186 = .ok (.iload_n 3, 1) := by decide +kernel
theorem d28_187 : decode method_3_code 187 = .ok (.castore, 1) := by decide +kernel
theorem d28_188 : decode method_3_code 188 = .ok (.dup, 1) := by decide +kernel
theorem d28_189 : decode method_3_code 189 = .ok (.bipush 38, 2) := by decide +kernel
theorem d28_191 : decode method_3_code 191 = .ok (.iload_n 3, 1) := by decide +kernel
theorem d28_192 : decode method_3_code 192 = .ok (.castore, 1) := by decide +kernel
theorem d28_193 : decode method_3_code 193 = .ok (.dup, 1) := by decide +kernel
theorem d28_194 : decode method_3_code 194 = .ok (.bipush 39, 2) := by decide +kernel
theorem d28_196 : decode method_3_code 196 = .ok (.iload_n 3, 1) := by decide +kernel
theorem d28_197 : decode method_3_code 197 = .ok (.castore, 1) := by decide +kernel
theorem d28_198 : decode method_3_code 198 = .ok (.dup, 1) := by decide +kernel
theorem d28_199 : decode method_3_code 199 = .ok (.bipush 40, 2) := by decide +kernel
theorem d28_201 : decode method_3_code 201 = .ok (.iload_n 3, 1) := by decide +kernel
theorem d28_202 : decode method_3_code 202 = .ok (.castore, 1) := by decide +kernel
theorem d28_203 : decode method_3_code 203 = .ok (.dup, 1) := by decide +kernel
theorem d28_204 : decode method_3_code 204 = .ok (.bipush 41, 2) := by decide +kernel
theorem d28_206 : decode method_3_code 206 = .ok (.iload_n 3, 1) := by decide +kernel
theorem d28_207 : decode method_3_code 207 = .ok (.castore, 1) := by decide +kernel
theorem d28_208 : decode method_3_code 208 = .ok (.dup, 1) := by decide +kernel
theorem d28_209 : decode method_3_code 209 = .ok (.bipush 42, 2) := by decide +kernel
theorem d28_211 : decode method_3_code 211 = .ok (.iload_n 3, 1) := by decide +kernel
theorem d28_212 : decode method_3_code 212 = .ok (.castore, 1) := by decide +kernel
theorem d28_213 : decode method_3_code 213 = .ok (.dup, 1) := by decide +kernel
theorem d28_214 : decode method_3_code 214 = .ok (.bipush 43, 2) := by decide +kernel
theorem d28_216 : decode method_3_code 216 = .ok (.iload_n 3, 1) := by decide +kernel
theorem d28_217 : decode method_3_code 217 = .ok (.castore, 1) := by decide +kernel
theorem d28_218 : decode method_3_code 218 = .ok (.dup, 1) := by decide +kernel
theorem d28_219 : decode method_3_code 219 = .ok (.bipush 44, 2) := by decide +kernel
theorem d28_221 : decode method_3_code 221 = .ok (.iload_n 3, 1) := by decide +kernel
theorem d28_222 : decode method_3_code 222 = .ok (.castore, 1) := by decide +kernel
theorem d28_223 : decode method_3_code 223 = .ok (.dup, 1) := by decide +kernel
theorem d28_224 : decode method_3_code 224 = .ok (.bipush 45, 2) := by decide +kernel
theorem d28_226 : decode method_3_code 226 = .ok (.iload_n 3, 1) := by decide +kernel
theorem d28_227 : decode method_3_code 227 = .ok (.castore, 1) := by decide +kernel
theorem d28_228 : decode method_3_code 228 = .ok (.dup, 1) := by decide +kernel
theorem d28_229 : decode method_3_code 229 = .ok (.bipush 46, 2) := by decide +kernel
theorem d28_231 : decode method_3_code 231 = .ok (.iload_n 3, 1) := by decide +kernel
theorem d28_232 : decode method_3_code 232 = .ok (.castore, 1) := by decide +kernel
theorem d28_233 : decode method_3_code 233 = .ok (.dup, 1) := by decide +kernel
theorem d28_234 : decode method_3_code 234 = .ok (.bipush 47, 2) := by decide +kernel
theorem d28_236 : decode method_3_code 236 = .ok (.iload_n 3, 1) := by decide +kernel
theorem d28_237 : decode method_3_code 237 = .ok (.castore, 1) := by decide +kernel
theorem d28_238 : decode method_3_code 238 = .ok (.dup, 1) := by decide +kernel
theorem d28_239 : decode method_3_code 239 = .ok (.bipush 48, 2) := by decide +kernel
theorem d28_241 : decode method_3_code 241 = .ok (.iload_n 3, 1) := by decide +kernel
theorem d28_242 : decode method_3_code 242 = .ok (.castore, 1) := by decide +kernel
theorem d28_243 : decode method_3_code 243 = .ok (.dup, 1) := by decide +kernel
theorem d28_244 : decode method_3_code 244 = .ok (.bipush 49, 2) := by decide +kernel
theorem d28_246 : decode method_3_code 246 = .ok (.iload_n 3, 1) := by decide +kernel
theorem d28_247 : decode method_3_code 247 = .ok (.castore, 1) := by decide +kernel
theorem d28_248 : decode method_3_code 248 = .ok (.dup, 1) := by decide +kernel
theorem d28_249 : decode method_3_code 249 = .ok (.bipush 50, 2) := by decide +kernel
theorem d28_251 : decode method_3_code 251 = .ok (.iload_n 3, 1) := by decide +kernel
theorem d28_252 : decode method_3_code 252 = .ok (.castore, 1) := by decide +kernel
theorem d28_253 : decode method_3_code 253 = .ok (.dup, 1) := by decide +kernel
theorem d28_254 : decode method_3_code 254 = .ok (.bipush 51, 2) := by decide +kernel
theorem d28_256 : decode method_3_code 256 = .ok (.iload_n 3, 1) := by decide +kernel
theorem d28_257 : decode method_3_code 257 = .ok (.castore, 1) := by decide +kernel
theorem d28_258 : decode method_3_code 258 = .ok (.dup, 1) := by decide +kernel
theorem d28_259 : decode method_3_code 259 = .ok (.bipush 52, 2) := by decide +kernel
theorem d28_261 : decode method_3_code 261 = .ok (.iload_n 3, 1) := by decide +kernel
theorem d28_262 : decode method_3_code 262 = .ok (.castore, 1) := by decide +kernel
theorem d28_263 : decode method_3_code 263 = .ok (.dup, 1) := by decide +kernel
theorem d28_264 : decode method_3_code 264 = .ok (.bipush 53, 2) := by decide +kernel
theorem d28_266 : decode method_3_code 266 = .ok (.iload_n 3, 1) := by decide +kernel
theorem d28_267 : decode method_3_code 267 = .ok (.castore, 1) := by decide +kernel
theorem d28_268 : decode method_3_code 268 = .ok (.dup, 1) := by decide +kernel
theorem d28_269 : decode method_3_code 269 = .ok (.bipush 54, 2) := by decide +kernel
theorem d28_271 : decode method_3_code 271 = .ok (.iload_n 3, 1) := by decide +kernel
theorem d28_272 : decode method_3_code 272 = .ok (.castore, 1) := by decide +kernel
theorem d28_273 : decode method_3_code 273 = .ok (.dup, 1) := by decide +kernel
theorem d28_274 : decode method_3_code 274 = .ok (.bipush 55, 2) := by decide +kernel
theorem d28_276 : decode method_3_code 276 = .ok (.iload_n 3, 1) := by decide +kernel
theorem d28_277 : decode method_3_code 277 = .ok (.castore, 1) := by decide +kernel
theorem d28_278 : decode method_3_code 278 = .ok (.dup, 1) := by decide +kernel
theorem d28_279 : decode method_3_code 279 = .ok (.bipush 56, 2) := by decide +kernel
theorem d28_281 : decode method_3_code 281 = .ok (.iload_n 3, 1) := by decide +kernel
theorem d28_282 : decode method_3_code 282 = .ok (.castore, 1) := by decide +kernel
theorem d28_283 : decode method_3_code 283 = .ok (.dup, 1) := by decide +kernel
theorem d28_284 : decode method_3_code 284 = .ok (.bipush 57, 2) := by decide +kernel
theorem d28_286 : decode method_3_code 286 = .ok (.iload_n 3, 1) := by decide +kernel
theorem d28_287 : decode method_3_code 287 = .ok (.castore, 1) := by decide +kernel
theorem d28_288 : decode method_3_code 288 = .ok (.dup, 1) := by decide +kernel
theorem d28_289 : decode method_3_code 289 = .ok (.bipush 58, 2) := by decide +kernel
theorem d28_291 : decode method_3_code 291 = .ok (.iload_n 3, 1) := by decide +kernel
theorem d28_292 : decode method_3_code 292 = .ok (.castore, 1) := by decide +kernel
theorem d28_293 : decode method_3_code 293 = .ok (.dup, 1) := by decide +kernel
theorem d28_294 : decode method_3_code 294 = .ok (.bipush 59, 2) := by decide +kernel
theorem d28_296 : decode method_3_code 296 = .ok (.iload_n 3, 1) := by decide +kernel
theorem d28_297 : decode method_3_code 297 = .ok (.castore, 1) := by decide +kernel
theorem d28_298 : decode method_3_code 298 = .ok (.dup, 1) := by decide +kernel
theorem d28_299 : decode method_3_code 299 = .ok (.bipush 60, 2) := by decide +kernel
theorem d28_301 : decode method_3_code 301 = .ok (.iload_n 3, 1) := by decide +kernel
theorem d28_302 : decode method_3_code 302 = .ok (.castore, 1) := by decide +kernel
theorem d28_303 : decode method_3_code 303 = .ok (.dup, 1) := by decide +kernel
theorem d28_304 : decode method_3_code 304 = .ok (.bipush 61, 2) := by decide +kernel
theorem d28_306 : decode method_3_code 306 = .ok (.iload_n 3, 1) := by decide +kernel
theorem d28_307 : decode method_3_code 307 = .ok (.castore, 1) := by decide +kernel
theorem d28_308 : decode method_3_code 308 = .ok (.dup, 1) := by decide +kernel
theorem d28_309 : decode method_3_code 309 = .ok (.bipush 62, 2) := by decide +kernel
theorem d28_311 : decode method_3_code 311 = .ok (.iload_n 3, 1) := by decide +kernel
theorem d28_312 : decode method_3_code 312 = .ok (.castore, 1) := by decide +kernel
theorem d28_313 : decode method_3_code 313 = .ok (.dup, 1) := by decide +kernel
theorem d28_314 : decode method_3_code 314 = .ok (.bipush 63, 2) := by decide +kernel
theorem d28_316 : decode method_3_code 316 = .ok (.iload_n 2, 1) := by decide +kernel
theorem d28_317 : decode method_3_code 317 = .ok (.castore, 1) := by decide +kernel
theorem d28_318 : decode method_3_code 318 = .ok (.areturn, 1) := by decide +kernel
theorem d19_0 : decode method_4_code 0 = .ok (.bipush 65, 2) := by decide +kernel
theorem d19_2 : decode method_4_code 2 = .ok (.newarray .char, 2) := by decide +kernel
theorem d19_4 : decode method_4_code 4 = .ok (.dup, 1) := by decide +kernel
theorem d19_5 : decode method_4_code 5 = .ok (.iconst 0, 1) := by decide +kernel
theorem d19_6 : decode method_4_code 6 = .ok (.iload_n 0, 1) := by decide +kernel
theorem d19_7 : decode method_4_code 7 = .ok (.castore, 1) := by decide +kernel
theorem d19_8 : decode method_4_code 8 = .ok (.dup, 1) := by decide +kernel
theorem d19_9 : decode method_4_code 9 = .ok (.iconst 1, 1) := by decide +kernel
theorem d19_10 : decode method_4_code 10 = .ok (.iload_n 3, 1) := by decide +kernel
theorem d19_11 : decode method_4_code 11 = .ok (.castore, 1) := by decide +kernel
theorem d19_12 : decode method_4_code 12 = .ok (.dup, 1) := by decide +kernel
theorem d19_13 : decode method_4_code 13 = .ok (.iconst 2, 1) := by decide +kernel
theorem d19_14 : decode method_4_code 14 = .ok (.iload_n 3, 1) := by decide +kernel
theorem d19_15 : decode method_4_code 15 = .ok (.castore, 1) := by decide +kernel
theorem d19_16 : decode method_4_code 16 = .ok (.dup, 1) := by decide +kernel
theorem d19_17 : decode method_4_code 17 = .ok (.iconst 3, 1) := by decide +kernel
theorem d19_18 : decode method_4_code 18 = .ok (.iload_n 3, 1) := by decide +kernel
theorem d19_19 : decode method_4_code 19 = .ok (.castore, 1) := by decide +kernel
theorem d19_20 : decode method_4_code 20 = .ok (.dup, 1) := by decide +kernel
theorem d19_21 : decode method_4_code 21 = .ok (.iconst 4, 1) := by decide +kernel
theorem d19_22 : decode method_4_code 22 = .ok (.iload_n 3, 1) := by decide +kernel
theorem d19_23 : decode method_4_code 23 = .ok (.castore, 1) := by decide +kernel
theorem d19_24 : decode method_4_code 24 = .ok (.dup, 1) := by decide +kernel
theorem d19_25 : decode method_4_code 25 = .ok (.iconst 5, 1) := by decide +kernel
theorem d19_26 : decode method_4_code 26 = .ok (.iload_n 3, 1) := by decide +kernel
theorem d19_27 : decode method_4_code 27 = .ok (.castore, 1) := by decide +kernel
theorem d19_28 : decode method_4_code 28 = .ok (.dup, 1) := by decide +kernel
theorem d19_29 : decode method_4_code 29 = .ok (.bipush 6, 2) := by decide +kernel
theorem d19_31 : decode method_4_code 31 = .ok (.iload_n 3, 1) := by decide +kernel
theorem d19_32 : decode method_4_code 32 = .ok (.castore, 1) := by decide +kernel
theorem d19_33 : decode method_4_code 33 = .ok (.dup, 1) := by decide +kernel
theorem d19_34 : decode method_4_code 34 = .ok (.bipush 7, 2) := by decide +kernel
theorem d19_36 : decode method_4_code 36 = .ok (.iload_n 3, 1) := by decide +kernel
theorem d19_37 : decode method_4_code 37 = .ok (.castore, 1) := by decide +kernel
theorem d19_38 : decode method_4_code 38 = .ok (.dup, 1) := by decide +kernel
theorem d19_39 : decode method_4_code 39 = .ok (.bipush 8, 2) := by decide +kernel
theorem d19_41 : decode method_4_code 41 = .ok (.iload_n 3, 1) := by decide +kernel
theorem d19_42 : decode method_4_code 42 = .ok (.castore, 1) := by decide +kernel
theorem d19_43 : decode method_4_code 43 = .ok (.dup, 1) := by decide +kernel
theorem d19_44 : decode method_4_code 44 = .ok (.bipush 9, 2) := by decide +kernel
theorem d19_46 : decode method_4_code 46 = .ok (.iload_n 3, 1) := by decide +kernel
theorem d19_47 : decode method_4_code 47 = .ok (.castore, 1) := by decide +kernel
theorem d19_48 : decode method_4_code 48 = .ok (.dup, 1) := by decide +kernel
theorem d19_49 : decode method_4_code 49 = .ok (.bipush 10, 2) := by decide +kernel
theorem d19_51 : decode method_4_code 51 = .ok (.iload_n 3, 1) := by decide +kernel
theorem d19_52 : decode method_4_code 52 = .ok (.castore, 1) := by decide +kernel
theorem d19_53 : decode method_4_code 53 = .ok (.dup, 1) := by decide +kernel
theorem d19_54 : decode method_4_code 54 = .ok (.bipush 11, 2) := by decide +kernel
theorem d19_56 : decode method_4_code 56 = .ok (.iload_n 3, 1) := by decide +kernel
theorem d19_57 : decode method_4_code 57 = .ok (.castore, 1) := by decide +kernel
theorem d19_58 : decode method_4_code 58 = .ok (.dup, 1) := by decide +kernel
theorem d19_59 : decode method_4_code 59 = .ok (.bipush 12, 2) := by decide +kernel
theorem d19_61 : decode method_4_code 61 = .ok (.iload_n 3, 1) := by decide +kernel
theorem d19_62 : decode method_4_code 62 = .ok (.castore, 1) := by decide +kernel
theorem d19_63 : decode method_4_code 63 = .ok (.dup, 1) := by decide +kernel
theorem d19_64 : decode method_4_code 64 = .ok (.bipush 13, 2) := by decide +kernel
theorem d19_66 : decode method_4_code 66 = .ok (.iload_n 3, 1) := by decide +kernel
theorem d19_67 : decode method_4_code 67 = .ok (.castore, 1) := by decide +kernel
theorem d19_68 : decode method_4_code 68 = .ok (.dup, 1) := by decide +kernel
theorem d19_69 : decode method_4_code 69 = .ok (.bipush 14, 2) := by decide +kernel
theorem d19_71 : decode method_4_code 71 = .ok (.iload_n 3, 1) := by decide +kernel
theorem d19_72 : decode method_4_code 72 = .ok (.castore, 1) := by decide +kernel
theorem d19_73 : decode method_4_code 73 = .ok (.dup, 1) := by decide +kernel
theorem d19_74 : decode method_4_code 74 = .ok (.bipush 15, 2) := by decide +kernel
theorem d19_76 : decode method_4_code 76 = .ok (.iload_n 3, 1) := by decide +kernel
theorem d19_77 : decode method_4_code 77 = .ok (.castore, 1) := by decide +kernel
theorem d19_78 : decode method_4_code 78 = .ok (.dup, 1) := by decide +kernel
theorem d19_79 : decode method_4_code 79 = .ok (.bipush 16, 2) := by decide +kernel
theorem d19_81 : decode method_4_code 81 = .ok (.iload_n 3, 1) := by decide +kernel
theorem d19_82 : decode method_4_code 82 = .ok (.castore, 1) := by decide +kernel
theorem d19_83 : decode method_4_code 83 = .ok (.dup, 1) := by decide +kernel
theorem d19_84 : decode method_4_code 84 = .ok (.bipush 17, 2) := by decide +kernel
theorem d19_86 : decode method_4_code 86 = .ok (.iload_n 3, 1) := by decide +kernel
theorem d19_87 : decode method_4_code 87 = .ok (.castore, 1) := by decide +kernel
theorem d19_88 : decode method_4_code 88 = .ok (.dup, 1) := by decide +kernel
theorem d19_89 : decode method_4_code 89 = .ok (.bipush 18, 2) := by decide +kernel
theorem d19_91 : decode method_4_code 91 = .ok (.iload_n 3, 1) := by decide +kernel
theorem d19_92 : decode method_4_code 92 = .ok (.castore, 1) := by decide +kernel
theorem d19_93 : decode method_4_code 93 = .ok (.dup, 1) := by decide +kernel
theorem d19_94 : decode method_4_code 94 = .ok (.bipush 19, 2) := by decide +kernel
theorem d19_96 : decode method_4_code 96 = .ok (.iload_n 3, 1) := by decide +kernel
theorem d19_97 : decode method_4_code 97 = .ok (.castore, 1) := by decide +kernel
theorem d19_98 : decode method_4_code 98 = .ok (.dup, 1) := by decide +kernel
theorem d19_99 : decode method_4_code 99 = .ok (.bipush 20, 2) := by decide +kernel
theorem d19_101 : decode method_4_code 101 = .ok (.iload_n 3, 1) := by decide +kernel
theorem d19_102 : decode method_4_code 102 = .ok (.castore, 1) := by decide +kernel
theorem d19_103 : decode method_4_code 103 = .ok (.dup, 1) := by decide +kernel
theorem d19_104 : decode method_4_code 104 = .ok (.bipush 21, 2) := by decide +kernel
theorem d19_106 : decode method_4_code 106 = .ok (.iload_n 3, 1) := by decide +kernel
theorem d19_107 : decode method_4_code 107 = .ok (.castore, 1) := by decide +kernel
theorem d19_108 : decode method_4_code 108 = .ok (.dup, 1) := by decide +kernel
theorem d19_109 : decode method_4_code 109 = .ok (.bipush 22, 2) := by decide +kernel
theorem d19_111 : decode method_4_code 111 = .ok (.iload_n 3, 1) := by decide +kernel
theorem d19_112 : decode method_4_code 112 = .ok (.castore, 1) := by decide +kernel
theorem d19_113 : decode method_4_code 113 = .ok (.dup, 1) := by decide +kernel
theorem d19_114 : decode method_4_code 114 = .ok (.bipush 23, 2) := by decide +kernel
theorem d19_116 : decode method_4_code 116 = .ok (.iload_n 3, 1) := by decide +kernel
theorem d19_117 : decode method_4_code 117 = .ok (.castore, 1) := by decide +kernel
theorem d19_118 : decode method_4_code 118 = .ok (.dup, 1) := by decide +kernel
theorem d19_119 : decode method_4_code 119 = .ok (.bipush 24, 2) := by decide +kernel
theorem d19_121 : decode method_4_code 121 = .ok (.iload_n 3, 1) := by decide +kernel
theorem d19_122 : decode method_4_code 122 = .ok (.castore, 1) := by decide +kernel
theorem d19_123 : decode method_4_code 123 = .ok (.dup, 1) := by decide +kernel
theorem d19_124 : decode method_4_code 124 = .ok (.bipush 25, 2) := by decide +kernel
theorem d19_126 : decode method_4_code 126 = .ok (.iload_n 3, 1) := by decide +kernel
theorem d19_127 : decode method_4_code 127 = .ok (.castore, 1) := by decide +kernel
theorem d19_128 : decode method_4_code 128 = .ok (.dup, 1) := by decide +kernel
theorem d19_129 : decode method_4_code 129 = .ok (.bipush 26, 2) := by decide +kernel
theorem d19_131 : decode method_4_code 131 = .ok (.iload_n 3, 1) := by decide +kernel
theorem d19_132 : decode method_4_code 132 = .ok (.castore, 1) := by decide +kernel
theorem d19_133 : decode method_4_code 133 = .ok (.dup, 1) := by decide +kernel
theorem d19_134 : decode method_4_code 134 = .ok (.bipush 27, 2) := by decide +kernel
theorem d19_136 : decode method_4_code 136 = .ok (.iload_n 3, 1) := by decide +kernel
theorem d19_137 : decode method_4_code 137 = .ok (.castore, 1) := by decide +kernel
theorem d19_138 : decode method_4_code 138 = .ok (.dup, 1) := by decide +kernel
theorem d19_139 : decode method_4_code 139 = .ok (.bipush 28, 2) := by decide +kernel
theorem d19_141 : decode method_4_code 141 = .ok (.iload_n 3, 1) := by decide +kernel
theorem d19_142 : decode method_4_code 142 = .ok (.castore, 1) := by decide +kernel
theorem d19_143 : decode method_4_code 143 = .ok (.dup, 1) := by decide +kernel
theorem d19_144 : decode method_4_code 144 = .ok (.bipush 29, 2) := by decide +kernel
theorem d19_146 : decode method_4_code 146 = .ok (.iload_n 3, 1) := by decide +kernel
theorem d19_147 : decode method_4_code 147 = .ok (.castore, 1) := by decide +kernel
theorem d19_148 : decode method_4_code 148 = .ok (.dup, 1) := by decide +kernel
theorem d19_149 : decode method_4_code 149 = .ok (.bipush 30, 2) := by decide +kernel
theorem d19_151 : decode method_4_code 151 = .ok (.iload_n 3, 1) := by decide +kernel
theorem d19_152 : decode method_4_code 152 = .ok (.castore, 1) := by decide +kernel
theorem d19_153 : decode method_4_code 153 = .ok (.dup, 1) := by decide +kernel
theorem d19_154 : decode method_4_code 154 = .ok (.bipush 31, 2) := by decide +kernel
theorem d19_156 : decode method_4_code 156 = .ok (.iload_n 3, 1) := by decide +kernel
theorem d19_157 : decode method_4_code 157 = .ok (.castore, 1) := by decide +kernel
theorem d19_158 : decode method_4_code 158 = .ok (.dup, 1) := by decide +kernel
theorem d19_159 : decode method_4_code 159 = .ok (.bipush 32, 2) := by decide +kernel
theorem d19_161 : decode method_4_code 161 = .ok (.iload_n 1, 1) := by decide +kernel
theorem d19_162 : decode method_4_code 162 = .ok (.castore, 1) := by decide +kernel
theorem d19_163 : decode method_4_code 163 = .ok (.dup, 1) := by decide +kernel
theorem d19_164 : decode method_4_code 164 = .ok (.bipush 33, 2) := by decide +kernel
theorem d19_166 : decode method_4_code 166 = .ok (.iload_n 3, 1) := by decide +kernel
theorem d19_167 : decode method_4_code 167 = .ok (.castore, 1) := by decide +kernel
theorem d19_168 : decode method_4_code 168 = .ok (.dup, 1) := by decide +kernel
theorem d19_169 : decode method_4_code 169 = .ok (.bipush 34, 2) := by decide +kernel
theorem d19_171 : decode method_4_code 171 = .ok (.iload_n 3, 1) := by decide +kernel
theorem d19_172 : decode method_4_code 172 = .ok (.castore, 1) := by decide +kernel
theorem d19_173 : decode method_4_code 173 = .ok (.dup, 1) := by decide +kernel
theorem d19_174 : decode method_4_code 174 = .ok (.bipush 35, 2) := by decide +kernel
theorem d19_176 : decode method_4_code 176 = .ok (.iload_n 3, 1) := by decide +kernel
theorem d19_177 : decode method_4_code 177 = .ok (.castore, 1) := by decide +kernel
theorem d19_178 : decode method_4_code 178 = .ok (.dup, 1) := by decide +kernel
theorem d19_179 : decode method_4_code 179 = .ok (.bipush 36, 2) := by decide +kernel
theorem d19_181 : decode method_4_code 181 = .ok (.iload_n 3, 1) := by decide +kernel
theorem d19_182 : decode method_4_code 182 = .ok (.castore, 1) := by decide +kernel
theorem d19_183 : decode method_4_code 183 = .ok (.dup, 1) := by decide +kernel
theorem d19_184 : decode method_4_code 184 = .ok (.bipush 37, 2) := by decide +kernel
theorem d19_186 : decode method_4_code 186 = .ok (.iload_n 3, 1) := by decide +kernel
theorem d19_187 : decode method_4_code 187 = .ok (.castore, 1) := by decide +kernel
theorem d19_188 : decode method_4_code 188 = .ok (.dup, 1) := by decide +kernel
theorem d19_189 : decode method_4_code 189 = .ok (.bipush 38, 2) := by decide +kernel
theorem d19_191 : decode method_4_code 191 = .ok (.iload_n 3, 1) := by decide +kernel
theorem d19_192 : decode method_4_code 192 = .ok (.castore, 1) := by decide +kernel
theorem d19_193 : decode method_4_code 193 = .ok (.dup, 1) := by decide +kernel
theorem d19_194 : decode method_4_code 194 = .ok (.bipush 39, 2) := by decide +kernel
theorem d19_196 : decode method_4_code 196 = .ok (.iload_n 3, 1) := by decide +kernel
theorem d19_197 : decode method_4_code 197 = .ok (.castore, 1) := by decide +kernel
theorem d19_198 : decode method_4_code 198 = .ok (.dup, 1) := by decide +kernel
theorem d19_199 : decode method_4_code 199 = .ok (.bipush 40, 2) := by decide +kernel
theorem d19_201 : decode method_4_code 201 = .ok (.iload_n 3, 1) := by decide +kernel
theorem d19_202 : decode method_4_code 202 = .ok (.castore, 1) := by decide +kernel
theorem d19_203 : decode method_4_code 203 = .ok (.dup, 1) := by decide +kernel
theorem d19_204 : decode method_4_code 204 = .ok (.bipush 41, 2) := by decide +kernel
theorem d19_206 : decode method_4_code 206 = .ok (.iload_n 3, 1) := by decide +kernel
theorem d19_207 : decode method_4_code 207 = .ok (.castore, 1) := by decide +kernel
theorem d19_208 : decode method_4_code 208 = .ok (.dup, 1) := by decide +kernel
theorem d19_209 : decode method_4_code 209 = .ok (.bipush 42, 2) := by decide +kernel
theorem d19_211 : decode method_4_code 211 = .ok (.iload_n 3, 1) := by decide +kernel
theorem d19_212 : decode method_4_code 212 = .ok (.castore, 1) := by decide +kernel
theorem d19_213 : decode method_4_code 213 = .ok (.dup, 1) := by decide +kernel
theorem d19_214 : decode method_4_code 214 = .ok (.bipush 43, 2) := by decide +kernel
theorem d19_216 : decode method_4_code 216 = .ok (.iload_n 3, 1) := by decide +kernel
theorem d19_217 : decode method_4_code 217 = .ok (.castore, 1) := by decide +kernel
theorem d19_218 : decode method_4_code 218 = .ok (.dup, 1) := by decide +kernel
theorem d19_219 : decode method_4_code 219 = .ok (.bipush 44, 2) := by decide +kernel
theorem d19_221 : decode method_4_code 221 = .ok (.iload_n 3, 1) := by decide +kernel
theorem d19_222 : decode method_4_code 222 = .ok (.castore, 1) := by decide +kernel
theorem d19_223 : decode method_4_code 223 = .ok (.dup, 1) := by decide +kernel
theorem d19_224 : decode method_4_code 224 = .ok (.bipush 45, 2) := by decide +kernel
theorem d19_226 : decode method_4_code 226 = .ok (.iload_n 3, 1) := by decide +kernel
theorem d19_227 : decode method_4_code 227 = .ok (.castore, 1) := by decide +kernel
theorem d19_228 : decode method_4_code 228 = .ok (.dup, 1) := by decide +kernel
theorem d19_229 : decode method_4_code 229 = .ok (.bipush 46, 2) := by decide +kernel
theorem d19_231 : decode method_4_code 231 = .ok (.iload_n 3, 1) := by decide +kernel
theorem d19_232 : decode method_4_code 232 = .ok (.castore, 1) := by decide +kernel
theorem d19_233 : decode method_4_code 233 = .ok (.dup, 1) := by decide +kernel
theorem d19_234 : decode method_4_code 234 = .ok (.bipush 47, 2) := by decide +kernel
theorem d19_236 : decode method_4_code 236 = .ok (.iload_n 3, 1) := by decide +kernel
theorem d19_237 : decode method_4_code 237 = .ok (.castore, 1) := by decide +kernel
theorem d19_238 : decode method_4_code 238 = .ok (.dup, 1) := by decide +kernel
theorem d19_239 : decode method_4_code 239 = .ok (.bipush 48, 2) := by decide +kernel
theorem d19_241 : decode method_4_code 241 = .ok (.iload_n 3, 1) := by decide +kernel
theorem d19_242 : decode method_4_code 242 = .ok (.castore, 1) := by decide +kernel
theorem d19_243 : decode method_4_code 243 = .ok (.dup, 1) := by decide +kernel
theorem d19_244 : decode method_4_code 244 = .ok (.bipush 49, 2) := by decide +kernel
theorem d19_246 : decode method_4_code 246 = .ok (.iload_n 3, 1) := by decide +kernel
theorem d19_247 : decode method_4_code 247 = .ok (.castore, 1) := by decide +kernel
theorem d19_248 : decode method_4_code 248 = .ok (.dup, 1) := by decide +kernel
theorem d19_249 : decode method_4_code 249 = .ok (.bipush 50, 2) := by decide +kernel
theorem d19_251 : decode method_4_code 251 = .ok (.iload_n 3, 1) := by decide +kernel
theorem d19_252 : decode method_4_code 252 = .ok (.castore, 1) := by decide +kernel
theorem d19_253 : decode method_4_code 253 = .ok (.dup, 1) := by decide +kernel
theorem d19_254 : decode method_4_code 254 = .ok (.bipush 51, 2) := by decide +kernel
theorem d19_256 : decode method_4_code 256 = .ok (.iload_n 3, 1) := by decide +kernel
theorem d19_257 : decode method_4_code 257 = .ok (.castore, 1) := by decide +kernel
theorem d19_258 : decode method_4_code 258 = .ok (.dup, 1) := by decide +kernel
theorem d19_259 : decode method_4_code 259 = .ok (.bipush 52, 2) := by decide +kernel
theorem d19_261 : decode method_4_code 261 = .ok (.iload_n 3, 1) := by decide +kernel
theorem d19_262 : decode method_4_code 262 = .ok (.castore, 1) := by decide +kernel
theorem d19_263 : decode method_4_code 263 = .ok (.dup, 1) := by decide +kernel
theorem d19_264 : decode method_4_code 264 = .ok (.bipush 53, 2) := by decide +kernel
theorem d19_266 : decode method_4_code 266 = .ok (.iload_n 3, 1) := by decide +kernel
theorem d19_267 : decode method_4_code 267 = .ok (.castore, 1) := by decide +kernel
theorem d19_268 : decode method_4_code 268 = .ok (.dup, 1) := by decide +kernel
theorem d19_269 : decode method_4_code 269 = .ok (.bipush 54, 2) := by decide +kernel
theorem d19_271 : decode method_4_code 271 = .ok (.iload_n 3, 1) := by decide +kernel
theorem d19_272 : decode method_4_code 272 = .ok (.castore, 1) := by decide +kernel
theorem d19_273 : decode method_4_code 273 = .ok (.dup, 1) := by decide +kernel
theorem d19_274 : decode method_4_code 274 = .ok (.bipush 55, 2) := by decide +kernel
theorem d19_276 : decode method_4_code 276 = .ok (.iload_n 3, 1) := by decide +kernel
theorem d19_277 : decode method_4_code 277 = .ok (.castore, 1) := by decide +kernel
theorem d19_278 : decode method_4_code 278 = .ok (.dup, 1) := by decide +kernel
theorem d19_279 : decode method_4_code 279 = .ok (.bipush 56, 2) := by decide +kernel
theorem d19_281 : decode method_4_code 281 = .ok (.iload_n 3, 1) := by decide +kernel
theorem d19_282 : decode method_4_code 282 = .ok (.castore, 1) := by decide +kernel
theorem d19_283 : decode method_4_code 283 = .ok (.dup, 1) := by decide +kernel
theorem d19_284 : decode method_4_code 284 = .ok (.bipush 57, 2) := by decide +kernel
theorem d19_286 : decode method_4_code 286 = .ok (.iload_n 3, 1) := by decide +kernel
theorem d19_287 : decode method_4_code 287 = .ok (.castore, 1) := by decide +kernel
theorem d19_288 : decode method_4_code 288 = .ok (.dup, 1) := by decide +kernel
theorem d19_289 : decode method_4_code 289 = .ok (.bipush 58, 2) := by decide +kernel
theorem d19_291 : decode method_4_code 291 = .ok (.iload_n 3, 1) := by decide +kernel
theorem d19_292 : decode method_4_code 292 = .ok (.castore, 1) := by decide +kernel
theorem d19_293 : decode method_4_code 293 = .ok (.dup, 1) := by decide +kernel
theorem d19_294 : decode method_4_code 294 = .ok (.bipush 59, 2) := by decide +kernel
theorem d19_296 : decode method_4_code 296 = .ok (.iload_n 3, 1) := by decide +kernel
theorem d19_297 : decode method_4_code 297 = .ok (.castore, 1) := by decide +kernel
theorem d19_298 : decode method_4_code 298 = .ok (.dup, 1) := by decide +kernel
theorem d19_299 : decode method_4_code 299 = .ok (.bipush 60, 2) := by decide +kernel
theorem d19_301 : decode method_4_code 301 = .ok (.iload_n 3, 1) := by decide +kernel
theorem d19_302 : decode method_4_code 302 = .ok (.castore, 1) := by decide +kernel
theorem d19_303 : decode method_4_code 303 = .ok (.dup, 1) := by decide +kernel
theorem d19_304 : decode method_4_code 304 = .ok (.bipush 61, 2) := by decide +kernel
theorem d19_306 : decode method_4_code 306 = .ok (.iload_n 3, 1) := by decide +kernel
theorem d19_307 : decode method_4_code 307 = .ok (.castore, 1) := by decide +kernel
theorem d19_308 : decode method_4_code 308 = .ok (.dup, 1) := by decide +kernel
theorem d19_309 : decode method_4_code 309 = .ok (.bipush 62, 2) := by decide +kernel
theorem d19_311 : decode method_4_code 311 = .ok (.iload_n 3, 1) := by decide +kernel
theorem d19_312 : decode method_4_code 312 = .ok (.castore, 1) := by decide +kernel
theorem d19_313 : decode method_4_code 313 = .ok (.dup, 1) := by decide +kernel
theorem d19_314 : decode method_4_code 314 = .ok (.bipush 63, 2) := by decide +kernel
theorem d19_316 : decode method_4_code 316 = .ok (.iload_n 3, 1) := by decide +kernel
theorem d19_317 : decode method_4_code 317 = .ok (.castore, 1) := by decide +kernel
theorem d19_318 : decode method_4_code 318 = .ok (.dup, 1) := by decide +kernel
theorem d19_319 : decode method_4_code 319 = .ok (.bipush 64, 2) := by decide +kernel
theorem d19_321 : decode method_4_code 321 = .ok (.iload_n 2, 1) := by decide +kernel
theorem d19_322 : decode method_4_code 322 = .ok (.castore, 1) := by decide +kernel
theorem d19_323 : decode method_4_code 323 = .ok (.areturn, 1) := by decide +kernel
theorem d5_102 : decode prog_6_method_6_code 102 = .ok (.aload_n 0, 1) := by decide +kernel
theorem d5_103 : decode prog_6_method_6_code 103 = .ok (.ldc 184, 2) := by decide +kernel
theorem own_t_46 : (∀ c ∈ ("." : String).toList, c.toNat < 256) ∧ ("." : String).toList.map (fun c => Value.int (Jvm.Lit.byteI c.toNat.toUInt16)) = ([(46 : Int32)] : List Int32).map Value.int := by decide +kernel
theorem d5_105 : decode prog_6_method_6_code 105 = .ok (.invokevirtual 87, 3) := by decide +kernel
theorem pd__Ljava_lang_Object__Z : parseMethodDescriptor "(Ljava/lang/Object;)Z" = some ⟨[(.object "java/lang/Object")], some .boolean⟩ := by decide +kernel
theorem d5_108 : decode prog_6_method_6_code 108 = .ok (.ifCond .ne 12, 3) := by decide +kernel
theorem d5_111 : decode prog_6_method_6_code 111 = .ok (.aload_n 0, 1) := by decide +kernel
theorem d5_112 : decode prog_6_method_6_code 112 = .ok (.ldc 186, 2) := by decide +kernel
theorem own_t_57 : (∀ c ∈ (".." : String).toList, c.toNat < 256) ∧ (".." : String).toList.map (fun c => Value.int (Jvm.Lit.byteI c.toNat.toUInt16)) = ([(46 : Int32), (46 : Int32)] : List Int32).map Value.int := by decide +kernel
theorem d5_114 : decode prog_6_method_6_code 114 = .ok (.invokevirtual 87, 3) := by decide +kernel
theorem d5_117 : decode prog_6_method_6_code 117 = .ok (.ifCond .eq 7, 3) := by decide +kernel
theorem d5_124 : decode prog_6_method_6_code 124 = .ok (.iconst 0, 1) := by decide +kernel
theorem d5_125 : decode prog_6_method_6_code 125 = .ok (.istore_n 2, 1) := by decide +kernel
theorem d5_126 : decode prog_6_method_6_code 126 = .ok (.iload_n 1, 1) := by decide +kernel
theorem d5_127 : decode prog_6_method_6_code 127 = .ok (.ifCond .eq 11, 3) := by decide +kernel
theorem d5_138 : decode prog_6_method_6_code 138 = .ok (.iconst 0, 1) := by decide +kernel
theorem d5_139 : decode prog_6_method_6_code 139 = .ok (.ireturn, 1) := by decide +kernel
theorem d5_120 : decode prog_6_method_6_code 120 = .ok (.iconst 1, 1) := by decide +kernel
theorem d5_121 : decode prog_6_method_6_code 121 = .ok (.goto 4, 3) := by decide +kernel
theorem d5_130 : decode prog_6_method_6_code 130 = .ok (.iload_n 2, 1) := by decide +kernel
theorem d5_131 : decode prog_6_method_6_code 131 = .ok (.ifCond .ne 7, 3) := by decide +kernel
theorem d5_134 : decode prog_6_method_6_code 134 = .ok (.iconst 1, 1) := by decide +kernel
theorem d5_135 : decode prog_6_method_6_code 135 = .ok (.goto 4, 3) := by decide +kernel
theorem d5_24 : decode prog_6_method_6_code 24 = .ok (.iload_n 2, 1) := by decide +kernel
theorem d5_25 : decode prog_6_method_6_code 25 = .ok (.aload_n 0, 1) := by decide +kernel
theorem d5_26 : decode prog_6_method_6_code 26 = .ok (.invokevirtual 101, 3) := by decide +kernel
theorem pd___I : parseMethodDescriptor "()I" = some ⟨[], some .int⟩ := by decide +kernel
theorem d5_29 : decode prog_6_method_6_code 29 = .ok (.if_icmp .ge 73, 3) := by decide +kernel
theorem d5_32 : decode prog_6_method_6_code 32 = .ok (.iload_n 1, 1) := by decide +kernel
theorem d5_33 : decode prog_6_method_6_code 33 = .ok (.ifCond .eq 69, 3) := by decide +kernel
theorem d5_36 : decode prog_6_method_6_code 36 = .ok (.aload_n 0, 1) := by decide +kernel
theorem d5_37 : decode prog_6_method_6_code 37 = .ok (.iload_n 2, 1) := by decide +kernel
theorem d5_38 : decode prog_6_method_6_code 38 = .ok (.invokevirtual 180, 3) := by decide +kernel
theorem pd__I_C : parseMethodDescriptor "(I)C" = some ⟨[.int], some .char⟩ := by decide +kernel
theorem d5_41 : decode prog_6_method_6_code 41 = .ok (.istore_n 3, 1) := by decide +kernel
theorem os_b_5_41 {y0 : Value} {y1 : Value} {y2 : Value} {s3 : Slot} {v : Int32} (h : One s3) : storeLocals #[.val y0, .val y1, .val y2, s3] 3 (.int v) = some #[.val y0, .val y1, .val y2, .val (.int v)] := by
  rcases h with rfl | ⟨w, rfl, hw⟩
  · rfl
  · cases w <;> first | rfl | (simp [Value.category] at hw)
theorem d5_42 : decode prog_6_method_6_code 42 = .ok (.iload_n 3, 1) := by decide +kernel
theorem d5_43 : decode prog_6_method_6_code 43 = .ok (.bipush 65, 2) := by decide +kernel
theorem d5_45 : decode prog_6_method_6_code 45 = .ok (.if_icmp .lt 9, 3) := by decide +kernel
theorem d5_54 : decode prog_6_method_6_code 54 = .ok (.iload_n 3, 1) := by decide +kernel
theorem d5_55 : decode prog_6_method_6_code 55 = .ok (.bipush 97, 2) := by decide +kernel
theorem d5_57 : decode prog_6_method_6_code 57 = .ok (.if_icmp .lt 9, 3) := by decide +kernel
theorem d5_66 : decode prog_6_method_6_code 66 = .ok (.iload_n 3, 1) := by decide +kernel
theorem d5_67 : decode prog_6_method_6_code 67 = .ok (.bipush 48, 2) := by decide +kernel
theorem d5_69 : decode prog_6_method_6_code 69 = .ok (.if_icmp .lt 9, 3) := by decide +kernel
theorem d5_78 : decode prog_6_method_6_code 78 = .ok (.iload_n 3, 1) := by decide +kernel
theorem d5_79 : decode prog_6_method_6_code 79 = .ok (.bipush 45, 2) := by decide +kernel
theorem d5_81 : decode prog_6_method_6_code 81 = .ok (.if_icmp .eq 9, 3) := by decide +kernel
theorem d5_90 : decode prog_6_method_6_code 90 = .ok (.iconst 1, 1) := by decide +kernel
theorem d5_91 : decode prog_6_method_6_code 91 = .ok (.goto 4, 3) := by decide +kernel
theorem d5_84 : decode prog_6_method_6_code 84 = .ok (.iload_n 3, 1) := by decide +kernel
theorem d5_85 : decode prog_6_method_6_code 85 = .ok (.bipush 46, 2) := by decide +kernel
theorem d5_87 : decode prog_6_method_6_code 87 = .ok (.if_icmp .ne 7, 3) := by decide +kernel
theorem d5_94 : decode prog_6_method_6_code 94 = .ok (.iconst 0, 1) := by decide +kernel
theorem d5_72 : decode prog_6_method_6_code 72 = .ok (.iload_n 3, 1) := by decide +kernel
theorem d5_73 : decode prog_6_method_6_code 73 = .ok (.bipush 57, 2) := by decide +kernel
theorem d5_75 : decode prog_6_method_6_code 75 = .ok (.if_icmp .le 15, 3) := by decide +kernel
theorem d5_60 : decode prog_6_method_6_code 60 = .ok (.iload_n 3, 1) := by decide +kernel
theorem d5_61 : decode prog_6_method_6_code 61 = .ok (.bipush 122, 2) := by decide +kernel
theorem d5_63 : decode prog_6_method_6_code 63 = .ok (.if_icmp .le 27, 3) := by decide +kernel
theorem d5_48 : decode prog_6_method_6_code 48 = .ok (.iload_n 3, 1) := by decide +kernel
theorem d5_49 : decode prog_6_method_6_code 49 = .ok (.bipush 90, 2) := by decide +kernel
theorem d5_51 : decode prog_6_method_6_code 51 = .ok (.if_icmp .le 39, 3) := by decide +kernel
theorem d5_95 : decode prog_6_method_6_code 95 = .ok (.istore_n 1, 1) := by decide +kernel
theorem d5_96 : decode prog_6_method_6_code 96 = .ok (.iinc 2 1, 3) := by decide +kernel
theorem d5_99 : decode prog_6_method_6_code 99 = .ok (.goto (-75), 3) := by decide +kernel
theorem d5_0 : decode prog_6_method_6_code 0 = .ok (.aload_n 0, 1) := by decide +kernel
theorem d5_1 : decode prog_6_method_6_code 1 = .ok (.invokevirtual 79, 3) := by decide +kernel
theorem d5_4 : decode prog_6_method_6_code 4 = .ok (.ifCond .ne 16, 3) := by decide +kernel
theorem d5_20 : decode prog_6_method_6_code 20 = .ok (.iconst 0, 1) := by decide +kernel
theorem d5_21 : decode prog_6_method_6_code 21 = .ok (.istore_n 1, 1) := by decide +kernel
theorem d5_22 : decode prog_6_method_6_code 22 = .ok (.iconst 0, 1) := by decide +kernel
theorem d5_23 : decode prog_6_method_6_code 23 = .ok (.istore_n 2, 1) := by decide +kernel
theorem d5_7 : decode prog_6_method_6_code 7 = .ok (.aload_n 0, 1) := by decide +kernel
theorem d5_8 : decode prog_6_method_6_code 8 = .ok (.invokevirtual 101, 3) := by decide +kernel
theorem d5_11 : decode prog_6_method_6_code 11 = .ok (.bipush 64, 2) := by decide +kernel
theorem d5_13 : decode prog_6_method_6_code 13 = .ok (.if_icmp .gt 7, 3) := by decide +kernel
theorem d5_16 : decode prog_6_method_6_code 16 = .ok (.iconst 1, 1) := by decide +kernel
theorem d5_17 : decode prog_6_method_6_code 17 = .ok (.goto 4, 3) := by decide +kernel
theorem pn_com_example_bewaker_bewaker_fhir_Interaction : plainName "com/example/bewaker/bewaker/fhir/Interaction" = true := by first | (simp [plainName, overriddenIn]; done) | decide +kernel
theorem pd__C_Z : parseMethodDescriptor "(C)Z" = some ⟨[.char], some .boolean⟩ := by decide +kernel
theorem pd___C_V : parseMethodDescriptor "([C)V" = some ⟨[(.array .char)], none⟩ := by decide +kernel
theorem pd__Ljava_lang_String__Z : parseMethodDescriptor "(Ljava/lang/String;)Z" = some ⟨[(.object "java/lang/String")], some .boolean⟩ := by decide +kernel
theorem pd__CCCC__C : parseMethodDescriptor "(CCCC)[C" = some ⟨[.char, .char, .char, .char], some (.array .char)⟩ := by decide +kernel
theorem ef_rmCd0 (m : MethodId) (x0 : Addr) (x1 : Int32) : entryFrame m #[(.ref x0), (.int x1)] 2 = mkF m 0 #[.val (.ref x0), .val (.int x1)] [] := by first | (simp [entryFrame, mkF, argsToLocals, Value.category]; done) | rfl
set_option maxRecDepth 65536 in
set_option maxHeartbeats 40000000 in
theorem rmCd0 (l : Launch) (Z : State) (a0 : Array Value) (hw : ∀ d ∈ tables_1, d.before a0 Z = true) (ws : List Jvm.Cond) (b1 : Addr) (z : Int32) (n : Nat) (f : Nat → Int32) (h0 : Heap) (F1 : own_A Z h0 b1 .byte n f) (hz : z.toInt = n) :
    own_Ct l Z (⟨"java/lang/StringUTF16", "coderFromArrayLen", "([BI)B"⟩ : MethodName) jdk_52_method_15_code 2 (some .byte) ws ({ frames := 0, cells := 0, slots := 0, locals := 0 } : Room) #[(.ref b1), (.int z)] h0 (fun v h L => v = some (.int 0) ∧ L = [] ∧ h = h0) := by
  refine own_of (plainFor_of_name pn_java_lang_StringUTF16) ?_
  intro p e s m below meth c s₁ hx hby hml hown hnm hret hlk hZ X0 e0
  rw [ef_rmCd0]
  refine own_by (T' := s₁) (f' := (mkF m 1 #[.val (.ref b1), .val (.int z)] [(.int z)])) (fun t k => XS.iloadN X0.here hx rfl (hb hby d13_0) rfl k) ?_
  refine own_by (T' := s₁) (f' := (mkF m 2 #[.val (.ref b1), .val (.int z)] [(.ref b1), (.int z)])) (fun t k => XS.aloadN X0.here hx rfl (hb hby d13_1) rfl rfl k) ?_
  refine own_alen (j := z) X0 hx hZ e0 (hb hby d13_2) F1 hz ?_
  show own_Go p e below _ s₁ (mkF m 3 #[.val (.ref b1), .val (.int z)] [(.int z), (.int z)])
  refine own_by (T' := s₁) (f' := (mkF m 4 #[.val (.ref b1), .val (.int z)] [(.int (z - z))])) (fun t k => XS.isub X0.here hx rfl (hb hby d13_3) rfl k) ?_
  refine own_by (T' := s₁) (f' := (mkF m 6 #[.val (.ref b1), .val (.int z)] [(.int (31 : Int32)), (.int (z - z))])) (fun t k => XS.bipush X0.here hx rfl (hb hby d13_4) k) ?_
  refine own_by (T' := s₁) (f' := (mkF m 7 #[.val (.ref b1), .val (.int z)] [(.int (((z - z).toUInt32 >>> ((31 : Int32) &&& 31).toUInt32).toInt32))])) (fun t k => XS.iushr X0.here hx rfl (hb hby d13_6) rfl k) ?_
  refine own_by (T' := s₁) (f' := (mkF m 8 #[.val (.ref b1), .val (.int z)] [(.int ((((z - z).toUInt32 >>> ((31 : Int32) &&& 31).toUInt32).toInt32).toInt8.toInt32))])) (fun t k => XS.i2b X0.here hx rfl (hb hby d13_7) rfl k) ?_
  rw [own_cd0]
  show own_Go p e below _ s₁ (mkF m 8 #[.val (.ref b1), .val (.int z)] [(.int (0 : Int32))])
  refine own_ret X0 hx hret hlk (hb hby d13_8) rfl (Or.inl ⟨rfl, Or.inr (Or.inr (Or.inl rfl)), _, rfl⟩) (by decide) (by decide) ?_
  try rw [e0]
  exact ⟨rfl, rfl, rfl⟩
abbrev QC5 (Z : State) (h0 : Heap) (n0 : Nat) (b1 : Addr) (n : Nat) (f g : Nat → Int32) (v : Option Value) (h : Heap) (L : List Loc) : Prop := ∃ r : Int32, v = some (.int r) ∧ r.toInt = (own_fst f n : Nat) ∧ Fr n0 L ∧ Keep h0 h [b1] ∧ own_A Z h b1 .byte n (fun i => if i < own_fst f n then own_b8 (f i) else g i)
theorem ef_rmC5 (m : MethodId) (x0 : Addr) (x1 : Int32) (x2 : Addr) (x3 : Int32) (x4 : Int32) : entryFrame m #[(.ref x0), (.int x1), (.ref x2), (.int x3), (.int x4)] 7 = mkF m 0 #[.val (.ref x0), .val (.int x1), .val (.ref x2), .val (.int x3), .val (.int x4), .unset, .unset] [] := by first | (simp [entryFrame, mkF, argsToLocals, Value.category]; done) | rfl
set_option maxRecDepth 65536 in
set_option maxHeartbeats 40000000 in
theorem rmC5 (l : Launch) (Z : State) (a0 : Array Value) (hw : ∀ d ∈ tables_1, d.before a0 Z = true) (ws : List Jvm.Cond) (a1 b1 : Addr) (z : Int32) (n : Nat) (f g : Nat → Int32) (h0 : Heap) (n0 : Nat) (gb : n0 ≤ b1) (hab : a1 ≠ b1) (hz : z.toInt = n) (hn : n < 2147483648) (A1 : own_A Z h0 a1 .char n f) (B1 : own_A Z h0 b1 .byte n g) :
    own_Ct l Z (⟨"java/lang/StringUTF16", "compress", "([CI[BII)I"⟩ : MethodName) jdk_52_method_21_code 7 (some .int) ws ({ frames := 0, cells := 0, slots := 0, locals := 0 } : Room) #[(.ref a1), (.int (0 : Int32)), (.ref b1), (.int (0 : Int32)), (.int z)] h0 (QC5 Z h0 n0 b1 n f g) := by
  refine own_of (plainFor_of_name pn_java_lang_StringUTF16) ?_
  intro p e s m below meth c s₁ hx hby hml hown hnm hret hlk hZ X0 e0
  have loop : ∀ (k j : Nat) (iv : Int32) (s6 : Slot) (TL : State) (hL : Heap) (LL : List Loc), j + k = n → iv.toInt = (j : Nat) → One s6 → own_fst f n = own_fstA f k j → Stand p l e ({ frames := 0, cells := 0, slots := 0, locals := 0 } : Room) s m #[(.ref a1), (.int (0 : Int32)), (.ref b1), (.int (0 : Int32)), (.int z)] below meth c TL LL 0 0 → TL.heap = hL → own_A Z hL a1 .char n f → own_A Z hL b1 .byte n (fun i => if i < j then own_b8 (f i) else g i) → Keep h0 hL [b1] → Fr n0 LL → own_Go p e below (own_Ends s ({ frames := 0, cells := 0, slots := 0, locals := 0 } : Room) (QC5 Z h0 n0 b1 n f g)) TL (mkF m 3 #[.val (.ref a1), .val (.int iv), .val (.ref b1), .val (.int iv), .val (.int z), .val (.int iv), s6] []) := by
    intro k
    induction k with
    | zero =>
      intro j iv s6 TL hL LL hjk hiv hs6 hF XL eL AL BL KL NL
      refine own_by (T' := TL) (f' := (mkF m 5 #[.val (.ref a1), .val (.int iv), .val (.ref b1), .val (.int iv), .val (.int z), .val (.int iv), s6] [(.int iv)])) (fun t k => XS.iload XL.here hx rfl (hb hby d12_3) rfl k) ?_
      refine own_by (T' := TL) (f' := (mkF m 7 #[.val (.ref a1), .val (.int iv), .val (.ref b1), .val (.int iv), .val (.int z), .val (.int iv), s6] [(.int z), (.int iv)])) (fun t k => XS.iload XL.here hx rfl (hb hby d12_5) rfl k) ?_
      have hc7_51 : ¬ (iv < z) := (by rw [Int32.lt_iff_toInt_lt]; omega)
      refine own_by (T' := TL) (f' := (mkF m 44 #[.val (.ref a1), .val (.int iv), .val (.ref b1), .val (.int iv), .val (.int z), .val (.int iv), s6] [])) (fun t k => XS.icmpYes XL.here hx rfl (pc0 := 7) (pc' := 44) rfl (hb hby d12_7) rfl (flt hc7_51).2.1 (by decide) (by decide) k) ?_
      refine own_by (T' := TL) (f' := (mkF m 46 #[.val (.ref a1), .val (.int iv), .val (.ref b1), .val (.int iv), .val (.int z), .val (.int iv), s6] [(.int z)])) (fun t k => XS.iload XL.here hx rfl (hb hby d12_44) rfl k) ?_
      refine own_retI XL hx hret hlk (hb hby d12_46) (by decide) (by decide) ?_
      try rw [eL]
      exact ⟨z, rfl, by rw [hF, own_fstA]; omega, NL, KL, by rw [hF, own_fstA]; exact BL⟩
    | succ k ih =>
      intro j iv s6 TL hL LL hjk hiv hs6 hF XL eL AL BL KL NL
      refine own_by (T' := TL) (f' := (mkF m 5 #[.val (.ref a1), .val (.int iv), .val (.ref b1), .val (.int iv), .val (.int z), .val (.int iv), s6] [(.int iv)])) (fun t k => XS.iload XL.here hx rfl (hb hby d12_3) rfl k) ?_
      refine own_by (T' := TL) (f' := (mkF m 7 #[.val (.ref a1), .val (.int iv), .val (.ref b1), .val (.int iv), .val (.int z), .val (.int iv), s6] [(.int z), (.int iv)])) (fun t k => XS.iload XL.here hx rfl (hb hby d12_5) rfl k) ?_
      have hc7_51 : iv < z := (by rw [Int32.lt_iff_toInt_lt]; omega)
      refine own_by (T' := TL) (f' := (mkF m 10 #[.val (.ref a1), .val (.int iv), .val (.ref b1), .val (.int iv), .val (.int z), .val (.int iv), s6] [])) (fun t k => XS.icmpNo XL.here hx rfl (hb hby d12_7) rfl (tlt hc7_51).2.1 k) ?_
      refine own_by (T' := TL) (f' := (mkF m 11 #[.val (.ref a1), .val (.int iv), .val (.ref b1), .val (.int iv), .val (.int z), .val (.int iv), s6] [(.ref a1)])) (fun t k => XS.aloadN XL.here hx rfl (hb hby d12_10) rfl rfl k) ?_
      refine own_by (T' := TL) (f' := (mkF m 12 #[.val (.ref a1), .val (.int iv), .val (.ref b1), .val (.int iv), .val (.int z), .val (.int iv), s6] [(.int iv), (.ref a1)])) (fun t k => XS.iloadN XL.here hx rfl (hb hby d12_11) rfl k) ?_
      refine own_ldC XL hx hZ eL (hb hby d12_12) AL (by first | decide | omega) (by first | decide | omega) ?_
      rw [show iv.toInt.toNat = j from by omega]
      show own_Go p e below _ TL (mkF m 13 #[.val (.ref a1), .val (.int iv), .val (.ref b1), .val (.int iv), .val (.int z), .val (.int iv), s6] [(.int (f j))])
      refine own_by (T' := TL) (f' := (mkF m 15 #[.val (.ref a1), .val (.int iv), .val (.ref b1), .val (.int iv), .val (.int z), .val (.int iv), .val (.int (f j))] [])) (fun t k => XS.istore XL.here hx rfl (hb hby d12_13) rfl (l' := #[.val (.ref a1), .val (.int iv), .val (.ref b1), .val (.int iv), .val (.int z), .val (.int iv), .val (.int (f j))]) (os_C5_12_13 hs6) k) ?_
      refine own_by (T' := TL) (f' := (mkF m 17 #[.val (.ref a1), .val (.int iv), .val (.ref b1), .val (.int iv), .val (.int z), .val (.int iv), .val (.int (f j))] [(.int (f j))])) (fun t k => XS.iload XL.here hx rfl (hb hby d12_15) rfl k) ?_
      refine own_by (T' := TL) (f' := (mkF m 20 #[.val (.ref a1), .val (.int iv), .val (.ref b1), .val (.int iv), .val (.int z), .val (.int iv), .val (.int (f j))] [(.int (255 : Int32)), (.int (f j))])) (fun t k => XS.sipush XL.here hx rfl (hb hby d12_17) k) ?_
      by_cases hc20_52 : (255 : Int32) < (f j)
      · have _ := XL
        refine own_by (T' := TL) (f' := (mkF m 23 #[.val (.ref a1), .val (.int iv), .val (.ref b1), .val (.int iv), .val (.int z), .val (.int iv), .val (.int (f j))] [])) (fun t k => XS.icmpNo XL.here hx rfl (hb hby d12_20) rfl (tlt hc20_52).2.2.2 k) ?_
        refine own_by (T' := TL) (f' := (mkF m 25 #[.val (.ref a1), .val (.int iv), .val (.ref b1), .val (.int iv), .val (.int z), .val (.int iv), .val (.int (f j))] [(.int iv)])) (fun t k => XS.iload XL.here hx rfl (hb hby d12_23) rfl k) ?_
        refine own_retI XL hx hret hlk (hb hby d12_25) (by decide) (by decide) ?_
        try rw [eL]
        exact ⟨iv, rfl, by rw [hF, own_fstA, if_pos hc20_52]; exact hiv, NL, KL, by rw [hF, own_fstA, if_pos hc20_52]; exact BL⟩
      · have _ := XL
        refine own_by (T' := TL) (f' := (mkF m 26 #[.val (.ref a1), .val (.int iv), .val (.ref b1), .val (.int iv), .val (.int z), .val (.int iv), .val (.int (f j))] [])) (fun t k => XS.icmpYes XL.here hx rfl (pc0 := 20) (pc' := 26) rfl (hb hby d12_20) rfl (flt hc20_52).2.2.2 (by decide) (by decide) k) ?_
        refine own_by (T' := TL) (f' := (mkF m 27 #[.val (.ref a1), .val (.int iv), .val (.ref b1), .val (.int iv), .val (.int z), .val (.int iv), .val (.int (f j))] [(.ref b1)])) (fun t k => XS.aloadN XL.here hx rfl (hb hby d12_26) rfl rfl k) ?_
        refine own_by (T' := TL) (f' := (mkF m 28 #[.val (.ref a1), .val (.int iv), .val (.ref b1), .val (.int iv), .val (.int z), .val (.int iv), .val (.int (f j))] [(.int iv), (.ref b1)])) (fun t k => XS.iloadN XL.here hx rfl (hb hby d12_27) rfl k) ?_
        refine own_by (T' := TL) (f' := (mkF m 30 #[.val (.ref a1), .val (.int iv), .val (.ref b1), .val (.int iv), .val (.int z), .val (.int iv), .val (.int (f j))] [(.int (f j)), (.int iv), (.ref b1)])) (fun t k => XS.iload XL.here hx rfl (hb hby d12_28) rfl k) ?_
        refine own_by (T' := TL) (f' := (mkF m 31 #[.val (.ref a1), .val (.int iv), .val (.ref b1), .val (.int iv), .val (.int z), .val (.int iv), .val (.int (f j))] [(.int ((f j).toInt8.toInt32)), (.int iv), (.ref b1)])) (fun t k => XS.i2b XL.here hx rfl (hb hby d12_30) rfl k) ?_
        refine own_stB XL hx hZ eL (hb hby d12_31) BL (by first | decide | omega) (by first | decide | omega) ?_
        intro T53 h53 X53 e53 W53 A53
        show own_Go p e below _ T53 (mkF m 32 #[.val (.ref a1), .val (.int iv), .val (.ref b1), .val (.int iv), .val (.int z), .val (.int iv), .val (.int (f j))] [])
        have K54 := KL.wr W53 (Or.inl (List.mem_of_getElem? (i := 0) rfl))
        have N53 := Fr.snoc X53 NL gb
        have A55 : own_A Z h53 b1 .byte n (fun i => if i < (j + 1) then own_b8 (f i) else g i) := A53.congr (fun i hi => by rw [show iv.toInt.toNat = j from by omega]; exact own_upd j (fun i => own_b8 (f i)) g i)
        refine own_by (T' := T53) (f' := (mkF m 35 #[.val (.ref a1), .val (.int (iv + (1 : Int32))), .val (.ref b1), .val (.int iv), .val (.int z), .val (.int iv), .val (.int (f j))] [])) (fun t k => XS.iinc X53.here hx rfl (hb hby d12_32) rfl (l' := #[.val (.ref a1), .val (.int (iv + (1 : Int32))), .val (.ref b1), .val (.int iv), .val (.int z), .val (.int iv), .val (.int (f j))]) rfl k) ?_
        refine own_by (T' := T53) (f' := (mkF m 38 #[.val (.ref a1), .val (.int (iv + (1 : Int32))), .val (.ref b1), .val (.int (iv + (1 : Int32))), .val (.int z), .val (.int iv), .val (.int (f j))] [])) (fun t k => XS.iinc X53.here hx rfl (hb hby d12_35) rfl (l' := #[.val (.ref a1), .val (.int (iv + (1 : Int32))), .val (.ref b1), .val (.int (iv + (1 : Int32))), .val (.int z), .val (.int iv), .val (.int (f j))]) rfl k) ?_
        refine own_by (T' := T53) (f' := (mkF m 41 #[.val (.ref a1), .val (.int (iv + (1 : Int32))), .val (.ref b1), .val (.int (iv + (1 : Int32))), .val (.int z), .val (.int (iv + (1 : Int32))), .val (.int (f j))] [])) (fun t k => XS.iinc X53.here hx rfl (hb hby d12_38) rfl (l' := #[.val (.ref a1), .val (.int (iv + (1 : Int32))), .val (.ref b1), .val (.int (iv + (1 : Int32))), .val (.int z), .val (.int (iv + (1 : Int32))), .val (.int (f j))]) rfl k) ?_
        refine own_by (T' := T53) (f' := (mkF m 3 #[.val (.ref a1), .val (.int (iv + (1 : Int32))), .val (.ref b1), .val (.int (iv + (1 : Int32))), .val (.int z), .val (.int (iv + (1 : Int32))), .val (.int (f j))] [])) (fun t k => XS.goto X53.here hx rfl (pc0 := 41) (pc' := 3) rfl (hb hby d12_41) (by decide) (by decide) k) ?_
        have f56 := (AL.other W53 hab)
        exact ih (j + 1) (iv + (1 : Int32)) _ T53 h53 _ (by omega) (own_inc hiv (by omega) hn) (One.val rfl) (hF.trans (by rw [own_fstA, if_neg hc20_52])) X53 e53 f56 A55 K54 N53
  rw [ef_rmC5]
  refine own_by (T' := s₁) (f' := (mkF m 1 #[.val (.ref a1), .val (.int (0 : Int32)), .val (.ref b1), .val (.int (0 : Int32)), .val (.int z), .unset, .unset] [(.int (0 : Int32))])) (fun t k => XS.iconst X0.here hx rfl (hb hby d12_0) k) ?_
  refine own_by (T' := s₁) (f' := (mkF m 3 #[.val (.ref a1), .val (.int (0 : Int32)), .val (.ref b1), .val (.int (0 : Int32)), .val (.int z), .val (.int (0 : Int32)), .unset] [])) (fun t k => XS.istore X0.here hx rfl (hb hby d12_1) rfl (l' := #[.val (.ref a1), .val (.int (0 : Int32)), .val (.ref b1), .val (.int (0 : Int32)), .val (.int z), .val (.int (0 : Int32)), .unset]) rfl k) ?_
  exact loop n 0 0 _ s₁ h0 [] (by omega) (by decide) One.u rfl X0 e0 A1 (B1.congr fun i _ => by simp) (Keep.refl h0 [b1]) (Fr.nil n0)
theorem ef_rmPCn (m : MethodId) (x0 : Int32) (x1 : Int32) : entryFrame m #[(.int x0), (.int x1), .null] 3 = mkF m 0 #[.val (.int x0), .val (.int x1), .val .null] [] := by first | (simp [entryFrame, mkF, argsToLocals, Value.category]; done) | rfl
set_option maxRecDepth 65536 in
set_option maxHeartbeats 40000000 in
theorem rmPCn (l : Launch) (Z : State) (a0 : Array Value) (hw : ∀ d ∈ tables_1, d.before a0 Z = true) (ws : List Jvm.Cond) (iv ln : Int32) (h0 : Heap) (g0 : 0 ≤ iv.toInt) (hlt : iv < ln) :
    own_Ct l Z (⟨"jdk/internal/util/Preconditions", "checkIndex", "(IILjava/util/function/BiFunction;)I"⟩ : MethodName) jdk_41_method_11_code 3 (some .int) ws ({ frames := 0, cells := 0, slots := 0, locals := 0 } : Room) #[(.int iv), (.int ln), .null] h0 (fun v h L => v = some (.int iv) ∧ L = [] ∧ h = h0) := by
  refine own_of (plainFor_of_name pn_jdk_internal_util_Preconditions) ?_
  intro p e s m below meth c s₁ hx hby hml hown hnm hret hlk hZ X0 e0
  rw [ef_rmPCn]
  refine own_by (T' := s₁) (f' := (mkF m 1 #[.val (.int iv), .val (.int ln), .val .null] [(.int iv)])) (fun t k => XS.iloadN X0.here hx rfl (hb hby d18_0) rfl k) ?_
  have hc1_1 : ¬ (iv < (0 : Int32)) := own_nl0 g0
  refine own_by (T' := s₁) (f' := (mkF m 4 #[.val (.int iv), .val (.int ln), .val .null] [])) (fun t k => XS.ifNo X0.here hx rfl (hb hby d18_1) rfl ((if0 _ _).trans (flt hc1_1).1) k) ?_
  refine own_by (T' := s₁) (f' := (mkF m 5 #[.val (.int iv), .val (.int ln), .val .null] [(.int iv)])) (fun t k => XS.iloadN X0.here hx rfl (hb hby d18_4) rfl k) ?_
  refine own_by (T' := s₁) (f' := (mkF m 6 #[.val (.int iv), .val (.int ln), .val .null] [(.int ln), (.int iv)])) (fun t k => XS.iloadN X0.here hx rfl (hb hby d18_5) rfl k) ?_
  have hc6_2 : iv < ln := hlt
  refine own_by (T' := s₁) (f' := (mkF m 16 #[.val (.int iv), .val (.int ln), .val .null] [])) (fun t k => XS.icmpYes X0.here hx rfl (pc0 := 6) (pc' := 16) rfl (hb hby d18_6) rfl (tlt hc6_2).1 (by decide) (by decide) k) ?_
  refine own_by (T' := s₁) (f' := (mkF m 17 #[.val (.int iv), .val (.int ln), .val .null] [(.int iv)])) (fun t k => XS.iloadN X0.here hx rfl (hb hby d18_16) rfl k) ?_
  refine own_retI X0 hx hret hlk (hb hby d18_17) (by decide) (by decide) ?_
  try rw [e0]
  exact ⟨rfl, rfl, rfl⟩
theorem ef_rmPCr (m : MethodId) (x0 : Int32) (x1 : Int32) (x2 : Addr) : entryFrame m #[(.int x0), (.int x1), (.ref x2)] 3 = mkF m 0 #[.val (.int x0), .val (.int x1), .val (.ref x2)] [] := by first | (simp [entryFrame, mkF, argsToLocals, Value.category]; done) | rfl
set_option maxRecDepth 65536 in
set_option maxHeartbeats 40000000 in
theorem rmPCr (l : Launch) (Z : State) (a0 : Array Value) (hw : ∀ d ∈ tables_1, d.before a0 Z = true) (ws : List Jvm.Cond) (iv ln : Int32) (a9 : Addr) (h0 : Heap) (g0 : 0 ≤ iv.toInt) (hlt : iv < ln) :
    own_Ct l Z (⟨"jdk/internal/util/Preconditions", "checkIndex", "(IILjava/util/function/BiFunction;)I"⟩ : MethodName) jdk_41_method_11_code 3 (some .int) ws ({ frames := 0, cells := 0, slots := 0, locals := 0 } : Room) #[(.int iv), (.int ln), (.ref a9)] h0 (fun v h L => v = some (.int iv) ∧ L = [] ∧ h = h0) := by
  refine own_of (plainFor_of_name pn_jdk_internal_util_Preconditions) ?_
  intro p e s m below meth c s₁ hx hby hml hown hnm hret hlk hZ X0 e0
  rw [ef_rmPCr]
  refine own_by (T' := s₁) (f' := (mkF m 1 #[.val (.int iv), .val (.int ln), .val (.ref a9)] [(.int iv)])) (fun t k => XS.iloadN X0.here hx rfl (hb hby d18_0) rfl k) ?_
  have hc1_1 : ¬ (iv < (0 : Int32)) := own_nl0 g0
  refine own_by (T' := s₁) (f' := (mkF m 4 #[.val (.int iv), .val (.int ln), .val (.ref a9)] [])) (fun t k => XS.ifNo X0.here hx rfl (hb hby d18_1) rfl ((if0 _ _).trans (flt hc1_1).1) k) ?_
  refine own_by (T' := s₁) (f' := (mkF m 5 #[.val (.int iv), .val (.int ln), .val (.ref a9)] [(.int iv)])) (fun t k => XS.iloadN X0.here hx rfl (hb hby d18_4) rfl k) ?_
  refine own_by (T' := s₁) (f' := (mkF m 6 #[.val (.int iv), .val (.int ln), .val (.ref a9)] [(.int ln), (.int iv)])) (fun t k => XS.iloadN X0.here hx rfl (hb hby d18_5) rfl k) ?_
  have hc6_2 : iv < ln := hlt
  refine own_by (T' := s₁) (f' := (mkF m 16 #[.val (.int iv), .val (.int ln), .val (.ref a9)] [])) (fun t k => XS.icmpYes X0.here hx rfl (pc0 := 6) (pc' := 16) rfl (hb hby d18_6) rfl (tlt hc6_2).1 (by decide) (by decide) k) ?_
  refine own_by (T' := s₁) (f' := (mkF m 17 #[.val (.int iv), .val (.int ln), .val (.ref a9)] [(.int iv)])) (fun t k => XS.iloadN X0.here hx rfl (hb hby d18_16) rfl k) ?_
  refine own_retI X0 hx hret hlk (hb hby d18_17) (by decide) (by decide) ?_
  try rw [e0]
  exact ⟨rfl, rfl, rfl⟩
theorem rmPC (l : Launch) (Z : State) (a0 : Array Value) (hw : ∀ d ∈ tables_1, d.before a0 Z = true) (ws : List Jvm.Cond) (iv ln : Int32) (fm : Value) (h0 : Heap) (g0 : 0 ≤ iv.toInt) (hlt : iv < ln) (hfm : fm.isRef = true) : own_Ct l Z (⟨"jdk/internal/util/Preconditions", "checkIndex", "(IILjava/util/function/BiFunction;)I"⟩ : MethodName) jdk_41_method_11_code 3 (some .int) ws ({ frames := 0, cells := 0, slots := 0, locals := 0 } : Room) #[(.int iv), (.int ln), fm] h0 (fun v h L => v = some (.int iv) ∧ L = [] ∧ h = h0) := by
  rcases ref_cases hfm with rfl | ⟨a9, rfl⟩
  · exact rmPCn l Z a0 hw ws iv ln h0 g0 hlt
  · exact rmPCr l Z a0 hw ws iv ln a9 h0 g0 hlt
theorem ef_rmCI (m : MethodId) (x0 : Int32) (x1 : Int32) : entryFrame m #[(.int x0), (.int x1)] 2 = mkF m 0 #[.val (.int x0), .val (.int x1)] [] := by first | (simp [entryFrame, mkF, argsToLocals, Value.category]; done) | rfl
set_option maxRecDepth 65536 in
set_option maxHeartbeats 40000000 in
theorem rmCI (l : Launch) (Z : State) (a0 : Array Value) (hw : ∀ d ∈ tables_1, d.before a0 Z = true) (ws : List Jvm.Cond) (iv ln : Int32) (cs : Int32) (fm : Value) (h0 : Heap) (g0 : 0 ≤ iv.toInt) (hlt : iv < ln) (ST : own_St Z h0 cs fm) :
    own_Ct l Z (⟨"java/lang/String", "checkIndex", "(II)V"⟩ : MethodName) jdk_42_method_155_code 2 none ws ({ frames := 1, cells := 0, slots := 0, locals := 14 } : Room) #[(.int iv), (.int ln)] h0 (fun v h L => v = none ∧ L = [] ∧ h = h0) := by
  refine own_of (plainFor_of_name pn_java_lang_String) ?_
  intro p e s m below meth c s₁ hx hby hml hown hnm hret hlk hZ X0 e0
  rw [ef_rmCI]
  refine own_by (T' := s₁) (f' := (mkF m 1 #[.val (.int iv), .val (.int ln)] [(.int iv)])) (fun t k => XS.iloadN X0.here hx rfl (hb hby d17_0) rfl k) ?_
  refine own_by (T' := s₁) (f' := (mkF m 2 #[.val (.int iv), .val (.int ln)] [(.int ln), (.int iv)])) (fun t k => XS.iloadN X0.here hx rfl (hb hby d17_1) rfl k) ?_
  refine own_getS (host := "") X0 hx hZ hown e0 (hb hby d17_2) (Or.inl (hw _ (List.mem_of_getElem? (i := 84) rfl))) Via.refl ST.2.2.2.2.1 ?_
  intro T11 X11 e11
  show own_Go p e below _ T11 (mkF m 5 #[.val (.int iv), .val (.int ln)] [fm, (.int ln), (.int iv)])
  refine own_callS X11 hx hZ hown e11 (hb hby d17_5) [(.int iv), (.int ln), fm] [] 0 (rmPC l Z a0 hw [] iv ln fm h0 g0 hlt ST.2.2.2.2.2.2) (hw _ (List.mem_of_getElem? (i := 86) rfl)) (hw _ (List.mem_of_getElem? (i := 87) rfl)) (hw _ (List.mem_of_getElem? (i := 85) rfl)) (hw _ (List.mem_of_getElem? (i := 88) rfl)) (by decide) pd__IILjava_util_function_BiFunction__I (by rw [hml]; rfl) rfl rfl (Nat.le_of_eq rfl) (by decide) (by decide) (by decide) (by decide) ?_
  rintro T12 _ L12 X12 ⟨rfl, rfl, e12⟩
  show own_Go p e below _ T12 (mkF m 8 #[.val (.int iv), .val (.int ln)] [(.int iv)])
  rw [List.append_nil] at X12
  refine own_by (T' := T12) (f' := (mkF m 9 #[.val (.int iv), .val (.int ln)] [])) (fun t k => XS.pop X12.here hx rfl (hb hby d17_8) rfl rfl k) ?_
  refine own_retV X12 hx hret hlk (hb hby d17_9) (by decide) (by decide) ?_
  try rw [e12]
  exact ⟨rfl, rfl, rfl⟩
theorem ef_rmLC (m : MethodId) (x0 : Addr) (x1 : Int32) : entryFrame m #[(.ref x0), (.int x1)] 2 = mkF m 0 #[.val (.ref x0), .val (.int x1)] [] := by first | (simp [entryFrame, mkF, argsToLocals, Value.category]; done) | rfl
set_option maxRecDepth 65536 in
set_option maxHeartbeats 40000000 in
theorem rmLC (l : Launch) (Z : State) (a0 : Array Value) (hw : ∀ d ∈ tables_1, d.before a0 Z = true) (ws : List Jvm.Cond) (b1 : Addr) (iv z : Int32) (j n : Nat) (f : Nat → Int32) (cs : Int32) (fm : Value) (h0 : Heap) (hj : iv.toInt = (j : Nat)) (hjn : j < n) (g0 : 0 ≤ iv.toInt) (hz : z.toInt = n) (hc : 0 ≤ (f j).toInt ∧ (f j).toInt < 256) (B1 : own_A Z h0 b1 .byte n (fun i => own_b8 (f i))) (ST : own_St Z h0 cs fm) :
    own_Ct l Z (⟨"java/lang/StringLatin1", "charAt", "([BI)C"⟩ : MethodName) jdk_43_method_2_code 2 (some .char) ws ({ frames := 2, cells := 0, slots := 0, locals := 27 } : Room) #[(.ref b1), (.int iv)] h0 (fun v h L => v = some (.int (f j)) ∧ L = [] ∧ h = h0) := by
  refine own_of (plainFor_of_name pn_java_lang_StringLatin1) ?_
  intro p e s m below meth c s₁ hx hby hml hown hnm hret hlk hZ X0 e0
  rw [ef_rmLC]
  refine own_by (T' := s₁) (f' := (mkF m 1 #[.val (.ref b1), .val (.int iv)] [(.int iv)])) (fun t k => XS.iloadN X0.here hx rfl (hb hby d16_0) rfl k) ?_
  refine own_by (T' := s₁) (f' := (mkF m 2 #[.val (.ref b1), .val (.int iv)] [(.ref b1), (.int iv)])) (fun t k => XS.aloadN X0.here hx rfl (hb hby d16_1) rfl rfl k) ?_
  refine own_alen (j := z) X0 hx hZ e0 (hb hby d16_2) B1 hz ?_
  show own_Go p e below _ s₁ (mkF m 3 #[.val (.ref b1), .val (.int iv)] [(.int z), (.int iv)])
  refine own_callS X0 hx hZ hown e0 (hb hby d16_3) [(.int iv), (.int z)] [] 0 (rmCI l Z a0 hw [] iv z cs fm h0 g0 (by rw [Int32.lt_iff_toInt_lt]; omega) ST) (hw _ (List.mem_of_getElem? (i := 81) rfl)) (hw _ (List.mem_of_getElem? (i := 82) rfl)) (hw _ (List.mem_of_getElem? (i := 7) rfl)) (hw _ (List.mem_of_getElem? (i := 83) rfl)) (by decide) pd__II_V (by rw [hml]; rfl) rfl rfl (Nat.le_of_eq rfl) (by decide) (by decide) (by decide) (by decide) ?_
  rintro T11 _ L11 X11 ⟨rfl, rfl, e11⟩
  show own_Go p e below _ T11 (mkF m 6 #[.val (.ref b1), .val (.int iv)] [])
  rw [List.append_nil] at X11
  refine own_by (T' := T11) (f' := (mkF m 7 #[.val (.ref b1), .val (.int iv)] [(.ref b1)])) (fun t k => XS.aloadN X11.here hx rfl (hb hby d16_6) rfl rfl k) ?_
  refine own_by (T' := T11) (f' := (mkF m 8 #[.val (.ref b1), .val (.int iv)] [(.int iv), (.ref b1)])) (fun t k => XS.iloadN X11.here hx rfl (hb hby d16_7) rfl k) ?_
  refine own_ldB X11 hx hZ e11 (hb hby d16_8) B1 (by first | decide | omega) (by first | decide | omega) ?_
  rw [show iv.toInt.toNat = j from by omega]
  show own_Go p e below _ T11 (mkF m 9 #[.val (.ref b1), .val (.int iv)] [(.int (own_b8 (f j)))])
  refine own_by (T' := T11) (f' := (mkF m 12 #[.val (.ref b1), .val (.int iv)] [(.int (255 : Int32)), (.int (own_b8 (f j)))])) (fun t k => XS.sipush X11.here hx rfl (hb hby d16_9) k) ?_
  refine own_by (T' := T11) (f' := (mkF m 13 #[.val (.ref b1), .val (.int iv)] [(.int ((own_b8 (f j)) &&& (255 : Int32)))])) (fun t k => XS.iand X11.here hx rfl (hb hby d16_12) rfl k) ?_
  refine own_by (T' := T11) (f' := (mkF m 14 #[.val (.ref b1), .val (.int iv)] [(.int (((own_b8 (f j)) &&& (255 : Int32)).toUInt32.toUInt16.toUInt32.toInt32))])) (fun t k => XS.i2c X11.here hx rfl (hb hby d16_13) rfl k) ?_
  rw [own_b8_char (f j) hc.1 hc.2]
  show own_Go p e below _ T11 (mkF m 14 #[.val (.ref b1), .val (.int iv)] [(.int (f j))])
  refine own_ret X11 hx hret hlk (hb hby d16_14) (own_narC hc.1 (by omega)) (Or.inl ⟨rfl, Or.inr (Or.inr (Or.inr (Or.inl rfl))), _, rfl⟩) (by decide) (by decide) ?_
  try rw [e11]
  exact ⟨rfl, rfl, rfl⟩
theorem ef_rmUL (m : MethodId) (x0 : Addr) : entryFrame m #[(.ref x0)] 1 = mkF m 0 #[.val (.ref x0)] [] := by first | (simp [entryFrame, mkF, argsToLocals, Value.category]; done) | rfl
set_option maxRecDepth 65536 in
set_option maxHeartbeats 40000000 in
theorem rmUL (l : Launch) (Z : State) (a0 : Array Value) (hw : ∀ d ∈ tables_1, d.before a0 Z = true) (ws : List Jvm.Cond) (b1 : Addr) (z : Int32) (n : Nat) (f : Nat → Int32) (h0 : Heap) (hz : z.toInt = (2 * n : Nat)) (B1 : own_A Z h0 b1 .byte (2 * n) (own_u16 f n)) :
    own_Ct l Z (⟨"java/lang/StringUTF16", "length", "([B)I"⟩ : MethodName) jdk_52_method_6_code 1 (some .int) ws ({ frames := 0, cells := 0, slots := 0, locals := 0 } : Room) #[(.ref b1)] h0 (fun v h L => v = some (.int (z >>> ((1 : Int32) &&& 31))) ∧ L = [] ∧ h = h0) := by
  refine own_of (plainFor_of_name pn_java_lang_StringUTF16) ?_
  intro p e s m below meth c s₁ hx hby hml hown hnm hret hlk hZ X0 e0
  rw [ef_rmUL]
  refine own_by (T' := s₁) (f' := (mkF m 1 #[.val (.ref b1)] [(.ref b1)])) (fun t k => XS.aloadN X0.here hx rfl (hb hby d27_0) rfl rfl k) ?_
  refine own_alen (j := z) X0 hx hZ e0 (hb hby d27_1) B1 hz ?_
  show own_Go p e below _ s₁ (mkF m 2 #[.val (.ref b1)] [(.int z)])
  refine own_by (T' := s₁) (f' := (mkF m 3 #[.val (.ref b1)] [(.int (1 : Int32)), (.int z)])) (fun t k => XS.iconst X0.here hx rfl (hb hby d27_2) k) ?_
  refine own_by (T' := s₁) (f' := (mkF m 4 #[.val (.ref b1)] [(.int (z >>> ((1 : Int32) &&& 31)))])) (fun t k => XS.ishr X0.here hx rfl (hb hby d27_3) rfl k) ?_
  refine own_retI X0 hx hret hlk (hb hby d27_4) (by decide) (by decide) ?_
  try rw [e0]
  exact ⟨rfl, rfl, rfl⟩
theorem ef_rmUCI (m : MethodId) (x0 : Int32) (x1 : Addr) : entryFrame m #[(.int x0), (.ref x1)] 2 = mkF m 0 #[.val (.int x0), .val (.ref x1)] [] := by first | (simp [entryFrame, mkF, argsToLocals, Value.category]; done) | rfl
set_option maxRecDepth 65536 in
set_option maxHeartbeats 40000000 in
theorem rmUCI (l : Launch) (Z : State) (a0 : Array Value) (hw : ∀ d ∈ tables_1, d.before a0 Z = true) (ws : List Jvm.Cond) (b1 : Addr) (iv z : Int32) (j n : Nat) (f : Nat → Int32) (cs : Int32) (fm : Value) (h0 : Heap) (hj : iv.toInt = (j : Nat)) (hjn : j < n) (g0 : 0 ≤ iv.toInt) (hz : z.toInt = (2 * n : Nat)) (hn : n < 1073741824) (hc : 0 ≤ (f j).toInt ∧ (f j).toInt < 65536) (B1 : own_A Z h0 b1 .byte (2 * n) (own_u16 f n)) (ST : own_St Z h0 cs fm) :
    own_Ct l Z (⟨"java/lang/StringUTF16", "checkIndex", "(I[B)V"⟩ : MethodName) jdk_52_method_91_code 2 none ws ({ frames := 2, cells := 0, slots := 0, locals := 27 } : Room) #[(.int iv), (.ref b1)] h0 (fun v h L => v = none ∧ L = [] ∧ h = h0) := by
  refine own_of (plainFor_of_name pn_java_lang_StringUTF16) ?_
  intro p e s m below meth c s₁ hx hby hml hown hnm hret hlk hZ X0 e0
  rw [ef_rmUCI]
  refine own_by (T' := s₁) (f' := (mkF m 1 #[.val (.int iv), .val (.ref b1)] [(.int iv)])) (fun t k => XS.iloadN X0.here hx rfl (hb hby d26_0) rfl k) ?_
  refine own_by (T' := s₁) (f' := (mkF m 2 #[.val (.int iv), .val (.ref b1)] [(.ref b1), (.int iv)])) (fun t k => XS.aloadN X0.here hx rfl (hb hby d26_1) rfl rfl k) ?_
  refine own_callS X0 hx hZ hown e0 (hb hby d26_2) [(.ref b1)] [(.int iv)] 1 (rmUL l Z a0 hw [] b1 z n f h0 hz B1) (hw _ (List.mem_of_getElem? (i := 117) rfl)) (hw _ (List.mem_of_getElem? (i := 118) rfl)) (hw _ (List.mem_of_getElem? (i := 60) rfl)) (hw _ (List.mem_of_getElem? (i := 119) rfl)) (by decide) pd___B_I (by rw [hml]; rfl) rfl rfl (Nat.le_of_eq rfl) (by decide) (by decide) (by decide) (by decide) ?_
  rintro T11 _ L11 X11 ⟨rfl, rfl, e11⟩
  show own_Go p e below _ T11 (mkF m 5 #[.val (.int iv), .val (.ref b1)] [(.int (z >>> ((1 : Int32) &&& 31))), (.int iv)])
  rw [List.append_nil] at X11
  refine own_callS X11 hx hZ hown e11 (hb hby d26_5) [(.int iv), (.int (z >>> ((1 : Int32) &&& 31)))] [] 0 (rmCI l Z a0 hw [] iv (z >>> ((1 : Int32) &&& 31)) cs fm h0 g0 (by rw [Int32.lt_iff_toInt_lt, own_shr1 hz]; omega) ST) (hw _ (List.mem_of_getElem? (i := 120) rfl)) (hw _ (List.mem_of_getElem? (i := 82) rfl)) (hw _ (List.mem_of_getElem? (i := 7) rfl)) (hw _ (List.mem_of_getElem? (i := 83) rfl)) (by decide) pd__II_V (by rw [hml]; rfl) rfl rfl (Nat.le_of_eq rfl) (by decide) (by decide) (by decide) (by decide) ?_
  rintro T12 _ L12 X12 ⟨rfl, rfl, e12⟩
  show own_Go p e below _ T12 (mkF m 8 #[.val (.int iv), .val (.ref b1)] [])
  rw [List.append_nil] at X12
  refine own_retV X12 hx hret hlk (hb hby d26_8) (by decide) (by decide) ?_
  try rw [e12]
  exact ⟨rfl, rfl, rfl⟩
theorem ef_rmGC (m : MethodId) (x0 : Addr) (x1 : Int32) : entryFrame m #[(.ref x0), (.int x1)] 2 = mkF m 0 #[.val (.ref x0), .val (.int x1)] [] := by first | (simp [entryFrame, mkF, argsToLocals, Value.category]; done) | rfl
set_option maxRecDepth 65536 in
set_option maxHeartbeats 40000000 in
theorem rmGC (l : Launch) (Z : State) (a0 : Array Value) (hw : ∀ d ∈ tables_1, d.before a0 Z = true) (ws : List Jvm.Cond) (b1 : Addr) (iv z : Int32) (j n : Nat) (f : Nat → Int32) (cs : Int32) (fm : Value) (h0 : Heap) (hj : iv.toInt = (j : Nat)) (hjn : j < n) (g0 : 0 ≤ iv.toInt) (hz : z.toInt = (2 * n : Nat)) (hn : n < 1073741824) (hc : 0 ≤ (f j).toInt ∧ (f j).toInt < 65536) (B1 : own_A Z h0 b1 .byte (2 * n) (own_u16 f n)) (ST : own_St Z h0 cs fm) :
    own_Ct l Z (⟨"java/lang/StringUTF16", "getChar", "([BI)C"⟩ : MethodName) jdk_52_method_5_code 2 (some .char) ws ({ frames := 0, cells := 0, slots := 0, locals := 0 } : Room) #[(.ref b1), (.int iv)] h0 (fun v h L => v = some (.int (f j)) ∧ L = [] ∧ h = h0) := by
  refine own_of (plainFor_of_name pn_java_lang_StringUTF16) ?_
  intro p e s m below meth c s₁ hx hby hml hown hnm hret hlk hZ X0 e0
  rw [ef_rmGC]
  refine own_getS (host := "") X0 hx hZ hown e0 (hb hby d24_0) (Or.inl (hw _ (List.mem_of_getElem? (i := 105) rfl))) Via.refl ST.2.1 ?_
  intro T11 X11 e11
  show own_Go p e below _ T11 (mkF m 3 #[.val (.ref b1), .val (.int iv)] [(.int (1 : Int32))])
  refine own_by (T' := T11) (f' := (mkF m 28 #[.val (.ref b1), .val (.int iv)] [])) (fun t k => XS.ifYes X11.here hx rfl (pc0 := 3) (pc' := 28) rfl (hb hby d24_3) rfl ((if0 _ _).trans (feq (by decide)).2) (by decide) (by decide) k) ?_
  refine own_by (T' := T11) (f' := (mkF m 29 #[.val (.ref b1), .val (.int iv)] [(.int iv)])) (fun t k => XS.iloadN X11.here hx rfl (hb hby d24_28) rfl k) ?_
  refine own_by (T' := T11) (f' := (mkF m 30 #[.val (.ref b1), .val (.int iv)] [(.int (1 : Int32)), (.int iv)])) (fun t k => XS.iconst X11.here hx rfl (hb hby d24_29) k) ?_
  refine own_by (T' := T11) (f' := (mkF m 31 #[.val (.ref b1), .val (.int iv)] [(.int (iv <<< ((1 : Int32) &&& 31)))])) (fun t k => XS.ishl X11.here hx rfl (hb hby d24_30) rfl k) ?_
  obtain ⟨wv, hwv⟩ : ∃ z : Int32, z = (iv <<< ((1 : Int32) &&& 31)) := ⟨_, rfl⟩
  rw [← hwv]
  have ew : wv.toInt = ((2 * j : Nat) : Int) := by rw [hwv]; exact own_shl1 hj (by omega)
  have ew1 := own_inc (n := 2 * n) ew (by omega) (by omega)
  show own_Go p e below _ T11 (mkF m 31 #[.val (.ref b1), .val (.int iv)] [(.int wv)])
  refine own_by (T' := T11) (f' := (mkF m 32 #[.val (.ref b1), .val (.int wv)] [])) (fun t k => XS.istoreN X11.here hx rfl (hb hby d24_31) rfl (l' := #[.val (.ref b1), .val (.int wv)]) rfl k) ?_
  refine own_by (T' := T11) (f' := (mkF m 33 #[.val (.ref b1), .val (.int wv)] [(.ref b1)])) (fun t k => XS.aloadN X11.here hx rfl (hb hby d24_32) rfl rfl k) ?_
  refine own_by (T' := T11) (f' := (mkF m 34 #[.val (.ref b1), .val (.int wv)] [(.int wv), (.ref b1)])) (fun t k => XS.iloadN X11.here hx rfl (hb hby d24_33) rfl k) ?_
  refine own_by (T' := T11) (f' := (mkF m 37 #[.val (.ref b1), .val (.int (wv + (1 : Int32)))] [(.int wv), (.ref b1)])) (fun t k => XS.iinc X11.here hx rfl (hb hby d24_34) rfl (l' := #[.val (.ref b1), .val (.int (wv + (1 : Int32)))]) rfl k) ?_
  refine own_ldB X11 hx hZ e11 (hb hby d24_37) B1 (by first | decide | omega) (by first | decide | omega) ?_
  rw [show wv.toInt.toNat = 2 * j from by omega, own_u16_lo hjn]
  show own_Go p e below _ T11 (mkF m 38 #[.val (.ref b1), .val (.int (wv + (1 : Int32)))] [(.int (own_lo (f j)))])
  refine own_by (T' := T11) (f' := (mkF m 41 #[.val (.ref b1), .val (.int (wv + (1 : Int32)))] [(.int (255 : Int32)), (.int (own_lo (f j)))])) (fun t k => XS.sipush X11.here hx rfl (hb hby d24_38) k) ?_
  refine own_by (T' := T11) (f' := (mkF m 42 #[.val (.ref b1), .val (.int (wv + (1 : Int32)))] [(.int ((own_lo (f j)) &&& (255 : Int32)))])) (fun t k => XS.iand X11.here hx rfl (hb hby d24_41) rfl k) ?_
  refine own_getS (host := "") X11 hx hZ hown e11 (hb hby d24_42) (Or.inl (hw _ (List.mem_of_getElem? (i := 106) rfl))) Via.refl ST.2.2.1 ?_
  intro T12 X12 e12
  show own_Go p e below _ T12 (mkF m 45 #[.val (.ref b1), .val (.int (wv + (1 : Int32)))] [(.int (0 : Int32)), (.int ((own_lo (f j)) &&& (255 : Int32)))])
  refine own_by (T' := T12) (f' := (mkF m 46 #[.val (.ref b1), .val (.int (wv + (1 : Int32)))] [(.int (((own_lo (f j)) &&& (255 : Int32)) <<< ((0 : Int32) &&& 31)))])) (fun t k => XS.ishl X12.here hx rfl (hb hby d24_45) rfl k) ?_
  refine own_by (T' := T12) (f' := (mkF m 47 #[.val (.ref b1), .val (.int (wv + (1 : Int32)))] [(.ref b1), (.int (((own_lo (f j)) &&& (255 : Int32)) <<< ((0 : Int32) &&& 31)))])) (fun t k => XS.aloadN X12.here hx rfl (hb hby d24_46) rfl rfl k) ?_
  refine own_by (T' := T12) (f' := (mkF m 48 #[.val (.ref b1), .val (.int (wv + (1 : Int32)))] [(.int (wv + (1 : Int32))), (.ref b1), (.int (((own_lo (f j)) &&& (255 : Int32)) <<< ((0 : Int32) &&& 31)))])) (fun t k => XS.iloadN X12.here hx rfl (hb hby d24_47) rfl k) ?_
  have _ : (1 : Int32).toInt = 1 := by decide
  refine own_ldB X12 hx hZ e12 (hb hby d24_48) B1 (by first | decide | omega) (by first | decide | omega) ?_
  rw [show (wv + (1 : Int32)).toInt.toNat = 2 * j + 1 from by omega, own_u16_hi hjn]
  show own_Go p e below _ T12 (mkF m 49 #[.val (.ref b1), .val (.int (wv + (1 : Int32)))] [(.int (own_hi (f j))), (.int (((own_lo (f j)) &&& (255 : Int32)) <<< ((0 : Int32) &&& 31)))])
  refine own_by (T' := T12) (f' := (mkF m 52 #[.val (.ref b1), .val (.int (wv + (1 : Int32)))] [(.int (255 : Int32)), (.int (own_hi (f j))), (.int (((own_lo (f j)) &&& (255 : Int32)) <<< ((0 : Int32) &&& 31)))])) (fun t k => XS.sipush X12.here hx rfl (hb hby d24_49) k) ?_
  refine own_by (T' := T12) (f' := (mkF m 53 #[.val (.ref b1), .val (.int (wv + (1 : Int32)))] [(.int ((own_hi (f j)) &&& (255 : Int32))), (.int (((own_lo (f j)) &&& (255 : Int32)) <<< ((0 : Int32) &&& 31)))])) (fun t k => XS.iand X12.here hx rfl (hb hby d24_52) rfl k) ?_
  refine own_getS (host := "") X12 hx hZ hown e12 (hb hby d24_53) (Or.inl (hw _ (List.mem_of_getElem? (i := 107) rfl))) Via.refl ST.2.2.2.1 ?_
  intro T13 X13 e13
  show own_Go p e below _ T13 (mkF m 56 #[.val (.ref b1), .val (.int (wv + (1 : Int32)))] [(.int (8 : Int32)), (.int ((own_hi (f j)) &&& (255 : Int32))), (.int (((own_lo (f j)) &&& (255 : Int32)) <<< ((0 : Int32) &&& 31)))])
  refine own_by (T' := T13) (f' := (mkF m 57 #[.val (.ref b1), .val (.int (wv + (1 : Int32)))] [(.int (((own_hi (f j)) &&& (255 : Int32)) <<< ((8 : Int32) &&& 31))), (.int (((own_lo (f j)) &&& (255 : Int32)) <<< ((0 : Int32) &&& 31)))])) (fun t k => XS.ishl X13.here hx rfl (hb hby d24_56) rfl k) ?_
  refine own_by (T' := T13) (f' := (mkF m 58 #[.val (.ref b1), .val (.int (wv + (1 : Int32)))] [(.int ((((own_lo (f j)) &&& (255 : Int32)) <<< ((0 : Int32) &&& 31)) ||| (((own_hi (f j)) &&& (255 : Int32)) <<< ((8 : Int32) &&& 31))))])) (fun t k => XS.ior X13.here hx rfl (hb hby d24_57) rfl k) ?_
  refine own_by (T' := T13) (f' := (mkF m 59 #[.val (.ref b1), .val (.int (wv + (1 : Int32)))] [(.int (((((own_lo (f j)) &&& (255 : Int32)) <<< ((0 : Int32) &&& 31)) ||| (((own_hi (f j)) &&& (255 : Int32)) <<< ((8 : Int32) &&& 31))).toUInt32.toUInt16.toUInt32.toInt32))])) (fun t k => XS.i2c X13.here hx rfl (hb hby d24_58) rfl k) ?_
  rw [own_u16_char (f j) hc.1 hc.2]
  show own_Go p e below _ T13 (mkF m 59 #[.val (.ref b1), .val (.int (wv + (1 : Int32)))] [(.int (f j))])
  refine own_ret X13 hx hret hlk (hb hby d24_59) (own_narC hc.1 hc.2) (Or.inl ⟨rfl, Or.inr (Or.inr (Or.inr (Or.inl rfl))), _, rfl⟩) (by decide) (by decide) ?_
  try rw [e13]
  exact ⟨rfl, rfl, rfl⟩
theorem ef_rmUC (m : MethodId) (x0 : Addr) (x1 : Int32) : entryFrame m #[(.ref x0), (.int x1)] 2 = mkF m 0 #[.val (.ref x0), .val (.int x1)] [] := by first | (simp [entryFrame, mkF, argsToLocals, Value.category]; done) | rfl
set_option maxRecDepth 65536 in
set_option maxHeartbeats 40000000 in
theorem rmUC (l : Launch) (Z : State) (a0 : Array Value) (hw : ∀ d ∈ tables_1, d.before a0 Z = true) (ws : List Jvm.Cond) (b1 : Addr) (iv z : Int32) (j n : Nat) (f : Nat → Int32) (cs : Int32) (fm : Value) (h0 : Heap) (hj : iv.toInt = (j : Nat)) (hjn : j < n) (g0 : 0 ≤ iv.toInt) (hz : z.toInt = (2 * n : Nat)) (hn : n < 1073741824) (hc : 0 ≤ (f j).toInt ∧ (f j).toInt < 65536) (B1 : own_A Z h0 b1 .byte (2 * n) (own_u16 f n)) (ST : own_St Z h0 cs fm) :
    own_Ct l Z (⟨"java/lang/StringUTF16", "charAt", "([BI)C"⟩ : MethodName) jdk_52_method_83_code 2 (some .char) ws ({ frames := 3, cells := 0, slots := 0, locals := 40 } : Room) #[(.ref b1), (.int iv)] h0 (fun v h L => v = some (.int (f j)) ∧ L = [] ∧ h = h0) := by
  refine own_of (plainFor_of_name pn_java_lang_StringUTF16) ?_
  intro p e s m below meth c s₁ hx hby hml hown hnm hret hlk hZ X0 e0
  rw [ef_rmUC]
  refine own_by (T' := s₁) (f' := (mkF m 1 #[.val (.ref b1), .val (.int iv)] [(.int iv)])) (fun t k => XS.iloadN X0.here hx rfl (hb hby d25_0) rfl k) ?_
  refine own_by (T' := s₁) (f' := (mkF m 2 #[.val (.ref b1), .val (.int iv)] [(.ref b1), (.int iv)])) (fun t k => XS.aloadN X0.here hx rfl (hb hby d25_1) rfl rfl k) ?_
  refine own_callS X0 hx hZ hown e0 (hb hby d25_2) [(.int iv), (.ref b1)] [] 0 (rmUCI l Z a0 hw [] b1 iv z j n f cs fm h0 hj hjn g0 hz hn hc B1 ST) (hw _ (List.mem_of_getElem? (i := 114) rfl)) (hw _ (List.mem_of_getElem? (i := 115) rfl)) (hw _ (List.mem_of_getElem? (i := 60) rfl)) (hw _ (List.mem_of_getElem? (i := 116) rfl)) (by decide) pd__I_B_V (by rw [hml]; rfl) rfl rfl (Nat.le_of_eq rfl) (by decide) (by decide) (by decide) (by decide) ?_
  rintro T11 _ L11 X11 ⟨rfl, rfl, e11⟩
  show own_Go p e below _ T11 (mkF m 5 #[.val (.ref b1), .val (.int iv)] [])
  rw [List.append_nil] at X11
  refine own_by (T' := T11) (f' := (mkF m 6 #[.val (.ref b1), .val (.int iv)] [(.ref b1)])) (fun t k => XS.aloadN X11.here hx rfl (hb hby d25_5) rfl rfl k) ?_
  refine own_by (T' := T11) (f' := (mkF m 7 #[.val (.ref b1), .val (.int iv)] [(.int iv), (.ref b1)])) (fun t k => XS.iloadN X11.here hx rfl (hb hby d25_6) rfl k) ?_
  refine own_callS X11 hx hZ hown e11 (hb hby d25_7) [(.ref b1), (.int iv)] [] 0 (rmGC l Z a0 hw [] b1 iv z j n f cs fm h0 hj hjn g0 hz hn hc B1 ST) (hw _ (List.mem_of_getElem? (i := 108) rfl)) (hw _ (List.mem_of_getElem? (i := 109) rfl)) (hw _ (List.mem_of_getElem? (i := 60) rfl)) (hw _ (List.mem_of_getElem? (i := 110) rfl)) (by decide) pd___BI_C (by rw [hml]; rfl) rfl rfl (Nat.le_of_eq rfl) (by decide) (by decide) (by decide) (by decide) ?_
  rintro T12 _ L12 X12 ⟨rfl, rfl, e12⟩
  show own_Go p e below _ T12 (mkF m 10 #[.val (.ref b1), .val (.int iv)] [(.int (f j))])
  rw [List.append_nil] at X12
  refine own_ret X12 hx hret hlk (hb hby d25_10) (own_narC hc.1 hc.2) (Or.inl ⟨rfl, Or.inr (Or.inr (Or.inr (Or.inl rfl))), _, rfl⟩) (by decide) (by decide) ?_
  try rw [e12]
  exact ⟨rfl, rfl, rfl⟩
theorem ef_rmIL0 (m : MethodId) (x0 : Addr) : entryFrame m #[(.ref x0)] 1 = mkF m 0 #[.val (.ref x0)] [] := by first | (simp [entryFrame, mkF, argsToLocals, Value.category]; done) | rfl
set_option maxRecDepth 65536 in
set_option maxHeartbeats 40000000 in
theorem rmIL0 (l : Launch) (Z : State) (a0 : Array Value) (hw : ∀ d ∈ tables_1, d.before a0 Z = true) (ws : List Jvm.Cond) (a b1 : Addr) (z : Int32) (n : Nat) (f : Nat → Int32) (cs : Int32) (fm : Value) (h0 : Heap) (hz : z.toInt = (n : Nat)) (E1 : Exa Z h0 a "java/lang/String") (V1 : Fld Z h0 a "java/lang/String" "value" "[B" (.ref b1)) (C1 : Fld Z h0 a "java/lang/String" "coder" "B" (.int 0)) (B1 : own_A Z h0 b1 .byte n (fun i => own_b8 (f i))) (ST : own_St Z h0 cs fm) :
    own_Ct l Z (⟨"java/lang/String", "isLatin1", "()Z"⟩ : MethodName) jdk_42_method_154_code 1 (some .boolean) ws ({ frames := 0, cells := 0, slots := 0, locals := 0 } : Room) #[(.ref a)] h0 (fun v h L => v = some (.int (1 : Int32)) ∧ L = [] ∧ h = h0) := by
  refine own_of (plainFor_of_name pn_java_lang_String) ?_
  intro p e s m below meth c s₁ hx hby hml hown hnm hret hlk hZ X0 e0
  rw [ef_rmIL0]
  refine own_getS (host := "") X0 hx hZ hown e0 (hb hby d15_0) (Or.inl (hw _ (List.mem_of_getElem? (i := 45) rfl))) Via.refl ST.1 ?_
  intro T11 X11 e11
  show own_Go p e below _ T11 (mkF m 3 #[.val (.ref a)] [(.int cs)])
  refine own_by (T' := T11) (f' := (mkF m 6 #[.val (.ref a)] [])) (fun t k => XS.ifNo X11.here hx rfl (hb hby d15_3) rfl ((if0 _ _).trans (feq ST.2.2.2.2.2.1).1) k) ?_
  refine own_by (T' := T11) (f' := (mkF m 7 #[.val (.ref a)] [(.ref a)])) (fun t k => XS.aloadN X11.here hx rfl (hb hby d15_6) rfl rfl k) ?_
  refine own_getF (host := "") X11 hx hZ hown e11 (hb hby d15_7) (Or.inl (hw _ (List.mem_of_getElem? (i := 25) rfl))) Via.refl C1 ?_
  intro T12 X12 e12
  show own_Go p e below _ T12 (mkF m 10 #[.val (.ref a)] [(.int (0 : Int32))])
  refine own_by (T' := T12) (f' := (mkF m 13 #[.val (.ref a)] [])) (fun t k => XS.ifNo X12.here hx rfl (hb hby d15_10) rfl ((if0 _ _).trans (teq rfl).2) k) ?_
  refine own_by (T' := T12) (f' := (mkF m 14 #[.val (.ref a)] [(.int (1 : Int32))])) (fun t k => XS.iconst X12.here hx rfl (hb hby d15_13) k) ?_
  refine own_by (T' := T12) (f' := (mkF m 18 #[.val (.ref a)] [(.int (1 : Int32))])) (fun t k => XS.goto X12.here hx rfl (pc0 := 14) (pc' := 18) rfl (hb hby d15_14) (by decide) (by decide) k) ?_
  refine own_retZ X12 hx hret hlk (hb hby d15_18) (Or.inr rfl) (by decide) (by decide) ?_
  try rw [e12]
  exact ⟨rfl, rfl, rfl⟩
theorem ef_rmCO0 (m : MethodId) (x0 : Addr) : entryFrame m #[(.ref x0)] 1 = mkF m 0 #[.val (.ref x0)] [] := by first | (simp [entryFrame, mkF, argsToLocals, Value.category]; done) | rfl
set_option maxRecDepth 65536 in
set_option maxHeartbeats 40000000 in
theorem rmCO0 (l : Launch) (Z : State) (a0 : Array Value) (hw : ∀ d ∈ tables_1, d.before a0 Z = true) (ws : List Jvm.Cond) (a b1 : Addr) (z : Int32) (n : Nat) (f : Nat → Int32) (cs : Int32) (fm : Value) (h0 : Heap) (hz : z.toInt = (n : Nat)) (E1 : Exa Z h0 a "java/lang/String") (V1 : Fld Z h0 a "java/lang/String" "value" "[B" (.ref b1)) (C1 : Fld Z h0 a "java/lang/String" "coder" "B" (.int 0)) (B1 : own_A Z h0 b1 .byte n (fun i => own_b8 (f i))) (ST : own_St Z h0 cs fm) :
    own_Ct l Z (⟨"java/lang/String", "coder", "()B"⟩ : MethodName) jdk_42_method_152_code 1 (some .byte) ws ({ frames := 0, cells := 0, slots := 0, locals := 0 } : Room) #[(.ref a)] h0 (fun v h L => v = some (.int (0 : Int32)) ∧ L = [] ∧ h = h0) := by
  refine own_of (plainFor_of_name pn_java_lang_String) ?_
  intro p e s m below meth c s₁ hx hby hml hown hnm hret hlk hZ X0 e0
  rw [ef_rmCO0]
  refine own_getS (host := "") X0 hx hZ hown e0 (hb hby d8_0) (Or.inl (hw _ (List.mem_of_getElem? (i := 45) rfl))) Via.refl ST.1 ?_
  intro T11 X11 e11
  show own_Go p e below _ T11 (mkF m 3 #[.val (.ref a)] [(.int cs)])
  refine own_by (T' := T11) (f' := (mkF m 6 #[.val (.ref a)] [])) (fun t k => XS.ifNo X11.here hx rfl (hb hby d8_3) rfl ((if0 _ _).trans (feq ST.2.2.2.2.2.1).1) k) ?_
  refine own_by (T' := T11) (f' := (mkF m 7 #[.val (.ref a)] [(.ref a)])) (fun t k => XS.aloadN X11.here hx rfl (hb hby d8_6) rfl rfl k) ?_
  refine own_getF (host := "") X11 hx hZ hown e11 (hb hby d8_7) (Or.inl (hw _ (List.mem_of_getElem? (i := 25) rfl))) Via.refl C1 ?_
  intro T12 X12 e12
  show own_Go p e below _ T12 (mkF m 10 #[.val (.ref a)] [(.int (0 : Int32))])
  refine own_by (T' := T12) (f' := (mkF m 14 #[.val (.ref a)] [(.int (0 : Int32))])) (fun t k => XS.goto X12.here hx rfl (pc0 := 10) (pc' := 14) rfl (hb hby d8_10) (by decide) (by decide) k) ?_
  refine own_ret X12 hx hret hlk (hb hby d8_14) rfl (Or.inl ⟨rfl, Or.inr (Or.inr (Or.inl rfl)), _, rfl⟩) (by decide) (by decide) ?_
  try rw [e12]
  exact ⟨rfl, rfl, rfl⟩
theorem ef_rmLN0 (m : MethodId) (x0 : Addr) : entryFrame m #[(.ref x0)] 1 = mkF m 0 #[.val (.ref x0)] [] := by first | (simp [entryFrame, mkF, argsToLocals, Value.category]; done) | rfl
set_option maxRecDepth 65536 in
set_option maxHeartbeats 40000000 in
theorem rmLN0 (l : Launch) (Z : State) (a0 : Array Value) (hw : ∀ d ∈ tables_1, d.before a0 Z = true) (ws : List Jvm.Cond) (a b1 : Addr) (z : Int32) (n : Nat) (f : Nat → Int32) (cs : Int32) (fm : Value) (h0 : Heap) (hz : z.toInt = (n : Nat)) (E1 : Exa Z h0 a "java/lang/String") (V1 : Fld Z h0 a "java/lang/String" "value" "[B" (.ref b1)) (C1 : Fld Z h0 a "java/lang/String" "coder" "B" (.int 0)) (B1 : own_A Z h0 b1 .byte n (fun i => own_b8 (f i))) (ST : own_St Z h0 cs fm) :
    own_Ct l Z (⟨"java/lang/String", "length", "()I"⟩ : MethodName) jdk_42_method_54_code 1 (some .int) ws ({ frames := 1, cells := 0, slots := 0, locals := 14 } : Room) #[(.ref a)] h0 (fun v h L => v = some (.int (z >>> ((0 : Int32) &&& 31))) ∧ L = [] ∧ h = h0) := by
  refine own_of (plainFor_of_name pn_java_lang_String) ?_
  intro p e s m below meth c s₁ hx hby hml hown hnm hret hlk hZ X0 e0
  rw [ef_rmLN0]
  refine own_by (T' := s₁) (f' := (mkF m 1 #[.val (.ref a)] [(.ref a)])) (fun t k => XS.aloadN X0.here hx rfl (hb hby d7_0) rfl rfl k) ?_
  refine own_getF (host := "") X0 hx hZ hown e0 (hb hby d7_1) (Or.inl (hw _ (List.mem_of_getElem? (i := 24) rfl))) Via.refl V1 ?_
  intro T11 X11 e11
  show own_Go p e below _ T11 (mkF m 4 #[.val (.ref a)] [(.ref b1)])
  refine own_alen (j := z) X11 hx hZ e11 (hb hby d7_4) B1 hz ?_
  show own_Go p e below _ T11 (mkF m 5 #[.val (.ref a)] [(.int z)])
  refine own_by (T' := T11) (f' := (mkF m 6 #[.val (.ref a)] [(.ref a), (.int z)])) (fun t k => XS.aloadN X11.here hx rfl (hb hby d7_5) rfl rfl k) ?_
  refine own_callV X11 hx hZ hown e11 (hb hby d7_6) [] [(.int z)] 1 (rmCO0 l Z a0 hw [] a b1 z n f cs fm h0 hz E1 V1 C1 B1 ST) E1 (hw _ (List.mem_of_getElem? (i := 40) rfl)) (hw _ (List.mem_of_getElem? (i := 41) rfl)) (notFace_of_selects (args := #[]) (mvT hZ (hw _ (List.mem_of_getElem? (i := 43) rfl)))) (hw _ (List.mem_of_getElem? (i := 43) rfl)) (hw _ (List.mem_of_getElem? (i := 42) rfl)) (hw _ (List.mem_of_getElem? (i := 7) rfl)) (hw _ (List.mem_of_getElem? (i := 44) rfl)) (by decide) pd___B (by rw [hml]; rfl) rfl rfl (Nat.le_of_eq rfl) (by decide) (by decide) (by decide) (by decide) ?_
  rintro T12 _ L12 X12 ⟨rfl, rfl, e12⟩
  show own_Go p e below _ T12 (mkF m 9 #[.val (.ref a)] [(.int (0 : Int32)), (.int z)])
  rw [List.append_nil] at X12
  refine own_by (T' := T12) (f' := (mkF m 10 #[.val (.ref a)] [(.int (z >>> ((0 : Int32) &&& 31)))])) (fun t k => XS.ishr X12.here hx rfl (hb hby d7_9) rfl k) ?_
  refine own_retI X12 hx hret hlk (hb hby d7_10) (by decide) (by decide) ?_
  try rw [e12]
  exact ⟨rfl, rfl, rfl⟩
theorem ef_rmCA0 (m : MethodId) (x0 : Addr) (x1 : Int32) : entryFrame m #[(.ref x0), (.int x1)] 2 = mkF m 0 #[.val (.ref x0), .val (.int x1)] [] := by first | (simp [entryFrame, mkF, argsToLocals, Value.category]; done) | rfl
set_option maxRecDepth 65536 in
set_option maxHeartbeats 40000000 in
theorem rmCA0 (l : Launch) (Z : State) (a0 : Array Value) (hw : ∀ d ∈ tables_1, d.before a0 Z = true) (ws : List Jvm.Cond) (iv : Int32) (j : Nat) (a b1 : Addr) (z : Int32) (n : Nat) (f : Nat → Int32) (cs : Int32) (fm : Value) (h0 : Heap) (hj : iv.toInt = (j : Nat)) (hjn : j < n) (g0 : 0 ≤ iv.toInt) (hn : n < 1073741824) (hc : 0 ≤ (f j).toInt ∧ (f j).toInt < 256) (hz : z.toInt = (n : Nat)) (E1 : Exa Z h0 a "java/lang/String") (V1 : Fld Z h0 a "java/lang/String" "value" "[B" (.ref b1)) (C1 : Fld Z h0 a "java/lang/String" "coder" "B" (.int 0)) (B1 : own_A Z h0 b1 .byte n (fun i => own_b8 (f i))) (ST : own_St Z h0 cs fm) :
    own_Ct l Z (⟨"java/lang/String", "charAt", "(I)C"⟩ : MethodName) jdk_42_method_56_code 2 (some .char) ws ({ frames := 4, cells := 0, slots := 0, locals := 56 } : Room) #[(.ref a), (.int iv)] h0 (fun v h L => v = some (.int (f j)) ∧ L = [] ∧ h = h0) := by
  refine own_of (plainFor_of_name pn_java_lang_String) ?_
  intro p e s m below meth c s₁ hx hby hml hown hnm hret hlk hZ X0 e0
  rw [ef_rmCA0]
  refine own_by (T' := s₁) (f' := (mkF m 1 #[.val (.ref a), .val (.int iv)] [(.ref a)])) (fun t k => XS.aloadN X0.here hx rfl (hb hby d14_0) rfl rfl k) ?_
  refine own_callV X0 hx hZ hown e0 (hb hby d14_1) [] [] 0 (rmIL0 l Z a0 hw [] a b1 z n f cs fm h0 hz E1 V1 C1 B1 ST) E1 (hw _ (List.mem_of_getElem? (i := 73) rfl)) (hw _ (List.mem_of_getElem? (i := 74) rfl)) (notFace_of_selects (args := #[]) (mvT hZ (hw _ (List.mem_of_getElem? (i := 76) rfl)))) (hw _ (List.mem_of_getElem? (i := 76) rfl)) (hw _ (List.mem_of_getElem? (i := 75) rfl)) (hw _ (List.mem_of_getElem? (i := 7) rfl)) (hw _ (List.mem_of_getElem? (i := 77) rfl)) (by decide) pd___Z (by rw [hml]; rfl) rfl rfl (Nat.le_of_eq rfl) (by decide) (by decide) (by decide) (by decide) ?_
  rintro T11 _ L11 X11 ⟨rfl, rfl, e11⟩
  show own_Go p e below _ T11 (mkF m 4 #[.val (.ref a), .val (.int iv)] [(.int (1 : Int32))])
  rw [List.append_nil] at X11
  refine own_by (T' := T11) (f' := (mkF m 7 #[.val (.ref a), .val (.int iv)] [])) (fun t k => XS.ifNo X11.here hx rfl (hb hby d14_4) rfl ((if0 _ _).trans (feq (by decide)).1) k) ?_
  refine own_by (T' := T11) (f' := (mkF m 8 #[.val (.ref a), .val (.int iv)] [(.ref a)])) (fun t k => XS.aloadN X11.here hx rfl (hb hby d14_7) rfl rfl k) ?_
  refine own_getF (host := "") X11 hx hZ hown e11 (hb hby d14_8) (Or.inl (hw _ (List.mem_of_getElem? (i := 24) rfl))) Via.refl V1 ?_
  intro T12 X12 e12
  show own_Go p e below _ T12 (mkF m 11 #[.val (.ref a), .val (.int iv)] [(.ref b1)])
  refine own_by (T' := T12) (f' := (mkF m 12 #[.val (.ref a), .val (.int iv)] [(.int iv), (.ref b1)])) (fun t k => XS.iloadN X12.here hx rfl (hb hby d14_11) rfl k) ?_
  refine own_callS X12 hx hZ hown e12 (hb hby d14_12) [(.ref b1), (.int iv)] [] 0 (rmLC l Z a0 hw [] b1 iv z j n f cs fm h0 hj hjn g0 hz hc B1 ST) (hw _ (List.mem_of_getElem? (i := 78) rfl)) (hw _ (List.mem_of_getElem? (i := 79) rfl)) (hw _ (List.mem_of_getElem? (i := 55) rfl)) (hw _ (List.mem_of_getElem? (i := 80) rfl)) (by decide) pd___BI_C (by rw [hml]; rfl) rfl rfl (Nat.le_of_eq rfl) (by decide) (by decide) (by decide) (by decide) ?_
  rintro T13 _ L13 X13 ⟨rfl, rfl, e13⟩
  show own_Go p e below _ T13 (mkF m 15 #[.val (.ref a), .val (.int iv)] [(.int (f j))])
  rw [List.append_nil] at X13
  refine own_ret X13 hx hret hlk (hb hby d14_15) (own_narC hc.1 (by omega)) (Or.inl ⟨rfl, Or.inr (Or.inr (Or.inr (Or.inl rfl))), _, rfl⟩) (by decide) (by decide) ?_
  try rw [e13]
  exact ⟨rfl, rfl, rfl⟩
theorem ef_rmEM0 (m : MethodId) (x0 : Addr) : entryFrame m #[(.ref x0)] 1 = mkF m 0 #[.val (.ref x0)] [] := by first | (simp [entryFrame, mkF, argsToLocals, Value.category]; done) | rfl
set_option maxRecDepth 65536 in
set_option maxHeartbeats 40000000 in
theorem rmEM0 (l : Launch) (Z : State) (a0 : Array Value) (hw : ∀ d ∈ tables_1, d.before a0 Z = true) (ws : List Jvm.Cond) (a b1 : Addr) (z : Int32) (n : Nat) (f : Nat → Int32) (cs : Int32) (fm : Value) (h0 : Heap) (hz : z.toInt = (n : Nat)) (E1 : Exa Z h0 a "java/lang/String") (V1 : Fld Z h0 a "java/lang/String" "value" "[B" (.ref b1)) (C1 : Fld Z h0 a "java/lang/String" "coder" "B" (.int 0)) (B1 : own_A Z h0 b1 .byte n (fun i => own_b8 (f i))) (ST : own_St Z h0 cs fm) :
    own_Ct l Z (⟨"java/lang/String", "isEmpty", "()Z"⟩ : MethodName) jdk_42_method_55_code 1 (some .boolean) ws ({ frames := 0, cells := 0, slots := 0, locals := 0 } : Room) #[(.ref a)] h0 (fun v h L => v = some (.int (if n = 0 then 1 else 0)) ∧ L = [] ∧ h = h0) := by
  refine own_of (plainFor_of_name pn_java_lang_String) ?_
  intro p e s m below meth c s₁ hx hby hml hown hnm hret hlk hZ X0 e0
  rw [ef_rmEM0]
  refine own_by (T' := s₁) (f' := (mkF m 1 #[.val (.ref a)] [(.ref a)])) (fun t k => XS.aloadN X0.here hx rfl (hb hby d6_0) rfl rfl k) ?_
  refine own_getF (host := "") X0 hx hZ hown e0 (hb hby d6_1) (Or.inl (hw _ (List.mem_of_getElem? (i := 24) rfl))) Via.refl V1 ?_
  intro T11 X11 e11
  show own_Go p e below _ T11 (mkF m 4 #[.val (.ref a)] [(.ref b1)])
  refine own_alen (j := z) X11 hx hZ e11 (hb hby d6_4) B1 hz ?_
  show own_Go p e below _ T11 (mkF m 5 #[.val (.ref a)] [(.int z)])
  by_cases hc5_12 : z = (0 : Int32)
  · have _ := X11
    refine own_by (T' := T11) (f' := (mkF m 8 #[.val (.ref a)] [])) (fun t k => XS.ifNo X11.here hx rfl (hb hby d6_5) rfl ((if0 _ _).trans (teq hc5_12).2) k) ?_
    refine own_by (T' := T11) (f' := (mkF m 9 #[.val (.ref a)] [(.int (1 : Int32))])) (fun t k => XS.iconst X11.here hx rfl (hb hby d6_8) k) ?_
    refine own_by (T' := T11) (f' := (mkF m 13 #[.val (.ref a)] [(.int (1 : Int32))])) (fun t k => XS.goto X11.here hx rfl (pc0 := 9) (pc' := 13) rfl (hb hby d6_9) (by decide) (by decide) k) ?_
    refine own_retZ X11 hx hret hlk (hb hby d6_13) (Or.inr rfl) (by decide) (by decide) ?_
    try rw [e11]
    exact ⟨by rw [if_pos (own_z0 hz hc5_12)], rfl, rfl⟩
  · have _ := X11
    refine own_by (T' := T11) (f' := (mkF m 12 #[.val (.ref a)] [])) (fun t k => XS.ifYes X11.here hx rfl (pc0 := 5) (pc' := 12) rfl (hb hby d6_5) rfl ((if0 _ _).trans (feq hc5_12).2) (by decide) (by decide) k) ?_
    refine own_by (T' := T11) (f' := (mkF m 13 #[.val (.ref a)] [(.int (0 : Int32))])) (fun t k => XS.iconst X11.here hx rfl (hb hby d6_12) k) ?_
    refine own_retZ X11 hx hret hlk (hb hby d6_13) (Or.inl rfl) (by decide) (by decide) ?_
    try rw [e11]
    exact ⟨by rw [if_neg (own_z1 hz hc5_12)], rfl, rfl⟩
theorem ef_rmIL1 (m : MethodId) (x0 : Addr) : entryFrame m #[(.ref x0)] 1 = mkF m 0 #[.val (.ref x0)] [] := by first | (simp [entryFrame, mkF, argsToLocals, Value.category]; done) | rfl
set_option maxRecDepth 65536 in
set_option maxHeartbeats 40000000 in
theorem rmIL1 (l : Launch) (Z : State) (a0 : Array Value) (hw : ∀ d ∈ tables_1, d.before a0 Z = true) (ws : List Jvm.Cond) (a b1 : Addr) (z : Int32) (n : Nat) (f : Nat → Int32) (cs : Int32) (fm : Value) (h0 : Heap) (hz : z.toInt = (2 * n : Nat)) (E1 : Exa Z h0 a "java/lang/String") (V1 : Fld Z h0 a "java/lang/String" "value" "[B" (.ref b1)) (C1 : Fld Z h0 a "java/lang/String" "coder" "B" (.int 1)) (B1 : own_A Z h0 b1 .byte (2 * n) (own_u16 f n)) (ST : own_St Z h0 cs fm) :
    own_Ct l Z (⟨"java/lang/String", "isLatin1", "()Z"⟩ : MethodName) jdk_42_method_154_code 1 (some .boolean) ws ({ frames := 0, cells := 0, slots := 0, locals := 0 } : Room) #[(.ref a)] h0 (fun v h L => v = some (.int (0 : Int32)) ∧ L = [] ∧ h = h0) := by
  refine own_of (plainFor_of_name pn_java_lang_String) ?_
  intro p e s m below meth c s₁ hx hby hml hown hnm hret hlk hZ X0 e0
  rw [ef_rmIL1]
  refine own_getS (host := "") X0 hx hZ hown e0 (hb hby d15_0) (Or.inl (hw _ (List.mem_of_getElem? (i := 45) rfl))) Via.refl ST.1 ?_
  intro T11 X11 e11
  show own_Go p e below _ T11 (mkF m 3 #[.val (.ref a)] [(.int cs)])
  refine own_by (T' := T11) (f' := (mkF m 6 #[.val (.ref a)] [])) (fun t k => XS.ifNo X11.here hx rfl (hb hby d15_3) rfl ((if0 _ _).trans (feq ST.2.2.2.2.2.1).1) k) ?_
  refine own_by (T' := T11) (f' := (mkF m 7 #[.val (.ref a)] [(.ref a)])) (fun t k => XS.aloadN X11.here hx rfl (hb hby d15_6) rfl rfl k) ?_
  refine own_getF (host := "") X11 hx hZ hown e11 (hb hby d15_7) (Or.inl (hw _ (List.mem_of_getElem? (i := 25) rfl))) Via.refl C1 ?_
  intro T12 X12 e12
  show own_Go p e below _ T12 (mkF m 10 #[.val (.ref a)] [(.int (1 : Int32))])
  refine own_by (T' := T12) (f' := (mkF m 17 #[.val (.ref a)] [])) (fun t k => XS.ifYes X12.here hx rfl (pc0 := 10) (pc' := 17) rfl (hb hby d15_10) rfl ((if0 _ _).trans (feq (by decide)).2) (by decide) (by decide) k) ?_
  refine own_by (T' := T12) (f' := (mkF m 18 #[.val (.ref a)] [(.int (0 : Int32))])) (fun t k => XS.iconst X12.here hx rfl (hb hby d15_17) k) ?_
  refine own_retZ X12 hx hret hlk (hb hby d15_18) (Or.inl rfl) (by decide) (by decide) ?_
  try rw [e12]
  exact ⟨rfl, rfl, rfl⟩
theorem ef_rmCO1 (m : MethodId) (x0 : Addr) : entryFrame m #[(.ref x0)] 1 = mkF m 0 #[.val (.ref x0)] [] := by first | (simp [entryFrame, mkF, argsToLocals, Value.category]; done) | rfl
set_option maxRecDepth 65536 in
set_option maxHeartbeats 40000000 in
theorem rmCO1 (l : Launch) (Z : State) (a0 : Array Value) (hw : ∀ d ∈ tables_1, d.before a0 Z = true) (ws : List Jvm.Cond) (a b1 : Addr) (z : Int32) (n : Nat) (f : Nat → Int32) (cs : Int32) (fm : Value) (h0 : Heap) (hz : z.toInt = (2 * n : Nat)) (E1 : Exa Z h0 a "java/lang/String") (V1 : Fld Z h0 a "java/lang/String" "value" "[B" (.ref b1)) (C1 : Fld Z h0 a "java/lang/String" "coder" "B" (.int 1)) (B1 : own_A Z h0 b1 .byte (2 * n) (own_u16 f n)) (ST : own_St Z h0 cs fm) :
    own_Ct l Z (⟨"java/lang/String", "coder", "()B"⟩ : MethodName) jdk_42_method_152_code 1 (some .byte) ws ({ frames := 0, cells := 0, slots := 0, locals := 0 } : Room) #[(.ref a)] h0 (fun v h L => v = some (.int (1 : Int32)) ∧ L = [] ∧ h = h0) := by
  refine own_of (plainFor_of_name pn_java_lang_String) ?_
  intro p e s m below meth c s₁ hx hby hml hown hnm hret hlk hZ X0 e0
  rw [ef_rmCO1]
  refine own_getS (host := "") X0 hx hZ hown e0 (hb hby d8_0) (Or.inl (hw _ (List.mem_of_getElem? (i := 45) rfl))) Via.refl ST.1 ?_
  intro T11 X11 e11
  show own_Go p e below _ T11 (mkF m 3 #[.val (.ref a)] [(.int cs)])
  refine own_by (T' := T11) (f' := (mkF m 6 #[.val (.ref a)] [])) (fun t k => XS.ifNo X11.here hx rfl (hb hby d8_3) rfl ((if0 _ _).trans (feq ST.2.2.2.2.2.1).1) k) ?_
  refine own_by (T' := T11) (f' := (mkF m 7 #[.val (.ref a)] [(.ref a)])) (fun t k => XS.aloadN X11.here hx rfl (hb hby d8_6) rfl rfl k) ?_
  refine own_getF (host := "") X11 hx hZ hown e11 (hb hby d8_7) (Or.inl (hw _ (List.mem_of_getElem? (i := 25) rfl))) Via.refl C1 ?_
  intro T12 X12 e12
  show own_Go p e below _ T12 (mkF m 10 #[.val (.ref a)] [(.int (1 : Int32))])
  refine own_by (T' := T12) (f' := (mkF m 14 #[.val (.ref a)] [(.int (1 : Int32))])) (fun t k => XS.goto X12.here hx rfl (pc0 := 10) (pc' := 14) rfl (hb hby d8_10) (by decide) (by decide) k) ?_
  refine own_ret X12 hx hret hlk (hb hby d8_14) rfl (Or.inl ⟨rfl, Or.inr (Or.inr (Or.inl rfl)), _, rfl⟩) (by decide) (by decide) ?_
  try rw [e12]
  exact ⟨rfl, rfl, rfl⟩
theorem ef_rmLN1 (m : MethodId) (x0 : Addr) : entryFrame m #[(.ref x0)] 1 = mkF m 0 #[.val (.ref x0)] [] := by first | (simp [entryFrame, mkF, argsToLocals, Value.category]; done) | rfl
set_option maxRecDepth 65536 in
set_option maxHeartbeats 40000000 in
theorem rmLN1 (l : Launch) (Z : State) (a0 : Array Value) (hw : ∀ d ∈ tables_1, d.before a0 Z = true) (ws : List Jvm.Cond) (a b1 : Addr) (z : Int32) (n : Nat) (f : Nat → Int32) (cs : Int32) (fm : Value) (h0 : Heap) (hz : z.toInt = (2 * n : Nat)) (E1 : Exa Z h0 a "java/lang/String") (V1 : Fld Z h0 a "java/lang/String" "value" "[B" (.ref b1)) (C1 : Fld Z h0 a "java/lang/String" "coder" "B" (.int 1)) (B1 : own_A Z h0 b1 .byte (2 * n) (own_u16 f n)) (ST : own_St Z h0 cs fm) :
    own_Ct l Z (⟨"java/lang/String", "length", "()I"⟩ : MethodName) jdk_42_method_54_code 1 (some .int) ws ({ frames := 1, cells := 0, slots := 0, locals := 14 } : Room) #[(.ref a)] h0 (fun v h L => v = some (.int (z >>> ((1 : Int32) &&& 31))) ∧ L = [] ∧ h = h0) := by
  refine own_of (plainFor_of_name pn_java_lang_String) ?_
  intro p e s m below meth c s₁ hx hby hml hown hnm hret hlk hZ X0 e0
  rw [ef_rmLN1]
  refine own_by (T' := s₁) (f' := (mkF m 1 #[.val (.ref a)] [(.ref a)])) (fun t k => XS.aloadN X0.here hx rfl (hb hby d7_0) rfl rfl k) ?_
  refine own_getF (host := "") X0 hx hZ hown e0 (hb hby d7_1) (Or.inl (hw _ (List.mem_of_getElem? (i := 24) rfl))) Via.refl V1 ?_
  intro T11 X11 e11
  show own_Go p e below _ T11 (mkF m 4 #[.val (.ref a)] [(.ref b1)])
  refine own_alen (j := z) X11 hx hZ e11 (hb hby d7_4) B1 hz ?_
  show own_Go p e below _ T11 (mkF m 5 #[.val (.ref a)] [(.int z)])
  refine own_by (T' := T11) (f' := (mkF m 6 #[.val (.ref a)] [(.ref a), (.int z)])) (fun t k => XS.aloadN X11.here hx rfl (hb hby d7_5) rfl rfl k) ?_
  refine own_callV X11 hx hZ hown e11 (hb hby d7_6) [] [(.int z)] 1 (rmCO1 l Z a0 hw [] a b1 z n f cs fm h0 hz E1 V1 C1 B1 ST) E1 (hw _ (List.mem_of_getElem? (i := 40) rfl)) (hw _ (List.mem_of_getElem? (i := 41) rfl)) (notFace_of_selects (args := #[]) (mvT hZ (hw _ (List.mem_of_getElem? (i := 43) rfl)))) (hw _ (List.mem_of_getElem? (i := 43) rfl)) (hw _ (List.mem_of_getElem? (i := 42) rfl)) (hw _ (List.mem_of_getElem? (i := 7) rfl)) (hw _ (List.mem_of_getElem? (i := 44) rfl)) (by decide) pd___B (by rw [hml]; rfl) rfl rfl (Nat.le_of_eq rfl) (by decide) (by decide) (by decide) (by decide) ?_
  rintro T12 _ L12 X12 ⟨rfl, rfl, e12⟩
  show own_Go p e below _ T12 (mkF m 9 #[.val (.ref a)] [(.int (1 : Int32)), (.int z)])
  rw [List.append_nil] at X12
  refine own_by (T' := T12) (f' := (mkF m 10 #[.val (.ref a)] [(.int (z >>> ((1 : Int32) &&& 31)))])) (fun t k => XS.ishr X12.here hx rfl (hb hby d7_9) rfl k) ?_
  refine own_retI X12 hx hret hlk (hb hby d7_10) (by decide) (by decide) ?_
  try rw [e12]
  exact ⟨rfl, rfl, rfl⟩
theorem ef_rmCA1 (m : MethodId) (x0 : Addr) (x1 : Int32) : entryFrame m #[(.ref x0), (.int x1)] 2 = mkF m 0 #[.val (.ref x0), .val (.int x1)] [] := by first | (simp [entryFrame, mkF, argsToLocals, Value.category]; done) | rfl
set_option maxRecDepth 65536 in
set_option maxHeartbeats 40000000 in
theorem rmCA1 (l : Launch) (Z : State) (a0 : Array Value) (hw : ∀ d ∈ tables_1, d.before a0 Z = true) (ws : List Jvm.Cond) (iv : Int32) (j : Nat) (a b1 : Addr) (z : Int32) (n : Nat) (f : Nat → Int32) (cs : Int32) (fm : Value) (h0 : Heap) (hj : iv.toInt = (j : Nat)) (hjn : j < n) (g0 : 0 ≤ iv.toInt) (hn : n < 1073741824) (hc : 0 ≤ (f j).toInt ∧ (f j).toInt < 65536) (hz : z.toInt = (2 * n : Nat)) (E1 : Exa Z h0 a "java/lang/String") (V1 : Fld Z h0 a "java/lang/String" "value" "[B" (.ref b1)) (C1 : Fld Z h0 a "java/lang/String" "coder" "B" (.int 1)) (B1 : own_A Z h0 b1 .byte (2 * n) (own_u16 f n)) (ST : own_St Z h0 cs fm) :
    own_Ct l Z (⟨"java/lang/String", "charAt", "(I)C"⟩ : MethodName) jdk_42_method_56_code 2 (some .char) ws ({ frames := 4, cells := 0, slots := 0, locals := 56 } : Room) #[(.ref a), (.int iv)] h0 (fun v h L => v = some (.int (f j)) ∧ L = [] ∧ h = h0) := by
  refine own_of (plainFor_of_name pn_java_lang_String) ?_
  intro p e s m below meth c s₁ hx hby hml hown hnm hret hlk hZ X0 e0
  rw [ef_rmCA1]
  refine own_by (T' := s₁) (f' := (mkF m 1 #[.val (.ref a), .val (.int iv)] [(.ref a)])) (fun t k => XS.aloadN X0.here hx rfl (hb hby d14_0) rfl rfl k) ?_
  refine own_callV X0 hx hZ hown e0 (hb hby d14_1) [] [] 0 (rmIL1 l Z a0 hw [] a b1 z n f cs fm h0 hz E1 V1 C1 B1 ST) E1 (hw _ (List.mem_of_getElem? (i := 73) rfl)) (hw _ (List.mem_of_getElem? (i := 74) rfl)) (notFace_of_selects (args := #[]) (mvT hZ (hw _ (List.mem_of_getElem? (i := 76) rfl)))) (hw _ (List.mem_of_getElem? (i := 76) rfl)) (hw _ (List.mem_of_getElem? (i := 75) rfl)) (hw _ (List.mem_of_getElem? (i := 7) rfl)) (hw _ (List.mem_of_getElem? (i := 77) rfl)) (by decide) pd___Z (by rw [hml]; rfl) rfl rfl (Nat.le_of_eq rfl) (by decide) (by decide) (by decide) (by decide) ?_
  rintro T11 _ L11 X11 ⟨rfl, rfl, e11⟩
  show own_Go p e below _ T11 (mkF m 4 #[.val (.ref a), .val (.int iv)] [(.int (0 : Int32))])
  rw [List.append_nil] at X11
  refine own_by (T' := T11) (f' := (mkF m 16 #[.val (.ref a), .val (.int iv)] [])) (fun t k => XS.ifYes X11.here hx rfl (pc0 := 4) (pc' := 16) rfl (hb hby d14_4) rfl ((if0 _ _).trans (teq rfl).1) (by decide) (by decide) k) ?_
  refine own_by (T' := T11) (f' := (mkF m 17 #[.val (.ref a), .val (.int iv)] [(.ref a)])) (fun t k => XS.aloadN X11.here hx rfl (hb hby d14_16) rfl rfl k) ?_
  refine own_getF (host := "") X11 hx hZ hown e11 (hb hby d14_17) (Or.inl (hw _ (List.mem_of_getElem? (i := 24) rfl))) Via.refl V1 ?_
  intro T12 X12 e12
  show own_Go p e below _ T12 (mkF m 20 #[.val (.ref a), .val (.int iv)] [(.ref b1)])
  refine own_by (T' := T12) (f' := (mkF m 21 #[.val (.ref a), .val (.int iv)] [(.int iv), (.ref b1)])) (fun t k => XS.iloadN X12.here hx rfl (hb hby d14_20) rfl k) ?_
  refine own_callS X12 hx hZ hown e12 (hb hby d14_21) [(.ref b1), (.int iv)] [] 0 (rmUC l Z a0 hw [] b1 iv z j n f cs fm h0 hj hjn g0 hz hn hc B1 ST) (hw _ (List.mem_of_getElem? (i := 111) rfl)) (hw _ (List.mem_of_getElem? (i := 112) rfl)) (hw _ (List.mem_of_getElem? (i := 60) rfl)) (hw _ (List.mem_of_getElem? (i := 113) rfl)) (by decide) pd___BI_C (by rw [hml]; rfl) rfl rfl (Nat.le_of_eq rfl) (by decide) (by decide) (by decide) (by decide) ?_
  rintro T13 _ L13 X13 ⟨rfl, rfl, e13⟩
  show own_Go p e below _ T13 (mkF m 24 #[.val (.ref a), .val (.int iv)] [(.int (f j))])
  rw [List.append_nil] at X13
  refine own_ret X13 hx hret hlk (hb hby d14_24) (own_narC hc.1 (by omega)) (Or.inl ⟨rfl, Or.inr (Or.inr (Or.inr (Or.inl rfl))), _, rfl⟩) (by decide) (by decide) ?_
  try rw [e13]
  exact ⟨rfl, rfl, rfl⟩
theorem ef_rmEM1 (m : MethodId) (x0 : Addr) : entryFrame m #[(.ref x0)] 1 = mkF m 0 #[.val (.ref x0)] [] := by first | (simp [entryFrame, mkF, argsToLocals, Value.category]; done) | rfl
set_option maxRecDepth 65536 in
set_option maxHeartbeats 40000000 in
theorem rmEM1 (l : Launch) (Z : State) (a0 : Array Value) (hw : ∀ d ∈ tables_1, d.before a0 Z = true) (ws : List Jvm.Cond) (a b1 : Addr) (z : Int32) (n : Nat) (f : Nat → Int32) (cs : Int32) (fm : Value) (h0 : Heap) (hz : z.toInt = (2 * n : Nat)) (E1 : Exa Z h0 a "java/lang/String") (V1 : Fld Z h0 a "java/lang/String" "value" "[B" (.ref b1)) (C1 : Fld Z h0 a "java/lang/String" "coder" "B" (.int 1)) (B1 : own_A Z h0 b1 .byte (2 * n) (own_u16 f n)) (ST : own_St Z h0 cs fm) :
    own_Ct l Z (⟨"java/lang/String", "isEmpty", "()Z"⟩ : MethodName) jdk_42_method_55_code 1 (some .boolean) ws ({ frames := 0, cells := 0, slots := 0, locals := 0 } : Room) #[(.ref a)] h0 (fun v h L => v = some (.int (if n = 0 then 1 else 0)) ∧ L = [] ∧ h = h0) := by
  refine own_of (plainFor_of_name pn_java_lang_String) ?_
  intro p e s m below meth c s₁ hx hby hml hown hnm hret hlk hZ X0 e0
  rw [ef_rmEM1]
  refine own_by (T' := s₁) (f' := (mkF m 1 #[.val (.ref a)] [(.ref a)])) (fun t k => XS.aloadN X0.here hx rfl (hb hby d6_0) rfl rfl k) ?_
  refine own_getF (host := "") X0 hx hZ hown e0 (hb hby d6_1) (Or.inl (hw _ (List.mem_of_getElem? (i := 24) rfl))) Via.refl V1 ?_
  intro T11 X11 e11
  show own_Go p e below _ T11 (mkF m 4 #[.val (.ref a)] [(.ref b1)])
  refine own_alen (j := z) X11 hx hZ e11 (hb hby d6_4) B1 hz ?_
  show own_Go p e below _ T11 (mkF m 5 #[.val (.ref a)] [(.int z)])
  by_cases hc5_12 : z = (0 : Int32)
  · have _ := X11
    refine own_by (T' := T11) (f' := (mkF m 8 #[.val (.ref a)] [])) (fun t k => XS.ifNo X11.here hx rfl (hb hby d6_5) rfl ((if0 _ _).trans (teq hc5_12).2) k) ?_
    refine own_by (T' := T11) (f' := (mkF m 9 #[.val (.ref a)] [(.int (1 : Int32))])) (fun t k => XS.iconst X11.here hx rfl (hb hby d6_8) k) ?_
    refine own_by (T' := T11) (f' := (mkF m 13 #[.val (.ref a)] [(.int (1 : Int32))])) (fun t k => XS.goto X11.here hx rfl (pc0 := 9) (pc' := 13) rfl (hb hby d6_9) (by decide) (by decide) k) ?_
    refine own_retZ X11 hx hret hlk (hb hby d6_13) (Or.inr rfl) (by decide) (by decide) ?_
    try rw [e11]
    exact ⟨by rw [if_pos (own_z0 hz hc5_12)], rfl, rfl⟩
  · have _ := X11
    refine own_by (T' := T11) (f' := (mkF m 12 #[.val (.ref a)] [])) (fun t k => XS.ifYes X11.here hx rfl (pc0 := 5) (pc' := 12) rfl (hb hby d6_5) rfl ((if0 _ _).trans (feq hc5_12).2) (by decide) (by decide) k) ?_
    refine own_by (T' := T11) (f' := (mkF m 13 #[.val (.ref a)] [(.int (0 : Int32))])) (fun t k => XS.iconst X11.here hx rfl (hb hby d6_12) k) ?_
    refine own_retZ X11 hx hret hlk (hb hby d6_13) (Or.inl rfl) (by decide) (by decide) ?_
    try rw [e11]
    exact ⟨by rw [if_neg (own_z1 hz hc5_12)], rfl, rfl⟩
theorem rmLN (l : Launch) (Z : State) (a0 : Array Value) (hw : ∀ d ∈ tables_1, d.before a0 Z = true) (ws : List Jvm.Cond) (a : Addr) (ln : Int32) (n : Nat) (f : Nat → Int32) (cs : Int32) (fm : Value) (h0 : Heap) (hl : ln.toInt = (n : Nat)) (J : own_JS Z h0 a n f) (ST : own_St Z h0 cs fm) : own_Ct l Z (⟨"java/lang/String", "length", "()I"⟩ : MethodName) jdk_42_method_54_code 1 (some .int) ws ({ frames := 1, cells := 0, slots := 0, locals := 14 } : Room) #[(.ref a)] h0 (fun v h L => v = some (.int ln) ∧ L = [] ∧ h = h0) := by
  obtain ⟨hn, -, E1, b1, z, V1, h4⟩ := J
  rcases h4 with ⟨C1, hz, -, B1⟩ | ⟨C1, hz, -, B1⟩
  · have e : ln = (z >>> ((0 : Int32) &&& 31)) := Int32.toInt_inj.mp (by rw [own_shr0, hl, hz])
    rw [e]; exact rmLN0 l Z a0 hw ws a b1 z n f cs fm h0 hz E1 V1 C1 B1 ST
  · have e : ln = (z >>> ((1 : Int32) &&& 31)) := Int32.toInt_inj.mp (by rw [own_shr1 hz, hl])
    rw [e]; exact rmLN1 l Z a0 hw ws a b1 z n f cs fm h0 hz E1 V1 C1 B1 ST
theorem rmCA (l : Launch) (Z : State) (a0 : Array Value) (hw : ∀ d ∈ tables_1, d.before a0 Z = true) (ws : List Jvm.Cond) (a : Addr) (iv : Int32) (j n : Nat) (f : Nat → Int32) (cs : Int32) (fm : Value) (h0 : Heap) (hj : iv.toInt = (j : Nat)) (hjn : j < n) (J : own_JS Z h0 a n f) (ST : own_St Z h0 cs fm) : own_Ct l Z (⟨"java/lang/String", "charAt", "(I)C"⟩ : MethodName) jdk_42_method_56_code 2 (some .char) ws ({ frames := 4, cells := 0, slots := 0, locals := 56 } : Room) #[(.ref a), (.int iv)] h0 (fun v h L => v = some (.int (f j)) ∧ L = [] ∧ h = h0) := by
  obtain ⟨hn, hc, E1, b1, z, V1, h4⟩ := J
  have g0 : 0 ≤ iv.toInt := by omega
  rcases h4 with ⟨C1, hz, hl, B1⟩ | ⟨C1, hz, -, B1⟩
  · exact rmCA0 l Z a0 hw ws iv j a b1 z n f cs fm h0 hj hjn g0 hn ⟨(hc j hjn).1, own_lt256 (hl j hjn)⟩ hz E1 V1 C1 B1 ST
  · exact rmCA1 l Z a0 hw ws iv j a b1 z n f cs fm h0 hj hjn g0 hn (hc j hjn) hz E1 V1 C1 B1 ST
theorem rmEM (l : Launch) (Z : State) (a0 : Array Value) (hw : ∀ d ∈ tables_1, d.before a0 Z = true) (ws : List Jvm.Cond) (a : Addr) (n : Nat) (f : Nat → Int32) (cs : Int32) (fm : Value) (h0 : Heap) (J : own_JS Z h0 a n f) (ST : own_St Z h0 cs fm) : own_Ct l Z (⟨"java/lang/String", "isEmpty", "()Z"⟩ : MethodName) jdk_42_method_55_code 1 (some .boolean) ws ({ frames := 0, cells := 0, slots := 0, locals := 0 } : Room) #[(.ref a)] h0 (fun v h L => v = some (.int (if n = 0 then 1 else 0)) ∧ L = [] ∧ h = h0) := by
  obtain ⟨hn, -, E1, b1, z, V1, h4⟩ := J
  rcases h4 with ⟨C1, hz, -, B1⟩ | ⟨C1, hz, -, B1⟩
  · exact rmEM0 l Z a0 hw ws a b1 z n f cs fm h0 hz E1 V1 C1 B1 ST
  · exact rmEM1 l Z a0 hw ws a b1 z n f cs fm h0 hz E1 V1 C1 B1 ST
theorem ef_rmNL (m : MethodId) (x0 : Int32) : entryFrame m #[(.int x0)] 1 = mkF m 0 #[.val (.int x0)] [] := by first | (simp [entryFrame, mkF, argsToLocals, Value.category]; done) | rfl
set_option maxRecDepth 65536 in
set_option maxHeartbeats 40000000 in
theorem rmNL (l : Launch) (Z : State) (a0 : Array Value) (hw : ∀ d ∈ tables_1, d.before a0 Z = true) (ws : List Jvm.Cond) (z : Int32) (h0 : Heap) (g0 : 0 ≤ z.toInt) (hlt : z < (1073741823 : Int32)) :
    own_Ct l Z (⟨"java/lang/StringUTF16", "newBytesLength", "(I)I"⟩ : MethodName) jdk_52_method_3_code 1 (some .int) ws ({ frames := 0, cells := 0, slots := 0, locals := 0 } : Room) #[(.int z)] h0 (fun v h L => v = some (.int (z <<< ((1 : Int32) &&& 31))) ∧ L = [] ∧ h = h0) := by
  refine own_of (plainFor_of_name pn_java_lang_StringUTF16) ?_
  intro p e s m below meth c s₁ hx hby hml hown hnm hret hlk hZ X0 e0
  rw [ef_rmNL]
  refine own_by (T' := s₁) (f' := (mkF m 1 #[.val (.int z)] [(.int z)])) (fun t k => XS.iloadN X0.here hx rfl (hb hby d22_0) rfl k) ?_
  have hc1_1 : ¬ (z < (0 : Int32)) := own_nl0 g0
  refine own_by (T' := s₁) (f' := (mkF m 12 #[.val (.int z)] [])) (fun t k => XS.ifYes X0.here hx rfl (pc0 := 1) (pc' := 12) rfl (hb hby d22_1) rfl ((if0 _ _).trans (flt hc1_1).2.1) (by decide) (by decide) k) ?_
  refine own_by (T' := s₁) (f' := (mkF m 13 #[.val (.int z)] [(.int z)])) (fun t k => XS.iloadN X0.here hx rfl (hb hby d22_12) rfl k) ?_
  refine own_by (T' := s₁) (f' := (mkF m 15 #[.val (.int z)] [(.int (1073741823 : Int32)), (.int z)])) (fun t k => X0.ldcInt hx hown (mvT hZ (hw _ (List.mem_of_getElem? (i := 101) rfl))) (g := (mkF m 13 #[.val (.int z)] [(.int z)])) rfl (hb hby d22_13) _ k) ?_
  have hc15_2 : z < (1073741823 : Int32) := hlt
  refine own_by (T' := s₁) (f' := (mkF m 55 #[.val (.int z)] [])) (fun t k => XS.icmpYes X0.here hx rfl (pc0 := 15) (pc' := 55) rfl (hb hby d22_15) rfl (tlt hc15_2).1 (by decide) (by decide) k) ?_
  refine own_by (T' := s₁) (f' := (mkF m 56 #[.val (.int z)] [(.int z)])) (fun t k => XS.iloadN X0.here hx rfl (hb hby d22_55) rfl k) ?_
  refine own_by (T' := s₁) (f' := (mkF m 57 #[.val (.int z)] [(.int (1 : Int32)), (.int z)])) (fun t k => XS.iconst X0.here hx rfl (hb hby d22_56) k) ?_
  refine own_by (T' := s₁) (f' := (mkF m 58 #[.val (.int z)] [(.int (z <<< ((1 : Int32) &&& 31)))])) (fun t k => XS.ishl X0.here hx rfl (hb hby d22_57) rfl k) ?_
  refine own_retI X0 hx hret hlk (hb hby d22_58) (by decide) (by decide) ?_
  try rw [e0]
  exact ⟨rfl, rfl, rfl⟩
theorem ef_rmNB (m : MethodId) (x0 : Int32) : entryFrame m #[(.int x0)] 1 = mkF m 0 #[.val (.int x0)] [] := by first | (simp [entryFrame, mkF, argsToLocals, Value.category]; done) | rfl
set_option maxRecDepth 65536 in
set_option maxHeartbeats 40000000 in
theorem rmNB (l : Launch) (Z : State) (a0 : Array Value) (hw : ∀ d ∈ tables_1, d.before a0 Z = true) (ws : List Jvm.Cond) (z : Int32) (n : Nat) (h0 : Heap) (n0 : Nat) (Z0 : n0 ≤ h0.size) (hz : z.toInt = (n : Nat)) (hcap : n ≤ 65) :
    own_Ct l Z (⟨"java/lang/StringUTF16", "newBytesFor", "(I)[B"⟩ : MethodName) jdk_52_method_2_code 1 (some (.array .byte)) ws ({ frames := 1, cells := 1, slots := 130, locals := 12 } : Room) #[(.int z)] h0 (fun v h L => ∃ (b : Addr) (z2 : Int32), z2.toInt = ((2 * n : Nat) : Int) ∧ v = some (.ref b) ∧ Fr n0 L ∧ Keep h0 h [] ∧ h0.size ≤ b ∧ own_A Z h b .byte (2 * n) (fun _ => 0)) := by
  refine own_of (plainFor_of_name pn_java_lang_StringUTF16) ?_
  intro p e s m below meth c s₁ hx hby hml hown hnm hret hlk hZ X0 e0
  have N0 := Fr.nil n0
  have K0 := Keep.refl h0 []
  rw [ef_rmNB]
  refine own_by (T' := s₁) (f' := (mkF m 1 #[.val (.int z)] [(.int z)])) (fun t k => XS.iloadN X0.here hx rfl (hb hby d21_0) rfl k) ?_
  refine own_callS X0 hx hZ hown e0 (hb hby d21_1) [(.int z)] [] 0 (rmNL l Z a0 hw [] z h0 (by omega) (own_lt30 hz hcap (by decide))) (hw _ (List.mem_of_getElem? (i := 98) rfl)) (hw _ (List.mem_of_getElem? (i := 99) rfl)) (hw _ (List.mem_of_getElem? (i := 60) rfl)) (hw _ (List.mem_of_getElem? (i := 100) rfl)) (by decide) pd__I_I (by rw [hml]; rfl) rfl rfl (Nat.le_of_eq rfl) (by decide) (by decide) (by decide) (by decide) ?_
  rintro T11 _ L11 X11 ⟨rfl, rfl, e11⟩
  show own_Go p e below _ T11 (mkF m 4 #[.val (.int z)] [(.int (z <<< ((1 : Int32) &&& 31)))])
  rw [List.append_nil] at X11
  obtain ⟨z2, hz2⟩ : ∃ q : Int32, q = (z <<< ((1 : Int32) &&& 31)) := ⟨_, rfl⟩
  rw [← hz2]
  have e2 : z2.toInt = ((2 * n : Nat) : Int) := by rw [hz2]; exact own_shl1 hz (by omega)
  show own_Go p e below _ T11 (mkF m 4 #[.val (.int z)] [(.int z2)])
  refine own_mkA X11 hx hZ e11 (hb hby d21_4) (hw _ (List.mem_of_getElem? (i := 19) rfl)) (v := 0) rfl (by omega) 130 (by omega) (by decide) (by decide) (by decide) ?_
  intro T12 h12 b12 X12 e12 g12 E12 A12r
  have gn12 : n0 ≤ b12 := by rw [g12]; exact Z0
  have gh12 : h0.size ≤ b12 := by rw [g12]; exact K0.1
  show own_Go p e below _ T12 (mkF m 6 #[.val (.int z)] [(.ref b12)])
  have A12 : own_A Z h12 b12 .byte (2 * n) (fun _ => 0) := (by rw [show 2 * n = z2.toInt.toNat from by omega]; exact A12r)
  have sz13 : n0 ≤ h12.size := Nat.le_trans Z0 E12.1
  have K14 := K0.ext E12
  refine own_retA X12 hx hret hlk (hb hby d21_6) rfl rfl rfl (by decide) (by decide) ?_
  try rw [e12]
  exact ⟨b12, z2, e2, rfl, N0, K14, gh12, A12⟩
theorem ef_rmPU (m : MethodId) (x0 : Addr) (x1 : Int32) (x2 : Int32) : entryFrame m #[(.ref x0), (.int x1), (.int x2)] 3 = mkF m 0 #[.val (.ref x0), .val (.int x1), .val (.int x2)] [] := by first | (simp [entryFrame, mkF, argsToLocals, Value.category]; done) | rfl
set_option maxRecDepth 65536 in
set_option maxHeartbeats 40000000 in
theorem rmPU (l : Launch) (Z : State) (a0 : Array Value) (hw : ∀ d ∈ tables_1, d.before a0 Z = true) (ws : List Jvm.Cond) (b1 : Addr) (iv p1 : Int32) (j n : Nat) (g : Nat → Int32) (cs : Int32) (fm : Value) (h0 : Heap) (n0 : Nat) (Z0 : n0 ≤ h0.size) (g1 : n0 ≤ b1) (hj : iv.toInt = (j : Nat)) (hjn : j < n) (hn : n < 1073741824) (B1 : own_A Z h0 b1 .byte (2 * n) g) (ST : own_St Z h0 cs fm) :
    own_Ct l Z (⟨"java/lang/StringUTF16", "putChar", "([BII)V"⟩ : MethodName) jdk_52_method_4_code 3 none ws ({ frames := 0, cells := 0, slots := 0, locals := 0 } : Room) #[(.ref b1), (.int iv), (.int p1)] h0 (fun v h L => v = none ∧ Fr n0 L ∧ Keep h0 h [b1] ∧ own_A Z h b1 .byte (2 * n) (fun i => if i = 2 * j + 1 then own_hi p1 else if i = 2 * j then own_lo p1 else g i)) := by
  refine own_of (plainFor_of_name pn_java_lang_StringUTF16) ?_
  intro p e s m below meth c s₁ hx hby hml hown hnm hret hlk hZ X0 e0
  have N0 := Fr.nil n0
  have K0 := Keep.refl h0 [b1]
  rw [ef_rmPU]
  refine own_getS (host := "") X0 hx hZ hown e0 (hb hby d23_0) (Or.inl (hw _ (List.mem_of_getElem? (i := 105) rfl))) Via.refl ST.2.1 ?_
  intro T11 X11 e11
  show own_Go p e below _ T11 (mkF m 3 #[.val (.ref b1), .val (.int iv), .val (.int p1)] [(.int (1 : Int32))])
  refine own_by (T' := T11) (f' := (mkF m 28 #[.val (.ref b1), .val (.int iv), .val (.int p1)] [])) (fun t k => XS.ifYes X11.here hx rfl (pc0 := 3) (pc' := 28) rfl (hb hby d23_3) rfl ((if0 _ _).trans (feq (by decide)).2) (by decide) (by decide) k) ?_
  refine own_by (T' := T11) (f' := (mkF m 29 #[.val (.ref b1), .val (.int iv), .val (.int p1)] [(.int iv)])) (fun t k => XS.iloadN X11.here hx rfl (hb hby d23_28) rfl k) ?_
  refine own_by (T' := T11) (f' := (mkF m 30 #[.val (.ref b1), .val (.int iv), .val (.int p1)] [(.int (1 : Int32)), (.int iv)])) (fun t k => XS.iconst X11.here hx rfl (hb hby d23_29) k) ?_
  refine own_by (T' := T11) (f' := (mkF m 31 #[.val (.ref b1), .val (.int iv), .val (.int p1)] [(.int (iv <<< ((1 : Int32) &&& 31)))])) (fun t k => XS.ishl X11.here hx rfl (hb hby d23_30) rfl k) ?_
  obtain ⟨wv, hwv⟩ : ∃ z : Int32, z = (iv <<< ((1 : Int32) &&& 31)) := ⟨_, rfl⟩
  rw [← hwv]
  have ew : wv.toInt = ((2 * j : Nat) : Int) := by rw [hwv]; exact own_shl1 hj (by omega)
  have ew1 := own_inc (n := 2 * n) ew (by omega) (by omega)
  show own_Go p e below _ T11 (mkF m 31 #[.val (.ref b1), .val (.int iv), .val (.int p1)] [(.int wv)])
  refine own_by (T' := T11) (f' := (mkF m 32 #[.val (.ref b1), .val (.int wv), .val (.int p1)] [])) (fun t k => XS.istoreN X11.here hx rfl (hb hby d23_31) rfl (l' := #[.val (.ref b1), .val (.int wv), .val (.int p1)]) rfl k) ?_
  refine own_by (T' := T11) (f' := (mkF m 33 #[.val (.ref b1), .val (.int wv), .val (.int p1)] [(.ref b1)])) (fun t k => XS.aloadN X11.here hx rfl (hb hby d23_32) rfl rfl k) ?_
  refine own_by (T' := T11) (f' := (mkF m 34 #[.val (.ref b1), .val (.int wv), .val (.int p1)] [(.int wv), (.ref b1)])) (fun t k => XS.iloadN X11.here hx rfl (hb hby d23_33) rfl k) ?_
  refine own_by (T' := T11) (f' := (mkF m 37 #[.val (.ref b1), .val (.int (wv + (1 : Int32))), .val (.int p1)] [(.int wv), (.ref b1)])) (fun t k => XS.iinc X11.here hx rfl (hb hby d23_34) rfl (l' := #[.val (.ref b1), .val (.int (wv + (1 : Int32))), .val (.int p1)]) rfl k) ?_
  refine own_by (T' := T11) (f' := (mkF m 38 #[.val (.ref b1), .val (.int (wv + (1 : Int32))), .val (.int p1)] [(.int p1), (.int wv), (.ref b1)])) (fun t k => XS.iloadN X11.here hx rfl (hb hby d23_37) rfl k) ?_
  refine own_getS (host := "") X11 hx hZ hown e11 (hb hby d23_38) (Or.inl (hw _ (List.mem_of_getElem? (i := 106) rfl))) Via.refl ST.2.2.1 ?_
  intro T12 X12 e12
  show own_Go p e below _ T12 (mkF m 41 #[.val (.ref b1), .val (.int (wv + (1 : Int32))), .val (.int p1)] [(.int (0 : Int32)), (.int p1), (.int wv), (.ref b1)])
  refine own_by (T' := T12) (f' := (mkF m 42 #[.val (.ref b1), .val (.int (wv + (1 : Int32))), .val (.int p1)] [(.int (p1 >>> ((0 : Int32) &&& 31))), (.int wv), (.ref b1)])) (fun t k => XS.ishr X12.here hx rfl (hb hby d23_41) rfl k) ?_
  refine own_by (T' := T12) (f' := (mkF m 43 #[.val (.ref b1), .val (.int (wv + (1 : Int32))), .val (.int p1)] [(.int ((p1 >>> ((0 : Int32) &&& 31)).toInt8.toInt32)), (.int wv), (.ref b1)])) (fun t k => XS.i2b X12.here hx rfl (hb hby d23_42) rfl k) ?_
  refine own_stB X12 hx hZ e12 (hb hby d23_43) B1 (by first | decide | omega) (by first | decide | omega) ?_
  intro T13 h13 X13 e13 W13 A13
  show own_Go p e below _ T13 (mkF m 44 #[.val (.ref b1), .val (.int (wv + (1 : Int32))), .val (.int p1)] [])
  have sz14 : n0 ≤ h13.size := by rw [W13.size]; exact Z0
  have K15 := K0.wr W13 (Or.inl (List.mem_of_getElem? (i := 0) rfl))
  have N13 := Fr.snoc X13 N0 g1
  have A16 : own_A Z h13 b1 .byte (2 * n) (fun i => if i = 2 * j then own_lo p1 else g i) := A13.congr (fun i hi => by rw [show wv.toInt.toNat = 2 * j from by omega]; rfl)
  refine own_by (T' := T13) (f' := (mkF m 45 #[.val (.ref b1), .val (.int (wv + (1 : Int32))), .val (.int p1)] [(.ref b1)])) (fun t k => XS.aloadN X13.here hx rfl (hb hby d23_44) rfl rfl k) ?_
  refine own_by (T' := T13) (f' := (mkF m 46 #[.val (.ref b1), .val (.int (wv + (1 : Int32))), .val (.int p1)] [(.int (wv + (1 : Int32))), (.ref b1)])) (fun t k => XS.iloadN X13.here hx rfl (hb hby d23_45) rfl k) ?_
  refine own_by (T' := T13) (f' := (mkF m 47 #[.val (.ref b1), .val (.int (wv + (1 : Int32))), .val (.int p1)] [(.int p1), (.int (wv + (1 : Int32))), (.ref b1)])) (fun t k => XS.iloadN X13.here hx rfl (hb hby d23_46) rfl k) ?_
  have f17 := (ST.2.2.2.1.wr W13)
  refine own_getS (host := "") X13 hx hZ hown e13 (hb hby d23_47) (Or.inl (hw _ (List.mem_of_getElem? (i := 107) rfl))) Via.refl f17 ?_
  intro T18 X18 e18
  show own_Go p e below _ T18 (mkF m 50 #[.val (.ref b1), .val (.int (wv + (1 : Int32))), .val (.int p1)] [(.int (8 : Int32)), (.int p1), (.int (wv + (1 : Int32))), (.ref b1)])
  refine own_by (T' := T18) (f' := (mkF m 51 #[.val (.ref b1), .val (.int (wv + (1 : Int32))), .val (.int p1)] [(.int (p1 >>> ((8 : Int32) &&& 31))), (.int (wv + (1 : Int32))), (.ref b1)])) (fun t k => XS.ishr X18.here hx rfl (hb hby d23_50) rfl k) ?_
  refine own_by (T' := T18) (f' := (mkF m 52 #[.val (.ref b1), .val (.int (wv + (1 : Int32))), .val (.int p1)] [(.int ((p1 >>> ((8 : Int32) &&& 31)).toInt8.toInt32)), (.int (wv + (1 : Int32))), (.ref b1)])) (fun t k => XS.i2b X18.here hx rfl (hb hby d23_51) rfl k) ?_
  have _ : (1 : Int32).toInt = 1 := by decide
  refine own_stB X18 hx hZ e18 (hb hby d23_52) A16 (by first | decide | omega) (by first | decide | omega) ?_
  intro T19 h19 X19 e19 W19 A19
  show own_Go p e below _ T19 (mkF m 53 #[.val (.ref b1), .val (.int (wv + (1 : Int32))), .val (.int p1)] [])
  have sz20 : n0 ≤ h19.size := by rw [W19.size]; exact sz14
  have K21 := K15.wr W19 (Or.inl (List.mem_of_getElem? (i := 0) rfl))
  have N19 := Fr.snoc X19 N13 g1
  have A22 : own_A Z h19 b1 .byte (2 * n) (fun i => if i = 2 * j + 1 then own_hi p1 else if i = 2 * j then own_lo p1 else g i) := A19.congr (fun i hi => by rw [show (wv + (1 : Int32)).toInt.toNat = 2 * j + 1 from by omega]; rfl)
  refine own_retV X19 hx hret hlk (hb hby d23_53) (by decide) (by decide) ?_
  try rw [e19]
  exact ⟨rfl, N19, K21, A22⟩
theorem ef_rmTU (m : MethodId) (x0 : Addr) (x1 : Int32) (x2 : Int32) : entryFrame m #[(.ref x0), (.int x1), (.int x2)] 5 = mkF m 0 #[.val (.ref x0), .val (.int x1), .val (.int x2), .unset, .unset] [] := by first | (simp [entryFrame, mkF, argsToLocals, Value.category]; done) | rfl
set_option maxRecDepth 65536 in
set_option maxHeartbeats 40000000 in
theorem rmTU (l : Launch) (Z : State) (a0 : Array Value) (hw : ∀ d ∈ tables_1, d.before a0 Z = true) (ws : List Jvm.Cond) (a1 : Addr) (z : Int32) (n : Nat) (f : Nat → Int32) (cs : Int32) (fm : Value) (h0 : Heap) (n0 : Nat) (Z0 : n0 ≤ h0.size) (hz : z.toInt = (n : Nat)) (hcap : n ≤ 65) (A1 : own_A Z h0 a1 .char n f) (ST : own_St Z h0 cs fm) :
    own_Ct l Z (⟨"java/lang/StringUTF16", "toBytes", "([CII)[B"⟩ : MethodName) jdk_52_method_14_code 5 (some (.array .byte)) ws ({ frames := 2, cells := 1, slots := 130, locals := 32 } : Room) #[(.ref a1), (.int (0 : Int32)), (.int z)] h0 (fun v h L => ∃ b : Addr, v = some (.ref b) ∧ Fr n0 L ∧ Keep h0 h [] ∧ h0.size ≤ b ∧ (∃ z2 : Int32, z2.toInt = ((2 * n : Nat) : Int)) ∧ own_A Z h b .byte (2 * n) (own_u16 f n)) := by
  refine own_of (plainFor_of_name pn_java_lang_StringUTF16) ?_
  intro p e s m below meth c s₁ hx hby hml hown hnm hret hlk hZ X0 e0
  have N0 := Fr.nil n0
  have K0 := Keep.refl h0 []
  have loop : ∀ (b1 : Addr) (z2 : Int32), z2.toInt = ((2 * n : Nat) : Int) → a1 ≠ b1 → h0.size ≤ b1 → ∀ (k j : Nat) (iv : Int32) (TL : State) (hL : Heap) (LL : List Loc), j + k = n → iv.toInt = (j : Nat) → Stand p l e ({ frames := 2, cells := 1, slots := 130, locals := 32 } : Room) s m #[(.ref a1), (.int (0 : Int32)), (.int z)] below meth c TL LL 1 130 → TL.heap = hL → own_A Z hL a1 .char n f → own_A Z hL b1 .byte (2 * n) (own_u16 f j) → own_St Z hL cs fm → Keep h0 hL [] → Fr n0 LL → n0 ≤ hL.size → own_Go p e below (own_Ends s ({ frames := 2, cells := 1, slots := 130, locals := 32 } : Room) (fun v h L => ∃ b : Addr, v = some (.ref b) ∧ Fr n0 L ∧ Keep h0 h [] ∧ h0.size ≤ b ∧ (∃ z2 : Int32, z2.toInt = ((2 * n : Nat) : Int)) ∧ own_A Z h b .byte (2 * n) (own_u16 f n))) TL (mkF m 8 #[.val (.ref a1), .val (.int iv), .val (.int z), .val (.ref b1), .val (.int iv)] []) := by
    intro b1 z2 hz2 hab hb1 k
    induction k with
    | zero =>
      intro j iv TL hL LL hjk hiv XL eL AL BL ST KL NL ZL
      refine own_by (T' := TL) (f' := (mkF m 10 #[.val (.ref a1), .val (.int iv), .val (.int z), .val (.ref b1), .val (.int iv)] [(.int iv)])) (fun t k => XS.iload XL.here hx rfl (hb hby d20_8) rfl k) ?_
      refine own_by (T' := TL) (f' := (mkF m 11 #[.val (.ref a1), .val (.int iv), .val (.int z), .val (.ref b1), .val (.int iv)] [(.int z), (.int iv)])) (fun t k => XS.iloadN XL.here hx rfl (hb hby d20_10) rfl k) ?_
      have hc11_51 : ¬ (iv < z) := (by rw [Int32.lt_iff_toInt_lt]; omega)
      refine own_by (T' := TL) (f' := (mkF m 32 #[.val (.ref a1), .val (.int iv), .val (.int z), .val (.ref b1), .val (.int iv)] [])) (fun t k => XS.icmpYes XL.here hx rfl (pc0 := 11) (pc' := 32) rfl (hb hby d20_11) rfl (flt hc11_51).2.1 (by decide) (by decide) k) ?_
      refine own_by (T' := TL) (f' := (mkF m 33 #[.val (.ref a1), .val (.int iv), .val (.int z), .val (.ref b1), .val (.int iv)] [(.ref b1)])) (fun t k => XS.aloadN XL.here hx rfl (hb hby d20_32) rfl rfl k) ?_
      refine own_retA XL hx hret hlk (hb hby d20_33) rfl rfl rfl (by decide) (by decide) ?_
      try rw [eL]
      obtain rfl : j = n := by omega
      exact ⟨b1, rfl, NL, KL, hb1, ⟨z2, hz2⟩, BL⟩
    | succ k ih =>
      intro j iv TL hL LL hjk hiv XL eL AL BL ST KL NL ZL
      refine own_by (T' := TL) (f' := (mkF m 10 #[.val (.ref a1), .val (.int iv), .val (.int z), .val (.ref b1), .val (.int iv)] [(.int iv)])) (fun t k => XS.iload XL.here hx rfl (hb hby d20_8) rfl k) ?_
      refine own_by (T' := TL) (f' := (mkF m 11 #[.val (.ref a1), .val (.int iv), .val (.int z), .val (.ref b1), .val (.int iv)] [(.int z), (.int iv)])) (fun t k => XS.iloadN XL.here hx rfl (hb hby d20_10) rfl k) ?_
      have hc11_51 : iv < z := (by rw [Int32.lt_iff_toInt_lt]; omega)
      refine own_by (T' := TL) (f' := (mkF m 14 #[.val (.ref a1), .val (.int iv), .val (.int z), .val (.ref b1), .val (.int iv)] [])) (fun t k => XS.icmpNo XL.here hx rfl (hb hby d20_11) rfl (tlt hc11_51).2.1 k) ?_
      refine own_by (T' := TL) (f' := (mkF m 15 #[.val (.ref a1), .val (.int iv), .val (.int z), .val (.ref b1), .val (.int iv)] [(.ref b1)])) (fun t k => XS.aloadN XL.here hx rfl (hb hby d20_14) rfl rfl k) ?_
      refine own_by (T' := TL) (f' := (mkF m 17 #[.val (.ref a1), .val (.int iv), .val (.int z), .val (.ref b1), .val (.int iv)] [(.int iv), (.ref b1)])) (fun t k => XS.iload XL.here hx rfl (hb hby d20_15) rfl k) ?_
      refine own_by (T' := TL) (f' := (mkF m 18 #[.val (.ref a1), .val (.int iv), .val (.int z), .val (.ref b1), .val (.int iv)] [(.ref a1), (.int iv), (.ref b1)])) (fun t k => XS.aloadN XL.here hx rfl (hb hby d20_17) rfl rfl k) ?_
      refine own_by (T' := TL) (f' := (mkF m 19 #[.val (.ref a1), .val (.int iv), .val (.int z), .val (.ref b1), .val (.int iv)] [(.int iv), (.ref a1), (.int iv), (.ref b1)])) (fun t k => XS.iloadN XL.here hx rfl (hb hby d20_18) rfl k) ?_
      refine own_ldC XL hx hZ eL (hb hby d20_19) AL (by first | decide | omega) (by first | decide | omega) ?_
      rw [show iv.toInt.toNat = j from by omega]
      show own_Go p e below _ TL (mkF m 20 #[.val (.ref a1), .val (.int iv), .val (.int z), .val (.ref b1), .val (.int iv)] [(.int (f j)), (.int iv), (.ref b1)])
      have q52 : ∀ x ∈ [b1], ∃ c : Cell, hL[x]? = some c ∧ c.vm.isStatics = false := (allS (own_nsA BL) all0)
      refine own_callS XL hx hZ hown eL (hb hby d20_20) [(.ref b1), (.int iv), (.int (f j))] [] 0 (rmPU l Z a0 hw [] b1 iv (f j) j n _ cs fm hL n0 ZL (Nat.le_trans Z0 hb1) hiv (by omega) (by omega) BL ST) (hw _ (List.mem_of_getElem? (i := 102) rfl)) (hw _ (List.mem_of_getElem? (i := 103) rfl)) (hw _ (List.mem_of_getElem? (i := 60) rfl)) (hw _ (List.mem_of_getElem? (i := 104) rfl)) (by decide) pd___BII_V (by rw [hml]; rfl) rfl rfl (Nat.le_of_eq rfl) (by decide) (by decide) (by decide) (by decide) ?_
      rintro T53 _ L53 X53 ⟨rfl, N53q, K53, B53⟩
      show own_Go p e below _ T53 (mkF m 23 #[.val (.ref a1), .val (.int iv), .val (.int z), .val (.ref b1), .val (.int iv)] [])
      have N53 := Fr.app NL N53q
      have sz54 : n0 ≤ T53.heap.size := Nat.le_trans ZL K53.1
      have K55 := KL.trans K53 (allS (Or.inr hb1) all0)
      have A56 : own_A Z T53.heap b1 .byte (2 * n) (own_u16 f (j + 1)) := B53.congr (fun i hi => by exact own_u16_step f j i)
      refine own_by (T' := T53) (f' := (mkF m 26 #[.val (.ref a1), .val (.int (iv + (1 : Int32))), .val (.int z), .val (.ref b1), .val (.int iv)] [])) (fun t k => XS.iinc X53.here hx rfl (hb hby d20_23) rfl (l' := #[.val (.ref a1), .val (.int (iv + (1 : Int32))), .val (.int z), .val (.ref b1), .val (.int iv)]) rfl k) ?_
      refine own_by (T' := T53) (f' := (mkF m 29 #[.val (.ref a1), .val (.int (iv + (1 : Int32))), .val (.int z), .val (.ref b1), .val (.int (iv + (1 : Int32)))] [])) (fun t k => XS.iinc X53.here hx rfl (hb hby d20_26) rfl (l' := #[.val (.ref a1), .val (.int (iv + (1 : Int32))), .val (.int z), .val (.ref b1), .val (.int (iv + (1 : Int32)))]) rfl k) ?_
      refine own_by (T' := T53) (f' := (mkF m 8 #[.val (.ref a1), .val (.int (iv + (1 : Int32))), .val (.int z), .val (.ref b1), .val (.int (iv + (1 : Int32)))] [])) (fun t k => XS.goto X53.here hx rfl (pc0 := 29) (pc' := 8) rfl (hb hby d20_29) (by decide) (by decide) k) ?_
      have f57 := (AL.keep K53 (ninS hab nin0))
      have f58 := (ST.keep K53 q52)
      exact ih (j + 1) (iv + (1 : Int32)) T53 T53.heap _ (by omega) (own_inc hiv (by omega : j < n) (by omega)) X53 rfl f57 A56 f58 K55 N53 sz54
  rw [ef_rmTU]
  refine own_by (T' := s₁) (f' := (mkF m 1 #[.val (.ref a1), .val (.int (0 : Int32)), .val (.int z), .unset, .unset] [(.int z)])) (fun t k => XS.iloadN X0.here hx rfl (hb hby d20_0) rfl k) ?_
  refine own_callS X0 hx hZ hown e0 (hb hby d20_1) [(.int z)] [] 0 (rmNB l Z a0 hw [] z n h0 n0 Z0 hz hcap) (hw _ (List.mem_of_getElem? (i := 95) rfl)) (hw _ (List.mem_of_getElem? (i := 96) rfl)) (hw _ (List.mem_of_getElem? (i := 60) rfl)) (hw _ (List.mem_of_getElem? (i := 97) rfl)) (by decide) pd__I__B (by rw [hml]; rfl) rfl rfl (Nat.le_of_eq rfl) (by decide) (by decide) (by decide) (by decide) ?_
  rintro T11 _ L11 X11 ⟨b11, z11, hz11, rfl, N11q, K11, gb11, B11⟩
  show own_Go p e below _ T11 (mkF m 4 #[.val (.ref a1), .val (.int (0 : Int32)), .val (.int z), .unset, .unset] [(.ref b11)])
  have N11 := Fr.app N0 N11q
  have neab : a1 ≠ b11 := Nat.ne_of_lt (Nat.lt_of_lt_of_le A1.lt gb11)
  have sz12 : n0 ≤ T11.heap.size := Nat.le_trans Z0 K11.1
  have K13 := K0.trans K11 all0
  refine own_by (T' := T11) (f' := (mkF m 5 #[.val (.ref a1), .val (.int (0 : Int32)), .val (.int z), .val (.ref b11), .unset] [])) (fun t k => XS.astoreN X11.here hx rfl (hb hby d20_4) rfl rfl (l' := #[.val (.ref a1), .val (.int (0 : Int32)), .val (.int z), .val (.ref b11), .unset]) rfl k) ?_
  refine own_by (T' := T11) (f' := (mkF m 6 #[.val (.ref a1), .val (.int (0 : Int32)), .val (.int z), .val (.ref b11), .unset] [(.int (0 : Int32))])) (fun t k => XS.iconst X11.here hx rfl (hb hby d20_5) k) ?_
  refine own_by (T' := T11) (f' := (mkF m 8 #[.val (.ref a1), .val (.int (0 : Int32)), .val (.int z), .val (.ref b11), .val (.int (0 : Int32))] [])) (fun t k => XS.istore X11.here hx rfl (hb hby d20_6) rfl (l' := #[.val (.ref a1), .val (.int (0 : Int32)), .val (.int z), .val (.ref b11), .val (.int (0 : Int32))]) rfl k) ?_
  have f14 := (A1.keep K11 nin0)
  have f15 := (ST.keep K11 all0)
  exact loop b11 z11 hz11 neab gb11 n 0 0 T11 T11.heap _ (by omega) (by decide) X11 rfl f14 (B11.congr fun i _ => by simp [own_u16]) f15 K13 N11 sz12
theorem ef_rmCd1 (m : MethodId) (x0 : Addr) (x1 : Int32) : entryFrame m #[(.ref x0), (.int x1)] 2 = mkF m 0 #[.val (.ref x0), .val (.int x1)] [] := by first | (simp [entryFrame, mkF, argsToLocals, Value.category]; done) | rfl
set_option maxRecDepth 65536 in
set_option maxHeartbeats 40000000 in
theorem rmCd1 (l : Launch) (Z : State) (a0 : Array Value) (hw : ∀ d ∈ tables_1, d.before a0 Z = true) (ws : List Jvm.Cond) (b1 : Addr) (z z2 : Int32) (n : Nat) (f : Nat → Int32) (h0 : Heap) (F1 : own_A Z h0 b1 .byte (2 * n) f) (hz : z.toInt = n) (hz2 : z2.toInt = ((2 * n : Nat) : Int)) (hn1 : 1 ≤ n) :
    own_Ct l Z (⟨"java/lang/StringUTF16", "coderFromArrayLen", "([BI)B"⟩ : MethodName) jdk_52_method_15_code 2 (some .byte) ws ({ frames := 0, cells := 0, slots := 0, locals := 0 } : Room) #[(.ref b1), (.int z)] h0 (fun v h L => v = some (.int 1) ∧ L = [] ∧ h = h0) := by
  refine own_of (plainFor_of_name pn_java_lang_StringUTF16) ?_
  intro p e s m below meth c s₁ hx hby hml hown hnm hret hlk hZ X0 e0
  rw [ef_rmCd1]
  refine own_by (T' := s₁) (f' := (mkF m 1 #[.val (.ref b1), .val (.int z)] [(.int z)])) (fun t k => XS.iloadN X0.here hx rfl (hb hby d13_0) rfl k) ?_
  refine own_by (T' := s₁) (f' := (mkF m 2 #[.val (.ref b1), .val (.int z)] [(.ref b1), (.int z)])) (fun t k => XS.aloadN X0.here hx rfl (hb hby d13_1) rfl rfl k) ?_
  refine own_alen (j := z2) X0 hx hZ e0 (hb hby d13_2) F1 hz2 ?_
  show own_Go p e below _ s₁ (mkF m 3 #[.val (.ref b1), .val (.int z)] [(.int z2), (.int z)])
  refine own_by (T' := s₁) (f' := (mkF m 4 #[.val (.ref b1), .val (.int z)] [(.int (z - z2))])) (fun t k => XS.isub X0.here hx rfl (hb hby d13_3) rfl k) ?_
  refine own_by (T' := s₁) (f' := (mkF m 6 #[.val (.ref b1), .val (.int z)] [(.int (31 : Int32)), (.int (z - z2))])) (fun t k => XS.bipush X0.here hx rfl (hb hby d13_4) k) ?_
  refine own_by (T' := s₁) (f' := (mkF m 7 #[.val (.ref b1), .val (.int z)] [(.int (((z - z2).toUInt32 >>> ((31 : Int32) &&& 31).toUInt32).toInt32))])) (fun t k => XS.iushr X0.here hx rfl (hb hby d13_6) rfl k) ?_
  refine own_by (T' := s₁) (f' := (mkF m 8 #[.val (.ref b1), .val (.int z)] [(.int ((((z - z2).toUInt32 >>> ((31 : Int32) &&& 31).toUInt32).toInt32).toInt8.toInt32))])) (fun t k => XS.i2b X0.here hx rfl (hb hby d13_7) rfl k) ?_
  rw [own_cd1 hz hz2 hn1]
  show own_Go p e below _ s₁ (mkF m 8 #[.val (.ref b1), .val (.int z)] [(.int (1 : Int32))])
  refine own_ret X0 hx hret hlk (hb hby d13_8) rfl (Or.inl ⟨rfl, Or.inr (Or.inr (Or.inl rfl)), _, rfl⟩) (by decide) (by decide) ?_
  try rw [e0]
  exact ⟨rfl, rfl, rfl⟩
theorem ef_rmC3 (m : MethodId) (x0 : Addr) (x1 : Int32) (x2 : Int32) : entryFrame m #[(.ref x0), (.int x1), (.int x2)] 6 = mkF m 0 #[.val (.ref x0), .val (.int x1), .val (.int x2), .unset, .unset, .unset] [] := by first | (simp [entryFrame, mkF, argsToLocals, Value.category]; done) | rfl
set_option maxRecDepth 65536 in
set_option maxHeartbeats 40000000 in
theorem rmC3 (l : Launch) (Z : State) (a0 : Array Value) (hw : ∀ d ∈ tables_1, d.before a0 Z = true) (ws : List Jvm.Cond) (a1 : Addr) (z : Int32) (n : Nat) (f : Nat → Int32) (cs : Int32) (fm : Value) (h0 : Heap) (n0 : Nat) (Z0 : n0 ≤ h0.size) (hz : z.toInt = n) (hcap : n ≤ 65) (hch : ∀ i, i < n → 0 ≤ (f i).toInt ∧ (f i).toInt < 65536) (A1 : own_A Z h0 a1 .char n f) (ST : own_St Z h0 cs fm) :
    own_Ct l Z (⟨"java/lang/StringUTF16", "compress", "([CII)[B"⟩ : MethodName) jdk_52_method_16_code 6 (some (.array .byte)) ws ({ frames := 3, cells := 2, slots := 195, locals := 60 } : Room) #[(.ref a1), (.int (0 : Int32)), (.int z)] h0 (fun v h L => ∃ b : Addr, v = some (.ref b) ∧ Fr n0 L ∧ Keep h0 h [] ∧ h0.size ≤ b ∧ (((∀ q, q < n → ¬ (255 : Int32) < f q) ∧ own_A Z h b .byte n (fun i => own_b8 (f i))) ∨ ((∃ z2 : Int32, z2.toInt = ((2 * n : Nat) : Int)) ∧ (∃ q, q < n ∧ (255 : Int32) < f q) ∧ own_A Z h b .byte (2 * n) (own_u16 f n)))) := by
  refine own_of (plainFor_of_name pn_java_lang_StringUTF16) ?_
  intro p e s m below meth c s₁ hx hby hml hown hnm hret hlk hZ X0 e0
  have N0 := Fr.nil n0
  have K0 := Keep.refl h0 []
  rw [ef_rmC3]
  refine own_by (T' := s₁) (f' := (mkF m 1 #[.val (.ref a1), .val (.int (0 : Int32)), .val (.int z), .unset, .unset, .unset] [(.int z)])) (fun t k => XS.iloadN X0.here hx rfl (hb hby d11_0) rfl k) ?_
  refine own_mkA X0 hx hZ e0 (hb hby d11_1) (hw _ (List.mem_of_getElem? (i := 19) rfl)) (v := 0) rfl (by omega) 65 (by omega) (by decide) (by decide) (by decide) ?_
  intro T11 h11 b11 X11 e11 g11 E11 A11r
  have ne11_a1 : a1 ≠ b11 := Nat.ne_of_lt (by rw [g11]; exact A1.lt)
  have gn11 : n0 ≤ b11 := by rw [g11]; exact Z0
  have gh11 : h0.size ≤ b11 := by rw [g11]; exact K0.1
  show own_Go p e below _ T11 (mkF m 3 #[.val (.ref a1), .val (.int (0 : Int32)), .val (.int z), .unset, .unset, .unset] [(.ref b11)])
  have A11 : own_A Z h11 b11 .byte n (fun _ => 0) := (by rw [show n = z.toInt.toNat from by omega]; exact A11r)
  have sz12 : n0 ≤ h11.size := Nat.le_trans Z0 E11.1
  have K13 := K0.ext E11
  refine own_by (T' := T11) (f' := (mkF m 4 #[.val (.ref a1), .val (.int (0 : Int32)), .val (.int z), .val (.ref b11), .unset, .unset] [])) (fun t k => XS.astoreN X11.here hx rfl (hb hby d11_3) rfl rfl (l' := #[.val (.ref a1), .val (.int (0 : Int32)), .val (.int z), .val (.ref b11), .unset, .unset]) rfl k) ?_
  refine own_by (T' := T11) (f' := (mkF m 5 #[.val (.ref a1), .val (.int (0 : Int32)), .val (.int z), .val (.ref b11), .unset, .unset] [(.ref a1)])) (fun t k => XS.aloadN X11.here hx rfl (hb hby d11_4) rfl rfl k) ?_
  refine own_by (T' := T11) (f' := (mkF m 6 #[.val (.ref a1), .val (.int (0 : Int32)), .val (.int z), .val (.ref b11), .unset, .unset] [(.int (0 : Int32)), (.ref a1)])) (fun t k => XS.iloadN X11.here hx rfl (hb hby d11_5) rfl k) ?_
  refine own_by (T' := T11) (f' := (mkF m 7 #[.val (.ref a1), .val (.int (0 : Int32)), .val (.int z), .val (.ref b11), .unset, .unset] [(.ref b11), (.int (0 : Int32)), (.ref a1)])) (fun t k => XS.aloadN X11.here hx rfl (hb hby d11_6) rfl rfl k) ?_
  refine own_by (T' := T11) (f' := (mkF m 8 #[.val (.ref a1), .val (.int (0 : Int32)), .val (.int z), .val (.ref b11), .unset, .unset] [(.int (0 : Int32)), (.ref b11), (.int (0 : Int32)), (.ref a1)])) (fun t k => XS.iconst X11.here hx rfl (hb hby d11_7) k) ?_
  refine own_by (T' := T11) (f' := (mkF m 9 #[.val (.ref a1), .val (.int (0 : Int32)), .val (.int z), .val (.ref b11), .unset, .unset] [(.int z), (.int (0 : Int32)), (.ref b11), (.int (0 : Int32)), (.ref a1)])) (fun t k => XS.iloadN X11.here hx rfl (hb hby d11_8) rfl k) ?_
  have q14 : ∀ x ∈ [b11], ∃ c : Cell, h11[x]? = some c ∧ c.vm.isStatics = false := (allS (own_nsA A11) all0)
  have f15 := (A1.ext E11)
  refine own_callS X11 hx hZ hown e11 (hb hby d11_9) [(.ref a1), (.int (0 : Int32)), (.ref b11), (.int (0 : Int32)), (.int z)] [] 0 (rmC5 l Z a0 hw [] a1 b11 z n f (fun _ => 0) h11 n0 gn11 ne11_a1 hz A1.small f15 A11) (hw _ (List.mem_of_getElem? (i := 62) rfl)) (hw _ (List.mem_of_getElem? (i := 63) rfl)) (hw _ (List.mem_of_getElem? (i := 60) rfl)) (hw _ (List.mem_of_getElem? (i := 64) rfl)) (by decide) pd___CI_BII_I (by rw [hml]; rfl) rfl rfl (Nat.le_of_eq rfl) (by decide) (by decide) (by decide) (by decide) ?_
  rintro T16 _ L16 X16 ⟨r16, rfl, hr16, N16q, K16, B16⟩
  show own_Go p e below _ T16 (mkF m 12 #[.val (.ref a1), .val (.int (0 : Int32)), .val (.int z), .val (.ref b11), .unset, .unset] [(.int r16)])
  have N16 := Fr.app N0 N16q
  have sz17 : n0 ≤ T16.heap.size := Nat.le_trans sz12 K16.1
  have K18 := K13.trans K16 (allS (Or.inr gh11) all0)
  have sp := own_fstA_spec (f := f) n 0
  have spe : own_fstA f n 0 = own_fst f n := rfl
  rw [spe] at sp
  refine own_by (T' := T16) (f' := (mkF m 14 #[.val (.ref a1), .val (.int (0 : Int32)), .val (.int z), .val (.ref b11), .val (.int r16), .unset] [])) (fun t k => XS.istore X16.here hx rfl (hb hby d11_12) rfl (l' := #[.val (.ref a1), .val (.int (0 : Int32)), .val (.int z), .val (.ref b11), .val (.int r16), .unset]) rfl k) ?_
  refine own_by (T' := T16) (f' := (mkF m 16 #[.val (.ref a1), .val (.int (0 : Int32)), .val (.int z), .val (.ref b11), .val (.int r16), .unset] [(.int r16)])) (fun t k => XS.iload X16.here hx rfl (hb hby d11_14) rfl k) ?_
  refine own_by (T' := T16) (f' := (mkF m 17 #[.val (.ref a1), .val (.int (0 : Int32)), .val (.int z), .val (.ref b11), .val (.int r16), .unset] [(.int z), (.int r16)])) (fun t k => XS.iloadN X16.here hx rfl (hb hby d11_16) rfl k) ?_
  by_cases hc17_19 : r16 = z
  · have _ := X16
    refine own_by (T' := T16) (f' := (mkF m 57 #[.val (.ref a1), .val (.int (0 : Int32)), .val (.int z), .val (.ref b11), .val (.int r16), .unset] [])) (fun t k => XS.icmpYes X16.here hx rfl (pc0 := 17) (pc' := 57) rfl (hb hby d11_17) rfl (teq hc17_19).1 (by decide) (by decide) k) ?_
    refine own_by (T' := T16) (f' := (mkF m 58 #[.val (.ref a1), .val (.int (0 : Int32)), .val (.int z), .val (.ref b11), .val (.int r16), .unset] [(.ref b11)])) (fun t k => XS.aloadN X16.here hx rfl (hb hby d11_57) rfl rfl k) ?_
    have hfn : own_fst f n = n := by have q := hr16; rw [hc17_19, hz] at q; omega
    rw [hfn] at sp
    have A20 : own_A Z T16.heap b11 .byte n (fun i => own_b8 (f i)) := B16.congr (fun i hi => by show (if i < own_fst f n then own_b8 (f i) else _) = _; rw [hfn, if_pos hi])
    refine own_retA X16 hx hret hlk (hb hby d11_58) rfl rfl rfl (by decide) (by decide) ?_
    exact ⟨b11, rfl, N16, K18, gh11, Or.inl ⟨fun q hq => sp.2.2.2 q (Nat.zero_le _) hq, A20⟩⟩
  · have _ := X16
    refine own_by (T' := T16) (f' := (mkF m 20 #[.val (.ref a1), .val (.int (0 : Int32)), .val (.int z), .val (.ref b11), .val (.int r16), .unset] [])) (fun t k => XS.icmpNo X16.here hx rfl (hb hby d11_17) rfl (feq hc17_19).1 k) ?_
    refine own_by (T' := T16) (f' := (mkF m 21 #[.val (.ref a1), .val (.int (0 : Int32)), .val (.int z), .val (.ref b11), .val (.int r16), .unset] [(.ref a1)])) (fun t k => XS.aloadN X16.here hx rfl (hb hby d11_20) rfl rfl k) ?_
    refine own_by (T' := T16) (f' := (mkF m 22 #[.val (.ref a1), .val (.int (0 : Int32)), .val (.int z), .val (.ref b11), .val (.int r16), .unset] [(.int (0 : Int32)), (.ref a1)])) (fun t k => XS.iloadN X16.here hx rfl (hb hby d11_21) rfl k) ?_
    refine own_by (T' := T16) (f' := (mkF m 23 #[.val (.ref a1), .val (.int (0 : Int32)), .val (.int z), .val (.ref b11), .val (.int r16), .unset] [(.int z), (.int (0 : Int32)), (.ref a1)])) (fun t k => XS.iloadN X16.here hx rfl (hb hby d11_22) rfl k) ?_
    have f21 := (f15.keep K16 (ninS ne11_a1 nin0))
    have f22 := ((ST.ext E11).keep K16 q14)
    refine own_callS X16 hx hZ hown rfl (hb hby d11_23) [(.ref a1), (.int (0 : Int32)), (.int z)] [] 0 (rmTU l Z a0 hw [] a1 z n f cs fm T16.heap n0 sz17 hz hcap f21 f22) (hw _ (List.mem_of_getElem? (i := 92) rfl)) (hw _ (List.mem_of_getElem? (i := 93) rfl)) (hw _ (List.mem_of_getElem? (i := 60) rfl)) (hw _ (List.mem_of_getElem? (i := 94) rfl)) (by decide) pd___CII__B (by rw [hml]; rfl) rfl rfl (Nat.le_of_eq rfl) (by decide) (by decide) (by decide) (by decide) ?_
    rintro T23 _ L23 X23 ⟨b23, rfl, N23q, K23, gb23, ⟨z23, hz23⟩, B23⟩
    show own_Go p e below _ T23 (mkF m 26 #[.val (.ref a1), .val (.int (0 : Int32)), .val (.int z), .val (.ref b11), .val (.int r16), .unset] [(.ref b23)])
    have N23 := Fr.app N16 N23q
    have gh23 : h0.size ≤ b23 := Nat.le_trans K18.1 gb23
    have sz24 : n0 ≤ T23.heap.size := Nat.le_trans sz17 K23.1
    have K25 := K18.trans K23 all0
    have hlt : own_fst f n < n := Nat.lt_of_le_of_ne (by omega) (fun q => hc17_19 (Int32.toInt_inj.mp (by rw [hr16, q, hz])))
    have hbig := sp.2.2.1 (by omega)
    refine own_by (T' := T23) (f' := (mkF m 28 #[.val (.ref a1), .val (.int (0 : Int32)), .val (.int z), .val (.ref b11), .val (.int r16), .val (.ref b23)] [])) (fun t k => XS.astore X23.here hx rfl (hb hby d11_26) rfl rfl (l' := #[.val (.ref a1), .val (.int (0 : Int32)), .val (.int z), .val (.ref b11), .val (.int r16), .val (.ref b23)]) rfl k) ?_
    refine own_by (T' := T23) (f' := (mkF m 30 #[.val (.ref a1), .val (.int (0 : Int32)), .val (.int z), .val (.ref b11), .val (.int r16), .val (.ref b23)] [(.ref b23)])) (fun t k => XS.aload X23.here hx rfl (hb hby d11_28) rfl rfl k) ?_
    refine own_by (T' := T23) (f' := (mkF m 32 #[.val (.ref a1), .val (.int (0 : Int32)), .val (.int z), .val (.ref b11), .val (.int r16), .val (.ref b23)] [(.int r16), (.ref b23)])) (fun t k => XS.iload X23.here hx rfl (hb hby d11_30) rfl k) ?_
    have f26 := (f22.keep K23 all0)
    refine own_callS X23 hx hZ hown rfl (hb hby d11_32) [(.ref b23), (.int r16)] [] 0 (rmGC l Z a0 hw [] b23 r16 _ (own_fst f n) n f cs fm T23.heap hr16 hlt (by omega) hz23 (by omega) (hch _ hlt) B23 f26) (hw _ (List.mem_of_getElem? (i := 108) rfl)) (hw _ (List.mem_of_getElem? (i := 109) rfl)) (hw _ (List.mem_of_getElem? (i := 60) rfl)) (hw _ (List.mem_of_getElem? (i := 110) rfl)) (by decide) pd___BI_C (by rw [hml]; rfl) rfl rfl (Nat.le_of_eq rfl) (by decide) (by decide) (by decide) (by decide) ?_
    rintro T27 _ L27 X27 ⟨rfl, rfl, e27⟩
    show own_Go p e below _ T27 (mkF m 35 #[.val (.ref a1), .val (.int (0 : Int32)), .val (.int z), .val (.ref b11), .val (.int r16), .val (.ref b23)] [(.int (f (own_fst f n)))])
    rw [List.append_nil] at X27
    refine own_by (T' := T27) (f' := (mkF m 38 #[.val (.ref a1), .val (.int (0 : Int32)), .val (.int z), .val (.ref b11), .val (.int r16), .val (.ref b23)] [(.int (255 : Int32)), (.int (f (own_fst f n)))])) (fun t k => XS.sipush X27.here hx rfl (hb hby d11_35) k) ?_
    have hc38_28 : (255 : Int32) < (f (own_fst f n)) := hbig
    refine own_by (T' := T27) (f' := (mkF m 54 #[.val (.ref a1), .val (.int (0 : Int32)), .val (.int z), .val (.ref b11), .val (.int r16), .val (.ref b23)] [])) (fun t k => XS.icmpYes X27.here hx rfl (pc0 := 38) (pc' := 54) rfl (hb hby d11_38) rfl (tlt hc38_28).2.2.1 (by decide) (by decide) k) ?_
    refine own_by (T' := T27) (f' := (mkF m 56 #[.val (.ref a1), .val (.int (0 : Int32)), .val (.int z), .val (.ref b11), .val (.int r16), .val (.ref b23)] [(.ref b23)])) (fun t k => XS.aload X27.here hx rfl (hb hby d11_54) rfl rfl k) ?_
    refine own_retA X27 hx hret hlk (hb hby d11_56) rfl rfl rfl (by decide) (by decide) ?_
    try rw [e27]
    exact ⟨b23, rfl, N23, K25, gh23, Or.inr ⟨⟨_, hz23⟩, ⟨_, hlt, hbig⟩, B23⟩⟩
theorem ef_rmI4 (m : MethodId) (x0 : Addr) (x1 : Addr) (x2 : Int32) (x3 : Int32) : entryFrame m #[(.ref x0), (.ref x1), (.int x2), (.int x3), .null] 6 = mkF m 0 #[.val (.ref x0), .val (.ref x1), .val (.int x2), .val (.int x3), .val .null, .unset] [] := by first | (simp [entryFrame, mkF, argsToLocals, Value.category]; done) | rfl
set_option maxRecDepth 65536 in
set_option maxHeartbeats 40000000 in
theorem rmI4 (l : Launch) (Z : State) (a0 : Array Value) (hw : ∀ d ∈ tables_1, d.before a0 Z = true) (ws : List Jvm.Cond) (a a1 : Addr) (z : Int32) (n : Nat) (f : Nat → Int32) (u1 u2 : Value) (cs : Int32) (fm : Value) (h0 : Heap) (n0 : Nat) (Z0 : n0 ≤ h0.size) (g1 : n0 ≤ a) (hz : z.toInt = n) (hn1 : 1 ≤ n) (hcap : n ≤ 65) (hch : ∀ i, i < n → 0 ≤ (f i).toInt ∧ (f i).toInt < 65536) (A1 : own_A Z h0 a1 .char n f) (ha1 : a1 ≠ a) (E1 : Exa Z h0 a "java/lang/String") (F1 : Fld Z h0 a "java/lang/String" "value" "[B" u1) (F2 : Fld Z h0 a "java/lang/String" "coder" "B" u2) (ST : own_St Z h0 cs fm) :
    own_Ct l Z (⟨"java/lang/String", "<init>", "([CIILjava/lang/Void;)V"⟩ : MethodName) jdk_42_method_149_code 6 none ws ({ frames := 4, cells := 2, slots := 195, locals := 80 } : Room) #[(.ref a), (.ref a1), (.int (0 : Int32)), (.int z), .null] h0 (fun v h L => v = none ∧ Fr n0 L ∧ Keep h0 h [a] ∧ own_JS Z h a n f) := by
  refine own_of (plainFor_of_name pn_java_lang_String) ?_
  intro p e s m below meth c s₁ hx hby hml hown hnm hret hlk hZ X0 e0
  have N0 := Fr.nil n0
  have K0 := Keep.refl h0 [a]
  have hn30 : n < 1073741824 := by omega
  rw [ef_rmI4]
  refine own_by (T' := s₁) (f' := (mkF m 1 #[.val (.ref a), .val (.ref a1), .val (.int (0 : Int32)), .val (.int z), .val .null, .unset] [(.ref a)])) (fun t k => XS.aloadN X0.here hx rfl (hb hby d3_0) rfl rfl k) ?_
  refine own_init X0 hx hZ hown e0 (hb hby d3_1) 0 (hw _ (List.mem_of_getElem? (i := 15) rfl)) (hw _ (List.mem_of_getElem? (i := 16) rfl)) (hw _ (List.mem_of_getElem? (i := 17) rfl)) (by rw [hml]; rfl) (Nat.le_of_eq rfl) (by decide) (by decide) ?_
  intro T11 X11 e11
  show own_Go p e below _ T11 (mkF m 4 #[.val (.ref a), .val (.ref a1), .val (.int (0 : Int32)), .val (.int z), .val .null, .unset] [])
  refine own_by (T' := T11) (f' := (mkF m 5 #[.val (.ref a), .val (.ref a1), .val (.int (0 : Int32)), .val (.int z), .val .null, .unset] [(.int z)])) (fun t k => XS.iloadN X11.here hx rfl (hb hby d3_4) rfl k) ?_
  have hc5_12 : ¬ (z = (0 : Int32)) := own_nz hz hn1
  refine own_by (T' := T11) (f' := (mkF m 27 #[.val (.ref a), .val (.ref a1), .val (.int (0 : Int32)), .val (.int z), .val .null, .unset] [])) (fun t k => XS.ifYes X11.here hx rfl (pc0 := 5) (pc' := 27) rfl (hb hby d3_5) rfl ((if0 _ _).trans (feq hc5_12).2) (by decide) (by decide) k) ?_
  refine own_getS (host := "") X11 hx hZ hown e11 (hb hby d3_27) (Or.inl (hw _ (List.mem_of_getElem? (i := 45) rfl))) Via.refl ST.1 ?_
  intro T13 X13 e13
  show own_Go p e below _ T13 (mkF m 30 #[.val (.ref a), .val (.ref a1), .val (.int (0 : Int32)), .val (.int z), .val .null, .unset] [(.int cs)])
  refine own_by (T' := T13) (f' := (mkF m 33 #[.val (.ref a), .val (.ref a1), .val (.int (0 : Int32)), .val (.int z), .val .null, .unset] [])) (fun t k => XS.ifNo X13.here hx rfl (hb hby d3_30) rfl ((if0 _ _).trans (feq ST.2.2.2.2.2.1).1) k) ?_
  refine own_by (T' := T13) (f' := (mkF m 34 #[.val (.ref a), .val (.ref a1), .val (.int (0 : Int32)), .val (.int z), .val .null, .unset] [(.ref a1)])) (fun t k => XS.aloadN X13.here hx rfl (hb hby d3_33) rfl rfl k) ?_
  refine own_by (T' := T13) (f' := (mkF m 35 #[.val (.ref a), .val (.ref a1), .val (.int (0 : Int32)), .val (.int z), .val .null, .unset] [(.int (0 : Int32)), (.ref a1)])) (fun t k => XS.iloadN X13.here hx rfl (hb hby d3_34) rfl k) ?_
  refine own_by (T' := T13) (f' := (mkF m 36 #[.val (.ref a), .val (.ref a1), .val (.int (0 : Int32)), .val (.int z), .val .null, .unset] [(.int z), (.int (0 : Int32)), (.ref a1)])) (fun t k => XS.iloadN X13.here hx rfl (hb hby d3_35) rfl k) ?_
  refine own_callS X13 hx hZ hown e13 (hb hby d3_36) [(.ref a1), (.int (0 : Int32)), (.int z)] [] 0 (rmC3 l Z a0 hw [] a1 z n f cs fm h0 n0 Z0 hz hcap hch A1 ST) (hw _ (List.mem_of_getElem? (i := 58) rfl)) (hw _ (List.mem_of_getElem? (i := 59) rfl)) (hw _ (List.mem_of_getElem? (i := 60) rfl)) (hw _ (List.mem_of_getElem? (i := 61) rfl)) (by decide) pd___CII__B (by rw [hml]; rfl) rfl rfl (Nat.le_of_eq rfl) (by decide) (by decide) (by decide) (by decide) ?_
  rintro T14 _ L14 X14 ⟨b14, rfl, N14q, K14, gb14, D14⟩
  show own_Go p e below _ T14 (mkF m 39 #[.val (.ref a), .val (.ref a1), .val (.int (0 : Int32)), .val (.int z), .val .null, .unset] [(.ref b14)])
  have N14 := Fr.app N0 N14q
  have ne14_a : a ≠ b14 := Nat.ne_of_lt (Nat.lt_of_lt_of_le E1.lt gb14)
  have gh14 : h0.size ≤ b14 := Nat.le_trans K0.1 gb14
  have sz15 : n0 ≤ T14.heap.size := Nat.le_trans Z0 K14.1
  have K16 := K0.trans K14 all0
  rcases D14 with ⟨hlat, B14⟩ | ⟨⟨z2, hz2⟩, hbg, B14⟩
  · have _ := X14
    refine own_by (T' := T14) (f' := (mkF m 41 #[.val (.ref a), .val (.ref a1), .val (.int (0 : Int32)), .val (.int z), .val .null, .val (.ref b14)] [])) (fun t k => XS.astore X14.here hx rfl (hb hby d3_39) rfl rfl (l' := #[.val (.ref a), .val (.ref a1), .val (.int (0 : Int32)), .val (.int z), .val .null, .val (.ref b14)]) rfl k) ?_
    refine own_by (T' := T14) (f' := (mkF m 42 #[.val (.ref a), .val (.ref a1), .val (.int (0 : Int32)), .val (.int z), .val .null, .val (.ref b14)] [(.ref a)])) (fun t k => XS.aloadN X14.here hx rfl (hb hby d3_41) rfl rfl k) ?_
    refine own_by (T' := T14) (f' := (mkF m 44 #[.val (.ref a), .val (.ref a1), .val (.int (0 : Int32)), .val (.int z), .val .null, .val (.ref b14)] [(.ref b14), (.ref a)])) (fun t k => XS.aload X14.here hx rfl (hb hby d3_42) rfl rfl k) ?_
    refine own_by (T' := T14) (f' := (mkF m 45 #[.val (.ref a), .val (.ref a1), .val (.int (0 : Int32)), .val (.int z), .val .null, .val (.ref b14)] [(.int z), (.ref b14), (.ref a)])) (fun t k => XS.iloadN X14.here hx rfl (hb hby d3_44) rfl k) ?_
    refine own_callS X14 hx hZ hown rfl (hb hby d3_45) [(.ref b14), (.int z)] [(.ref a)] 1 (rmCd0 l Z a0 hw [] b14 z n _ T14.heap B14 hz) (hw _ (List.mem_of_getElem? (i := 65) rfl)) (hw _ (List.mem_of_getElem? (i := 66) rfl)) (hw _ (List.mem_of_getElem? (i := 60) rfl)) (hw _ (List.mem_of_getElem? (i := 67) rfl)) (by decide) pd___BI_B (by rw [hml]; rfl) rfl rfl (Nat.le_of_eq rfl) (by decide) (by decide) (by decide) (by decide) ?_
    rintro T17 _ L17 X17 ⟨rfl, rfl, e17⟩
    show own_Go p e below _ T17 (mkF m 48 #[.val (.ref a), .val (.ref a1), .val (.int (0 : Int32)), .val (.int z), .val .null, .val (.ref b14)] [(.int (0 : Int32)), (.ref a)])
    rw [List.append_nil] at X17
    have f18 := (F2.keep K14 nin0)
    have f19 := (E1.keep K14)
    refine own_putF (host := "") X17 hx hZ hown e17 (hb hby d3_48) (Or.inl (hw _ (List.mem_of_getElem? (i := 25) rfl))) Via.refl f18 f19 (Or.inr ⟨(hw _ (List.mem_of_getElem? (i := 21) rfl)), rfl, hnm⟩) (hw _ (List.mem_of_getElem? (i := 6) rfl)) (ty := .byte) (by decide) rfl rfl ?_
    intro T20 h20 X20 e20 W20
    show own_Go p e below _ T20 (mkF m 51 #[.val (.ref a), .val (.ref a1), .val (.int (0 : Int32)), .val (.int z), .val .null, .val (.ref b14)] [])
    have F20 := f18.same W20
    have sz21 : n0 ≤ h20.size := by rw [W20.size]; exact sz15
    have K22 := K16.wr W20 (Or.inl (List.mem_of_getElem? (i := 0) rfl))
    have N20 := Fr.snoc X20 N14 g1
    refine own_by (T' := T20) (f' := (mkF m 52 #[.val (.ref a), .val (.ref a1), .val (.int (0 : Int32)), .val (.int z), .val .null, .val (.ref b14)] [(.ref a)])) (fun t k => XS.aloadN X20.here hx rfl (hb hby d3_51) rfl rfl k) ?_
    refine own_by (T' := T20) (f' := (mkF m 54 #[.val (.ref a), .val (.ref a1), .val (.int (0 : Int32)), .val (.int z), .val .null, .val (.ref b14)] [(.ref b14), (.ref a)])) (fun t k => XS.aload X20.here hx rfl (hb hby d3_52) rfl rfl k) ?_
    have f23 := ((F1.keep K14 nin0).other W20 (Or.inr (slot_ne (Or.inr (hw _ (List.mem_of_getElem? (i := 20) rfl))) (Or.inr (hw _ (List.mem_of_getElem? (i := 21) rfl))) (by decide) (t := (.array .byte)) (t' := .byte) (by decide) (by decide))))
    have f24 := (f19.wr W20)
    refine own_putF (host := "") X20 hx hZ hown e20 (hb hby d3_54) (Or.inl (hw _ (List.mem_of_getElem? (i := 24) rfl))) Via.refl f23 f24 (Or.inr ⟨(hw _ (List.mem_of_getElem? (i := 20) rfl)), rfl, hnm⟩) (hw _ (List.mem_of_getElem? (i := 6) rfl)) (ty := (.array .byte)) (by decide) rfl rfl ?_
    intro T25 h25 X25 e25 W25
    show own_Go p e below _ T25 (mkF m 57 #[.val (.ref a), .val (.ref a1), .val (.int (0 : Int32)), .val (.int z), .val .null, .val (.ref b14)] [])
    have F25 := f23.same W25
    have sz26 : n0 ≤ h25.size := by rw [W25.size]; exact sz21
    have K27 := K22.wr W25 (Or.inl (List.mem_of_getElem? (i := 0) rfl))
    have N25 := Fr.snoc X25 N20 g1
    have f28 := (f24.wr W25)
    have f29 := (F20.other W25 (Or.inr (slot_ne (Or.inr (hw _ (List.mem_of_getElem? (i := 21) rfl))) (Or.inr (hw _ (List.mem_of_getElem? (i := 20) rfl))) (by decide) (t := .byte) (t' := (.array .byte)) (by decide) (by decide))))
    have f30 := ((B14.other W20 (Ne.symm ne14_a)).other W25 (Ne.symm ne14_a))
    refine own_retV X25 hx hret hlk (hb hby d3_57) (by decide) (by decide) ?_
    try rw [e25]
    exact ⟨rfl, N25, K27, hn30, hch, f28, b14, _, F25, Or.inl ⟨f29, hz, hlat, f30⟩⟩
  · have _ := X14
    refine own_by (T' := T14) (f' := (mkF m 41 #[.val (.ref a), .val (.ref a1), .val (.int (0 : Int32)), .val (.int z), .val .null, .val (.ref b14)] [])) (fun t k => XS.astore X14.here hx rfl (hb hby d3_39) rfl rfl (l' := #[.val (.ref a), .val (.ref a1), .val (.int (0 : Int32)), .val (.int z), .val .null, .val (.ref b14)]) rfl k) ?_
    refine own_by (T' := T14) (f' := (mkF m 42 #[.val (.ref a), .val (.ref a1), .val (.int (0 : Int32)), .val (.int z), .val .null, .val (.ref b14)] [(.ref a)])) (fun t k => XS.aloadN X14.here hx rfl (hb hby d3_41) rfl rfl k) ?_
    refine own_by (T' := T14) (f' := (mkF m 44 #[.val (.ref a), .val (.ref a1), .val (.int (0 : Int32)), .val (.int z), .val .null, .val (.ref b14)] [(.ref b14), (.ref a)])) (fun t k => XS.aload X14.here hx rfl (hb hby d3_42) rfl rfl k) ?_
    refine own_by (T' := T14) (f' := (mkF m 45 #[.val (.ref a), .val (.ref a1), .val (.int (0 : Int32)), .val (.int z), .val .null, .val (.ref b14)] [(.int z), (.ref b14), (.ref a)])) (fun t k => XS.iloadN X14.here hx rfl (hb hby d3_44) rfl k) ?_
    refine own_callS X14 hx hZ hown rfl (hb hby d3_45) [(.ref b14), (.int z)] [(.ref a)] 1 (rmCd1 l Z a0 hw [] b14 z z2 n _ T14.heap B14 hz hz2 hn1) (hw _ (List.mem_of_getElem? (i := 65) rfl)) (hw _ (List.mem_of_getElem? (i := 66) rfl)) (hw _ (List.mem_of_getElem? (i := 60) rfl)) (hw _ (List.mem_of_getElem? (i := 67) rfl)) (by decide) pd___BI_B (by rw [hml]; rfl) rfl rfl (Nat.le_of_eq rfl) (by decide) (by decide) (by decide) (by decide) ?_
    rintro T31 _ L31 X31 ⟨rfl, rfl, e31⟩
    show own_Go p e below _ T31 (mkF m 48 #[.val (.ref a), .val (.ref a1), .val (.int (0 : Int32)), .val (.int z), .val .null, .val (.ref b14)] [(.int (1 : Int32)), (.ref a)])
    rw [List.append_nil] at X31
    have f32 := (F2.keep K14 nin0)
    have f33 := (E1.keep K14)
    refine own_putF (host := "") X31 hx hZ hown e31 (hb hby d3_48) (Or.inl (hw _ (List.mem_of_getElem? (i := 25) rfl))) Via.refl f32 f33 (Or.inr ⟨(hw _ (List.mem_of_getElem? (i := 21) rfl)), rfl, hnm⟩) (hw _ (List.mem_of_getElem? (i := 6) rfl)) (ty := .byte) (by decide) rfl rfl ?_
    intro T34 h34 X34 e34 W34
    show own_Go p e below _ T34 (mkF m 51 #[.val (.ref a), .val (.ref a1), .val (.int (0 : Int32)), .val (.int z), .val .null, .val (.ref b14)] [])
    have F34 := f32.same W34
    have sz35 : n0 ≤ h34.size := by rw [W34.size]; exact sz15
    have K36 := K16.wr W34 (Or.inl (List.mem_of_getElem? (i := 0) rfl))
    have N34 := Fr.snoc X34 N14 g1
    refine own_by (T' := T34) (f' := (mkF m 52 #[.val (.ref a), .val (.ref a1), .val (.int (0 : Int32)), .val (.int z), .val .null, .val (.ref b14)] [(.ref a)])) (fun t k => XS.aloadN X34.here hx rfl (hb hby d3_51) rfl rfl k) ?_
    refine own_by (T' := T34) (f' := (mkF m 54 #[.val (.ref a), .val (.ref a1), .val (.int (0 : Int32)), .val (.int z), .val .null, .val (.ref b14)] [(.ref b14), (.ref a)])) (fun t k => XS.aload X34.here hx rfl (hb hby d3_52) rfl rfl k) ?_
    have f37 := ((F1.keep K14 nin0).other W34 (Or.inr (slot_ne (Or.inr (hw _ (List.mem_of_getElem? (i := 20) rfl))) (Or.inr (hw _ (List.mem_of_getElem? (i := 21) rfl))) (by decide) (t := (.array .byte)) (t' := .byte) (by decide) (by decide))))
    have f38 := (f33.wr W34)
    refine own_putF (host := "") X34 hx hZ hown e34 (hb hby d3_54) (Or.inl (hw _ (List.mem_of_getElem? (i := 24) rfl))) Via.refl f37 f38 (Or.inr ⟨(hw _ (List.mem_of_getElem? (i := 20) rfl)), rfl, hnm⟩) (hw _ (List.mem_of_getElem? (i := 6) rfl)) (ty := (.array .byte)) (by decide) rfl rfl ?_
    intro T39 h39 X39 e39 W39
    show own_Go p e below _ T39 (mkF m 57 #[.val (.ref a), .val (.ref a1), .val (.int (0 : Int32)), .val (.int z), .val .null, .val (.ref b14)] [])
    have F39 := f37.same W39
    have sz40 : n0 ≤ h39.size := by rw [W39.size]; exact sz35
    have K41 := K36.wr W39 (Or.inl (List.mem_of_getElem? (i := 0) rfl))
    have N39 := Fr.snoc X39 N34 g1
    have f42 := (f38.wr W39)
    have f43 := (F34.other W39 (Or.inr (slot_ne (Or.inr (hw _ (List.mem_of_getElem? (i := 21) rfl))) (Or.inr (hw _ (List.mem_of_getElem? (i := 20) rfl))) (by decide) (t := .byte) (t' := (.array .byte)) (by decide) (by decide))))
    have f44 := ((B14.other W34 (Ne.symm ne14_a)).other W39 (Ne.symm ne14_a))
    refine own_retV X39 hx hret hlk (hb hby d3_57) (by decide) (by decide) ?_
    try rw [e39]
    exact ⟨rfl, N39, K41, hn30, hch, f42, b14, _, F39, Or.inr ⟨f43, hz2, hbg, f44⟩⟩
theorem ef_rmI1 (m : MethodId) (x0 : Addr) (x1 : Addr) : entryFrame m #[(.ref x0), (.ref x1)] 2 = mkF m 0 #[.val (.ref x0), .val (.ref x1)] [] := by first | (simp [entryFrame, mkF, argsToLocals, Value.category]; done) | rfl
set_option maxRecDepth 65536 in
set_option maxHeartbeats 40000000 in
theorem rmI1 (l : Launch) (Z : State) (a0 : Array Value) (hw : ∀ d ∈ tables_1, d.before a0 Z = true) (ws : List Jvm.Cond) (a a1 : Addr) (z : Int32) (n : Nat) (f : Nat → Int32) (u1 u2 : Value) (cs : Int32) (fm : Value) (h0 : Heap) (n0 : Nat) (Z0 : n0 ≤ h0.size) (g1 : n0 ≤ a) (hz : z.toInt = n) (hn1 : 1 ≤ n) (hcap : n ≤ 65) (hch : ∀ i, i < n → 0 ≤ (f i).toInt ∧ (f i).toInt < 65536) (A1 : own_A Z h0 a1 .char n f) (ha1 : a1 ≠ a) (E1 : Exa Z h0 a "java/lang/String") (F1 : Fld Z h0 a "java/lang/String" "value" "[B" u1) (F2 : Fld Z h0 a "java/lang/String" "coder" "B" u2) (ST : own_St Z h0 cs fm) :
    own_Ct l Z (⟨"java/lang/String", "<init>", "([C)V"⟩ : MethodName) jdk_42_method_3_code 2 none ws ({ frames := 5, cells := 2, slots := 195, locals := 97 } : Room) #[(.ref a), (.ref a1)] h0 (fun v h L => v = none ∧ Fr n0 L ∧ Keep h0 h [a] ∧ own_JS Z h a n f) := by
  refine own_of (plainFor_of_name pn_java_lang_String) ?_
  intro p e s m below meth c s₁ hx hby hml hown hnm hret hlk hZ X0 e0
  have N0 := Fr.nil n0
  have K0 := Keep.refl h0 [a]
  rw [ef_rmI1]
  refine own_by (T' := s₁) (f' := (mkF m 1 #[.val (.ref a), .val (.ref a1)] [(.ref a)])) (fun t k => XS.aloadN X0.here hx rfl (hb hby d2_0) rfl rfl k) ?_
  refine own_by (T' := s₁) (f' := (mkF m 2 #[.val (.ref a), .val (.ref a1)] [(.ref a1), (.ref a)])) (fun t k => XS.aloadN X0.here hx rfl (hb hby d2_1) rfl rfl k) ?_
  refine own_by (T' := s₁) (f' := (mkF m 3 #[.val (.ref a), .val (.ref a1)] [(.int (0 : Int32)), (.ref a1), (.ref a)])) (fun t k => XS.iconst X0.here hx rfl (hb hby d2_2) k) ?_
  refine own_by (T' := s₁) (f' := (mkF m 4 #[.val (.ref a), .val (.ref a1)] [(.ref a1), (.int (0 : Int32)), (.ref a1), (.ref a)])) (fun t k => XS.aloadN X0.here hx rfl (hb hby d2_3) rfl rfl k) ?_
  refine own_alen (j := z) X0 hx hZ e0 (hb hby d2_4) A1 hz ?_
  show own_Go p e below _ s₁ (mkF m 5 #[.val (.ref a), .val (.ref a1)] [(.int z), (.int (0 : Int32)), (.ref a1), (.ref a)])
  refine own_by (T' := s₁) (f' := (mkF m 6 #[.val (.ref a), .val (.ref a1)] [.null, (.int z), (.int (0 : Int32)), (.ref a1), (.ref a)])) (fun t k => XS.aconstNull X0.here hx rfl (hb hby d2_5) k) ?_
  refine own_callN X0 hx hZ hown e0 (hb hby d2_6) [(.ref a1), (.int (0 : Int32)), (.int z), .null] [] 0 (rmI4 l Z a0 hw [] a a1 z n f _ _ cs fm h0 n0 Z0 g1 hz hn1 hcap hch A1 ha1 E1 F1 F2 ST) (hw _ (List.mem_of_getElem? (i := 11) rfl)) (hw _ (List.mem_of_getElem? (i := 12) rfl)) (hw _ (List.mem_of_getElem? (i := 7) rfl)) (hw _ (List.mem_of_getElem? (i := 14) rfl)) rfl (by decide) pd___CIILjava_lang_Void__V (by rw [hml]; rfl) rfl rfl (Nat.le_of_eq rfl) (by decide) (by decide) (by decide) (by decide) ?_
  rintro T11 _ L11 X11 ⟨rfl, N11q, K11, Q11⟩
  show own_Go p e below _ T11 (mkF m 9 #[.val (.ref a), .val (.ref a1)] [])
  have N11 := Fr.app N0 N11q
  refine own_retV X11 hx hret hlk (hb hby d2_9) (by decide) (by decide) ?_
  exact ⟨rfl, N11, K11, Q11⟩
theorem ef_rmI4e (m : MethodId) (x0 : Addr) (x1 : Addr) (x2 : Int32) (x3 : Int32) : entryFrame m #[(.ref x0), (.ref x1), (.int x2), (.int x3), .null] 6 = mkF m 0 #[.val (.ref x0), .val (.ref x1), .val (.int x2), .val (.int x3), .val .null, .unset] [] := by first | (simp [entryFrame, mkF, argsToLocals, Value.category]; done) | rfl
set_option maxRecDepth 65536 in
set_option maxHeartbeats 40000000 in
theorem rmI4e (l : Launch) (Z : State) (a0 : Array Value) (hw : ∀ d ∈ tables_1, d.before a0 Z = true) (ws : List Jvm.Cond) (a a1 : Addr) (f : Nat → Int32) (u2 : Value) (cs : Int32) (fm : Value) (h0 : Heap) (n0 : Nat) (Z0 : n0 ≤ h0.size) (g1 : n0 ≤ a) (E1 : Exa Z h0 a "java/lang/String") (F1 : Fld Z h0 a "java/lang/String" "value" "[B" .null) (F2 : Fld Z h0 a "java/lang/String" "coder" "B" u2) (ST : own_St Z h0 cs fm) :
    own_CtW l Z consts_1 (⟨"java/lang/String", "<init>", "([CIILjava/lang/Void;)V"⟩ : MethodName) jdk_42_method_149_code 6 none ws ({ frames := 1, cells := 2, slots := 4, locals := 16 } : Room) #[(.ref a), (.ref a1), (.int (0 : Int32)), (.int (0 : Int32)), .null] h0 (fun v h L => v = none ∧ Fr n0 L ∧ Keep h0 h [a] ∧ own_JS Z h a 0 f) := by
  have hEL := own_EW hw
  refine own_ofW (plainFor_of_name pn_java_lang_String) ?_
  intro p e s m below meth c s₁ hx hby hml hown hnm hret hlk hZ X0 e0 hs0 hS hk CH
  have N0 := Fr.nil n0
  have K0 := Keep.refl h0 [a]
  have S_a : Safe Z consts_1 s.vm h0 a := own_safe_new hZ.alike E1 F1
  rw [ef_rmI4e]
  refine own_by (T' := s₁) (f' := (mkF m 1 #[.val (.ref a), .val (.ref a1), .val (.int (0 : Int32)), .val (.int (0 : Int32)), .val .null, .unset] [(.ref a)])) (fun t k => XS.aloadN X0.here hx rfl (hb hby d3_0) rfl rfl k) ?_
  refine own_init X0 hx hZ hown e0 (hb hby d3_1) 0 (hw _ (List.mem_of_getElem? (i := 15) rfl)) (hw _ (List.mem_of_getElem? (i := 16) rfl)) (hw _ (List.mem_of_getElem? (i := 17) rfl)) (by rw [hml]; rfl) (Nat.le_of_eq rfl) (by decide) (by decide) ?_
  intro T11 X11 e11
  show own_Go p e below _ T11 (mkF m 4 #[.val (.ref a), .val (.ref a1), .val (.int (0 : Int32)), .val (.int (0 : Int32)), .val .null, .unset] [])
  refine own_by (T' := T11) (f' := (mkF m 5 #[.val (.ref a), .val (.ref a1), .val (.int (0 : Int32)), .val (.int (0 : Int32)), .val .null, .unset] [(.int (0 : Int32))])) (fun t k => XS.iloadN X11.here hx rfl (hb hby d3_4) rfl k) ?_
  refine own_by (T' := T11) (f' := (mkF m 8 #[.val (.ref a), .val (.ref a1), .val (.int (0 : Int32)), .val (.int (0 : Int32)), .val .null, .unset] [])) (fun t k => XS.ifNo X11.here hx rfl (hb hby d3_5) rfl ((if0 _ _).trans (teq rfl).2) k) ?_
  refine own_by (T' := T11) (f' := (mkF m 9 #[.val (.ref a), .val (.ref a1), .val (.int (0 : Int32)), .val (.int (0 : Int32)), .val .null, .unset] [(.ref a)])) (fun t k => XS.aloadN X11.here hx rfl (hb hby d3_8) rfl rfl k) ?_
  have lt12 := E1.lt
  refine own_ldc (us := []) (z := (0 : Int32)) X11 hx hZ hown e11 (hb hby d3_9) (hw _ (List.mem_of_getElem? (i := 18) rfl)) (own_wS hw) hS hk hEL (by decide) CH own_t_18 (by decide) (by decide) 0 (by decide) (by decide) (by decide) (by decide) ?_
  intro a13 T13 h13 kx13 b13 X13 e13 E13 hS hk hZ hown hW13 CHs13 CH L13 A13 C13 V13 B13 sf13
  show own_Go p e below _ T13 (mkF m 11 #[.val (.ref a), .val (.ref a1), .val (.int (0 : Int32)), .val (.int (0 : Int32)), .val .null, .unset] [(.ref a13), (.ref a)])
  have S_a := CHr.safe CHs13 lt12 S_a
  have sz14 : n0 ≤ h13.size := Nat.le_trans Z0 E13.1
  have K15 := K0.ext E13
  have nea13_a := (sf13 a S_a).1
  have neb13_a := (sf13 a S_a).2
  refine own_getF (host := "") X13 hx hZ hown e13 (hb hby d3_11) (Or.inl (hw _ (List.mem_of_getElem? (i := 24) rfl))) Via.refl V13 ?_
  intro T16 X16 e16
  show own_Go p e below _ T16 (mkF m 14 #[.val (.ref a), .val (.ref a1), .val (.int (0 : Int32)), .val (.int (0 : Int32)), .val .null, .unset] [(.ref b13), (.ref a)])
  have f17 := (F1.ext E13)
  have f18 := (E1.ext E13)
  refine own_putF (host := "") X16 hx hZ hown e16 (hb hby d3_14) (Or.inl (hw _ (List.mem_of_getElem? (i := 24) rfl))) Via.refl f17 f18 (Or.inr ⟨(hw _ (List.mem_of_getElem? (i := 20) rfl)), rfl, hnm⟩) (hw _ (List.mem_of_getElem? (i := 6) rfl)) (ty := (.array .byte)) (by decide) rfl rfl ?_
  intro T19 h19 X19 e19 W19
  show own_Go p e below _ T19 (mkF m 17 #[.val (.ref a), .val (.ref a1), .val (.int (0 : Int32)), .val (.int (0 : Int32)), .val .null, .unset] [])
  have F19 := f17.same W19
  have S_a' := Safe.wr W19 S_a CH.1 S_a
  have hk := Nat.le_trans hk (Nat.le_of_eq W19.size.symm)
  have CH := CH.trans (CHr.wr W19 S_a CH.1)
  have S_a := S_a'
  have sz20 : n0 ≤ h19.size := by rw [W19.size]; exact sz14
  have K21 := K15.wr W19 (Or.inl (List.mem_of_getElem? (i := 0) rfl))
  have N19 := Fr.snoc X19 N0 g1
  refine own_by (T' := T19) (f' := (mkF m 18 #[.val (.ref a), .val (.ref a1), .val (.int (0 : Int32)), .val (.int (0 : Int32)), .val .null, .unset] [(.ref a)])) (fun t k => XS.aloadN X19.here hx rfl (hb hby d3_17) rfl rfl k) ?_
  refine own_by (T' := T19) (f' := (mkF m 20 #[.val (.ref a), .val (.ref a1), .val (.int (0 : Int32)), .val (.int (0 : Int32)), .val .null, .unset] [(.ref a13), (.ref a)])) (ldcAgain X19 hx hZ hown (hw _ (List.mem_of_getElem? (i := 18) rfl)) L13 (g := (mkF m 18 #[.val (.ref a), .val (.ref a1), .val (.int (0 : Int32)), .val (.int (0 : Int32)), .val .null, .unset] [(.ref a)])) rfl (hb hby d3_18)) ?_
  have f22 := (C13.other W19 (Or.inl (Ne.symm nea13_a)))
  refine own_getF (host := "") X19 hx hZ hown e19 (hb hby d3_20) (Or.inl (hw _ (List.mem_of_getElem? (i := 25) rfl))) Via.refl f22 ?_
  intro T23 X23 e23
  show own_Go p e below _ T23 (mkF m 23 #[.val (.ref a), .val (.ref a1), .val (.int (0 : Int32)), .val (.int (0 : Int32)), .val .null, .unset] [(.int (0 : Int32)), (.ref a)])
  have f24 := ((F2.ext E13).other W19 (Or.inr (slot_ne (Or.inr (hw _ (List.mem_of_getElem? (i := 21) rfl))) (Or.inr (hw _ (List.mem_of_getElem? (i := 20) rfl))) (by decide) (t := .byte) (t' := (.array .byte)) (by decide) (by decide))))
  have f25 := (f18.wr W19)
  refine own_putF (host := "") X23 hx hZ hown e23 (hb hby d3_23) (Or.inl (hw _ (List.mem_of_getElem? (i := 25) rfl))) Via.refl f24 f25 (Or.inr ⟨(hw _ (List.mem_of_getElem? (i := 21) rfl)), rfl, hnm⟩) (hw _ (List.mem_of_getElem? (i := 6) rfl)) (ty := .byte) (by decide) rfl rfl ?_
  intro T26 h26 X26 e26 W26
  show own_Go p e below _ T26 (mkF m 26 #[.val (.ref a), .val (.ref a1), .val (.int (0 : Int32)), .val (.int (0 : Int32)), .val .null, .unset] [])
  have F26 := f24.same W26
  have S_a' := Safe.wr W26 S_a CH.1 S_a
  have hk := Nat.le_trans hk (Nat.le_of_eq W26.size.symm)
  have CH := CH.trans (CHr.wr W26 S_a CH.1)
  have S_a := S_a'
  have sz27 : n0 ≤ h26.size := by rw [W26.size]; exact sz20
  have K28 := K21.wr W26 (Or.inl (List.mem_of_getElem? (i := 0) rfl))
  have N26 := Fr.snoc X26 N19 g1
  have f29 := (f25.wr W26)
  have f30 := (F19.other W26 (Or.inr (slot_ne (Or.inr (hw _ (List.mem_of_getElem? (i := 20) rfl))) (Or.inr (hw _ (List.mem_of_getElem? (i := 21) rfl))) (by decide) (t := (.array .byte)) (t' := .byte) (by decide) (by decide))))
  have f31 := ((B13.other W19 (Ne.symm neb13_a)).other W26 (Ne.symm neb13_a))
  refine own_retWV X26 hx hret hlk hZ hEL hs0 e26 hS hk CH (hb hby d3_26) (by decide) (by decide) ?_
  try rw [e26]
  exact ⟨rfl, N26, K28, by decide, fun i hi => absurd hi (Nat.not_lt_zero i), f29, b13, (0 : Int32), f30, Or.inl ⟨F26, by decide, fun i hi => absurd hi (Nat.not_lt_zero i), f31.congr (fun i hi => absurd hi (Nat.not_lt_zero i))⟩⟩
theorem ef_rmI1e (m : MethodId) (x0 : Addr) (x1 : Addr) : entryFrame m #[(.ref x0), (.ref x1)] 2 = mkF m 0 #[.val (.ref x0), .val (.ref x1)] [] := by first | (simp [entryFrame, mkF, argsToLocals, Value.category]; done) | rfl
set_option maxRecDepth 65536 in
set_option maxHeartbeats 40000000 in
theorem rmI1e (l : Launch) (Z : State) (a0 : Array Value) (hw : ∀ d ∈ tables_1, d.before a0 Z = true) (ws : List Jvm.Cond) (a a1 : Addr) (f : Nat → Int32) (u2 : Value) (cs : Int32) (fm : Value) (h0 : Heap) (n0 : Nat) (Z0 : n0 ≤ h0.size) (g1 : n0 ≤ a) (E1 : Exa Z h0 a "java/lang/String") (F1 : Fld Z h0 a "java/lang/String" "value" "[B" .null) (F2 : Fld Z h0 a "java/lang/String" "coder" "B" u2) (ST : own_St Z h0 cs fm) (A1 : own_A Z h0 a1 .char 0 f) :
    own_CtW l Z consts_1 (⟨"java/lang/String", "<init>", "([C)V"⟩ : MethodName) jdk_42_method_3_code 2 none ws ({ frames := 2, cells := 2, slots := 4, locals := 33 } : Room) #[(.ref a), (.ref a1)] h0 (fun v h L => v = none ∧ Fr n0 L ∧ Keep h0 h [a] ∧ own_JS Z h a 0 f) := by
  have hEL := own_EW hw
  refine own_ofW (plainFor_of_name pn_java_lang_String) ?_
  intro p e s m below meth c s₁ hx hby hml hown hnm hret hlk hZ X0 e0 hs0 hS hk CH
  have N0 := Fr.nil n0
  have K0 := Keep.refl h0 [a]
  have S_a : Safe Z consts_1 s.vm h0 a := own_safe_new hZ.alike E1 F1
  rw [ef_rmI1e]
  refine own_by (T' := s₁) (f' := (mkF m 1 #[.val (.ref a), .val (.ref a1)] [(.ref a)])) (fun t k => XS.aloadN X0.here hx rfl (hb hby d2_0) rfl rfl k) ?_
  refine own_by (T' := s₁) (f' := (mkF m 2 #[.val (.ref a), .val (.ref a1)] [(.ref a1), (.ref a)])) (fun t k => XS.aloadN X0.here hx rfl (hb hby d2_1) rfl rfl k) ?_
  refine own_by (T' := s₁) (f' := (mkF m 3 #[.val (.ref a), .val (.ref a1)] [(.int (0 : Int32)), (.ref a1), (.ref a)])) (fun t k => XS.iconst X0.here hx rfl (hb hby d2_2) k) ?_
  refine own_by (T' := s₁) (f' := (mkF m 4 #[.val (.ref a), .val (.ref a1)] [(.ref a1), (.int (0 : Int32)), (.ref a1), (.ref a)])) (fun t k => XS.aloadN X0.here hx rfl (hb hby d2_3) rfl rfl k) ?_
  refine own_alen (j := (0 : Int32)) X0 hx hZ e0 (hb hby d2_4) A1 (by decide) ?_
  show own_Go p e below _ s₁ (mkF m 5 #[.val (.ref a), .val (.ref a1)] [(.int (0 : Int32)), (.int (0 : Int32)), (.ref a1), (.ref a)])
  refine own_by (T' := s₁) (f' := (mkF m 6 #[.val (.ref a), .val (.ref a1)] [.null, (.int (0 : Int32)), (.int (0 : Int32)), (.ref a1), (.ref a)])) (fun t k => XS.aconstNull X0.here hx rfl (hb hby d2_5) k) ?_
  have lt11 := E1.lt
  refine own_callNW X0 hx hZ hown e0 (hb hby d2_6) hS hk hEL CH [(.ref a1), (.int (0 : Int32)), (.int (0 : Int32)), .null] [] 0 (rmI4e l Z a0 hw [] a a1 f _ cs fm h0 n0 Z0 g1 E1 F1 F2 ST) (hw _ (List.mem_of_getElem? (i := 11) rfl)) (hw _ (List.mem_of_getElem? (i := 12) rfl)) (hw _ (List.mem_of_getElem? (i := 7) rfl)) (hw _ (List.mem_of_getElem? (i := 14) rfl)) rfl (by decide) pd___CIILjava_lang_Void__V (by rw [hml]; rfl) rfl rfl (Nat.le_of_eq rfl) (by decide) (by decide) (by decide) (by decide) ?_
  rintro T12 _ L12 X12 hS hk hZ hown hW12 CHs12 CH ⟨rfl, N12q, K12, Q12⟩
  show own_Go p e below _ T12 (mkF m 9 #[.val (.ref a), .val (.ref a1)] [])
  have S_a := CHr.safe CHs12 lt11 S_a
  have N12 := Fr.app N0 N12q
  refine own_retWV X12 hx hret hlk hZ hEL hs0 rfl hS hk CH (hb hby d2_9) (by decide) (by decide) ?_
  exact ⟨rfl, N12, K12, Q12⟩
theorem ef_rmLE (m : MethodId) (x0 : Addr) (x1 : Addr) : entryFrame m #[(.ref x0), (.ref x1)] 3 = mkF m 0 #[.val (.ref x0), .val (.ref x1), .unset] [] := by first | (simp [entryFrame, mkF, argsToLocals, Value.category]; done) | rfl
set_option maxRecDepth 65536 in
set_option maxHeartbeats 40000000 in
theorem rmLE (l : Launch) (Z : State) (a0 : Array Value) (hw : ∀ d ∈ tables_1, d.before a0 Z = true) (ws : List Jvm.Cond) (b1 b2 : Addr) (z1 z2 : Int32) (n1 n2 : Nat) (f1 f2 : Nat → Int32) (h0 : Heap) (hz1 : z1.toInt = n1) (hz2 : z2.toInt = n2) (A1 : own_A Z h0 b1 .byte n1 f1) (A2 : own_A Z h0 b2 .byte n2 f2) :
    own_Ct l Z (⟨"java/lang/StringLatin1", "equals", "([B[B)Z"⟩ : MethodName) jdk_43_method_13_code 3 (some .boolean) ws ({ frames := 0, cells := 0, slots := 0, locals := 0 } : Room) #[(.ref b1), (.ref b2)] h0 (fun v h L => v = some (.int (own_eqA n1 f1 n2 f2)) ∧ L = [] ∧ h = h0) := by
  refine own_of (plainFor_of_name pn_java_lang_StringLatin1) ?_
  intro p e s m below meth c s₁ hx hby hml hown hnm hret hlk hZ X0 e0
  have loop : n1 = n2 → ∀ (k j : Nat) (iv : Int32) (TL : State), j + k = n1 → iv.toInt = (j : Nat) → (∀ q, q < j → f1 q = f2 q) → Stand p l e ({ frames := 0, cells := 0, slots := 0, locals := 0 } : Room) s m #[(.ref b1), (.ref b2)] below meth c TL [] 0 0 → TL.heap = h0 → own_Go p e below (own_Ends s ({ frames := 0, cells := 0, slots := 0, locals := 0 } : Room) (fun v h L => v = some (.int (own_eqA n1 f1 n2 f2)) ∧ L = [] ∧ h = h0)) TL (mkF m 9 #[.val (.ref b1), .val (.ref b2), .val (.int iv)] []) := by
    intro hnn k
    induction k with
    | zero =>
      intro j iv TL hjk hiv hall XL eL
      refine own_by (T' := TL) (f' := (mkF m 10 #[.val (.ref b1), .val (.ref b2), .val (.int iv)] [(.int iv)])) (fun t k => XS.iloadN XL.here hx rfl (hb hby d10_9) rfl k) ?_
      refine own_by (T' := TL) (f' := (mkF m 11 #[.val (.ref b1), .val (.ref b2), .val (.int iv)] [(.ref b1), (.int iv)])) (fun t k => XS.aloadN XL.here hx rfl (hb hby d10_10) rfl rfl k) ?_
      refine own_alen (j := z1) XL hx hZ eL (hb hby d10_11) A1 hz1 ?_
      show own_Go p e below _ TL (mkF m 12 #[.val (.ref b1), .val (.ref b2), .val (.int iv)] [(.int z1), (.int iv)])
      have hc12_51 : ¬ (iv < z1) := (by rw [Int32.lt_iff_toInt_lt]; omega)
      refine own_by (T' := TL) (f' := (mkF m 32 #[.val (.ref b1), .val (.ref b2), .val (.int iv)] [])) (fun t k => XS.icmpYes XL.here hx rfl (pc0 := 12) (pc' := 32) rfl (hb hby d10_12) rfl (flt hc12_51).2.1 (by decide) (by decide) k) ?_
      refine own_by (T' := TL) (f' := (mkF m 33 #[.val (.ref b1), .val (.ref b2), .val (.int iv)] [(.int (1 : Int32))])) (fun t k => XS.iconst XL.here hx rfl (hb hby d10_32) k) ?_
      refine own_retZ XL hx hret hlk (hb hby d10_33) (Or.inr rfl) (by decide) (by decide) ?_
      try rw [eL]
      exact ⟨by rw [own_eqA_all hnn (fun i hi => hall i (by omega))], rfl, rfl⟩
    | succ k ih =>
      intro j iv TL hjk hiv hall XL eL
      refine own_by (T' := TL) (f' := (mkF m 10 #[.val (.ref b1), .val (.ref b2), .val (.int iv)] [(.int iv)])) (fun t k => XS.iloadN XL.here hx rfl (hb hby d10_9) rfl k) ?_
      refine own_by (T' := TL) (f' := (mkF m 11 #[.val (.ref b1), .val (.ref b2), .val (.int iv)] [(.ref b1), (.int iv)])) (fun t k => XS.aloadN XL.here hx rfl (hb hby d10_10) rfl rfl k) ?_
      refine own_alen (j := z1) XL hx hZ eL (hb hby d10_11) A1 hz1 ?_
      show own_Go p e below _ TL (mkF m 12 #[.val (.ref b1), .val (.ref b2), .val (.int iv)] [(.int z1), (.int iv)])
      have hc12_51 : iv < z1 := (by rw [Int32.lt_iff_toInt_lt]; omega)
      refine own_by (T' := TL) (f' := (mkF m 15 #[.val (.ref b1), .val (.ref b2), .val (.int iv)] [])) (fun t k => XS.icmpNo XL.here hx rfl (hb hby d10_12) rfl (tlt hc12_51).2.1 k) ?_
      refine own_by (T' := TL) (f' := (mkF m 16 #[.val (.ref b1), .val (.ref b2), .val (.int iv)] [(.ref b1)])) (fun t k => XS.aloadN XL.here hx rfl (hb hby d10_15) rfl rfl k) ?_
      refine own_by (T' := TL) (f' := (mkF m 17 #[.val (.ref b1), .val (.ref b2), .val (.int iv)] [(.int iv), (.ref b1)])) (fun t k => XS.iloadN XL.here hx rfl (hb hby d10_16) rfl k) ?_
      refine own_ldB XL hx hZ eL (hb hby d10_17) A1 (by first | decide | omega) (by first | decide | omega) ?_
      rw [show iv.toInt.toNat = j from by omega]
      show own_Go p e below _ TL (mkF m 18 #[.val (.ref b1), .val (.ref b2), .val (.int iv)] [(.int (f1 j))])
      refine own_by (T' := TL) (f' := (mkF m 19 #[.val (.ref b1), .val (.ref b2), .val (.int iv)] [(.ref b2), (.int (f1 j))])) (fun t k => XS.aloadN XL.here hx rfl (hb hby d10_18) rfl rfl k) ?_
      refine own_by (T' := TL) (f' := (mkF m 20 #[.val (.ref b1), .val (.ref b2), .val (.int iv)] [(.int iv), (.ref b2), (.int (f1 j))])) (fun t k => XS.iloadN XL.here hx rfl (hb hby d10_19) rfl k) ?_
      refine own_ldB XL hx hZ eL (hb hby d10_20) A2 (by first | decide | omega) (by first | decide | omega) ?_
      rw [show iv.toInt.toNat = j from by omega]
      show own_Go p e below _ TL (mkF m 21 #[.val (.ref b1), .val (.ref b2), .val (.int iv)] [(.int (f2 j)), (.int (f1 j))])
      by_cases hc21_52 : (f1 j) = (f2 j)
      · have _ := XL
        refine own_by (T' := TL) (f' := (mkF m 26 #[.val (.ref b1), .val (.ref b2), .val (.int iv)] [])) (fun t k => XS.icmpYes XL.here hx rfl (pc0 := 21) (pc' := 26) rfl (hb hby d10_21) rfl (teq hc21_52).1 (by decide) (by decide) k) ?_
        refine own_by (T' := TL) (f' := (mkF m 29 #[.val (.ref b1), .val (.ref b2), .val (.int (iv + (1 : Int32)))] [])) (fun t k => XS.iinc XL.here hx rfl (hb hby d10_26) rfl (l' := #[.val (.ref b1), .val (.ref b2), .val (.int (iv + (1 : Int32)))]) rfl k) ?_
        refine own_by (T' := TL) (f' := (mkF m 9 #[.val (.ref b1), .val (.ref b2), .val (.int (iv + (1 : Int32)))] [])) (fun t k => XS.goto XL.here hx rfl (pc0 := 29) (pc' := 9) rfl (hb hby d10_29) (by decide) (by decide) k) ?_
        exact ih (j + 1) (iv + (1 : Int32)) TL (by omega) (own_inc hiv (by omega) A1.small) (fun q hq => if e : q = j then e ▸ hc21_52 else hall q (by omega)) XL eL
      · have _ := XL
        refine own_by (T' := TL) (f' := (mkF m 24 #[.val (.ref b1), .val (.ref b2), .val (.int iv)] [])) (fun t k => XS.icmpNo XL.here hx rfl (hb hby d10_21) rfl (feq hc21_52).1 k) ?_
        refine own_by (T' := TL) (f' := (mkF m 25 #[.val (.ref b1), .val (.ref b2), .val (.int iv)] [(.int (0 : Int32))])) (fun t k => XS.iconst XL.here hx rfl (hb hby d10_24) k) ?_
        refine own_retZ XL hx hret hlk (hb hby d10_25) (Or.inl rfl) (by decide) (by decide) ?_
        try rw [eL]
        exact ⟨by rw [own_eqA_at (by omega) hc21_52], rfl, rfl⟩
  rw [ef_rmLE]
  refine own_by (T' := s₁) (f' := (mkF m 1 #[.val (.ref b1), .val (.ref b2), .unset] [(.ref b1)])) (fun t k => XS.aloadN X0.here hx rfl (hb hby d10_0) rfl rfl k) ?_
  refine own_alen (j := z1) X0 hx hZ e0 (hb hby d10_1) A1 hz1 ?_
  show own_Go p e below _ s₁ (mkF m 2 #[.val (.ref b1), .val (.ref b2), .unset] [(.int z1)])
  refine own_by (T' := s₁) (f' := (mkF m 3 #[.val (.ref b1), .val (.ref b2), .unset] [(.ref b2), (.int z1)])) (fun t k => XS.aloadN X0.here hx rfl (hb hby d10_2) rfl rfl k) ?_
  refine own_alen (j := z2) X0 hx hZ e0 (hb hby d10_3) A2 hz2 ?_
  show own_Go p e below _ s₁ (mkF m 4 #[.val (.ref b1), .val (.ref b2), .unset] [(.int z2), (.int z1)])
  by_cases hc4_1 : z1 = z2
  · have _ := X0
    refine own_by (T' := s₁) (f' := (mkF m 7 #[.val (.ref b1), .val (.ref b2), .unset] [])) (fun t k => XS.icmpNo X0.here hx rfl (hb hby d10_4) rfl (teq hc4_1).2 k) ?_
    refine own_by (T' := s₁) (f' := (mkF m 8 #[.val (.ref b1), .val (.ref b2), .unset] [(.int (0 : Int32))])) (fun t k => XS.iconst X0.here hx rfl (hb hby d10_7) k) ?_
    refine own_by (T' := s₁) (f' := (mkF m 9 #[.val (.ref b1), .val (.ref b2), .val (.int (0 : Int32))] [])) (fun t k => XS.istoreN X0.here hx rfl (hb hby d10_8) rfl (l' := #[.val (.ref b1), .val (.ref b2), .val (.int (0 : Int32))]) rfl k) ?_
    exact loop (by rw [hc4_1] at hz1; omega) n1 0 0 s₁ (by omega) (by decide) (fun q hq => absurd hq (Nat.not_lt_zero q)) X0 e0
  · have _ := X0
    refine own_by (T' := s₁) (f' := (mkF m 34 #[.val (.ref b1), .val (.ref b2), .unset] [])) (fun t k => XS.icmpYes X0.here hx rfl (pc0 := 4) (pc' := 34) rfl (hb hby d10_4) rfl (feq hc4_1).2 (by decide) (by decide) k) ?_
    refine own_by (T' := s₁) (f' := (mkF m 35 #[.val (.ref b1), .val (.ref b2), .unset] [(.int (0 : Int32))])) (fun t k => XS.iconst X0.here hx rfl (hb hby d10_34) k) ?_
    refine own_retZ X0 hx hret hlk (hb hby d10_35) (Or.inl rfl) (by decide) (by decide) ?_
    try rw [e0]
    exact ⟨by rw [own_eqA_ne fun q => hc4_1 (Int32.toInt_inj.mp (by omega))], rfl, rfl⟩
theorem ef_rmEQ (m : MethodId) (x0 : Addr) (x1 : Addr) : entryFrame m #[(.ref x0), (.ref x1)] 3 = mkF m 0 #[.val (.ref x0), .val (.ref x1), .unset] [] := by first | (simp [entryFrame, mkF, argsToLocals, Value.category]; done) | rfl
set_option maxRecDepth 65536 in
set_option maxHeartbeats 40000000 in
theorem rmEQ (l : Launch) (Z : State) (a0 : Array Value) (hw : ∀ d ∈ tables_1, d.before a0 Z = true) (ws : List Jvm.Cond) (a1 a2 b1 b2 : Addr) (z1 z2 : Int32) (n1 n2 : Nat) (f1 f2 : Nat → Int32) (cs : Int32) (h0 : Heap) (E1 : Exa Z h0 a1 "java/lang/String") (C1 : Fld Z h0 a1 "java/lang/String" "coder" "B" (.int 0)) (V1 : Fld Z h0 a1 "java/lang/String" "value" "[B" (.ref b1)) (A1 : own_A Z h0 b1 .byte n1 f1) (hz1 : z1.toInt = n1) (E2 : Exa Z h0 a2 "java/lang/String") (C2 : Fld Z h0 a2 "java/lang/String" "coder" "B" (.int 0)) (V2 : Fld Z h0 a2 "java/lang/String" "value" "[B" (.ref b2)) (A2 : own_A Z h0 b2 .byte n2 f2) (hz2 : z2.toInt = n2) (hcs : ¬ (cs = (0 : Int32))) (S0 : Sta Z h0 "java/lang/String" "COMPACT_STRINGS" "Z" (.int cs)) :
    own_Ct l Z (⟨"java/lang/String", "equals", "(Ljava/lang/Object;)Z"⟩ : MethodName) jdk_42_method_66_code 3 (some .boolean) ws ({ frames := 1, cells := 0, slots := 0, locals := 16 } : Room) #[(.ref a1), (.ref a2)] h0 (fun v h L => v = some (.int (own_eqA n1 f1 n2 f2)) ∧ L = [] ∧ h = h0) := by
  refine own_of (plainFor_of_name pn_java_lang_String) ?_
  intro p e s m below meth c s₁ hx hby hml hown hnm hret hlk hZ X0 e0
  rw [ef_rmEQ]
  refine own_by (T' := s₁) (f' := (mkF m 1 #[.val (.ref a1), .val (.ref a2), .unset] [(.ref a1)])) (fun t k => XS.aloadN X0.here hx rfl (hb hby d9_0) rfl rfl k) ?_
  refine own_by (T' := s₁) (f' := (mkF m 2 #[.val (.ref a1), .val (.ref a2), .unset] [(.ref a2), (.ref a1)])) (fun t k => XS.aloadN X0.here hx rfl (hb hby d9_1) rfl rfl k) ?_
  by_cases ha2_11 : a1 = a2
  · have _ := X0
    refine own_by (T' := s₁) (f' := (mkF m 5 #[.val (.ref a1), .val (.ref a2), .unset] [])) (fun t k => Jvm.RoadKit.acmp (g := (mkF m 2 #[.val (.ref a1), .val (.ref a2), .unset] [(.ref a2), (.ref a1)])) X0 hx rfl rfl rfl (pc0 := 2) (pc' := 5) (same := true) rfl (hb hby d9_2) rfl (decide_eq_true (congrArg Value.ref ha2_11)) (by decide) (by decide) k) ?_
    refine own_by (T' := s₁) (f' := (mkF m 6 #[.val (.ref a1), .val (.ref a2), .unset] [(.int (1 : Int32))])) (fun t k => XS.iconst X0.here hx rfl (hb hby d9_5) k) ?_
    refine own_retZ X0 hx hret hlk (hb hby d9_6) (Or.inr rfl) (by decide) (by decide) ?_
    try rw [e0]
    have ha := ha2_11
    subst ha
    have hb : b1 = b2 := by simpa using own_fld_uniq V1 V2
    subst hb
    have hu := own_A.uniq A1 A2
    exact ⟨by rw [own_eqA_all hu.1 hu.2], rfl, rfl⟩
  · have _ := X0
    refine own_by (T' := s₁) (f' := (mkF m 7 #[.val (.ref a1), .val (.ref a2), .unset] [])) (fun t k => Jvm.RoadKit.acmp (g := (mkF m 2 #[.val (.ref a1), .val (.ref a2), .unset] [(.ref a2), (.ref a1)])) X0 hx rfl rfl rfl (pc0 := 2) (pc' := 7) (same := false) rfl (hb hby d9_2) rfl (decide_eq_false fun q => ha2_11 (Value.ref.inj q)) (by decide) (by decide) k) ?_
    refine own_by (T' := s₁) (f' := (mkF m 8 #[.val (.ref a1), .val (.ref a2), .unset] [(.ref a2)])) (fun t k => XS.aloadN X0.here hx rfl (hb hby d9_7) rfl rfl k) ?_
    obtain ⟨T12, X12, e12, st12⟩ := instY X0 hx hZ hown (hw _ (List.mem_of_getElem? (i := 52) rfl)) e0 (Ins.self E2) (g := (mkF m 8 #[.val (.ref a1), .val (.ref a2), .unset] [(.ref a2)])) rfl rfl (hb hby d9_8)
    refine own_by (f' := (mkF m 11 #[.val (.ref a1), .val (.ref a2), .unset] [(.int (1 : Int32))])) st12 ?_
    refine own_by (T' := T12) (f' := (mkF m 14 #[.val (.ref a1), .val (.ref a2), .unset] [])) (fun t k => XS.ifNo X12.here hx rfl (hb hby d9_11) rfl ((if0 _ _).trans (feq (by decide)).1) k) ?_
    refine own_by (T' := T12) (f' := (mkF m 15 #[.val (.ref a1), .val (.ref a2), .unset] [(.ref a2)])) (fun t k => XS.aloadN X12.here hx rfl (hb hby d9_14) rfl rfl k) ?_
    obtain ⟨T13, X13, e13, st13⟩ := castY X12 hx hZ hown (hw _ (List.mem_of_getElem? (i := 52) rfl)) e12 (Ins.self E2) (g := (mkF m 15 #[.val (.ref a1), .val (.ref a2), .unset] [(.ref a2)])) rfl rfl (hb hby d9_15)
    refine own_by (f' := (mkF m 18 #[.val (.ref a1), .val (.ref a2), .unset] [(.ref a2)])) st13 ?_
    refine own_by (T' := T13) (f' := (mkF m 19 #[.val (.ref a1), .val (.ref a2), .val (.ref a2)] [])) (fun t k => XS.astoreN X13.here hx rfl (hb hby d9_18) rfl rfl (l' := #[.val (.ref a1), .val (.ref a2), .val (.ref a2)]) rfl k) ?_
    refine own_getS (host := "") X13 hx hZ hown e13 (hb hby d9_19) (Or.inl (hw _ (List.mem_of_getElem? (i := 45) rfl))) Via.refl S0 ?_
    intro T14 X14 e14
    show own_Go p e below _ T14 (mkF m 22 #[.val (.ref a1), .val (.ref a2), .val (.ref a2)] [(.int cs)])
    refine own_by (T' := T14) (f' := (mkF m 25 #[.val (.ref a1), .val (.ref a2), .val (.ref a2)] [])) (fun t k => XS.ifNo X14.here hx rfl (hb hby d9_22) rfl ((if0 _ _).trans (feq hcs).1) k) ?_
    refine own_by (T' := T14) (f' := (mkF m 26 #[.val (.ref a1), .val (.ref a2), .val (.ref a2)] [(.ref a1)])) (fun t k => XS.aloadN X14.here hx rfl (hb hby d9_25) rfl rfl k) ?_
    refine own_getF (host := "") X14 hx hZ hown e14 (hb hby d9_26) (Or.inl (hw _ (List.mem_of_getElem? (i := 25) rfl))) Via.refl C1 ?_
    intro T15 X15 e15
    show own_Go p e below _ T15 (mkF m 29 #[.val (.ref a1), .val (.ref a2), .val (.ref a2)] [(.int (0 : Int32))])
    refine own_by (T' := T15) (f' := (mkF m 30 #[.val (.ref a1), .val (.ref a2), .val (.ref a2)] [(.ref a2), (.int (0 : Int32))])) (fun t k => XS.aloadN X15.here hx rfl (hb hby d9_29) rfl rfl k) ?_
    refine own_getF (host := "") X15 hx hZ hown e15 (hb hby d9_30) (Or.inl (hw _ (List.mem_of_getElem? (i := 25) rfl))) Via.refl C2 ?_
    intro T16 X16 e16
    show own_Go p e below _ T16 (mkF m 33 #[.val (.ref a1), .val (.ref a2), .val (.ref a2)] [(.int (0 : Int32)), (.int (0 : Int32))])
    refine own_by (T' := T16) (f' := (mkF m 36 #[.val (.ref a1), .val (.ref a2), .val (.ref a2)] [])) (fun t k => XS.icmpNo X16.here hx rfl (hb hby d9_33) rfl (teq rfl).2 k) ?_
    refine own_by (T' := T16) (f' := (mkF m 37 #[.val (.ref a1), .val (.ref a2), .val (.ref a2)] [(.ref a1)])) (fun t k => XS.aloadN X16.here hx rfl (hb hby d9_36) rfl rfl k) ?_
    refine own_getF (host := "") X16 hx hZ hown e16 (hb hby d9_37) (Or.inl (hw _ (List.mem_of_getElem? (i := 24) rfl))) Via.refl V1 ?_
    intro T17 X17 e17
    show own_Go p e below _ T17 (mkF m 40 #[.val (.ref a1), .val (.ref a2), .val (.ref a2)] [(.ref b1)])
    refine own_by (T' := T17) (f' := (mkF m 41 #[.val (.ref a1), .val (.ref a2), .val (.ref a2)] [(.ref a2), (.ref b1)])) (fun t k => XS.aloadN X17.here hx rfl (hb hby d9_40) rfl rfl k) ?_
    refine own_getF (host := "") X17 hx hZ hown e17 (hb hby d9_41) (Or.inl (hw _ (List.mem_of_getElem? (i := 24) rfl))) Via.refl V2 ?_
    intro T18 X18 e18
    show own_Go p e below _ T18 (mkF m 44 #[.val (.ref a1), .val (.ref a2), .val (.ref a2)] [(.ref b2), (.ref b1)])
    refine own_callS X18 hx hZ hown e18 (hb hby d9_44) [(.ref b1), (.ref b2)] [] 0 (rmLE l Z a0 hw [] b1 b2 z1 z2 n1 n2 f1 f2 h0 hz1 hz2 A1 A2) (hw _ (List.mem_of_getElem? (i := 53) rfl)) (hw _ (List.mem_of_getElem? (i := 54) rfl)) (hw _ (List.mem_of_getElem? (i := 55) rfl)) (hw _ (List.mem_of_getElem? (i := 56) rfl)) (by decide) pd___B_B_Z (by rw [hml]; rfl) rfl rfl (Nat.le_of_eq rfl) (by decide) (by decide) (by decide) (by decide) ?_
    rintro T19 _ L19 X19 ⟨rfl, rfl, e19⟩
    show own_Go p e below _ T19 (mkF m 47 #[.val (.ref a1), .val (.ref a2), .val (.ref a2)] [(.int (own_eqA n1 f1 n2 f2))])
    rw [List.append_nil] at X19
    by_cases hc47_20 : (own_eqA n1 f1 n2 f2) = (0 : Int32)
    · have _ := X19
      refine own_by (T' := T19) (f' := (mkF m 54 #[.val (.ref a1), .val (.ref a2), .val (.ref a2)] [])) (fun t k => XS.ifYes X19.here hx rfl (pc0 := 47) (pc' := 54) rfl (hb hby d9_47) rfl ((if0 _ _).trans (teq hc47_20).1) (by decide) (by decide) k) ?_
      refine own_by (T' := T19) (f' := (mkF m 55 #[.val (.ref a1), .val (.ref a2), .val (.ref a2)] [(.int (0 : Int32))])) (fun t k => XS.iconst X19.here hx rfl (hb hby d9_54) k) ?_
      refine own_retZ X19 hx hret hlk (hb hby d9_55) (Or.inl rfl) (by decide) (by decide) ?_
      try rw [e19]
      exact ⟨by rw [hc47_20], rfl, rfl⟩
    · have _ := X19
      refine own_by (T' := T19) (f' := (mkF m 50 #[.val (.ref a1), .val (.ref a2), .val (.ref a2)] [])) (fun t k => XS.ifNo X19.here hx rfl (hb hby d9_47) rfl ((if0 _ _).trans (feq hc47_20).1) k) ?_
      refine own_by (T' := T19) (f' := (mkF m 51 #[.val (.ref a1), .val (.ref a2), .val (.ref a2)] [(.int (1 : Int32))])) (fun t k => XS.iconst X19.here hx rfl (hb hby d9_50) k) ?_
      refine own_by (T' := T19) (f' := (mkF m 55 #[.val (.ref a1), .val (.ref a2), .val (.ref a2)] [(.int (1 : Int32))])) (fun t k => XS.goto X19.here hx rfl (pc0 := 51) (pc' := 55) rfl (hb hby d9_51) (by decide) (by decide) k) ?_
      refine own_retZ X19 hx hret hlk (hb hby d9_55) (Or.inr rfl) (by decide) (by decide) ?_
      try rw [e19]
      exact ⟨by rw [(own_eqA_01 n1 f1 n2 f2).resolve_left hc47_20], rfl, rfl⟩
theorem ef_rmVL (m : MethodId) (x0 : Int32) : entryFrame m #[(.int x0)] 2 = mkF m 0 #[.val (.int x0), .unset] [] := by first | (simp [entryFrame, mkF, argsToLocals, Value.category]; done) | rfl
set_option maxRecDepth 65536 in
set_option maxHeartbeats 40000000 in
theorem rmVL (l : Launch) (Z : State) (a0 : Array Value) (hw : ∀ d ∈ tables_1, d.before a0 Z = true) (ws : List Jvm.Cond) (c0 : Int32) (h0 : Heap)  :
    own_Ct l Z (⟨"com/example/bewaker/bewaker/fhir/InteractionIsIdPinLaw", "valid", "(C)Z"⟩ : MethodName) method_2_code 2 (some .boolean) ws ({ frames := 0, cells := 0, slots := 0, locals := 0 } : Room) #[(.int c0)] h0 (fun v h L => v = some (.int (own_vl c0)) ∧ L = [] ∧ h = h0) := by
  refine own_of (plainFor_of_name pn_com_example_bewaker_bewaker_fhir_InteractionIsIdPinLaw) ?_
  intro p e s m below meth c s₁ hx hby hml hown hnm hret hlk hZ X0 e0
  rw [ef_rmVL]
  refine own_by (T' := s₁) (f' := (mkF m 1 #[.val (.int c0), .unset] [(.int c0)])) (fun t k => XS.iloadN X0.here hx rfl (hb hby d1_0) rfl k) ?_
  refine own_by (T' := s₁) (f' := (mkF m 3 #[.val (.int c0), .unset] [(.int (32 : Int32)), (.int c0)])) (fun t k => XS.bipush X0.here hx rfl (hb hby d1_1) k) ?_
  refine own_by (T' := s₁) (f' := (mkF m 4 #[.val (.int c0), .unset] [(.int (c0 ||| (32 : Int32)))])) (fun t k => XS.ior X0.here hx rfl (hb hby d1_3) rfl k) ?_
  refine own_by (T' := s₁) (f' := (mkF m 5 #[.val (.int c0), .val (.int (c0 ||| (32 : Int32)))] [])) (fun t k => XS.istoreN X0.here hx rfl (hb hby d1_4) rfl (l' := #[.val (.int c0), .val (.int (c0 ||| (32 : Int32)))]) rfl k) ?_
  refine own_by (T' := s₁) (f' := (mkF m 6 #[.val (.int c0), .val (.int (c0 ||| (32 : Int32)))] [(.int (c0 ||| (32 : Int32)))])) (fun t k => XS.iloadN X0.here hx rfl (hb hby d1_5) rfl k) ?_
  refine own_by (T' := s₁) (f' := (mkF m 8 #[.val (.int c0), .val (.int (c0 ||| (32 : Int32)))] [(.int (97 : Int32)), (.int (c0 ||| (32 : Int32)))])) (fun t k => XS.bipush X0.here hx rfl (hb hby d1_6) k) ?_
  by_cases hc8_1 : (c0 ||| (32 : Int32)) < (97 : Int32)
  · have _ := X0
    refine own_by (T' := s₁) (f' := (mkF m 19 #[.val (.int c0), .val (.int (c0 ||| (32 : Int32)))] [])) (fun t k => XS.icmpYes X0.here hx rfl (pc0 := 8) (pc' := 19) rfl (hb hby d1_8) rfl (tlt hc8_1).1 (by decide) (by decide) k) ?_
    refine own_by (T' := s₁) (f' := (mkF m 20 #[.val (.int c0), .val (.int (c0 ||| (32 : Int32)))] [(.int c0)])) (fun t k => XS.iloadN X0.here hx rfl (hb hby d1_19) rfl k) ?_
    refine own_by (T' := s₁) (f' := (mkF m 22 #[.val (.int c0), .val (.int (c0 ||| (32 : Int32)))] [(.int (45 : Int32)), (.int c0)])) (fun t k => XS.bipush X0.here hx rfl (hb hby d1_20) k) ?_
    have mg5 : ∀ t, Steps p.tables e below (s₁.setTop (mkF m 42 #[.val (.int c0), .val (.int (c0 ||| (32 : Int32)))] [(.int (if c0 < (45 : Int32) then (0 : Int32) else (if (57 : Int32) < c0 then (0 : Int32) else (if c0 = (47 : Int32) then (0 : Int32) else (1 : Int32)))))])) t → Steps p.tables e below (s₁.setTop (mkF m 22 #[.val (.int c0), .val (.int (c0 ||| (32 : Int32)))] [(.int (45 : Int32)), (.int c0)])) t := by
      intro t k0
      by_cases hm2 : c0 < (45 : Int32)
      · skip
        refine XS.icmpYes X0.here hx rfl (pc0 := 22) (pc' := 41) rfl (hb hby d1_22) rfl (tlt hm2).1 (by decide) (by decide) ?_
        show Steps p.tables e below (s₁.setTop (mkF m 41 #[.val (.int c0), .val (.int (c0 ||| (32 : Int32)))] [])) _
        refine XS.iconst X0.here hx rfl (hb hby d1_41) ?_
        show Steps p.tables e below (s₁.setTop (mkF m 42 #[.val (.int c0), .val (.int (c0 ||| (32 : Int32)))] [(.int (0 : Int32))])) _
        try simp only [if_pos hm2] at k0
        exact k0
      · skip
        refine XS.icmpNo X0.here hx rfl (hb hby d1_22) rfl (flt hm2).1 ?_
        show Steps p.tables e below (s₁.setTop (mkF m 25 #[.val (.int c0), .val (.int (c0 ||| (32 : Int32)))] [])) _
        refine XS.iloadN X0.here hx rfl (hb hby d1_25) rfl ?_
        show Steps p.tables e below (s₁.setTop (mkF m 26 #[.val (.int c0), .val (.int (c0 ||| (32 : Int32)))] [(.int c0)])) _
        refine XS.bipush X0.here hx rfl (hb hby d1_26) ?_
        show Steps p.tables e below (s₁.setTop (mkF m 28 #[.val (.int c0), .val (.int (c0 ||| (32 : Int32)))] [(.int (57 : Int32)), (.int c0)])) _
        by_cases hm3 : (57 : Int32) < c0
        · skip
          refine XS.icmpYes X0.here hx rfl (pc0 := 28) (pc' := 41) rfl (hb hby d1_28) rfl (tlt hm3).2.2.1 (by decide) (by decide) ?_
          show Steps p.tables e below (s₁.setTop (mkF m 41 #[.val (.int c0), .val (.int (c0 ||| (32 : Int32)))] [])) _
          refine XS.iconst X0.here hx rfl (hb hby d1_41) ?_
          show Steps p.tables e below (s₁.setTop (mkF m 42 #[.val (.int c0), .val (.int (c0 ||| (32 : Int32)))] [(.int (0 : Int32))])) _
          try simp only [if_neg hm2, if_pos hm3] at k0
          exact k0
        · skip
          refine XS.icmpNo X0.here hx rfl (hb hby d1_28) rfl (flt hm3).2.2.1 ?_
          show Steps p.tables e below (s₁.setTop (mkF m 31 #[.val (.int c0), .val (.int (c0 ||| (32 : Int32)))] [])) _
          refine XS.iloadN X0.here hx rfl (hb hby d1_31) rfl ?_
          show Steps p.tables e below (s₁.setTop (mkF m 32 #[.val (.int c0), .val (.int (c0 ||| (32 : Int32)))] [(.int c0)])) _
          refine XS.bipush X0.here hx rfl (hb hby d1_32) ?_
          show Steps p.tables e below (s₁.setTop (mkF m 34 #[.val (.int c0), .val (.int (c0 ||| (32 : Int32)))] [(.int (47 : Int32)), (.int c0)])) _
          by_cases hm4 : c0 = (47 : Int32)
          · skip
            refine XS.icmpYes X0.here hx rfl (pc0 := 34) (pc' := 41) rfl (hb hby d1_34) rfl (teq hm4).1 (by decide) (by decide) ?_
            show Steps p.tables e below (s₁.setTop (mkF m 41 #[.val (.int c0), .val (.int (c0 ||| (32 : Int32)))] [])) _
            refine XS.iconst X0.here hx rfl (hb hby d1_41) ?_
            show Steps p.tables e below (s₁.setTop (mkF m 42 #[.val (.int c0), .val (.int (c0 ||| (32 : Int32)))] [(.int (0 : Int32))])) _
            try simp only [if_neg hm2, if_neg hm3, if_pos hm4] at k0
            exact k0
          · skip
            refine XS.icmpNo X0.here hx rfl (hb hby d1_34) rfl (feq hm4).1 ?_
            show Steps p.tables e below (s₁.setTop (mkF m 37 #[.val (.int c0), .val (.int (c0 ||| (32 : Int32)))] [])) _
            refine XS.iconst X0.here hx rfl (hb hby d1_37) ?_
            show Steps p.tables e below (s₁.setTop (mkF m 38 #[.val (.int c0), .val (.int (c0 ||| (32 : Int32)))] [(.int (1 : Int32))])) _
            refine XS.goto X0.here hx rfl (pc0 := 38) (pc' := 42) rfl (hb hby d1_38) (by decide) (by decide) ?_
            show Steps p.tables e below (s₁.setTop (mkF m 42 #[.val (.int c0), .val (.int (c0 ||| (32 : Int32)))] [(.int (1 : Int32))])) _
            try simp only [if_neg hm2, if_neg hm3, if_neg hm4] at k0
            exact k0
    refine own_by mg5 ?_
    rw [show (if c0 < (45 : Int32) then (0 : Int32) else (if (57 : Int32) < c0 then (0 : Int32) else (if c0 = (47 : Int32) then (0 : Int32) else (1 : Int32)))) = own_vb c0 from rfl]
    show own_Go p e below _ s₁ (mkF m 42 #[.val (.int c0), .val (.int (c0 ||| (32 : Int32)))] [(.int (own_vb c0))])
    refine own_retZ X0 hx hret hlk (hb hby d1_42) (own_vb01 c0) (by decide) (by decide) ?_
    try rw [e0]
    exact ⟨by rw [own_vl, if_pos hc8_1], rfl, rfl⟩
  · have _ := X0
    refine own_by (T' := s₁) (f' := (mkF m 11 #[.val (.int c0), .val (.int (c0 ||| (32 : Int32)))] [])) (fun t k => XS.icmpNo X0.here hx rfl (hb hby d1_8) rfl (flt hc8_1).1 k) ?_
    refine own_by (T' := s₁) (f' := (mkF m 12 #[.val (.int c0), .val (.int (c0 ||| (32 : Int32)))] [(.int (c0 ||| (32 : Int32)))])) (fun t k => XS.iloadN X0.here hx rfl (hb hby d1_11) rfl k) ?_
    refine own_by (T' := s₁) (f' := (mkF m 14 #[.val (.int c0), .val (.int (c0 ||| (32 : Int32)))] [(.int (122 : Int32)), (.int (c0 ||| (32 : Int32)))])) (fun t k => XS.bipush X0.here hx rfl (hb hby d1_12) k) ?_
    by_cases hc14_6 : (122 : Int32) < (c0 ||| (32 : Int32))
    · have _ := X0
      refine own_by (T' := s₁) (f' := (mkF m 19 #[.val (.int c0), .val (.int (c0 ||| (32 : Int32)))] [])) (fun t k => XS.icmpYes X0.here hx rfl (pc0 := 14) (pc' := 19) rfl (hb hby d1_14) rfl (tlt hc14_6).2.2.1 (by decide) (by decide) k) ?_
      refine own_by (T' := s₁) (f' := (mkF m 20 #[.val (.int c0), .val (.int (c0 ||| (32 : Int32)))] [(.int c0)])) (fun t k => XS.iloadN X0.here hx rfl (hb hby d1_19) rfl k) ?_
      refine own_by (T' := s₁) (f' := (mkF m 22 #[.val (.int c0), .val (.int (c0 ||| (32 : Int32)))] [(.int (45 : Int32)), (.int c0)])) (fun t k => XS.bipush X0.here hx rfl (hb hby d1_20) k) ?_
      have mg10 : ∀ t, Steps p.tables e below (s₁.setTop (mkF m 42 #[.val (.int c0), .val (.int (c0 ||| (32 : Int32)))] [(.int (if c0 < (45 : Int32) then (0 : Int32) else (if (57 : Int32) < c0 then (0 : Int32) else (if c0 = (47 : Int32) then (0 : Int32) else (1 : Int32)))))])) t → Steps p.tables e below (s₁.setTop (mkF m 22 #[.val (.int c0), .val (.int (c0 ||| (32 : Int32)))] [(.int (45 : Int32)), (.int c0)])) t := by
        intro t k0
        by_cases hm7 : c0 < (45 : Int32)
        · skip
          refine XS.icmpYes X0.here hx rfl (pc0 := 22) (pc' := 41) rfl (hb hby d1_22) rfl (tlt hm7).1 (by decide) (by decide) ?_
          show Steps p.tables e below (s₁.setTop (mkF m 41 #[.val (.int c0), .val (.int (c0 ||| (32 : Int32)))] [])) _
          refine XS.iconst X0.here hx rfl (hb hby d1_41) ?_
          show Steps p.tables e below (s₁.setTop (mkF m 42 #[.val (.int c0), .val (.int (c0 ||| (32 : Int32)))] [(.int (0 : Int32))])) _
          try simp only [if_pos hm7] at k0
          exact k0
        · skip
          refine XS.icmpNo X0.here hx rfl (hb hby d1_22) rfl (flt hm7).1 ?_
          show Steps p.tables e below (s₁.setTop (mkF m 25 #[.val (.int c0), .val (.int (c0 ||| (32 : Int32)))] [])) _
          refine XS.iloadN X0.here hx rfl (hb hby d1_25) rfl ?_
          show Steps p.tables e below (s₁.setTop (mkF m 26 #[.val (.int c0), .val (.int (c0 ||| (32 : Int32)))] [(.int c0)])) _
          refine XS.bipush X0.here hx rfl (hb hby d1_26) ?_
          show Steps p.tables e below (s₁.setTop (mkF m 28 #[.val (.int c0), .val (.int (c0 ||| (32 : Int32)))] [(.int (57 : Int32)), (.int c0)])) _
          by_cases hm8 : (57 : Int32) < c0
          · skip
            refine XS.icmpYes X0.here hx rfl (pc0 := 28) (pc' := 41) rfl (hb hby d1_28) rfl (tlt hm8).2.2.1 (by decide) (by decide) ?_
            show Steps p.tables e below (s₁.setTop (mkF m 41 #[.val (.int c0), .val (.int (c0 ||| (32 : Int32)))] [])) _
            refine XS.iconst X0.here hx rfl (hb hby d1_41) ?_
            show Steps p.tables e below (s₁.setTop (mkF m 42 #[.val (.int c0), .val (.int (c0 ||| (32 : Int32)))] [(.int (0 : Int32))])) _
            try simp only [if_neg hm7, if_pos hm8] at k0
            exact k0
          · skip
            refine XS.icmpNo X0.here hx rfl (hb hby d1_28) rfl (flt hm8).2.2.1 ?_
            show Steps p.tables e below (s₁.setTop (mkF m 31 #[.val (.int c0), .val (.int (c0 ||| (32 : Int32)))] [])) _
            refine XS.iloadN X0.here hx rfl (hb hby d1_31) rfl ?_
            show Steps p.tables e below (s₁.setTop (mkF m 32 #[.val (.int c0), .val (.int (c0 ||| (32 : Int32)))] [(.int c0)])) _
            refine XS.bipush X0.here hx rfl (hb hby d1_32) ?_
            show Steps p.tables e below (s₁.setTop (mkF m 34 #[.val (.int c0), .val (.int (c0 ||| (32 : Int32)))] [(.int (47 : Int32)), (.int c0)])) _
            by_cases hm9 : c0 = (47 : Int32)
            · skip
              refine XS.icmpYes X0.here hx rfl (pc0 := 34) (pc' := 41) rfl (hb hby d1_34) rfl (teq hm9).1 (by decide) (by decide) ?_
              show Steps p.tables e below (s₁.setTop (mkF m 41 #[.val (.int c0), .val (.int (c0 ||| (32 : Int32)))] [])) _
              refine XS.iconst X0.here hx rfl (hb hby d1_41) ?_
              show Steps p.tables e below (s₁.setTop (mkF m 42 #[.val (.int c0), .val (.int (c0 ||| (32 : Int32)))] [(.int (0 : Int32))])) _
              try simp only [if_neg hm7, if_neg hm8, if_pos hm9] at k0
              exact k0
            · skip
              refine XS.icmpNo X0.here hx rfl (hb hby d1_34) rfl (feq hm9).1 ?_
              show Steps p.tables e below (s₁.setTop (mkF m 37 #[.val (.int c0), .val (.int (c0 ||| (32 : Int32)))] [])) _
              refine XS.iconst X0.here hx rfl (hb hby d1_37) ?_
              show Steps p.tables e below (s₁.setTop (mkF m 38 #[.val (.int c0), .val (.int (c0 ||| (32 : Int32)))] [(.int (1 : Int32))])) _
              refine XS.goto X0.here hx rfl (pc0 := 38) (pc' := 42) rfl (hb hby d1_38) (by decide) (by decide) ?_
              show Steps p.tables e below (s₁.setTop (mkF m 42 #[.val (.int c0), .val (.int (c0 ||| (32 : Int32)))] [(.int (1 : Int32))])) _
              try simp only [if_neg hm7, if_neg hm8, if_neg hm9] at k0
              exact k0
      refine own_by mg10 ?_
      rw [show (if c0 < (45 : Int32) then (0 : Int32) else (if (57 : Int32) < c0 then (0 : Int32) else (if c0 = (47 : Int32) then (0 : Int32) else (1 : Int32)))) = own_vb c0 from rfl]
      show own_Go p e below _ s₁ (mkF m 42 #[.val (.int c0), .val (.int (c0 ||| (32 : Int32)))] [(.int (own_vb c0))])
      refine own_retZ X0 hx hret hlk (hb hby d1_42) (own_vb01 c0) (by decide) (by decide) ?_
      try rw [e0]
      exact ⟨by rw [own_vl, if_neg hc8_1, if_pos hc14_6], rfl, rfl⟩
    · have _ := X0
      refine own_by (T' := s₁) (f' := (mkF m 17 #[.val (.int c0), .val (.int (c0 ||| (32 : Int32)))] [])) (fun t k => XS.icmpNo X0.here hx rfl (hb hby d1_14) rfl (flt hc14_6).2.2.1 k) ?_
      refine own_by (T' := s₁) (f' := (mkF m 18 #[.val (.int c0), .val (.int (c0 ||| (32 : Int32)))] [(.int (1 : Int32))])) (fun t k => XS.iconst X0.here hx rfl (hb hby d1_17) k) ?_
      refine own_retZ X0 hx hret hlk (hb hby d1_18) (Or.inr rfl) (by decide) (by decide) ?_
      try rw [e0]
      exact ⟨by rw [own_vl, if_neg hc8_1, if_neg hc14_6], rfl, rfl⟩
theorem ef_rm64 (m : MethodId) (x0 : Int32) (x1 : Int32) (x2 : Int32) (x3 : Int32) : entryFrame m #[(.int x0), (.int x1), (.int x2), (.int x3)] 4 = mkF m 0 #[.val (.int x0), .val (.int x1), .val (.int x2), .val (.int x3)] [] := by first | (simp [entryFrame, mkF, argsToLocals, Value.category]; done) | rfl
set_option maxRecDepth 65536 in
set_option maxHeartbeats 40000000 in
theorem rm64 (l : Launch) (Z : State) (a0 : Array Value) (hw : ∀ d ∈ tables_1, d.before a0 Z = true) (ws : List Jvm.Cond) (c0 c1 c2 c3 : Int32) (h0 : Heap) (n0 : Nat) (Z0 : n0 ≤ h0.size) (hc0 : 0 ≤ c0.toInt ∧ c0.toInt < 65536) (hc1 : 0 ≤ c1.toInt ∧ c1.toInt < 65536) (hc2 : 0 ≤ c2.toInt ∧ c2.toInt < 65536) (hc3 : 0 ≤ c3.toInt ∧ c3.toInt < 65536) :
    own_Ct l Z (⟨"com/example/bewaker/bewaker/fhir/InteractionIsIdPinLaw", "long64", "(CCCC)[C"⟩ : MethodName) method_3_code 4 (some (.array .char)) ws ({ frames := 0, cells := 1, slots := 64, locals := 0 } : Room) #[(.int c0), (.int c1), (.int c2), (.int c3)] h0 (fun v h L => ∃ b : Addr, v = some (.ref b) ∧ Fr n0 L ∧ Keep h0 h [] ∧ h0.size ≤ b ∧ own_A Z h b .char 64 (own_pt 63 c0 c1 c2 c3)) := by
  refine own_of (plainFor_of_name pn_com_example_bewaker_bewaker_fhir_InteractionIsIdPinLaw) ?_
  intro p e s m below meth c s₁ hx hby hml hown hnm hret hlk hZ X0 e0
  have N0 := Fr.nil n0
  have K0 := Keep.refl h0 []
  rw [ef_rm64]
  refine own_by (T' := s₁) (f' := (mkF m 2 #[.val (.int c0), .val (.int c1), .val (.int c2), .val (.int c3)] [(.int (64 : Int32))])) (fun t k => XS.bipush X0.here hx rfl (hb hby d28_0) k) ?_
  refine own_mkA X0 hx hZ e0 (hb hby d28_2) (hw _ (List.mem_of_getElem? (i := 4) rfl)) (v := 0) rfl (by decide) 64 (by decide) (by decide) (by decide) (by decide) ?_
  intro T11 h11 b11 X11 e11 g11 E11 A11r
  have gn11 : n0 ≤ b11 := by rw [g11]; exact Z0
  have gh11 : h0.size ≤ b11 := by rw [g11]; exact K0.1
  show own_Go p e below _ T11 (mkF m 4 #[.val (.int c0), .val (.int c1), .val (.int c2), .val (.int c3)] [(.ref b11)])
  have A11 : own_A Z h11 b11 .char 64 (fun _ => 0) := A11r
  have sz12 : n0 ≤ h11.size := Nat.le_trans Z0 E11.1
  have K13 := K0.ext E11
  have A14 : own_A Z h11 b11 .char 64 (own_pf 63 c0 c1 c2 c3 0) := A11.congr (fun i hi => by show (0 : Int32) = (own_pf 63 c0 c1 c2 c3 0) i; unfold own_pf; rw [if_neg (by omega)])
  refine own_by (T' := T11) (f' := (mkF m 5 #[.val (.int c0), .val (.int c1), .val (.int c2), .val (.int c3)] [(.ref b11), (.ref b11)])) (fun t k => XS.dup X11.here hx rfl (hb hby d28_4) rfl rfl k) ?_
  refine own_by (T' := T11) (f' := (mkF m 6 #[.val (.int c0), .val (.int c1), .val (.int c2), .val (.int c3)] [(.int (0 : Int32)), (.ref b11), (.ref b11)])) (fun t k => XS.iconst X11.here hx rfl (hb hby d28_5) k) ?_
  refine own_by (T' := T11) (f' := (mkF m 7 #[.val (.int c0), .val (.int c1), .val (.int c2), .val (.int c3)] [(.int c0), (.int (0 : Int32)), (.ref b11), (.ref b11)])) (fun t k => XS.iloadN X11.here hx rfl (hb hby d28_6) rfl k) ?_
  have _ : (0 : Int32).toInt = 0 := by decide
  refine own_stC X11 hx hZ e11 (hb hby d28_7) A14 (by first | decide | omega) (by first | decide | omega) ?_
  intro T15 h15 X15 e15 W15 A15
  show own_Go p e below _ T15 (mkF m 8 #[.val (.int c0), .val (.int c1), .val (.int c2), .val (.int c3)] [(.ref b11)])
  have sz16 : n0 ≤ h15.size := by rw [W15.size]; exact sz12
  have K17 := K13.wr W15 (Or.inr gh11)
  have N15 := Fr.snoc X15 N0 gn11
  have A18 : own_A Z h15 b11 .char 64 (own_pf 63 c0 c1 c2 c3 1) := A15.congr (fun i hi => by show (if i = (0 : Int32).toInt.toNat then nar .char c0 else (own_pf 63 c0 c1 c2 c3 0) i) = (own_pf 63 c0 c1 c2 c3 1) i; rw [show (0 : Int32).toInt.toNat = 0 from by decide, own_nc hc0]; exact own_pf_step rfl i)
  refine own_by (T' := T15) (f' := (mkF m 9 #[.val (.int c0), .val (.int c1), .val (.int c2), .val (.int c3)] [(.ref b11), (.ref b11)])) (fun t k => XS.dup X15.here hx rfl (hb hby d28_8) rfl rfl k) ?_
  refine own_by (T' := T15) (f' := (mkF m 10 #[.val (.int c0), .val (.int c1), .val (.int c2), .val (.int c3)] [(.int (1 : Int32)), (.ref b11), (.ref b11)])) (fun t k => XS.iconst X15.here hx rfl (hb hby d28_9) k) ?_
  refine own_by (T' := T15) (f' := (mkF m 11 #[.val (.int c0), .val (.int c1), .val (.int c2), .val (.int c3)] [(.int c3), (.int (1 : Int32)), (.ref b11), (.ref b11)])) (fun t k => XS.iloadN X15.here hx rfl (hb hby d28_10) rfl k) ?_
  have _ : (1 : Int32).toInt = 1 := by decide
  refine own_stC X15 hx hZ e15 (hb hby d28_11) A18 (by first | decide | omega) (by first | decide | omega) ?_
  intro T19 h19 X19 e19 W19 A19
  show own_Go p e below _ T19 (mkF m 12 #[.val (.int c0), .val (.int c1), .val (.int c2), .val (.int c3)] [(.ref b11)])
  have sz20 : n0 ≤ h19.size := by rw [W19.size]; exact sz16
  have K21 := K17.wr W19 (Or.inr gh11)
  have N19 := Fr.snoc X19 N15 gn11
  have A22 : own_A Z h19 b11 .char 64 (own_pf 63 c0 c1 c2 c3 2) := A19.congr (fun i hi => by show (if i = (1 : Int32).toInt.toNat then nar .char c3 else (own_pf 63 c0 c1 c2 c3 1) i) = (own_pf 63 c0 c1 c2 c3 2) i; rw [show (1 : Int32).toInt.toNat = 1 from by decide, own_nc hc3]; exact own_pf_step rfl i)
  refine own_by (T' := T19) (f' := (mkF m 13 #[.val (.int c0), .val (.int c1), .val (.int c2), .val (.int c3)] [(.ref b11), (.ref b11)])) (fun t k => XS.dup X19.here hx rfl (hb hby d28_12) rfl rfl k) ?_
  refine own_by (T' := T19) (f' := (mkF m 14 #[.val (.int c0), .val (.int c1), .val (.int c2), .val (.int c3)] [(.int (2 : Int32)), (.ref b11), (.ref b11)])) (fun t k => XS.iconst X19.here hx rfl (hb hby d28_13) k) ?_
  refine own_by (T' := T19) (f' := (mkF m 15 #[.val (.int c0), .val (.int c1), .val (.int c2), .val (.int c3)] [(.int c3), (.int (2 : Int32)), (.ref b11), (.ref b11)])) (fun t k => XS.iloadN X19.here hx rfl (hb hby d28_14) rfl k) ?_
  have _ : (2 : Int32).toInt = 2 := by decide
  refine own_stC X19 hx hZ e19 (hb hby d28_15) A22 (by first | decide | omega) (by first | decide | omega) ?_
  intro T23 h23 X23 e23 W23 A23
  show own_Go p e below _ T23 (mkF m 16 #[.val (.int c0), .val (.int c1), .val (.int c2), .val (.int c3)] [(.ref b11)])
  have sz24 : n0 ≤ h23.size := by rw [W23.size]; exact sz20
  have K25 := K21.wr W23 (Or.inr gh11)
  have N23 := Fr.snoc X23 N19 gn11
  have A26 : own_A Z h23 b11 .char 64 (own_pf 63 c0 c1 c2 c3 3) := A23.congr (fun i hi => by show (if i = (2 : Int32).toInt.toNat then nar .char c3 else (own_pf 63 c0 c1 c2 c3 2) i) = (own_pf 63 c0 c1 c2 c3 3) i; rw [show (2 : Int32).toInt.toNat = 2 from by decide, own_nc hc3]; exact own_pf_step rfl i)
  refine own_by (T' := T23) (f' := (mkF m 17 #[.val (.int c0), .val (.int c1), .val (.int c2), .val (.int c3)] [(.ref b11), (.ref b11)])) (fun t k => XS.dup X23.here hx rfl (hb hby d28_16) rfl rfl k) ?_
  refine own_by (T' := T23) (f' := (mkF m 18 #[.val (.int c0), .val (.int c1), .val (.int c2), .val (.int c3)] [(.int (3 : Int32)), (.ref b11), (.ref b11)])) (fun t k => XS.iconst X23.here hx rfl (hb hby d28_17) k) ?_
  refine own_by (T' := T23) (f' := (mkF m 19 #[.val (.int c0), .val (.int c1), .val (.int c2), .val (.int c3)] [(.int c3), (.int (3 : Int32)), (.ref b11), (.ref b11)])) (fun t k => XS.iloadN X23.here hx rfl (hb hby d28_18) rfl k) ?_
  have _ : (3 : Int32).toInt = 3 := by decide
  refine own_stC X23 hx hZ e23 (hb hby d28_19) A26 (by first | decide | omega) (by first | decide | omega) ?_
  intro T27 h27 X27 e27 W27 A27
  show own_Go p e below _ T27 (mkF m 20 #[.val (.int c0), .val (.int c1), .val (.int c2), .val (.int c3)] [(.ref b11)])
  have sz28 : n0 ≤ h27.size := by rw [W27.size]; exact sz24
  have K29 := K25.wr W27 (Or.inr gh11)
  have N27 := Fr.snoc X27 N23 gn11
  have A30 : own_A Z h27 b11 .char 64 (own_pf 63 c0 c1 c2 c3 4) := A27.congr (fun i hi => by show (if i = (3 : Int32).toInt.toNat then nar .char c3 else (own_pf 63 c0 c1 c2 c3 3) i) = (own_pf 63 c0 c1 c2 c3 4) i; rw [show (3 : Int32).toInt.toNat = 3 from by decide, own_nc hc3]; exact own_pf_step rfl i)
  refine own_by (T' := T27) (f' := (mkF m 21 #[.val (.int c0), .val (.int c1), .val (.int c2), .val (.int c3)] [(.ref b11), (.ref b11)])) (fun t k => XS.dup X27.here hx rfl (hb hby d28_20) rfl rfl k) ?_
  refine own_by (T' := T27) (f' := (mkF m 22 #[.val (.int c0), .val (.int c1), .val (.int c2), .val (.int c3)] [(.int (4 : Int32)), (.ref b11), (.ref b11)])) (fun t k => XS.iconst X27.here hx rfl (hb hby d28_21) k) ?_
  refine own_by (T' := T27) (f' := (mkF m 23 #[.val (.int c0), .val (.int c1), .val (.int c2), .val (.int c3)] [(.int c3), (.int (4 : Int32)), (.ref b11), (.ref b11)])) (fun t k => XS.iloadN X27.here hx rfl (hb hby d28_22) rfl k) ?_
  have _ : (4 : Int32).toInt = 4 := by decide
  refine own_stC X27 hx hZ e27 (hb hby d28_23) A30 (by first | decide | omega) (by first | decide | omega) ?_
  intro T31 h31 X31 e31 W31 A31
  show own_Go p e below _ T31 (mkF m 24 #[.val (.int c0), .val (.int c1), .val (.int c2), .val (.int c3)] [(.ref b11)])
  have sz32 : n0 ≤ h31.size := by rw [W31.size]; exact sz28
  have K33 := K29.wr W31 (Or.inr gh11)
  have N31 := Fr.snoc X31 N27 gn11
  have A34 : own_A Z h31 b11 .char 64 (own_pf 63 c0 c1 c2 c3 5) := A31.congr (fun i hi => by show (if i = (4 : Int32).toInt.toNat then nar .char c3 else (own_pf 63 c0 c1 c2 c3 4) i) = (own_pf 63 c0 c1 c2 c3 5) i; rw [show (4 : Int32).toInt.toNat = 4 from by decide, own_nc hc3]; exact own_pf_step rfl i)
  refine own_by (T' := T31) (f' := (mkF m 25 #[.val (.int c0), .val (.int c1), .val (.int c2), .val (.int c3)] [(.ref b11), (.ref b11)])) (fun t k => XS.dup X31.here hx rfl (hb hby d28_24) rfl rfl k) ?_
  refine own_by (T' := T31) (f' := (mkF m 26 #[.val (.int c0), .val (.int c1), .val (.int c2), .val (.int c3)] [(.int (5 : Int32)), (.ref b11), (.ref b11)])) (fun t k => XS.iconst X31.here hx rfl (hb hby d28_25) k) ?_
  refine own_by (T' := T31) (f' := (mkF m 27 #[.val (.int c0), .val (.int c1), .val (.int c2), .val (.int c3)] [(.int c3), (.int (5 : Int32)), (.ref b11), (.ref b11)])) (fun t k => XS.iloadN X31.here hx rfl (hb hby d28_26) rfl k) ?_
  have _ : (5 : Int32).toInt = 5 := by decide
  refine own_stC X31 hx hZ e31 (hb hby d28_27) A34 (by first | decide | omega) (by first | decide | omega) ?_
  intro T35 h35 X35 e35 W35 A35
  show own_Go p e below _ T35 (mkF m 28 #[.val (.int c0), .val (.int c1), .val (.int c2), .val (.int c3)] [(.ref b11)])
  have sz36 : n0 ≤ h35.size := by rw [W35.size]; exact sz32
  have K37 := K33.wr W35 (Or.inr gh11)
  have N35 := Fr.snoc X35 N31 gn11
  have A38 : own_A Z h35 b11 .char 64 (own_pf 63 c0 c1 c2 c3 6) := A35.congr (fun i hi => by show (if i = (5 : Int32).toInt.toNat then nar .char c3 else (own_pf 63 c0 c1 c2 c3 5) i) = (own_pf 63 c0 c1 c2 c3 6) i; rw [show (5 : Int32).toInt.toNat = 5 from by decide, own_nc hc3]; exact own_pf_step rfl i)
  refine own_by (T' := T35) (f' := (mkF m 29 #[.val (.int c0), .val (.int c1), .val (.int c2), .val (.int c3)] [(.ref b11), (.ref b11)])) (fun t k => XS.dup X35.here hx rfl (hb hby d28_28) rfl rfl k) ?_
  refine own_by (T' := T35) (f' := (mkF m 31 #[.val (.int c0), .val (.int c1), .val (.int c2), .val (.int c3)] [(.int (6 : Int32)), (.ref b11), (.ref b11)])) (fun t k => XS.bipush X35.here hx rfl (hb hby d28_29) k) ?_
  refine own_by (T' := T35) (f' := (mkF m 32 #[.val (.int c0), .val (.int c1), .val (.int c2), .val (.int c3)] [(.int c3), (.int (6 : Int32)), (.ref b11), (.ref b11)])) (fun t k => XS.iloadN X35.here hx rfl (hb hby d28_31) rfl k) ?_
  have _ : (6 : Int32).toInt = 6 := by decide
  refine own_stC X35 hx hZ e35 (hb hby d28_32) A38 (by first | decide | omega) (by first | decide | omega) ?_
  intro T39 h39 X39 e39 W39 A39
  show own_Go p e below _ T39 (mkF m 33 #[.val (.int c0), .val (.int c1), .val (.int c2), .val (.int c3)] [(.ref b11)])
  have sz40 : n0 ≤ h39.size := by rw [W39.size]; exact sz36
  have K41 := K37.wr W39 (Or.inr gh11)
  have N39 := Fr.snoc X39 N35 gn11
  have A42 : own_A Z h39 b11 .char 64 (own_pf 63 c0 c1 c2 c3 7) := A39.congr (fun i hi => by show (if i = (6 : Int32).toInt.toNat then nar .char c3 else (own_pf 63 c0 c1 c2 c3 6) i) = (own_pf 63 c0 c1 c2 c3 7) i; rw [show (6 : Int32).toInt.toNat = 6 from by decide, own_nc hc3]; exact own_pf_step rfl i)
  refine own_by (T' := T39) (f' := (mkF m 34 #[.val (.int c0), .val (.int c1), .val (.int c2), .val (.int c3)] [(.ref b11), (.ref b11)])) (fun t k => XS.dup X39.here hx rfl (hb hby d28_33) rfl rfl k) ?_
  refine own_by (T' := T39) (f' := (mkF m 36 #[.val (.int c0), .val (.int c1), .val (.int c2), .val (.int c3)] [(.int (7 : Int32)), (.ref b11), (.ref b11)])) (fun t k => XS.bipush X39.here hx rfl (hb hby d28_34) k) ?_
  refine own_by (T' := T39) (f' := (mkF m 37 #[.val (.int c0), .val (.int c1), .val (.int c2), .val (.int c3)] [(.int c3), (.int (7 : Int32)), (.ref b11), (.ref b11)])) (fun t k => XS.iloadN X39.here hx rfl (hb hby d28_36) rfl k) ?_
  have _ : (7 : Int32).toInt = 7 := by decide
  refine own_stC X39 hx hZ e39 (hb hby d28_37) A42 (by first | decide | omega) (by first | decide | omega) ?_
  intro T43 h43 X43 e43 W43 A43
  show own_Go p e below _ T43 (mkF m 38 #[.val (.int c0), .val (.int c1), .val (.int c2), .val (.int c3)] [(.ref b11)])
  have sz44 : n0 ≤ h43.size := by rw [W43.size]; exact sz40
  have K45 := K41.wr W43 (Or.inr gh11)
  have N43 := Fr.snoc X43 N39 gn11
  have A46 : own_A Z h43 b11 .char 64 (own_pf 63 c0 c1 c2 c3 8) := A43.congr (fun i hi => by show (if i = (7 : Int32).toInt.toNat then nar .char c3 else (own_pf 63 c0 c1 c2 c3 7) i) = (own_pf 63 c0 c1 c2 c3 8) i; rw [show (7 : Int32).toInt.toNat = 7 from by decide, own_nc hc3]; exact own_pf_step rfl i)
  refine own_by (T' := T43) (f' := (mkF m 39 #[.val (.int c0), .val (.int c1), .val (.int c2), .val (.int c3)] [(.ref b11), (.ref b11)])) (fun t k => XS.dup X43.here hx rfl (hb hby d28_38) rfl rfl k) ?_
  refine own_by (T' := T43) (f' := (mkF m 41 #[.val (.int c0), .val (.int c1), .val (.int c2), .val (.int c3)] [(.int (8 : Int32)), (.ref b11), (.ref b11)])) (fun t k => XS.bipush X43.here hx rfl (hb hby d28_39) k) ?_
  refine own_by (T' := T43) (f' := (mkF m 42 #[.val (.int c0), .val (.int c1), .val (.int c2), .val (.int c3)] [(.int c3), (.int (8 : Int32)), (.ref b11), (.ref b11)])) (fun t k => XS.iloadN X43.here hx rfl (hb hby d28_41) rfl k) ?_
  have _ : (8 : Int32).toInt = 8 := by decide
  refine own_stC X43 hx hZ e43 (hb hby d28_42) A46 (by first | decide | omega) (by first | decide | omega) ?_
  intro T47 h47 X47 e47 W47 A47
  show own_Go p e below _ T47 (mkF m 43 #[.val (.int c0), .val (.int c1), .val (.int c2), .val (.int c3)] [(.ref b11)])
  have sz48 : n0 ≤ h47.size := by rw [W47.size]; exact sz44
  have K49 := K45.wr W47 (Or.inr gh11)
  have N47 := Fr.snoc X47 N43 gn11
  have A50 : own_A Z h47 b11 .char 64 (own_pf 63 c0 c1 c2 c3 9) := A47.congr (fun i hi => by show (if i = (8 : Int32).toInt.toNat then nar .char c3 else (own_pf 63 c0 c1 c2 c3 8) i) = (own_pf 63 c0 c1 c2 c3 9) i; rw [show (8 : Int32).toInt.toNat = 8 from by decide, own_nc hc3]; exact own_pf_step rfl i)
  refine own_by (T' := T47) (f' := (mkF m 44 #[.val (.int c0), .val (.int c1), .val (.int c2), .val (.int c3)] [(.ref b11), (.ref b11)])) (fun t k => XS.dup X47.here hx rfl (hb hby d28_43) rfl rfl k) ?_
  refine own_by (T' := T47) (f' := (mkF m 46 #[.val (.int c0), .val (.int c1), .val (.int c2), .val (.int c3)] [(.int (9 : Int32)), (.ref b11), (.ref b11)])) (fun t k => XS.bipush X47.here hx rfl (hb hby d28_44) k) ?_
  refine own_by (T' := T47) (f' := (mkF m 47 #[.val (.int c0), .val (.int c1), .val (.int c2), .val (.int c3)] [(.int c3), (.int (9 : Int32)), (.ref b11), (.ref b11)])) (fun t k => XS.iloadN X47.here hx rfl (hb hby d28_46) rfl k) ?_
  have _ : (9 : Int32).toInt = 9 := by decide
  refine own_stC X47 hx hZ e47 (hb hby d28_47) A50 (by first | decide | omega) (by first | decide | omega) ?_
  intro T51 h51 X51 e51 W51 A51
  show own_Go p e below _ T51 (mkF m 48 #[.val (.int c0), .val (.int c1), .val (.int c2), .val (.int c3)] [(.ref b11)])
  have sz52 : n0 ≤ h51.size := by rw [W51.size]; exact sz48
  have K53 := K49.wr W51 (Or.inr gh11)
  have N51 := Fr.snoc X51 N47 gn11
  have A54 : own_A Z h51 b11 .char 64 (own_pf 63 c0 c1 c2 c3 10) := A51.congr (fun i hi => by show (if i = (9 : Int32).toInt.toNat then nar .char c3 else (own_pf 63 c0 c1 c2 c3 9) i) = (own_pf 63 c0 c1 c2 c3 10) i; rw [show (9 : Int32).toInt.toNat = 9 from by decide, own_nc hc3]; exact own_pf_step rfl i)
  refine own_by (T' := T51) (f' := (mkF m 49 #[.val (.int c0), .val (.int c1), .val (.int c2), .val (.int c3)] [(.ref b11), (.ref b11)])) (fun t k => XS.dup X51.here hx rfl (hb hby d28_48) rfl rfl k) ?_
  refine own_by (T' := T51) (f' := (mkF m 51 #[.val (.int c0), .val (.int c1), .val (.int c2), .val (.int c3)] [(.int (10 : Int32)), (.ref b11), (.ref b11)])) (fun t k => XS.bipush X51.here hx rfl (hb hby d28_49) k) ?_
  refine own_by (T' := T51) (f' := (mkF m 52 #[.val (.int c0), .val (.int c1), .val (.int c2), .val (.int c3)] [(.int c3), (.int (10 : Int32)), (.ref b11), (.ref b11)])) (fun t k => XS.iloadN X51.here hx rfl (hb hby d28_51) rfl k) ?_
  have _ : (10 : Int32).toInt = 10 := by decide
  refine own_stC X51 hx hZ e51 (hb hby d28_52) A54 (by first | decide | omega) (by first | decide | omega) ?_
  intro T55 h55 X55 e55 W55 A55
  show own_Go p e below _ T55 (mkF m 53 #[.val (.int c0), .val (.int c1), .val (.int c2), .val (.int c3)] [(.ref b11)])
  have sz56 : n0 ≤ h55.size := by rw [W55.size]; exact sz52
  have K57 := K53.wr W55 (Or.inr gh11)
  have N55 := Fr.snoc X55 N51 gn11
  have A58 : own_A Z h55 b11 .char 64 (own_pf 63 c0 c1 c2 c3 11) := A55.congr (fun i hi => by show (if i = (10 : Int32).toInt.toNat then nar .char c3 else (own_pf 63 c0 c1 c2 c3 10) i) = (own_pf 63 c0 c1 c2 c3 11) i; rw [show (10 : Int32).toInt.toNat = 10 from by decide, own_nc hc3]; exact own_pf_step rfl i)
  refine own_by (T' := T55) (f' := (mkF m 54 #[.val (.int c0), .val (.int c1), .val (.int c2), .val (.int c3)] [(.ref b11), (.ref b11)])) (fun t k => XS.dup X55.here hx rfl (hb hby d28_53) rfl rfl k) ?_
  refine own_by (T' := T55) (f' := (mkF m 56 #[.val (.int c0), .val (.int c1), .val (.int c2), .val (.int c3)] [(.int (11 : Int32)), (.ref b11), (.ref b11)])) (fun t k => XS.bipush X55.here hx rfl (hb hby d28_54) k) ?_
  refine own_by (T' := T55) (f' := (mkF m 57 #[.val (.int c0), .val (.int c1), .val (.int c2), .val (.int c3)] [(.int c3), (.int (11 : Int32)), (.ref b11), (.ref b11)])) (fun t k => XS.iloadN X55.here hx rfl (hb hby d28_56) rfl k) ?_
  have _ : (11 : Int32).toInt = 11 := by decide
  refine own_stC X55 hx hZ e55 (hb hby d28_57) A58 (by first | decide | omega) (by first | decide | omega) ?_
  intro T59 h59 X59 e59 W59 A59
  show own_Go p e below _ T59 (mkF m 58 #[.val (.int c0), .val (.int c1), .val (.int c2), .val (.int c3)] [(.ref b11)])
  have sz60 : n0 ≤ h59.size := by rw [W59.size]; exact sz56
  have K61 := K57.wr W59 (Or.inr gh11)
  have N59 := Fr.snoc X59 N55 gn11
  have A62 : own_A Z h59 b11 .char 64 (own_pf 63 c0 c1 c2 c3 12) := A59.congr (fun i hi => by show (if i = (11 : Int32).toInt.toNat then nar .char c3 else (own_pf 63 c0 c1 c2 c3 11) i) = (own_pf 63 c0 c1 c2 c3 12) i; rw [show (11 : Int32).toInt.toNat = 11 from by decide, own_nc hc3]; exact own_pf_step rfl i)
  refine own_by (T' := T59) (f' := (mkF m 59 #[.val (.int c0), .val (.int c1), .val (.int c2), .val (.int c3)] [(.ref b11), (.ref b11)])) (fun t k => XS.dup X59.here hx rfl (hb hby d28_58) rfl rfl k) ?_
  refine own_by (T' := T59) (f' := (mkF m 61 #[.val (.int c0), .val (.int c1), .val (.int c2), .val (.int c3)] [(.int (12 : Int32)), (.ref b11), (.ref b11)])) (fun t k => XS.bipush X59.here hx rfl (hb hby d28_59) k) ?_
  refine own_by (T' := T59) (f' := (mkF m 62 #[.val (.int c0), .val (.int c1), .val (.int c2), .val (.int c3)] [(.int c3), (.int (12 : Int32)), (.ref b11), (.ref b11)])) (fun t k => XS.iloadN X59.here hx rfl (hb hby d28_61) rfl k) ?_
  have _ : (12 : Int32).toInt = 12 := by decide
  refine own_stC X59 hx hZ e59 (hb hby d28_62) A62 (by first | decide | omega) (by first | decide | omega) ?_
  intro T63 h63 X63 e63 W63 A63
  show own_Go p e below _ T63 (mkF m 63 #[.val (.int c0), .val (.int c1), .val (.int c2), .val (.int c3)] [(.ref b11)])
  have sz64 : n0 ≤ h63.size := by rw [W63.size]; exact sz60
  have K65 := K61.wr W63 (Or.inr gh11)
  have N63 := Fr.snoc X63 N59 gn11
  have A66 : own_A Z h63 b11 .char 64 (own_pf 63 c0 c1 c2 c3 13) := A63.congr (fun i hi => by show (if i = (12 : Int32).toInt.toNat then nar .char c3 else (own_pf 63 c0 c1 c2 c3 12) i) = (own_pf 63 c0 c1 c2 c3 13) i; rw [show (12 : Int32).toInt.toNat = 12 from by decide, own_nc hc3]; exact own_pf_step rfl i)
  refine own_by (T' := T63) (f' := (mkF m 64 #[.val (.int c0), .val (.int c1), .val (.int c2), .val (.int c3)] [(.ref b11), (.ref b11)])) (fun t k => XS.dup X63.here hx rfl (hb hby d28_63) rfl rfl k) ?_
  refine own_by (T' := T63) (f' := (mkF m 66 #[.val (.int c0), .val (.int c1), .val (.int c2), .val (.int c3)] [(.int (13 : Int32)), (.ref b11), (.ref b11)])) (fun t k => XS.bipush X63.here hx rfl (hb hby d28_64) k) ?_
  refine own_by (T' := T63) (f' := (mkF m 67 #[.val (.int c0), .val (.int c1), .val (.int c2), .val (.int c3)] [(.int c3), (.int (13 : Int32)), (.ref b11), (.ref b11)])) (fun t k => XS.iloadN X63.here hx rfl (hb hby d28_66) rfl k) ?_
  have _ : (13 : Int32).toInt = 13 := by decide
  refine own_stC X63 hx hZ e63 (hb hby d28_67) A66 (by first | decide | omega) (by first | decide | omega) ?_
  intro T67 h67 X67 e67 W67 A67
  show own_Go p e below _ T67 (mkF m 68 #[.val (.int c0), .val (.int c1), .val (.int c2), .val (.int c3)] [(.ref b11)])
  have sz68 : n0 ≤ h67.size := by rw [W67.size]; exact sz64
  have K69 := K65.wr W67 (Or.inr gh11)
  have N67 := Fr.snoc X67 N63 gn11
  have A70 : own_A Z h67 b11 .char 64 (own_pf 63 c0 c1 c2 c3 14) := A67.congr (fun i hi => by show (if i = (13 : Int32).toInt.toNat then nar .char c3 else (own_pf 63 c0 c1 c2 c3 13) i) = (own_pf 63 c0 c1 c2 c3 14) i; rw [show (13 : Int32).toInt.toNat = 13 from by decide, own_nc hc3]; exact own_pf_step rfl i)
  refine own_by (T' := T67) (f' := (mkF m 69 #[.val (.int c0), .val (.int c1), .val (.int c2), .val (.int c3)] [(.ref b11), (.ref b11)])) (fun t k => XS.dup X67.here hx rfl (hb hby d28_68) rfl rfl k) ?_
  refine own_by (T' := T67) (f' := (mkF m 71 #[.val (.int c0), .val (.int c1), .val (.int c2), .val (.int c3)] [(.int (14 : Int32)), (.ref b11), (.ref b11)])) (fun t k => XS.bipush X67.here hx rfl (hb hby d28_69) k) ?_
  refine own_by (T' := T67) (f' := (mkF m 72 #[.val (.int c0), .val (.int c1), .val (.int c2), .val (.int c3)] [(.int c3), (.int (14 : Int32)), (.ref b11), (.ref b11)])) (fun t k => XS.iloadN X67.here hx rfl (hb hby d28_71) rfl k) ?_
  have _ : (14 : Int32).toInt = 14 := by decide
  refine own_stC X67 hx hZ e67 (hb hby d28_72) A70 (by first | decide | omega) (by first | decide | omega) ?_
  intro T71 h71 X71 e71 W71 A71
  show own_Go p e below _ T71 (mkF m 73 #[.val (.int c0), .val (.int c1), .val (.int c2), .val (.int c3)] [(.ref b11)])
  have sz72 : n0 ≤ h71.size := by rw [W71.size]; exact sz68
  have K73 := K69.wr W71 (Or.inr gh11)
  have N71 := Fr.snoc X71 N67 gn11
  have A74 : own_A Z h71 b11 .char 64 (own_pf 63 c0 c1 c2 c3 15) := A71.congr (fun i hi => by show (if i = (14 : Int32).toInt.toNat then nar .char c3 else (own_pf 63 c0 c1 c2 c3 14) i) = (own_pf 63 c0 c1 c2 c3 15) i; rw [show (14 : Int32).toInt.toNat = 14 from by decide, own_nc hc3]; exact own_pf_step rfl i)
  refine own_by (T' := T71) (f' := (mkF m 74 #[.val (.int c0), .val (.int c1), .val (.int c2), .val (.int c3)] [(.ref b11), (.ref b11)])) (fun t k => XS.dup X71.here hx rfl (hb hby d28_73) rfl rfl k) ?_
  refine own_by (T' := T71) (f' := (mkF m 76 #[.val (.int c0), .val (.int c1), .val (.int c2), .val (.int c3)] [(.int (15 : Int32)), (.ref b11), (.ref b11)])) (fun t k => XS.bipush X71.here hx rfl (hb hby d28_74) k) ?_
  refine own_by (T' := T71) (f' := (mkF m 77 #[.val (.int c0), .val (.int c1), .val (.int c2), .val (.int c3)] [(.int c3), (.int (15 : Int32)), (.ref b11), (.ref b11)])) (fun t k => XS.iloadN X71.here hx rfl (hb hby d28_76) rfl k) ?_
  have _ : (15 : Int32).toInt = 15 := by decide
  refine own_stC X71 hx hZ e71 (hb hby d28_77) A74 (by first | decide | omega) (by first | decide | omega) ?_
  intro T75 h75 X75 e75 W75 A75
  show own_Go p e below _ T75 (mkF m 78 #[.val (.int c0), .val (.int c1), .val (.int c2), .val (.int c3)] [(.ref b11)])
  have sz76 : n0 ≤ h75.size := by rw [W75.size]; exact sz72
  have K77 := K73.wr W75 (Or.inr gh11)
  have N75 := Fr.snoc X75 N71 gn11
  have A78 : own_A Z h75 b11 .char 64 (own_pf 63 c0 c1 c2 c3 16) := A75.congr (fun i hi => by show (if i = (15 : Int32).toInt.toNat then nar .char c3 else (own_pf 63 c0 c1 c2 c3 15) i) = (own_pf 63 c0 c1 c2 c3 16) i; rw [show (15 : Int32).toInt.toNat = 15 from by decide, own_nc hc3]; exact own_pf_step rfl i)
  refine own_by (T' := T75) (f' := (mkF m 79 #[.val (.int c0), .val (.int c1), .val (.int c2), .val (.int c3)] [(.ref b11), (.ref b11)])) (fun t k => XS.dup X75.here hx rfl (hb hby d28_78) rfl rfl k) ?_
  refine own_by (T' := T75) (f' := (mkF m 81 #[.val (.int c0), .val (.int c1), .val (.int c2), .val (.int c3)] [(.int (16 : Int32)), (.ref b11), (.ref b11)])) (fun t k => XS.bipush X75.here hx rfl (hb hby d28_79) k) ?_
  refine own_by (T' := T75) (f' := (mkF m 82 #[.val (.int c0), .val (.int c1), .val (.int c2), .val (.int c3)] [(.int c3), (.int (16 : Int32)), (.ref b11), (.ref b11)])) (fun t k => XS.iloadN X75.here hx rfl (hb hby d28_81) rfl k) ?_
  have _ : (16 : Int32).toInt = 16 := by decide
  refine own_stC X75 hx hZ e75 (hb hby d28_82) A78 (by first | decide | omega) (by first | decide | omega) ?_
  intro T79 h79 X79 e79 W79 A79
  show own_Go p e below _ T79 (mkF m 83 #[.val (.int c0), .val (.int c1), .val (.int c2), .val (.int c3)] [(.ref b11)])
  have sz80 : n0 ≤ h79.size := by rw [W79.size]; exact sz76
  have K81 := K77.wr W79 (Or.inr gh11)
  have N79 := Fr.snoc X79 N75 gn11
  have A82 : own_A Z h79 b11 .char 64 (own_pf 63 c0 c1 c2 c3 17) := A79.congr (fun i hi => by show (if i = (16 : Int32).toInt.toNat then nar .char c3 else (own_pf 63 c0 c1 c2 c3 16) i) = (own_pf 63 c0 c1 c2 c3 17) i; rw [show (16 : Int32).toInt.toNat = 16 from by decide, own_nc hc3]; exact own_pf_step rfl i)
  refine own_by (T' := T79) (f' := (mkF m 84 #[.val (.int c0), .val (.int c1), .val (.int c2), .val (.int c3)] [(.ref b11), (.ref b11)])) (fun t k => XS.dup X79.here hx rfl (hb hby d28_83) rfl rfl k) ?_
  refine own_by (T' := T79) (f' := (mkF m 86 #[.val (.int c0), .val (.int c1), .val (.int c2), .val (.int c3)] [(.int (17 : Int32)), (.ref b11), (.ref b11)])) (fun t k => XS.bipush X79.here hx rfl (hb hby d28_84) k) ?_
  refine own_by (T' := T79) (f' := (mkF m 87 #[.val (.int c0), .val (.int c1), .val (.int c2), .val (.int c3)] [(.int c3), (.int (17 : Int32)), (.ref b11), (.ref b11)])) (fun t k => XS.iloadN X79.here hx rfl (hb hby d28_86) rfl k) ?_
  have _ : (17 : Int32).toInt = 17 := by decide
  refine own_stC X79 hx hZ e79 (hb hby d28_87) A82 (by first | decide | omega) (by first | decide | omega) ?_
  intro T83 h83 X83 e83 W83 A83
  show own_Go p e below _ T83 (mkF m 88 #[.val (.int c0), .val (.int c1), .val (.int c2), .val (.int c3)] [(.ref b11)])
  have sz84 : n0 ≤ h83.size := by rw [W83.size]; exact sz80
  have K85 := K81.wr W83 (Or.inr gh11)
  have N83 := Fr.snoc X83 N79 gn11
  have A86 : own_A Z h83 b11 .char 64 (own_pf 63 c0 c1 c2 c3 18) := A83.congr (fun i hi => by show (if i = (17 : Int32).toInt.toNat then nar .char c3 else (own_pf 63 c0 c1 c2 c3 17) i) = (own_pf 63 c0 c1 c2 c3 18) i; rw [show (17 : Int32).toInt.toNat = 17 from by decide, own_nc hc3]; exact own_pf_step rfl i)
  refine own_by (T' := T83) (f' := (mkF m 89 #[.val (.int c0), .val (.int c1), .val (.int c2), .val (.int c3)] [(.ref b11), (.ref b11)])) (fun t k => XS.dup X83.here hx rfl (hb hby d28_88) rfl rfl k) ?_
  refine own_by (T' := T83) (f' := (mkF m 91 #[.val (.int c0), .val (.int c1), .val (.int c2), .val (.int c3)] [(.int (18 : Int32)), (.ref b11), (.ref b11)])) (fun t k => XS.bipush X83.here hx rfl (hb hby d28_89) k) ?_
  refine own_by (T' := T83) (f' := (mkF m 92 #[.val (.int c0), .val (.int c1), .val (.int c2), .val (.int c3)] [(.int c3), (.int (18 : Int32)), (.ref b11), (.ref b11)])) (fun t k => XS.iloadN X83.here hx rfl (hb hby d28_91) rfl k) ?_
  have _ : (18 : Int32).toInt = 18 := by decide
  refine own_stC X83 hx hZ e83 (hb hby d28_92) A86 (by first | decide | omega) (by first | decide | omega) ?_
  intro T87 h87 X87 e87 W87 A87
  show own_Go p e below _ T87 (mkF m 93 #[.val (.int c0), .val (.int c1), .val (.int c2), .val (.int c3)] [(.ref b11)])
  have sz88 : n0 ≤ h87.size := by rw [W87.size]; exact sz84
  have K89 := K85.wr W87 (Or.inr gh11)
  have N87 := Fr.snoc X87 N83 gn11
  have A90 : own_A Z h87 b11 .char 64 (own_pf 63 c0 c1 c2 c3 19) := A87.congr (fun i hi => by show (if i = (18 : Int32).toInt.toNat then nar .char c3 else (own_pf 63 c0 c1 c2 c3 18) i) = (own_pf 63 c0 c1 c2 c3 19) i; rw [show (18 : Int32).toInt.toNat = 18 from by decide, own_nc hc3]; exact own_pf_step rfl i)
  refine own_by (T' := T87) (f' := (mkF m 94 #[.val (.int c0), .val (.int c1), .val (.int c2), .val (.int c3)] [(.ref b11), (.ref b11)])) (fun t k => XS.dup X87.here hx rfl (hb hby d28_93) rfl rfl k) ?_
  refine own_by (T' := T87) (f' := (mkF m 96 #[.val (.int c0), .val (.int c1), .val (.int c2), .val (.int c3)] [(.int (19 : Int32)), (.ref b11), (.ref b11)])) (fun t k => XS.bipush X87.here hx rfl (hb hby d28_94) k) ?_
  refine own_by (T' := T87) (f' := (mkF m 97 #[.val (.int c0), .val (.int c1), .val (.int c2), .val (.int c3)] [(.int c3), (.int (19 : Int32)), (.ref b11), (.ref b11)])) (fun t k => XS.iloadN X87.here hx rfl (hb hby d28_96) rfl k) ?_
  have _ : (19 : Int32).toInt = 19 := by decide
  refine own_stC X87 hx hZ e87 (hb hby d28_97) A90 (by first | decide | omega) (by first | decide | omega) ?_
  intro T91 h91 X91 e91 W91 A91
  show own_Go p e below _ T91 (mkF m 98 #[.val (.int c0), .val (.int c1), .val (.int c2), .val (.int c3)] [(.ref b11)])
  have sz92 : n0 ≤ h91.size := by rw [W91.size]; exact sz88
  have K93 := K89.wr W91 (Or.inr gh11)
  have N91 := Fr.snoc X91 N87 gn11
  have A94 : own_A Z h91 b11 .char 64 (own_pf 63 c0 c1 c2 c3 20) := A91.congr (fun i hi => by show (if i = (19 : Int32).toInt.toNat then nar .char c3 else (own_pf 63 c0 c1 c2 c3 19) i) = (own_pf 63 c0 c1 c2 c3 20) i; rw [show (19 : Int32).toInt.toNat = 19 from by decide, own_nc hc3]; exact own_pf_step rfl i)
  refine own_by (T' := T91) (f' := (mkF m 99 #[.val (.int c0), .val (.int c1), .val (.int c2), .val (.int c3)] [(.ref b11), (.ref b11)])) (fun t k => XS.dup X91.here hx rfl (hb hby d28_98) rfl rfl k) ?_
  refine own_by (T' := T91) (f' := (mkF m 101 #[.val (.int c0), .val (.int c1), .val (.int c2), .val (.int c3)] [(.int (20 : Int32)), (.ref b11), (.ref b11)])) (fun t k => XS.bipush X91.here hx rfl (hb hby d28_99) k) ?_
  refine own_by (T' := T91) (f' := (mkF m 102 #[.val (.int c0), .val (.int c1), .val (.int c2), .val (.int c3)] [(.int c3), (.int (20 : Int32)), (.ref b11), (.ref b11)])) (fun t k => XS.iloadN X91.here hx rfl (hb hby d28_101) rfl k) ?_
  have _ : (20 : Int32).toInt = 20 := by decide
  refine own_stC X91 hx hZ e91 (hb hby d28_102) A94 (by first | decide | omega) (by first | decide | omega) ?_
  intro T95 h95 X95 e95 W95 A95
  show own_Go p e below _ T95 (mkF m 103 #[.val (.int c0), .val (.int c1), .val (.int c2), .val (.int c3)] [(.ref b11)])
  have sz96 : n0 ≤ h95.size := by rw [W95.size]; exact sz92
  have K97 := K93.wr W95 (Or.inr gh11)
  have N95 := Fr.snoc X95 N91 gn11
  have A98 : own_A Z h95 b11 .char 64 (own_pf 63 c0 c1 c2 c3 21) := A95.congr (fun i hi => by show (if i = (20 : Int32).toInt.toNat then nar .char c3 else (own_pf 63 c0 c1 c2 c3 20) i) = (own_pf 63 c0 c1 c2 c3 21) i; rw [show (20 : Int32).toInt.toNat = 20 from by decide, own_nc hc3]; exact own_pf_step rfl i)
  refine own_by (T' := T95) (f' := (mkF m 104 #[.val (.int c0), .val (.int c1), .val (.int c2), .val (.int c3)] [(.ref b11), (.ref b11)])) (fun t k => XS.dup X95.here hx rfl (hb hby d28_103) rfl rfl k) ?_
  refine own_by (T' := T95) (f' := (mkF m 106 #[.val (.int c0), .val (.int c1), .val (.int c2), .val (.int c3)] [(.int (21 : Int32)), (.ref b11), (.ref b11)])) (fun t k => XS.bipush X95.here hx rfl (hb hby d28_104) k) ?_
  refine own_by (T' := T95) (f' := (mkF m 107 #[.val (.int c0), .val (.int c1), .val (.int c2), .val (.int c3)] [(.int c3), (.int (21 : Int32)), (.ref b11), (.ref b11)])) (fun t k => XS.iloadN X95.here hx rfl (hb hby d28_106) rfl k) ?_
  have _ : (21 : Int32).toInt = 21 := by decide
  refine own_stC X95 hx hZ e95 (hb hby d28_107) A98 (by first | decide | omega) (by first | decide | omega) ?_
  intro T99 h99 X99 e99 W99 A99
  show own_Go p e below _ T99 (mkF m 108 #[.val (.int c0), .val (.int c1), .val (.int c2), .val (.int c3)] [(.ref b11)])
  have sz100 : n0 ≤ h99.size := by rw [W99.size]; exact sz96
  have K101 := K97.wr W99 (Or.inr gh11)
  have N99 := Fr.snoc X99 N95 gn11
  have A102 : own_A Z h99 b11 .char 64 (own_pf 63 c0 c1 c2 c3 22) := A99.congr (fun i hi => by show (if i = (21 : Int32).toInt.toNat then nar .char c3 else (own_pf 63 c0 c1 c2 c3 21) i) = (own_pf 63 c0 c1 c2 c3 22) i; rw [show (21 : Int32).toInt.toNat = 21 from by decide, own_nc hc3]; exact own_pf_step rfl i)
  refine own_by (T' := T99) (f' := (mkF m 109 #[.val (.int c0), .val (.int c1), .val (.int c2), .val (.int c3)] [(.ref b11), (.ref b11)])) (fun t k => XS.dup X99.here hx rfl (hb hby d28_108) rfl rfl k) ?_
  refine own_by (T' := T99) (f' := (mkF m 111 #[.val (.int c0), .val (.int c1), .val (.int c2), .val (.int c3)] [(.int (22 : Int32)), (.ref b11), (.ref b11)])) (fun t k => XS.bipush X99.here hx rfl (hb hby d28_109) k) ?_
  refine own_by (T' := T99) (f' := (mkF m 112 #[.val (.int c0), .val (.int c1), .val (.int c2), .val (.int c3)] [(.int c3), (.int (22 : Int32)), (.ref b11), (.ref b11)])) (fun t k => XS.iloadN X99.here hx rfl (hb hby d28_111) rfl k) ?_
  have _ : (22 : Int32).toInt = 22 := by decide
  refine own_stC X99 hx hZ e99 (hb hby d28_112) A102 (by first | decide | omega) (by first | decide | omega) ?_
  intro T103 h103 X103 e103 W103 A103
  show own_Go p e below _ T103 (mkF m 113 #[.val (.int c0), .val (.int c1), .val (.int c2), .val (.int c3)] [(.ref b11)])
  have sz104 : n0 ≤ h103.size := by rw [W103.size]; exact sz100
  have K105 := K101.wr W103 (Or.inr gh11)
  have N103 := Fr.snoc X103 N99 gn11
  have A106 : own_A Z h103 b11 .char 64 (own_pf 63 c0 c1 c2 c3 23) := A103.congr (fun i hi => by show (if i = (22 : Int32).toInt.toNat then nar .char c3 else (own_pf 63 c0 c1 c2 c3 22) i) = (own_pf 63 c0 c1 c2 c3 23) i; rw [show (22 : Int32).toInt.toNat = 22 from by decide, own_nc hc3]; exact own_pf_step rfl i)
  refine own_by (T' := T103) (f' := (mkF m 114 #[.val (.int c0), .val (.int c1), .val (.int c2), .val (.int c3)] [(.ref b11), (.ref b11)])) (fun t k => XS.dup X103.here hx rfl (hb hby d28_113) rfl rfl k) ?_
  refine own_by (T' := T103) (f' := (mkF m 116 #[.val (.int c0), .val (.int c1), .val (.int c2), .val (.int c3)] [(.int (23 : Int32)), (.ref b11), (.ref b11)])) (fun t k => XS.bipush X103.here hx rfl (hb hby d28_114) k) ?_
  refine own_by (T' := T103) (f' := (mkF m 117 #[.val (.int c0), .val (.int c1), .val (.int c2), .val (.int c3)] [(.int c3), (.int (23 : Int32)), (.ref b11), (.ref b11)])) (fun t k => XS.iloadN X103.here hx rfl (hb hby d28_116) rfl k) ?_
  have _ : (23 : Int32).toInt = 23 := by decide
  refine own_stC X103 hx hZ e103 (hb hby d28_117) A106 (by first | decide | omega) (by first | decide | omega) ?_
  intro T107 h107 X107 e107 W107 A107
  show own_Go p e below _ T107 (mkF m 118 #[.val (.int c0), .val (.int c1), .val (.int c2), .val (.int c3)] [(.ref b11)])
  have sz108 : n0 ≤ h107.size := by rw [W107.size]; exact sz104
  have K109 := K105.wr W107 (Or.inr gh11)
  have N107 := Fr.snoc X107 N103 gn11
  have A110 : own_A Z h107 b11 .char 64 (own_pf 63 c0 c1 c2 c3 24) := A107.congr (fun i hi => by show (if i = (23 : Int32).toInt.toNat then nar .char c3 else (own_pf 63 c0 c1 c2 c3 23) i) = (own_pf 63 c0 c1 c2 c3 24) i; rw [show (23 : Int32).toInt.toNat = 23 from by decide, own_nc hc3]; exact own_pf_step rfl i)
  refine own_by (T' := T107) (f' := (mkF m 119 #[.val (.int c0), .val (.int c1), .val (.int c2), .val (.int c3)] [(.ref b11), (.ref b11)])) (fun t k => XS.dup X107.here hx rfl (hb hby d28_118) rfl rfl k) ?_
  refine own_by (T' := T107) (f' := (mkF m 121 #[.val (.int c0), .val (.int c1), .val (.int c2), .val (.int c3)] [(.int (24 : Int32)), (.ref b11), (.ref b11)])) (fun t k => XS.bipush X107.here hx rfl (hb hby d28_119) k) ?_
  refine own_by (T' := T107) (f' := (mkF m 122 #[.val (.int c0), .val (.int c1), .val (.int c2), .val (.int c3)] [(.int c3), (.int (24 : Int32)), (.ref b11), (.ref b11)])) (fun t k => XS.iloadN X107.here hx rfl (hb hby d28_121) rfl k) ?_
  have _ : (24 : Int32).toInt = 24 := by decide
  refine own_stC X107 hx hZ e107 (hb hby d28_122) A110 (by first | decide | omega) (by first | decide | omega) ?_
  intro T111 h111 X111 e111 W111 A111
  show own_Go p e below _ T111 (mkF m 123 #[.val (.int c0), .val (.int c1), .val (.int c2), .val (.int c3)] [(.ref b11)])
  have sz112 : n0 ≤ h111.size := by rw [W111.size]; exact sz108
  have K113 := K109.wr W111 (Or.inr gh11)
  have N111 := Fr.snoc X111 N107 gn11
  have A114 : own_A Z h111 b11 .char 64 (own_pf 63 c0 c1 c2 c3 25) := A111.congr (fun i hi => by show (if i = (24 : Int32).toInt.toNat then nar .char c3 else (own_pf 63 c0 c1 c2 c3 24) i) = (own_pf 63 c0 c1 c2 c3 25) i; rw [show (24 : Int32).toInt.toNat = 24 from by decide, own_nc hc3]; exact own_pf_step rfl i)
  refine own_by (T' := T111) (f' := (mkF m 124 #[.val (.int c0), .val (.int c1), .val (.int c2), .val (.int c3)] [(.ref b11), (.ref b11)])) (fun t k => XS.dup X111.here hx rfl (hb hby d28_123) rfl rfl k) ?_
  refine own_by (T' := T111) (f' := (mkF m 126 #[.val (.int c0), .val (.int c1), .val (.int c2), .val (.int c3)] [(.int (25 : Int32)), (.ref b11), (.ref b11)])) (fun t k => XS.bipush X111.here hx rfl (hb hby d28_124) k) ?_
  refine own_by (T' := T111) (f' := (mkF m 127 #[.val (.int c0), .val (.int c1), .val (.int c2), .val (.int c3)] [(.int c3), (.int (25 : Int32)), (.ref b11), (.ref b11)])) (fun t k => XS.iloadN X111.here hx rfl (hb hby d28_126) rfl k) ?_
  have _ : (25 : Int32).toInt = 25 := by decide
  refine own_stC X111 hx hZ e111 (hb hby d28_127) A114 (by first | decide | omega) (by first | decide | omega) ?_
  intro T115 h115 X115 e115 W115 A115
  show own_Go p e below _ T115 (mkF m 128 #[.val (.int c0), .val (.int c1), .val (.int c2), .val (.int c3)] [(.ref b11)])
  have sz116 : n0 ≤ h115.size := by rw [W115.size]; exact sz112
  have K117 := K113.wr W115 (Or.inr gh11)
  have N115 := Fr.snoc X115 N111 gn11
  have A118 : own_A Z h115 b11 .char 64 (own_pf 63 c0 c1 c2 c3 26) := A115.congr (fun i hi => by show (if i = (25 : Int32).toInt.toNat then nar .char c3 else (own_pf 63 c0 c1 c2 c3 25) i) = (own_pf 63 c0 c1 c2 c3 26) i; rw [show (25 : Int32).toInt.toNat = 25 from by decide, own_nc hc3]; exact own_pf_step rfl i)
  refine own_by (T' := T115) (f' := (mkF m 129 #[.val (.int c0), .val (.int c1), .val (.int c2), .val (.int c3)] [(.ref b11), (.ref b11)])) (fun t k => XS.dup X115.here hx rfl (hb hby d28_128) rfl rfl k) ?_
  refine own_by (T' := T115) (f' := (mkF m 131 #[.val (.int c0), .val (.int c1), .val (.int c2), .val (.int c3)] [(.int (26 : Int32)), (.ref b11), (.ref b11)])) (fun t k => XS.bipush X115.here hx rfl (hb hby d28_129) k) ?_
  refine own_by (T' := T115) (f' := (mkF m 132 #[.val (.int c0), .val (.int c1), .val (.int c2), .val (.int c3)] [(.int c3), (.int (26 : Int32)), (.ref b11), (.ref b11)])) (fun t k => XS.iloadN X115.here hx rfl (hb hby d28_131) rfl k) ?_
  have _ : (26 : Int32).toInt = 26 := by decide
  refine own_stC X115 hx hZ e115 (hb hby d28_132) A118 (by first | decide | omega) (by first | decide | omega) ?_
  intro T119 h119 X119 e119 W119 A119
  show own_Go p e below _ T119 (mkF m 133 #[.val (.int c0), .val (.int c1), .val (.int c2), .val (.int c3)] [(.ref b11)])
  have sz120 : n0 ≤ h119.size := by rw [W119.size]; exact sz116
  have K121 := K117.wr W119 (Or.inr gh11)
  have N119 := Fr.snoc X119 N115 gn11
  have A122 : own_A Z h119 b11 .char 64 (own_pf 63 c0 c1 c2 c3 27) := A119.congr (fun i hi => by show (if i = (26 : Int32).toInt.toNat then nar .char c3 else (own_pf 63 c0 c1 c2 c3 26) i) = (own_pf 63 c0 c1 c2 c3 27) i; rw [show (26 : Int32).toInt.toNat = 26 from by decide, own_nc hc3]; exact own_pf_step rfl i)
  refine own_by (T' := T119) (f' := (mkF m 134 #[.val (.int c0), .val (.int c1), .val (.int c2), .val (.int c3)] [(.ref b11), (.ref b11)])) (fun t k => XS.dup X119.here hx rfl (hb hby d28_133) rfl rfl k) ?_
  refine own_by (T' := T119) (f' := (mkF m 136 #[.val (.int c0), .val (.int c1), .val (.int c2), .val (.int c3)] [(.int (27 : Int32)), (.ref b11), (.ref b11)])) (fun t k => XS.bipush X119.here hx rfl (hb hby d28_134) k) ?_
  refine own_by (T' := T119) (f' := (mkF m 137 #[.val (.int c0), .val (.int c1), .val (.int c2), .val (.int c3)] [(.int c3), (.int (27 : Int32)), (.ref b11), (.ref b11)])) (fun t k => XS.iloadN X119.here hx rfl (hb hby d28_136) rfl k) ?_
  have _ : (27 : Int32).toInt = 27 := by decide
  refine own_stC X119 hx hZ e119 (hb hby d28_137) A122 (by first | decide | omega) (by first | decide | omega) ?_
  intro T123 h123 X123 e123 W123 A123
  show own_Go p e below _ T123 (mkF m 138 #[.val (.int c0), .val (.int c1), .val (.int c2), .val (.int c3)] [(.ref b11)])
  have sz124 : n0 ≤ h123.size := by rw [W123.size]; exact sz120
  have K125 := K121.wr W123 (Or.inr gh11)
  have N123 := Fr.snoc X123 N119 gn11
  have A126 : own_A Z h123 b11 .char 64 (own_pf 63 c0 c1 c2 c3 28) := A123.congr (fun i hi => by show (if i = (27 : Int32).toInt.toNat then nar .char c3 else (own_pf 63 c0 c1 c2 c3 27) i) = (own_pf 63 c0 c1 c2 c3 28) i; rw [show (27 : Int32).toInt.toNat = 27 from by decide, own_nc hc3]; exact own_pf_step rfl i)
  refine own_by (T' := T123) (f' := (mkF m 139 #[.val (.int c0), .val (.int c1), .val (.int c2), .val (.int c3)] [(.ref b11), (.ref b11)])) (fun t k => XS.dup X123.here hx rfl (hb hby d28_138) rfl rfl k) ?_
  refine own_by (T' := T123) (f' := (mkF m 141 #[.val (.int c0), .val (.int c1), .val (.int c2), .val (.int c3)] [(.int (28 : Int32)), (.ref b11), (.ref b11)])) (fun t k => XS.bipush X123.here hx rfl (hb hby d28_139) k) ?_
  refine own_by (T' := T123) (f' := (mkF m 142 #[.val (.int c0), .val (.int c1), .val (.int c2), .val (.int c3)] [(.int c3), (.int (28 : Int32)), (.ref b11), (.ref b11)])) (fun t k => XS.iloadN X123.here hx rfl (hb hby d28_141) rfl k) ?_
  have _ : (28 : Int32).toInt = 28 := by decide
  refine own_stC X123 hx hZ e123 (hb hby d28_142) A126 (by first | decide | omega) (by first | decide | omega) ?_
  intro T127 h127 X127 e127 W127 A127
  show own_Go p e below _ T127 (mkF m 143 #[.val (.int c0), .val (.int c1), .val (.int c2), .val (.int c3)] [(.ref b11)])
  have sz128 : n0 ≤ h127.size := by rw [W127.size]; exact sz124
  have K129 := K125.wr W127 (Or.inr gh11)
  have N127 := Fr.snoc X127 N123 gn11
  have A130 : own_A Z h127 b11 .char 64 (own_pf 63 c0 c1 c2 c3 29) := A127.congr (fun i hi => by show (if i = (28 : Int32).toInt.toNat then nar .char c3 else (own_pf 63 c0 c1 c2 c3 28) i) = (own_pf 63 c0 c1 c2 c3 29) i; rw [show (28 : Int32).toInt.toNat = 28 from by decide, own_nc hc3]; exact own_pf_step rfl i)
  refine own_by (T' := T127) (f' := (mkF m 144 #[.val (.int c0), .val (.int c1), .val (.int c2), .val (.int c3)] [(.ref b11), (.ref b11)])) (fun t k => XS.dup X127.here hx rfl (hb hby d28_143) rfl rfl k) ?_
  refine own_by (T' := T127) (f' := (mkF m 146 #[.val (.int c0), .val (.int c1), .val (.int c2), .val (.int c3)] [(.int (29 : Int32)), (.ref b11), (.ref b11)])) (fun t k => XS.bipush X127.here hx rfl (hb hby d28_144) k) ?_
  refine own_by (T' := T127) (f' := (mkF m 147 #[.val (.int c0), .val (.int c1), .val (.int c2), .val (.int c3)] [(.int c3), (.int (29 : Int32)), (.ref b11), (.ref b11)])) (fun t k => XS.iloadN X127.here hx rfl (hb hby d28_146) rfl k) ?_
  have _ : (29 : Int32).toInt = 29 := by decide
  refine own_stC X127 hx hZ e127 (hb hby d28_147) A130 (by first | decide | omega) (by first | decide | omega) ?_
  intro T131 h131 X131 e131 W131 A131
  show own_Go p e below _ T131 (mkF m 148 #[.val (.int c0), .val (.int c1), .val (.int c2), .val (.int c3)] [(.ref b11)])
  have sz132 : n0 ≤ h131.size := by rw [W131.size]; exact sz128
  have K133 := K129.wr W131 (Or.inr gh11)
  have N131 := Fr.snoc X131 N127 gn11
  have A134 : own_A Z h131 b11 .char 64 (own_pf 63 c0 c1 c2 c3 30) := A131.congr (fun i hi => by show (if i = (29 : Int32).toInt.toNat then nar .char c3 else (own_pf 63 c0 c1 c2 c3 29) i) = (own_pf 63 c0 c1 c2 c3 30) i; rw [show (29 : Int32).toInt.toNat = 29 from by decide, own_nc hc3]; exact own_pf_step rfl i)
  refine own_by (T' := T131) (f' := (mkF m 149 #[.val (.int c0), .val (.int c1), .val (.int c2), .val (.int c3)] [(.ref b11), (.ref b11)])) (fun t k => XS.dup X131.here hx rfl (hb hby d28_148) rfl rfl k) ?_
  refine own_by (T' := T131) (f' := (mkF m 151 #[.val (.int c0), .val (.int c1), .val (.int c2), .val (.int c3)] [(.int (30 : Int32)), (.ref b11), (.ref b11)])) (fun t k => XS.bipush X131.here hx rfl (hb hby d28_149) k) ?_
  refine own_by (T' := T131) (f' := (mkF m 152 #[.val (.int c0), .val (.int c1), .val (.int c2), .val (.int c3)] [(.int c3), (.int (30 : Int32)), (.ref b11), (.ref b11)])) (fun t k => XS.iloadN X131.here hx rfl (hb hby d28_151) rfl k) ?_
  have _ : (30 : Int32).toInt = 30 := by decide
  refine own_stC X131 hx hZ e131 (hb hby d28_152) A134 (by first | decide | omega) (by first | decide | omega) ?_
  intro T135 h135 X135 e135 W135 A135
  show own_Go p e below _ T135 (mkF m 153 #[.val (.int c0), .val (.int c1), .val (.int c2), .val (.int c3)] [(.ref b11)])
  have sz136 : n0 ≤ h135.size := by rw [W135.size]; exact sz132
  have K137 := K133.wr W135 (Or.inr gh11)
  have N135 := Fr.snoc X135 N131 gn11
  have A138 : own_A Z h135 b11 .char 64 (own_pf 63 c0 c1 c2 c3 31) := A135.congr (fun i hi => by show (if i = (30 : Int32).toInt.toNat then nar .char c3 else (own_pf 63 c0 c1 c2 c3 30) i) = (own_pf 63 c0 c1 c2 c3 31) i; rw [show (30 : Int32).toInt.toNat = 30 from by decide, own_nc hc3]; exact own_pf_step rfl i)
  refine own_by (T' := T135) (f' := (mkF m 154 #[.val (.int c0), .val (.int c1), .val (.int c2), .val (.int c3)] [(.ref b11), (.ref b11)])) (fun t k => XS.dup X135.here hx rfl (hb hby d28_153) rfl rfl k) ?_
  refine own_by (T' := T135) (f' := (mkF m 156 #[.val (.int c0), .val (.int c1), .val (.int c2), .val (.int c3)] [(.int (31 : Int32)), (.ref b11), (.ref b11)])) (fun t k => XS.bipush X135.here hx rfl (hb hby d28_154) k) ?_
  refine own_by (T' := T135) (f' := (mkF m 157 #[.val (.int c0), .val (.int c1), .val (.int c2), .val (.int c3)] [(.int c3), (.int (31 : Int32)), (.ref b11), (.ref b11)])) (fun t k => XS.iloadN X135.here hx rfl (hb hby d28_156) rfl k) ?_
  have _ : (31 : Int32).toInt = 31 := by decide
  refine own_stC X135 hx hZ e135 (hb hby d28_157) A138 (by first | decide | omega) (by first | decide | omega) ?_
  intro T139 h139 X139 e139 W139 A139
  show own_Go p e below _ T139 (mkF m 158 #[.val (.int c0), .val (.int c1), .val (.int c2), .val (.int c3)] [(.ref b11)])
  have sz140 : n0 ≤ h139.size := by rw [W139.size]; exact sz136
  have K141 := K137.wr W139 (Or.inr gh11)
  have N139 := Fr.snoc X139 N135 gn11
  have A142 : own_A Z h139 b11 .char 64 (own_pf 63 c0 c1 c2 c3 32) := A139.congr (fun i hi => by show (if i = (31 : Int32).toInt.toNat then nar .char c3 else (own_pf 63 c0 c1 c2 c3 31) i) = (own_pf 63 c0 c1 c2 c3 32) i; rw [show (31 : Int32).toInt.toNat = 31 from by decide, own_nc hc3]; exact own_pf_step rfl i)
  refine own_by (T' := T139) (f' := (mkF m 159 #[.val (.int c0), .val (.int c1), .val (.int c2), .val (.int c3)] [(.ref b11), (.ref b11)])) (fun t k => XS.dup X139.here hx rfl (hb hby d28_158) rfl rfl k) ?_
  refine own_by (T' := T139) (f' := (mkF m 161 #[.val (.int c0), .val (.int c1), .val (.int c2), .val (.int c3)] [(.int (32 : Int32)), (.ref b11), (.ref b11)])) (fun t k => XS.bipush X139.here hx rfl (hb hby d28_159) k) ?_
  refine own_by (T' := T139) (f' := (mkF m 162 #[.val (.int c0), .val (.int c1), .val (.int c2), .val (.int c3)] [(.int c1), (.int (32 : Int32)), (.ref b11), (.ref b11)])) (fun t k => XS.iloadN X139.here hx rfl (hb hby d28_161) rfl k) ?_
  have _ : (32 : Int32).toInt = 32 := by decide
  refine own_stC X139 hx hZ e139 (hb hby d28_162) A142 (by first | decide | omega) (by first | decide | omega) ?_
  intro T143 h143 X143 e143 W143 A143
  show own_Go p e below _ T143 (mkF m 163 #[.val (.int c0), .val (.int c1), .val (.int c2), .val (.int c3)] [(.ref b11)])
  have sz144 : n0 ≤ h143.size := by rw [W143.size]; exact sz140
  have K145 := K141.wr W143 (Or.inr gh11)
  have N143 := Fr.snoc X143 N139 gn11
  have A146 : own_A Z h143 b11 .char 64 (own_pf 63 c0 c1 c2 c3 33) := A143.congr (fun i hi => by show (if i = (32 : Int32).toInt.toNat then nar .char c1 else (own_pf 63 c0 c1 c2 c3 32) i) = (own_pf 63 c0 c1 c2 c3 33) i; rw [show (32 : Int32).toInt.toNat = 32 from by decide, own_nc hc1]; exact own_pf_step rfl i)
  refine own_by (T' := T143) (f' := (mkF m 164 #[.val (.int c0), .val (.int c1), .val (.int c2), .val (.int c3)] [(.ref b11), (.ref b11)])) (fun t k => XS.dup X143.here hx rfl (hb hby d28_163) rfl rfl k) ?_
  refine own_by (T' := T143) (f' := (mkF m 166 #[.val (.int c0), .val (.int c1), .val (.int c2), .val (.int c3)] [(.int (33 : Int32)), (.ref b11), (.ref b11)])) (fun t k => XS.bipush X143.here hx rfl (hb hby d28_164) k) ?_
  refine own_by (T' := T143) (f' := (mkF m 167 #[.val (.int c0), .val (.int c1), .val (.int c2), .val (.int c3)] [(.int c3), (.int (33 : Int32)), (.ref b11), (.ref b11)])) (fun t k => XS.iloadN X143.here hx rfl (hb hby d28_166) rfl k) ?_
  have _ : (33 : Int32).toInt = 33 := by decide
  refine own_stC X143 hx hZ e143 (hb hby d28_167) A146 (by first | decide | omega) (by first | decide | omega) ?_
  intro T147 h147 X147 e147 W147 A147
  show own_Go p e below _ T147 (mkF m 168 #[.val (.int c0), .val (.int c1), .val (.int c2), .val (.int c3)] [(.ref b11)])
  have sz148 : n0 ≤ h147.size := by rw [W147.size]; exact sz144
  have K149 := K145.wr W147 (Or.inr gh11)
  have N147 := Fr.snoc X147 N143 gn11
  have A150 : own_A Z h147 b11 .char 64 (own_pf 63 c0 c1 c2 c3 34) := A147.congr (fun i hi => by show (if i = (33 : Int32).toInt.toNat then nar .char c3 else (own_pf 63 c0 c1 c2 c3 33) i) = (own_pf 63 c0 c1 c2 c3 34) i; rw [show (33 : Int32).toInt.toNat = 33 from by decide, own_nc hc3]; exact own_pf_step rfl i)
  refine own_by (T' := T147) (f' := (mkF m 169 #[.val (.int c0), .val (.int c1), .val (.int c2), .val (.int c3)] [(.ref b11), (.ref b11)])) (fun t k => XS.dup X147.here hx rfl (hb hby d28_168) rfl rfl k) ?_
  refine own_by (T' := T147) (f' := (mkF m 171 #[.val (.int c0), .val (.int c1), .val (.int c2), .val (.int c3)] [(.int (34 : Int32)), (.ref b11), (.ref b11)])) (fun t k => XS.bipush X147.here hx rfl (hb hby d28_169) k) ?_
  refine own_by (T' := T147) (f' := (mkF m 172 #[.val (.int c0), .val (.int c1), .val (.int c2), .val (.int c3)] [(.int c3), (.int (34 : Int32)), (.ref b11), (.ref b11)])) (fun t k => XS.iloadN X147.here hx rfl (hb hby d28_171) rfl k) ?_
  have _ : (34 : Int32).toInt = 34 := by decide
  refine own_stC X147 hx hZ e147 (hb hby d28_172) A150 (by first | decide | omega) (by first | decide | omega) ?_
  intro T151 h151 X151 e151 W151 A151
  show own_Go p e below _ T151 (mkF m 173 #[.val (.int c0), .val (.int c1), .val (.int c2), .val (.int c3)] [(.ref b11)])
  have sz152 : n0 ≤ h151.size := by rw [W151.size]; exact sz148
  have K153 := K149.wr W151 (Or.inr gh11)
  have N151 := Fr.snoc X151 N147 gn11
  have A154 : own_A Z h151 b11 .char 64 (own_pf 63 c0 c1 c2 c3 35) := A151.congr (fun i hi => by show (if i = (34 : Int32).toInt.toNat then nar .char c3 else (own_pf 63 c0 c1 c2 c3 34) i) = (own_pf 63 c0 c1 c2 c3 35) i; rw [show (34 : Int32).toInt.toNat = 34 from by decide, own_nc hc3]; exact own_pf_step rfl i)
  refine own_by (T' := T151) (f' := (mkF m 174 #[.val (.int c0), .val (.int c1), .val (.int c2), .val (.int c3)] [(.ref b11), (.ref b11)])) (fun t k => XS.dup X151.here hx rfl (hb hby d28_173) rfl rfl k) ?_
  refine own_by (T' := T151) (f' := (mkF m 176 #[.val (.int c0), .val (.int c1), .val (.int c2), .val (.int c3)] [(.int (35 : Int32)), (.ref b11), (.ref b11)])) (fun t k => XS.bipush X151.here hx rfl (hb hby d28_174) k) ?_
  refine own_by (T' := T151) (f' := (mkF m 177 #[.val (.int c0), .val (.int c1), .val (.int c2), .val (.int c3)] [(.int c3), (.int (35 : Int32)), (.ref b11), (.ref b11)])) (fun t k => XS.iloadN X151.here hx rfl (hb hby d28_176) rfl k) ?_
  have _ : (35 : Int32).toInt = 35 := by decide
  refine own_stC X151 hx hZ e151 (hb hby d28_177) A154 (by first | decide | omega) (by first | decide | omega) ?_
  intro T155 h155 X155 e155 W155 A155
  show own_Go p e below _ T155 (mkF m 178 #[.val (.int c0), .val (.int c1), .val (.int c2), .val (.int c3)] [(.ref b11)])
  have sz156 : n0 ≤ h155.size := by rw [W155.size]; exact sz152
  have K157 := K153.wr W155 (Or.inr gh11)
  have N155 := Fr.snoc X155 N151 gn11
  have A158 : own_A Z h155 b11 .char 64 (own_pf 63 c0 c1 c2 c3 36) := A155.congr (fun i hi => by show (if i = (35 : Int32).toInt.toNat then nar .char c3 else (own_pf 63 c0 c1 c2 c3 35) i) = (own_pf 63 c0 c1 c2 c3 36) i; rw [show (35 : Int32).toInt.toNat = 35 from by decide, own_nc hc3]; exact own_pf_step rfl i)
  refine own_by (T' := T155) (f' := (mkF m 179 #[.val (.int c0), .val (.int c1), .val (.int c2), .val (.int c3)] [(.ref b11), (.ref b11)])) (fun t k => XS.dup X155.here hx rfl (hb hby d28_178) rfl rfl k) ?_
  refine own_by (T' := T155) (f' := (mkF m 181 #[.val (.int c0), .val (.int c1), .val (.int c2), .val (.int c3)] [(.int (36 : Int32)), (.ref b11), (.ref b11)])) (fun t k => XS.bipush X155.here hx rfl (hb hby d28_179) k) ?_
  refine own_by (T' := T155) (f' := (mkF m 182 #[.val (.int c0), .val (.int c1), .val (.int c2), .val (.int c3)] [(.int c3), (.int (36 : Int32)), (.ref b11), (.ref b11)])) (fun t k => XS.iloadN X155.here hx rfl (hb hby d28_181) rfl k) ?_
  have _ : (36 : Int32).toInt = 36 := by decide
  refine own_stC X155 hx hZ e155 (hb hby d28_182) A158 (by first | decide | omega) (by first | decide | omega) ?_
  intro T159 h159 X159 e159 W159 A159
  show own_Go p e below _ T159 (mkF m 183 #[.val (.int c0), .val (.int c1), .val (.int c2), .val (.int c3)] [(.ref b11)])
  have sz160 : n0 ≤ h159.size := by rw [W159.size]; exact sz156
  have K161 := K157.wr W159 (Or.inr gh11)
  have N159 := Fr.snoc X159 N155 gn11
  have A162 : own_A Z h159 b11 .char 64 (own_pf 63 c0 c1 c2 c3 37) := A159.congr (fun i hi => by show (if i = (36 : Int32).toInt.toNat then nar .char c3 else (own_pf 63 c0 c1 c2 c3 36) i) = (own_pf 63 c0 c1 c2 c3 37) i; rw [show (36 : Int32).toInt.toNat = 36 from by decide, own_nc hc3]; exact own_pf_step rfl i)
  refine own_by (T' := T159) (f' := (mkF m 184 #[.val (.int c0), .val (.int c1), .val (.int c2), .val (.int c3)] [(.ref b11), (.ref b11)])) (fun t k => XS.dup X159.here hx rfl (hb hby d28_183) rfl rfl k) ?_
  refine own_by (T' := T159) (f' := (mkF m 186 #[.val (.int c0), .val (.int c1), .val (.int c2), .val (.int c3)] [(.int (37 : Int32)), (.ref b11), (.ref b11)])) (fun t k => XS.bipush X159.here hx rfl (hb hby d28_184) k) ?_
  refine own_by (T' := T159) (f' := (mkF m 187 #[.val (.int c0), .val (.int c1), .val (.int c2), .val (.int c3)] [(.int c3), (.int (37 : Int32)), (.ref b11), (.ref b11)])) (fun t k => XS.iloadN X159.here hx rfl (hb hby d28_186) rfl k) ?_
  have _ : (37 : Int32).toInt = 37 := by decide
  refine own_stC X159 hx hZ e159 (hb hby d28_187) A162 (by first | decide | omega) (by first | decide | omega) ?_
  intro T163 h163 X163 e163 W163 A163
  show own_Go p e below _ T163 (mkF m 188 #[.val (.int c0), .val (.int c1), .val (.int c2), .val (.int c3)] [(.ref b11)])
  have sz164 : n0 ≤ h163.size := by rw [W163.size]; exact sz160
  have K165 := K161.wr W163 (Or.inr gh11)
  have N163 := Fr.snoc X163 N159 gn11
  have A166 : own_A Z h163 b11 .char 64 (own_pf 63 c0 c1 c2 c3 38) := A163.congr (fun i hi => by show (if i = (37 : Int32).toInt.toNat then nar .char c3 else (own_pf 63 c0 c1 c2 c3 37) i) = (own_pf 63 c0 c1 c2 c3 38) i; rw [show (37 : Int32).toInt.toNat = 37 from by decide, own_nc hc3]; exact own_pf_step rfl i)
  refine own_by (T' := T163) (f' := (mkF m 189 #[.val (.int c0), .val (.int c1), .val (.int c2), .val (.int c3)] [(.ref b11), (.ref b11)])) (fun t k => XS.dup X163.here hx rfl (hb hby d28_188) rfl rfl k) ?_
  refine own_by (T' := T163) (f' := (mkF m 191 #[.val (.int c0), .val (.int c1), .val (.int c2), .val (.int c3)] [(.int (38 : Int32)), (.ref b11), (.ref b11)])) (fun t k => XS.bipush X163.here hx rfl (hb hby d28_189) k) ?_
  refine own_by (T' := T163) (f' := (mkF m 192 #[.val (.int c0), .val (.int c1), .val (.int c2), .val (.int c3)] [(.int c3), (.int (38 : Int32)), (.ref b11), (.ref b11)])) (fun t k => XS.iloadN X163.here hx rfl (hb hby d28_191) rfl k) ?_
  have _ : (38 : Int32).toInt = 38 := by decide
  refine own_stC X163 hx hZ e163 (hb hby d28_192) A166 (by first | decide | omega) (by first | decide | omega) ?_
  intro T167 h167 X167 e167 W167 A167
  show own_Go p e below _ T167 (mkF m 193 #[.val (.int c0), .val (.int c1), .val (.int c2), .val (.int c3)] [(.ref b11)])
  have sz168 : n0 ≤ h167.size := by rw [W167.size]; exact sz164
  have K169 := K165.wr W167 (Or.inr gh11)
  have N167 := Fr.snoc X167 N163 gn11
  have A170 : own_A Z h167 b11 .char 64 (own_pf 63 c0 c1 c2 c3 39) := A167.congr (fun i hi => by show (if i = (38 : Int32).toInt.toNat then nar .char c3 else (own_pf 63 c0 c1 c2 c3 38) i) = (own_pf 63 c0 c1 c2 c3 39) i; rw [show (38 : Int32).toInt.toNat = 38 from by decide, own_nc hc3]; exact own_pf_step rfl i)
  refine own_by (T' := T167) (f' := (mkF m 194 #[.val (.int c0), .val (.int c1), .val (.int c2), .val (.int c3)] [(.ref b11), (.ref b11)])) (fun t k => XS.dup X167.here hx rfl (hb hby d28_193) rfl rfl k) ?_
  refine own_by (T' := T167) (f' := (mkF m 196 #[.val (.int c0), .val (.int c1), .val (.int c2), .val (.int c3)] [(.int (39 : Int32)), (.ref b11), (.ref b11)])) (fun t k => XS.bipush X167.here hx rfl (hb hby d28_194) k) ?_
  refine own_by (T' := T167) (f' := (mkF m 197 #[.val (.int c0), .val (.int c1), .val (.int c2), .val (.int c3)] [(.int c3), (.int (39 : Int32)), (.ref b11), (.ref b11)])) (fun t k => XS.iloadN X167.here hx rfl (hb hby d28_196) rfl k) ?_
  have _ : (39 : Int32).toInt = 39 := by decide
  refine own_stC X167 hx hZ e167 (hb hby d28_197) A170 (by first | decide | omega) (by first | decide | omega) ?_
  intro T171 h171 X171 e171 W171 A171
  show own_Go p e below _ T171 (mkF m 198 #[.val (.int c0), .val (.int c1), .val (.int c2), .val (.int c3)] [(.ref b11)])
  have sz172 : n0 ≤ h171.size := by rw [W171.size]; exact sz168
  have K173 := K169.wr W171 (Or.inr gh11)
  have N171 := Fr.snoc X171 N167 gn11
  have A174 : own_A Z h171 b11 .char 64 (own_pf 63 c0 c1 c2 c3 40) := A171.congr (fun i hi => by show (if i = (39 : Int32).toInt.toNat then nar .char c3 else (own_pf 63 c0 c1 c2 c3 39) i) = (own_pf 63 c0 c1 c2 c3 40) i; rw [show (39 : Int32).toInt.toNat = 39 from by decide, own_nc hc3]; exact own_pf_step rfl i)
  refine own_by (T' := T171) (f' := (mkF m 199 #[.val (.int c0), .val (.int c1), .val (.int c2), .val (.int c3)] [(.ref b11), (.ref b11)])) (fun t k => XS.dup X171.here hx rfl (hb hby d28_198) rfl rfl k) ?_
  refine own_by (T' := T171) (f' := (mkF m 201 #[.val (.int c0), .val (.int c1), .val (.int c2), .val (.int c3)] [(.int (40 : Int32)), (.ref b11), (.ref b11)])) (fun t k => XS.bipush X171.here hx rfl (hb hby d28_199) k) ?_
  refine own_by (T' := T171) (f' := (mkF m 202 #[.val (.int c0), .val (.int c1), .val (.int c2), .val (.int c3)] [(.int c3), (.int (40 : Int32)), (.ref b11), (.ref b11)])) (fun t k => XS.iloadN X171.here hx rfl (hb hby d28_201) rfl k) ?_
  have _ : (40 : Int32).toInt = 40 := by decide
  refine own_stC X171 hx hZ e171 (hb hby d28_202) A174 (by first | decide | omega) (by first | decide | omega) ?_
  intro T175 h175 X175 e175 W175 A175
  show own_Go p e below _ T175 (mkF m 203 #[.val (.int c0), .val (.int c1), .val (.int c2), .val (.int c3)] [(.ref b11)])
  have sz176 : n0 ≤ h175.size := by rw [W175.size]; exact sz172
  have K177 := K173.wr W175 (Or.inr gh11)
  have N175 := Fr.snoc X175 N171 gn11
  have A178 : own_A Z h175 b11 .char 64 (own_pf 63 c0 c1 c2 c3 41) := A175.congr (fun i hi => by show (if i = (40 : Int32).toInt.toNat then nar .char c3 else (own_pf 63 c0 c1 c2 c3 40) i) = (own_pf 63 c0 c1 c2 c3 41) i; rw [show (40 : Int32).toInt.toNat = 40 from by decide, own_nc hc3]; exact own_pf_step rfl i)
  refine own_by (T' := T175) (f' := (mkF m 204 #[.val (.int c0), .val (.int c1), .val (.int c2), .val (.int c3)] [(.ref b11), (.ref b11)])) (fun t k => XS.dup X175.here hx rfl (hb hby d28_203) rfl rfl k) ?_
  refine own_by (T' := T175) (f' := (mkF m 206 #[.val (.int c0), .val (.int c1), .val (.int c2), .val (.int c3)] [(.int (41 : Int32)), (.ref b11), (.ref b11)])) (fun t k => XS.bipush X175.here hx rfl (hb hby d28_204) k) ?_
  refine own_by (T' := T175) (f' := (mkF m 207 #[.val (.int c0), .val (.int c1), .val (.int c2), .val (.int c3)] [(.int c3), (.int (41 : Int32)), (.ref b11), (.ref b11)])) (fun t k => XS.iloadN X175.here hx rfl (hb hby d28_206) rfl k) ?_
  have _ : (41 : Int32).toInt = 41 := by decide
  refine own_stC X175 hx hZ e175 (hb hby d28_207) A178 (by first | decide | omega) (by first | decide | omega) ?_
  intro T179 h179 X179 e179 W179 A179
  show own_Go p e below _ T179 (mkF m 208 #[.val (.int c0), .val (.int c1), .val (.int c2), .val (.int c3)] [(.ref b11)])
  have sz180 : n0 ≤ h179.size := by rw [W179.size]; exact sz176
  have K181 := K177.wr W179 (Or.inr gh11)
  have N179 := Fr.snoc X179 N175 gn11
  have A182 : own_A Z h179 b11 .char 64 (own_pf 63 c0 c1 c2 c3 42) := A179.congr (fun i hi => by show (if i = (41 : Int32).toInt.toNat then nar .char c3 else (own_pf 63 c0 c1 c2 c3 41) i) = (own_pf 63 c0 c1 c2 c3 42) i; rw [show (41 : Int32).toInt.toNat = 41 from by decide, own_nc hc3]; exact own_pf_step rfl i)
  refine own_by (T' := T179) (f' := (mkF m 209 #[.val (.int c0), .val (.int c1), .val (.int c2), .val (.int c3)] [(.ref b11), (.ref b11)])) (fun t k => XS.dup X179.here hx rfl (hb hby d28_208) rfl rfl k) ?_
  refine own_by (T' := T179) (f' := (mkF m 211 #[.val (.int c0), .val (.int c1), .val (.int c2), .val (.int c3)] [(.int (42 : Int32)), (.ref b11), (.ref b11)])) (fun t k => XS.bipush X179.here hx rfl (hb hby d28_209) k) ?_
  refine own_by (T' := T179) (f' := (mkF m 212 #[.val (.int c0), .val (.int c1), .val (.int c2), .val (.int c3)] [(.int c3), (.int (42 : Int32)), (.ref b11), (.ref b11)])) (fun t k => XS.iloadN X179.here hx rfl (hb hby d28_211) rfl k) ?_
  have _ : (42 : Int32).toInt = 42 := by decide
  refine own_stC X179 hx hZ e179 (hb hby d28_212) A182 (by first | decide | omega) (by first | decide | omega) ?_
  intro T183 h183 X183 e183 W183 A183
  show own_Go p e below _ T183 (mkF m 213 #[.val (.int c0), .val (.int c1), .val (.int c2), .val (.int c3)] [(.ref b11)])
  have sz184 : n0 ≤ h183.size := by rw [W183.size]; exact sz180
  have K185 := K181.wr W183 (Or.inr gh11)
  have N183 := Fr.snoc X183 N179 gn11
  have A186 : own_A Z h183 b11 .char 64 (own_pf 63 c0 c1 c2 c3 43) := A183.congr (fun i hi => by show (if i = (42 : Int32).toInt.toNat then nar .char c3 else (own_pf 63 c0 c1 c2 c3 42) i) = (own_pf 63 c0 c1 c2 c3 43) i; rw [show (42 : Int32).toInt.toNat = 42 from by decide, own_nc hc3]; exact own_pf_step rfl i)
  refine own_by (T' := T183) (f' := (mkF m 214 #[.val (.int c0), .val (.int c1), .val (.int c2), .val (.int c3)] [(.ref b11), (.ref b11)])) (fun t k => XS.dup X183.here hx rfl (hb hby d28_213) rfl rfl k) ?_
  refine own_by (T' := T183) (f' := (mkF m 216 #[.val (.int c0), .val (.int c1), .val (.int c2), .val (.int c3)] [(.int (43 : Int32)), (.ref b11), (.ref b11)])) (fun t k => XS.bipush X183.here hx rfl (hb hby d28_214) k) ?_
  refine own_by (T' := T183) (f' := (mkF m 217 #[.val (.int c0), .val (.int c1), .val (.int c2), .val (.int c3)] [(.int c3), (.int (43 : Int32)), (.ref b11), (.ref b11)])) (fun t k => XS.iloadN X183.here hx rfl (hb hby d28_216) rfl k) ?_
  have _ : (43 : Int32).toInt = 43 := by decide
  refine own_stC X183 hx hZ e183 (hb hby d28_217) A186 (by first | decide | omega) (by first | decide | omega) ?_
  intro T187 h187 X187 e187 W187 A187
  show own_Go p e below _ T187 (mkF m 218 #[.val (.int c0), .val (.int c1), .val (.int c2), .val (.int c3)] [(.ref b11)])
  have sz188 : n0 ≤ h187.size := by rw [W187.size]; exact sz184
  have K189 := K185.wr W187 (Or.inr gh11)
  have N187 := Fr.snoc X187 N183 gn11
  have A190 : own_A Z h187 b11 .char 64 (own_pf 63 c0 c1 c2 c3 44) := A187.congr (fun i hi => by show (if i = (43 : Int32).toInt.toNat then nar .char c3 else (own_pf 63 c0 c1 c2 c3 43) i) = (own_pf 63 c0 c1 c2 c3 44) i; rw [show (43 : Int32).toInt.toNat = 43 from by decide, own_nc hc3]; exact own_pf_step rfl i)
  refine own_by (T' := T187) (f' := (mkF m 219 #[.val (.int c0), .val (.int c1), .val (.int c2), .val (.int c3)] [(.ref b11), (.ref b11)])) (fun t k => XS.dup X187.here hx rfl (hb hby d28_218) rfl rfl k) ?_
  refine own_by (T' := T187) (f' := (mkF m 221 #[.val (.int c0), .val (.int c1), .val (.int c2), .val (.int c3)] [(.int (44 : Int32)), (.ref b11), (.ref b11)])) (fun t k => XS.bipush X187.here hx rfl (hb hby d28_219) k) ?_
  refine own_by (T' := T187) (f' := (mkF m 222 #[.val (.int c0), .val (.int c1), .val (.int c2), .val (.int c3)] [(.int c3), (.int (44 : Int32)), (.ref b11), (.ref b11)])) (fun t k => XS.iloadN X187.here hx rfl (hb hby d28_221) rfl k) ?_
  have _ : (44 : Int32).toInt = 44 := by decide
  refine own_stC X187 hx hZ e187 (hb hby d28_222) A190 (by first | decide | omega) (by first | decide | omega) ?_
  intro T191 h191 X191 e191 W191 A191
  show own_Go p e below _ T191 (mkF m 223 #[.val (.int c0), .val (.int c1), .val (.int c2), .val (.int c3)] [(.ref b11)])
  have sz192 : n0 ≤ h191.size := by rw [W191.size]; exact sz188
  have K193 := K189.wr W191 (Or.inr gh11)
  have N191 := Fr.snoc X191 N187 gn11
  have A194 : own_A Z h191 b11 .char 64 (own_pf 63 c0 c1 c2 c3 45) := A191.congr (fun i hi => by show (if i = (44 : Int32).toInt.toNat then nar .char c3 else (own_pf 63 c0 c1 c2 c3 44) i) = (own_pf 63 c0 c1 c2 c3 45) i; rw [show (44 : Int32).toInt.toNat = 44 from by decide, own_nc hc3]; exact own_pf_step rfl i)
  refine own_by (T' := T191) (f' := (mkF m 224 #[.val (.int c0), .val (.int c1), .val (.int c2), .val (.int c3)] [(.ref b11), (.ref b11)])) (fun t k => XS.dup X191.here hx rfl (hb hby d28_223) rfl rfl k) ?_
  refine own_by (T' := T191) (f' := (mkF m 226 #[.val (.int c0), .val (.int c1), .val (.int c2), .val (.int c3)] [(.int (45 : Int32)), (.ref b11), (.ref b11)])) (fun t k => XS.bipush X191.here hx rfl (hb hby d28_224) k) ?_
  refine own_by (T' := T191) (f' := (mkF m 227 #[.val (.int c0), .val (.int c1), .val (.int c2), .val (.int c3)] [(.int c3), (.int (45 : Int32)), (.ref b11), (.ref b11)])) (fun t k => XS.iloadN X191.here hx rfl (hb hby d28_226) rfl k) ?_
  have _ : (45 : Int32).toInt = 45 := by decide
  refine own_stC X191 hx hZ e191 (hb hby d28_227) A194 (by first | decide | omega) (by first | decide | omega) ?_
  intro T195 h195 X195 e195 W195 A195
  show own_Go p e below _ T195 (mkF m 228 #[.val (.int c0), .val (.int c1), .val (.int c2), .val (.int c3)] [(.ref b11)])
  have sz196 : n0 ≤ h195.size := by rw [W195.size]; exact sz192
  have K197 := K193.wr W195 (Or.inr gh11)
  have N195 := Fr.snoc X195 N191 gn11
  have A198 : own_A Z h195 b11 .char 64 (own_pf 63 c0 c1 c2 c3 46) := A195.congr (fun i hi => by show (if i = (45 : Int32).toInt.toNat then nar .char c3 else (own_pf 63 c0 c1 c2 c3 45) i) = (own_pf 63 c0 c1 c2 c3 46) i; rw [show (45 : Int32).toInt.toNat = 45 from by decide, own_nc hc3]; exact own_pf_step rfl i)
  refine own_by (T' := T195) (f' := (mkF m 229 #[.val (.int c0), .val (.int c1), .val (.int c2), .val (.int c3)] [(.ref b11), (.ref b11)])) (fun t k => XS.dup X195.here hx rfl (hb hby d28_228) rfl rfl k) ?_
  refine own_by (T' := T195) (f' := (mkF m 231 #[.val (.int c0), .val (.int c1), .val (.int c2), .val (.int c3)] [(.int (46 : Int32)), (.ref b11), (.ref b11)])) (fun t k => XS.bipush X195.here hx rfl (hb hby d28_229) k) ?_
  refine own_by (T' := T195) (f' := (mkF m 232 #[.val (.int c0), .val (.int c1), .val (.int c2), .val (.int c3)] [(.int c3), (.int (46 : Int32)), (.ref b11), (.ref b11)])) (fun t k => XS.iloadN X195.here hx rfl (hb hby d28_231) rfl k) ?_
  have _ : (46 : Int32).toInt = 46 := by decide
  refine own_stC X195 hx hZ e195 (hb hby d28_232) A198 (by first | decide | omega) (by first | decide | omega) ?_
  intro T199 h199 X199 e199 W199 A199
  show own_Go p e below _ T199 (mkF m 233 #[.val (.int c0), .val (.int c1), .val (.int c2), .val (.int c3)] [(.ref b11)])
  have sz200 : n0 ≤ h199.size := by rw [W199.size]; exact sz196
  have K201 := K197.wr W199 (Or.inr gh11)
  have N199 := Fr.snoc X199 N195 gn11
  have A202 : own_A Z h199 b11 .char 64 (own_pf 63 c0 c1 c2 c3 47) := A199.congr (fun i hi => by show (if i = (46 : Int32).toInt.toNat then nar .char c3 else (own_pf 63 c0 c1 c2 c3 46) i) = (own_pf 63 c0 c1 c2 c3 47) i; rw [show (46 : Int32).toInt.toNat = 46 from by decide, own_nc hc3]; exact own_pf_step rfl i)
  refine own_by (T' := T199) (f' := (mkF m 234 #[.val (.int c0), .val (.int c1), .val (.int c2), .val (.int c3)] [(.ref b11), (.ref b11)])) (fun t k => XS.dup X199.here hx rfl (hb hby d28_233) rfl rfl k) ?_
  refine own_by (T' := T199) (f' := (mkF m 236 #[.val (.int c0), .val (.int c1), .val (.int c2), .val (.int c3)] [(.int (47 : Int32)), (.ref b11), (.ref b11)])) (fun t k => XS.bipush X199.here hx rfl (hb hby d28_234) k) ?_
  refine own_by (T' := T199) (f' := (mkF m 237 #[.val (.int c0), .val (.int c1), .val (.int c2), .val (.int c3)] [(.int c3), (.int (47 : Int32)), (.ref b11), (.ref b11)])) (fun t k => XS.iloadN X199.here hx rfl (hb hby d28_236) rfl k) ?_
  have _ : (47 : Int32).toInt = 47 := by decide
  refine own_stC X199 hx hZ e199 (hb hby d28_237) A202 (by first | decide | omega) (by first | decide | omega) ?_
  intro T203 h203 X203 e203 W203 A203
  show own_Go p e below _ T203 (mkF m 238 #[.val (.int c0), .val (.int c1), .val (.int c2), .val (.int c3)] [(.ref b11)])
  have sz204 : n0 ≤ h203.size := by rw [W203.size]; exact sz200
  have K205 := K201.wr W203 (Or.inr gh11)
  have N203 := Fr.snoc X203 N199 gn11
  have A206 : own_A Z h203 b11 .char 64 (own_pf 63 c0 c1 c2 c3 48) := A203.congr (fun i hi => by show (if i = (47 : Int32).toInt.toNat then nar .char c3 else (own_pf 63 c0 c1 c2 c3 47) i) = (own_pf 63 c0 c1 c2 c3 48) i; rw [show (47 : Int32).toInt.toNat = 47 from by decide, own_nc hc3]; exact own_pf_step rfl i)
  refine own_by (T' := T203) (f' := (mkF m 239 #[.val (.int c0), .val (.int c1), .val (.int c2), .val (.int c3)] [(.ref b11), (.ref b11)])) (fun t k => XS.dup X203.here hx rfl (hb hby d28_238) rfl rfl k) ?_
  refine own_by (T' := T203) (f' := (mkF m 241 #[.val (.int c0), .val (.int c1), .val (.int c2), .val (.int c3)] [(.int (48 : Int32)), (.ref b11), (.ref b11)])) (fun t k => XS.bipush X203.here hx rfl (hb hby d28_239) k) ?_
  refine own_by (T' := T203) (f' := (mkF m 242 #[.val (.int c0), .val (.int c1), .val (.int c2), .val (.int c3)] [(.int c3), (.int (48 : Int32)), (.ref b11), (.ref b11)])) (fun t k => XS.iloadN X203.here hx rfl (hb hby d28_241) rfl k) ?_
  have _ : (48 : Int32).toInt = 48 := by decide
  refine own_stC X203 hx hZ e203 (hb hby d28_242) A206 (by first | decide | omega) (by first | decide | omega) ?_
  intro T207 h207 X207 e207 W207 A207
  show own_Go p e below _ T207 (mkF m 243 #[.val (.int c0), .val (.int c1), .val (.int c2), .val (.int c3)] [(.ref b11)])
  have sz208 : n0 ≤ h207.size := by rw [W207.size]; exact sz204
  have K209 := K205.wr W207 (Or.inr gh11)
  have N207 := Fr.snoc X207 N203 gn11
  have A210 : own_A Z h207 b11 .char 64 (own_pf 63 c0 c1 c2 c3 49) := A207.congr (fun i hi => by show (if i = (48 : Int32).toInt.toNat then nar .char c3 else (own_pf 63 c0 c1 c2 c3 48) i) = (own_pf 63 c0 c1 c2 c3 49) i; rw [show (48 : Int32).toInt.toNat = 48 from by decide, own_nc hc3]; exact own_pf_step rfl i)
  refine own_by (T' := T207) (f' := (mkF m 244 #[.val (.int c0), .val (.int c1), .val (.int c2), .val (.int c3)] [(.ref b11), (.ref b11)])) (fun t k => XS.dup X207.here hx rfl (hb hby d28_243) rfl rfl k) ?_
  refine own_by (T' := T207) (f' := (mkF m 246 #[.val (.int c0), .val (.int c1), .val (.int c2), .val (.int c3)] [(.int (49 : Int32)), (.ref b11), (.ref b11)])) (fun t k => XS.bipush X207.here hx rfl (hb hby d28_244) k) ?_
  refine own_by (T' := T207) (f' := (mkF m 247 #[.val (.int c0), .val (.int c1), .val (.int c2), .val (.int c3)] [(.int c3), (.int (49 : Int32)), (.ref b11), (.ref b11)])) (fun t k => XS.iloadN X207.here hx rfl (hb hby d28_246) rfl k) ?_
  have _ : (49 : Int32).toInt = 49 := by decide
  refine own_stC X207 hx hZ e207 (hb hby d28_247) A210 (by first | decide | omega) (by first | decide | omega) ?_
  intro T211 h211 X211 e211 W211 A211
  show own_Go p e below _ T211 (mkF m 248 #[.val (.int c0), .val (.int c1), .val (.int c2), .val (.int c3)] [(.ref b11)])
  have sz212 : n0 ≤ h211.size := by rw [W211.size]; exact sz208
  have K213 := K209.wr W211 (Or.inr gh11)
  have N211 := Fr.snoc X211 N207 gn11
  have A214 : own_A Z h211 b11 .char 64 (own_pf 63 c0 c1 c2 c3 50) := A211.congr (fun i hi => by show (if i = (49 : Int32).toInt.toNat then nar .char c3 else (own_pf 63 c0 c1 c2 c3 49) i) = (own_pf 63 c0 c1 c2 c3 50) i; rw [show (49 : Int32).toInt.toNat = 49 from by decide, own_nc hc3]; exact own_pf_step rfl i)
  refine own_by (T' := T211) (f' := (mkF m 249 #[.val (.int c0), .val (.int c1), .val (.int c2), .val (.int c3)] [(.ref b11), (.ref b11)])) (fun t k => XS.dup X211.here hx rfl (hb hby d28_248) rfl rfl k) ?_
  refine own_by (T' := T211) (f' := (mkF m 251 #[.val (.int c0), .val (.int c1), .val (.int c2), .val (.int c3)] [(.int (50 : Int32)), (.ref b11), (.ref b11)])) (fun t k => XS.bipush X211.here hx rfl (hb hby d28_249) k) ?_
  refine own_by (T' := T211) (f' := (mkF m 252 #[.val (.int c0), .val (.int c1), .val (.int c2), .val (.int c3)] [(.int c3), (.int (50 : Int32)), (.ref b11), (.ref b11)])) (fun t k => XS.iloadN X211.here hx rfl (hb hby d28_251) rfl k) ?_
  have _ : (50 : Int32).toInt = 50 := by decide
  refine own_stC X211 hx hZ e211 (hb hby d28_252) A214 (by first | decide | omega) (by first | decide | omega) ?_
  intro T215 h215 X215 e215 W215 A215
  show own_Go p e below _ T215 (mkF m 253 #[.val (.int c0), .val (.int c1), .val (.int c2), .val (.int c3)] [(.ref b11)])
  have sz216 : n0 ≤ h215.size := by rw [W215.size]; exact sz212
  have K217 := K213.wr W215 (Or.inr gh11)
  have N215 := Fr.snoc X215 N211 gn11
  have A218 : own_A Z h215 b11 .char 64 (own_pf 63 c0 c1 c2 c3 51) := A215.congr (fun i hi => by show (if i = (50 : Int32).toInt.toNat then nar .char c3 else (own_pf 63 c0 c1 c2 c3 50) i) = (own_pf 63 c0 c1 c2 c3 51) i; rw [show (50 : Int32).toInt.toNat = 50 from by decide, own_nc hc3]; exact own_pf_step rfl i)
  refine own_by (T' := T215) (f' := (mkF m 254 #[.val (.int c0), .val (.int c1), .val (.int c2), .val (.int c3)] [(.ref b11), (.ref b11)])) (fun t k => XS.dup X215.here hx rfl (hb hby d28_253) rfl rfl k) ?_
  refine own_by (T' := T215) (f' := (mkF m 256 #[.val (.int c0), .val (.int c1), .val (.int c2), .val (.int c3)] [(.int (51 : Int32)), (.ref b11), (.ref b11)])) (fun t k => XS.bipush X215.here hx rfl (hb hby d28_254) k) ?_
  refine own_by (T' := T215) (f' := (mkF m 257 #[.val (.int c0), .val (.int c1), .val (.int c2), .val (.int c3)] [(.int c3), (.int (51 : Int32)), (.ref b11), (.ref b11)])) (fun t k => XS.iloadN X215.here hx rfl (hb hby d28_256) rfl k) ?_
  have _ : (51 : Int32).toInt = 51 := by decide
  refine own_stC X215 hx hZ e215 (hb hby d28_257) A218 (by first | decide | omega) (by first | decide | omega) ?_
  intro T219 h219 X219 e219 W219 A219
  show own_Go p e below _ T219 (mkF m 258 #[.val (.int c0), .val (.int c1), .val (.int c2), .val (.int c3)] [(.ref b11)])
  have sz220 : n0 ≤ h219.size := by rw [W219.size]; exact sz216
  have K221 := K217.wr W219 (Or.inr gh11)
  have N219 := Fr.snoc X219 N215 gn11
  have A222 : own_A Z h219 b11 .char 64 (own_pf 63 c0 c1 c2 c3 52) := A219.congr (fun i hi => by show (if i = (51 : Int32).toInt.toNat then nar .char c3 else (own_pf 63 c0 c1 c2 c3 51) i) = (own_pf 63 c0 c1 c2 c3 52) i; rw [show (51 : Int32).toInt.toNat = 51 from by decide, own_nc hc3]; exact own_pf_step rfl i)
  refine own_by (T' := T219) (f' := (mkF m 259 #[.val (.int c0), .val (.int c1), .val (.int c2), .val (.int c3)] [(.ref b11), (.ref b11)])) (fun t k => XS.dup X219.here hx rfl (hb hby d28_258) rfl rfl k) ?_
  refine own_by (T' := T219) (f' := (mkF m 261 #[.val (.int c0), .val (.int c1), .val (.int c2), .val (.int c3)] [(.int (52 : Int32)), (.ref b11), (.ref b11)])) (fun t k => XS.bipush X219.here hx rfl (hb hby d28_259) k) ?_
  refine own_by (T' := T219) (f' := (mkF m 262 #[.val (.int c0), .val (.int c1), .val (.int c2), .val (.int c3)] [(.int c3), (.int (52 : Int32)), (.ref b11), (.ref b11)])) (fun t k => XS.iloadN X219.here hx rfl (hb hby d28_261) rfl k) ?_
  have _ : (52 : Int32).toInt = 52 := by decide
  refine own_stC X219 hx hZ e219 (hb hby d28_262) A222 (by first | decide | omega) (by first | decide | omega) ?_
  intro T223 h223 X223 e223 W223 A223
  show own_Go p e below _ T223 (mkF m 263 #[.val (.int c0), .val (.int c1), .val (.int c2), .val (.int c3)] [(.ref b11)])
  have sz224 : n0 ≤ h223.size := by rw [W223.size]; exact sz220
  have K225 := K221.wr W223 (Or.inr gh11)
  have N223 := Fr.snoc X223 N219 gn11
  have A226 : own_A Z h223 b11 .char 64 (own_pf 63 c0 c1 c2 c3 53) := A223.congr (fun i hi => by show (if i = (52 : Int32).toInt.toNat then nar .char c3 else (own_pf 63 c0 c1 c2 c3 52) i) = (own_pf 63 c0 c1 c2 c3 53) i; rw [show (52 : Int32).toInt.toNat = 52 from by decide, own_nc hc3]; exact own_pf_step rfl i)
  refine own_by (T' := T223) (f' := (mkF m 264 #[.val (.int c0), .val (.int c1), .val (.int c2), .val (.int c3)] [(.ref b11), (.ref b11)])) (fun t k => XS.dup X223.here hx rfl (hb hby d28_263) rfl rfl k) ?_
  refine own_by (T' := T223) (f' := (mkF m 266 #[.val (.int c0), .val (.int c1), .val (.int c2), .val (.int c3)] [(.int (53 : Int32)), (.ref b11), (.ref b11)])) (fun t k => XS.bipush X223.here hx rfl (hb hby d28_264) k) ?_
  refine own_by (T' := T223) (f' := (mkF m 267 #[.val (.int c0), .val (.int c1), .val (.int c2), .val (.int c3)] [(.int c3), (.int (53 : Int32)), (.ref b11), (.ref b11)])) (fun t k => XS.iloadN X223.here hx rfl (hb hby d28_266) rfl k) ?_
  have _ : (53 : Int32).toInt = 53 := by decide
  refine own_stC X223 hx hZ e223 (hb hby d28_267) A226 (by first | decide | omega) (by first | decide | omega) ?_
  intro T227 h227 X227 e227 W227 A227
  show own_Go p e below _ T227 (mkF m 268 #[.val (.int c0), .val (.int c1), .val (.int c2), .val (.int c3)] [(.ref b11)])
  have sz228 : n0 ≤ h227.size := by rw [W227.size]; exact sz224
  have K229 := K225.wr W227 (Or.inr gh11)
  have N227 := Fr.snoc X227 N223 gn11
  have A230 : own_A Z h227 b11 .char 64 (own_pf 63 c0 c1 c2 c3 54) := A227.congr (fun i hi => by show (if i = (53 : Int32).toInt.toNat then nar .char c3 else (own_pf 63 c0 c1 c2 c3 53) i) = (own_pf 63 c0 c1 c2 c3 54) i; rw [show (53 : Int32).toInt.toNat = 53 from by decide, own_nc hc3]; exact own_pf_step rfl i)
  refine own_by (T' := T227) (f' := (mkF m 269 #[.val (.int c0), .val (.int c1), .val (.int c2), .val (.int c3)] [(.ref b11), (.ref b11)])) (fun t k => XS.dup X227.here hx rfl (hb hby d28_268) rfl rfl k) ?_
  refine own_by (T' := T227) (f' := (mkF m 271 #[.val (.int c0), .val (.int c1), .val (.int c2), .val (.int c3)] [(.int (54 : Int32)), (.ref b11), (.ref b11)])) (fun t k => XS.bipush X227.here hx rfl (hb hby d28_269) k) ?_
  refine own_by (T' := T227) (f' := (mkF m 272 #[.val (.int c0), .val (.int c1), .val (.int c2), .val (.int c3)] [(.int c3), (.int (54 : Int32)), (.ref b11), (.ref b11)])) (fun t k => XS.iloadN X227.here hx rfl (hb hby d28_271) rfl k) ?_
  have _ : (54 : Int32).toInt = 54 := by decide
  refine own_stC X227 hx hZ e227 (hb hby d28_272) A230 (by first | decide | omega) (by first | decide | omega) ?_
  intro T231 h231 X231 e231 W231 A231
  show own_Go p e below _ T231 (mkF m 273 #[.val (.int c0), .val (.int c1), .val (.int c2), .val (.int c3)] [(.ref b11)])
  have sz232 : n0 ≤ h231.size := by rw [W231.size]; exact sz228
  have K233 := K229.wr W231 (Or.inr gh11)
  have N231 := Fr.snoc X231 N227 gn11
  have A234 : own_A Z h231 b11 .char 64 (own_pf 63 c0 c1 c2 c3 55) := A231.congr (fun i hi => by show (if i = (54 : Int32).toInt.toNat then nar .char c3 else (own_pf 63 c0 c1 c2 c3 54) i) = (own_pf 63 c0 c1 c2 c3 55) i; rw [show (54 : Int32).toInt.toNat = 54 from by decide, own_nc hc3]; exact own_pf_step rfl i)
  refine own_by (T' := T231) (f' := (mkF m 274 #[.val (.int c0), .val (.int c1), .val (.int c2), .val (.int c3)] [(.ref b11), (.ref b11)])) (fun t k => XS.dup X231.here hx rfl (hb hby d28_273) rfl rfl k) ?_
  refine own_by (T' := T231) (f' := (mkF m 276 #[.val (.int c0), .val (.int c1), .val (.int c2), .val (.int c3)] [(.int (55 : Int32)), (.ref b11), (.ref b11)])) (fun t k => XS.bipush X231.here hx rfl (hb hby d28_274) k) ?_
  refine own_by (T' := T231) (f' := (mkF m 277 #[.val (.int c0), .val (.int c1), .val (.int c2), .val (.int c3)] [(.int c3), (.int (55 : Int32)), (.ref b11), (.ref b11)])) (fun t k => XS.iloadN X231.here hx rfl (hb hby d28_276) rfl k) ?_
  have _ : (55 : Int32).toInt = 55 := by decide
  refine own_stC X231 hx hZ e231 (hb hby d28_277) A234 (by first | decide | omega) (by first | decide | omega) ?_
  intro T235 h235 X235 e235 W235 A235
  show own_Go p e below _ T235 (mkF m 278 #[.val (.int c0), .val (.int c1), .val (.int c2), .val (.int c3)] [(.ref b11)])
  have sz236 : n0 ≤ h235.size := by rw [W235.size]; exact sz232
  have K237 := K233.wr W235 (Or.inr gh11)
  have N235 := Fr.snoc X235 N231 gn11
  have A238 : own_A Z h235 b11 .char 64 (own_pf 63 c0 c1 c2 c3 56) := A235.congr (fun i hi => by show (if i = (55 : Int32).toInt.toNat then nar .char c3 else (own_pf 63 c0 c1 c2 c3 55) i) = (own_pf 63 c0 c1 c2 c3 56) i; rw [show (55 : Int32).toInt.toNat = 55 from by decide, own_nc hc3]; exact own_pf_step rfl i)
  refine own_by (T' := T235) (f' := (mkF m 279 #[.val (.int c0), .val (.int c1), .val (.int c2), .val (.int c3)] [(.ref b11), (.ref b11)])) (fun t k => XS.dup X235.here hx rfl (hb hby d28_278) rfl rfl k) ?_
  refine own_by (T' := T235) (f' := (mkF m 281 #[.val (.int c0), .val (.int c1), .val (.int c2), .val (.int c3)] [(.int (56 : Int32)), (.ref b11), (.ref b11)])) (fun t k => XS.bipush X235.here hx rfl (hb hby d28_279) k) ?_
  refine own_by (T' := T235) (f' := (mkF m 282 #[.val (.int c0), .val (.int c1), .val (.int c2), .val (.int c3)] [(.int c3), (.int (56 : Int32)), (.ref b11), (.ref b11)])) (fun t k => XS.iloadN X235.here hx rfl (hb hby d28_281) rfl k) ?_
  have _ : (56 : Int32).toInt = 56 := by decide
  refine own_stC X235 hx hZ e235 (hb hby d28_282) A238 (by first | decide | omega) (by first | decide | omega) ?_
  intro T239 h239 X239 e239 W239 A239
  show own_Go p e below _ T239 (mkF m 283 #[.val (.int c0), .val (.int c1), .val (.int c2), .val (.int c3)] [(.ref b11)])
  have sz240 : n0 ≤ h239.size := by rw [W239.size]; exact sz236
  have K241 := K237.wr W239 (Or.inr gh11)
  have N239 := Fr.snoc X239 N235 gn11
  have A242 : own_A Z h239 b11 .char 64 (own_pf 63 c0 c1 c2 c3 57) := A239.congr (fun i hi => by show (if i = (56 : Int32).toInt.toNat then nar .char c3 else (own_pf 63 c0 c1 c2 c3 56) i) = (own_pf 63 c0 c1 c2 c3 57) i; rw [show (56 : Int32).toInt.toNat = 56 from by decide, own_nc hc3]; exact own_pf_step rfl i)
  refine own_by (T' := T239) (f' := (mkF m 284 #[.val (.int c0), .val (.int c1), .val (.int c2), .val (.int c3)] [(.ref b11), (.ref b11)])) (fun t k => XS.dup X239.here hx rfl (hb hby d28_283) rfl rfl k) ?_
  refine own_by (T' := T239) (f' := (mkF m 286 #[.val (.int c0), .val (.int c1), .val (.int c2), .val (.int c3)] [(.int (57 : Int32)), (.ref b11), (.ref b11)])) (fun t k => XS.bipush X239.here hx rfl (hb hby d28_284) k) ?_
  refine own_by (T' := T239) (f' := (mkF m 287 #[.val (.int c0), .val (.int c1), .val (.int c2), .val (.int c3)] [(.int c3), (.int (57 : Int32)), (.ref b11), (.ref b11)])) (fun t k => XS.iloadN X239.here hx rfl (hb hby d28_286) rfl k) ?_
  have _ : (57 : Int32).toInt = 57 := by decide
  refine own_stC X239 hx hZ e239 (hb hby d28_287) A242 (by first | decide | omega) (by first | decide | omega) ?_
  intro T243 h243 X243 e243 W243 A243
  show own_Go p e below _ T243 (mkF m 288 #[.val (.int c0), .val (.int c1), .val (.int c2), .val (.int c3)] [(.ref b11)])
  have sz244 : n0 ≤ h243.size := by rw [W243.size]; exact sz240
  have K245 := K241.wr W243 (Or.inr gh11)
  have N243 := Fr.snoc X243 N239 gn11
  have A246 : own_A Z h243 b11 .char 64 (own_pf 63 c0 c1 c2 c3 58) := A243.congr (fun i hi => by show (if i = (57 : Int32).toInt.toNat then nar .char c3 else (own_pf 63 c0 c1 c2 c3 57) i) = (own_pf 63 c0 c1 c2 c3 58) i; rw [show (57 : Int32).toInt.toNat = 57 from by decide, own_nc hc3]; exact own_pf_step rfl i)
  refine own_by (T' := T243) (f' := (mkF m 289 #[.val (.int c0), .val (.int c1), .val (.int c2), .val (.int c3)] [(.ref b11), (.ref b11)])) (fun t k => XS.dup X243.here hx rfl (hb hby d28_288) rfl rfl k) ?_
  refine own_by (T' := T243) (f' := (mkF m 291 #[.val (.int c0), .val (.int c1), .val (.int c2), .val (.int c3)] [(.int (58 : Int32)), (.ref b11), (.ref b11)])) (fun t k => XS.bipush X243.here hx rfl (hb hby d28_289) k) ?_
  refine own_by (T' := T243) (f' := (mkF m 292 #[.val (.int c0), .val (.int c1), .val (.int c2), .val (.int c3)] [(.int c3), (.int (58 : Int32)), (.ref b11), (.ref b11)])) (fun t k => XS.iloadN X243.here hx rfl (hb hby d28_291) rfl k) ?_
  have _ : (58 : Int32).toInt = 58 := by decide
  refine own_stC X243 hx hZ e243 (hb hby d28_292) A246 (by first | decide | omega) (by first | decide | omega) ?_
  intro T247 h247 X247 e247 W247 A247
  show own_Go p e below _ T247 (mkF m 293 #[.val (.int c0), .val (.int c1), .val (.int c2), .val (.int c3)] [(.ref b11)])
  have sz248 : n0 ≤ h247.size := by rw [W247.size]; exact sz244
  have K249 := K245.wr W247 (Or.inr gh11)
  have N247 := Fr.snoc X247 N243 gn11
  have A250 : own_A Z h247 b11 .char 64 (own_pf 63 c0 c1 c2 c3 59) := A247.congr (fun i hi => by show (if i = (58 : Int32).toInt.toNat then nar .char c3 else (own_pf 63 c0 c1 c2 c3 58) i) = (own_pf 63 c0 c1 c2 c3 59) i; rw [show (58 : Int32).toInt.toNat = 58 from by decide, own_nc hc3]; exact own_pf_step rfl i)
  refine own_by (T' := T247) (f' := (mkF m 294 #[.val (.int c0), .val (.int c1), .val (.int c2), .val (.int c3)] [(.ref b11), (.ref b11)])) (fun t k => XS.dup X247.here hx rfl (hb hby d28_293) rfl rfl k) ?_
  refine own_by (T' := T247) (f' := (mkF m 296 #[.val (.int c0), .val (.int c1), .val (.int c2), .val (.int c3)] [(.int (59 : Int32)), (.ref b11), (.ref b11)])) (fun t k => XS.bipush X247.here hx rfl (hb hby d28_294) k) ?_
  refine own_by (T' := T247) (f' := (mkF m 297 #[.val (.int c0), .val (.int c1), .val (.int c2), .val (.int c3)] [(.int c3), (.int (59 : Int32)), (.ref b11), (.ref b11)])) (fun t k => XS.iloadN X247.here hx rfl (hb hby d28_296) rfl k) ?_
  have _ : (59 : Int32).toInt = 59 := by decide
  refine own_stC X247 hx hZ e247 (hb hby d28_297) A250 (by first | decide | omega) (by first | decide | omega) ?_
  intro T251 h251 X251 e251 W251 A251
  show own_Go p e below _ T251 (mkF m 298 #[.val (.int c0), .val (.int c1), .val (.int c2), .val (.int c3)] [(.ref b11)])
  have sz252 : n0 ≤ h251.size := by rw [W251.size]; exact sz248
  have K253 := K249.wr W251 (Or.inr gh11)
  have N251 := Fr.snoc X251 N247 gn11
  have A254 : own_A Z h251 b11 .char 64 (own_pf 63 c0 c1 c2 c3 60) := A251.congr (fun i hi => by show (if i = (59 : Int32).toInt.toNat then nar .char c3 else (own_pf 63 c0 c1 c2 c3 59) i) = (own_pf 63 c0 c1 c2 c3 60) i; rw [show (59 : Int32).toInt.toNat = 59 from by decide, own_nc hc3]; exact own_pf_step rfl i)
  refine own_by (T' := T251) (f' := (mkF m 299 #[.val (.int c0), .val (.int c1), .val (.int c2), .val (.int c3)] [(.ref b11), (.ref b11)])) (fun t k => XS.dup X251.here hx rfl (hb hby d28_298) rfl rfl k) ?_
  refine own_by (T' := T251) (f' := (mkF m 301 #[.val (.int c0), .val (.int c1), .val (.int c2), .val (.int c3)] [(.int (60 : Int32)), (.ref b11), (.ref b11)])) (fun t k => XS.bipush X251.here hx rfl (hb hby d28_299) k) ?_
  refine own_by (T' := T251) (f' := (mkF m 302 #[.val (.int c0), .val (.int c1), .val (.int c2), .val (.int c3)] [(.int c3), (.int (60 : Int32)), (.ref b11), (.ref b11)])) (fun t k => XS.iloadN X251.here hx rfl (hb hby d28_301) rfl k) ?_
  have _ : (60 : Int32).toInt = 60 := by decide
  refine own_stC X251 hx hZ e251 (hb hby d28_302) A254 (by first | decide | omega) (by first | decide | omega) ?_
  intro T255 h255 X255 e255 W255 A255
  show own_Go p e below _ T255 (mkF m 303 #[.val (.int c0), .val (.int c1), .val (.int c2), .val (.int c3)] [(.ref b11)])
  have sz256 : n0 ≤ h255.size := by rw [W255.size]; exact sz252
  have K257 := K253.wr W255 (Or.inr gh11)
  have N255 := Fr.snoc X255 N251 gn11
  have A258 : own_A Z h255 b11 .char 64 (own_pf 63 c0 c1 c2 c3 61) := A255.congr (fun i hi => by show (if i = (60 : Int32).toInt.toNat then nar .char c3 else (own_pf 63 c0 c1 c2 c3 60) i) = (own_pf 63 c0 c1 c2 c3 61) i; rw [show (60 : Int32).toInt.toNat = 60 from by decide, own_nc hc3]; exact own_pf_step rfl i)
  refine own_by (T' := T255) (f' := (mkF m 304 #[.val (.int c0), .val (.int c1), .val (.int c2), .val (.int c3)] [(.ref b11), (.ref b11)])) (fun t k => XS.dup X255.here hx rfl (hb hby d28_303) rfl rfl k) ?_
  refine own_by (T' := T255) (f' := (mkF m 306 #[.val (.int c0), .val (.int c1), .val (.int c2), .val (.int c3)] [(.int (61 : Int32)), (.ref b11), (.ref b11)])) (fun t k => XS.bipush X255.here hx rfl (hb hby d28_304) k) ?_
  refine own_by (T' := T255) (f' := (mkF m 307 #[.val (.int c0), .val (.int c1), .val (.int c2), .val (.int c3)] [(.int c3), (.int (61 : Int32)), (.ref b11), (.ref b11)])) (fun t k => XS.iloadN X255.here hx rfl (hb hby d28_306) rfl k) ?_
  have _ : (61 : Int32).toInt = 61 := by decide
  refine own_stC X255 hx hZ e255 (hb hby d28_307) A258 (by first | decide | omega) (by first | decide | omega) ?_
  intro T259 h259 X259 e259 W259 A259
  show own_Go p e below _ T259 (mkF m 308 #[.val (.int c0), .val (.int c1), .val (.int c2), .val (.int c3)] [(.ref b11)])
  have sz260 : n0 ≤ h259.size := by rw [W259.size]; exact sz256
  have K261 := K257.wr W259 (Or.inr gh11)
  have N259 := Fr.snoc X259 N255 gn11
  have A262 : own_A Z h259 b11 .char 64 (own_pf 63 c0 c1 c2 c3 62) := A259.congr (fun i hi => by show (if i = (61 : Int32).toInt.toNat then nar .char c3 else (own_pf 63 c0 c1 c2 c3 61) i) = (own_pf 63 c0 c1 c2 c3 62) i; rw [show (61 : Int32).toInt.toNat = 61 from by decide, own_nc hc3]; exact own_pf_step rfl i)
  refine own_by (T' := T259) (f' := (mkF m 309 #[.val (.int c0), .val (.int c1), .val (.int c2), .val (.int c3)] [(.ref b11), (.ref b11)])) (fun t k => XS.dup X259.here hx rfl (hb hby d28_308) rfl rfl k) ?_
  refine own_by (T' := T259) (f' := (mkF m 311 #[.val (.int c0), .val (.int c1), .val (.int c2), .val (.int c3)] [(.int (62 : Int32)), (.ref b11), (.ref b11)])) (fun t k => XS.bipush X259.here hx rfl (hb hby d28_309) k) ?_
  refine own_by (T' := T259) (f' := (mkF m 312 #[.val (.int c0), .val (.int c1), .val (.int c2), .val (.int c3)] [(.int c3), (.int (62 : Int32)), (.ref b11), (.ref b11)])) (fun t k => XS.iloadN X259.here hx rfl (hb hby d28_311) rfl k) ?_
  have _ : (62 : Int32).toInt = 62 := by decide
  refine own_stC X259 hx hZ e259 (hb hby d28_312) A262 (by first | decide | omega) (by first | decide | omega) ?_
  intro T263 h263 X263 e263 W263 A263
  show own_Go p e below _ T263 (mkF m 313 #[.val (.int c0), .val (.int c1), .val (.int c2), .val (.int c3)] [(.ref b11)])
  have sz264 : n0 ≤ h263.size := by rw [W263.size]; exact sz260
  have K265 := K261.wr W263 (Or.inr gh11)
  have N263 := Fr.snoc X263 N259 gn11
  have A266 : own_A Z h263 b11 .char 64 (own_pf 63 c0 c1 c2 c3 63) := A263.congr (fun i hi => by show (if i = (62 : Int32).toInt.toNat then nar .char c3 else (own_pf 63 c0 c1 c2 c3 62) i) = (own_pf 63 c0 c1 c2 c3 63) i; rw [show (62 : Int32).toInt.toNat = 62 from by decide, own_nc hc3]; exact own_pf_step rfl i)
  refine own_by (T' := T263) (f' := (mkF m 314 #[.val (.int c0), .val (.int c1), .val (.int c2), .val (.int c3)] [(.ref b11), (.ref b11)])) (fun t k => XS.dup X263.here hx rfl (hb hby d28_313) rfl rfl k) ?_
  refine own_by (T' := T263) (f' := (mkF m 316 #[.val (.int c0), .val (.int c1), .val (.int c2), .val (.int c3)] [(.int (63 : Int32)), (.ref b11), (.ref b11)])) (fun t k => XS.bipush X263.here hx rfl (hb hby d28_314) k) ?_
  refine own_by (T' := T263) (f' := (mkF m 317 #[.val (.int c0), .val (.int c1), .val (.int c2), .val (.int c3)] [(.int c2), (.int (63 : Int32)), (.ref b11), (.ref b11)])) (fun t k => XS.iloadN X263.here hx rfl (hb hby d28_316) rfl k) ?_
  have _ : (63 : Int32).toInt = 63 := by decide
  refine own_stC X263 hx hZ e263 (hb hby d28_317) A266 (by first | decide | omega) (by first | decide | omega) ?_
  intro T267 h267 X267 e267 W267 A267
  show own_Go p e below _ T267 (mkF m 318 #[.val (.int c0), .val (.int c1), .val (.int c2), .val (.int c3)] [(.ref b11)])
  have sz268 : n0 ≤ h267.size := by rw [W267.size]; exact sz264
  have K269 := K265.wr W267 (Or.inr gh11)
  have N267 := Fr.snoc X267 N263 gn11
  have A270 : own_A Z h267 b11 .char 64 (own_pf 63 c0 c1 c2 c3 64) := A267.congr (fun i hi => by show (if i = (63 : Int32).toInt.toNat then nar .char c2 else (own_pf 63 c0 c1 c2 c3 63) i) = (own_pf 63 c0 c1 c2 c3 64) i; rw [show (63 : Int32).toInt.toNat = 63 from by decide, own_nc hc2]; exact own_pf_step rfl i)
  have A271 : own_A Z h267 b11 .char 64 (own_pt 63 c0 c1 c2 c3) := A270.congr (fun i hi => by show (own_pf 63 c0 c1 c2 c3 64) i = _; unfold own_pf; rw [if_pos hi])
  refine own_retA X267 hx hret hlk (hb hby d28_318) rfl rfl rfl (by decide) (by decide) ?_
  try rw [e267]
  exact ⟨b11, rfl, N267, K269, gh11, A271⟩
theorem ef_rm65 (m : MethodId) (x0 : Int32) (x1 : Int32) (x2 : Int32) (x3 : Int32) : entryFrame m #[(.int x0), (.int x1), (.int x2), (.int x3)] 4 = mkF m 0 #[.val (.int x0), .val (.int x1), .val (.int x2), .val (.int x3)] [] := by first | (simp [entryFrame, mkF, argsToLocals, Value.category]; done) | rfl
set_option maxRecDepth 65536 in
set_option maxHeartbeats 40000000 in
theorem rm65 (l : Launch) (Z : State) (a0 : Array Value) (hw : ∀ d ∈ tables_1, d.before a0 Z = true) (ws : List Jvm.Cond) (c0 c1 c2 c3 : Int32) (h0 : Heap) (n0 : Nat) (Z0 : n0 ≤ h0.size) (hc0 : 0 ≤ c0.toInt ∧ c0.toInt < 65536) (hc1 : 0 ≤ c1.toInt ∧ c1.toInt < 65536) (hc2 : 0 ≤ c2.toInt ∧ c2.toInt < 65536) (hc3 : 0 ≤ c3.toInt ∧ c3.toInt < 65536) :
    own_Ct l Z (⟨"com/example/bewaker/bewaker/fhir/InteractionIsIdPinLaw", "long65", "(CCCC)[C"⟩ : MethodName) method_4_code 4 (some (.array .char)) ws ({ frames := 0, cells := 1, slots := 65, locals := 0 } : Room) #[(.int c0), (.int c1), (.int c2), (.int c3)] h0 (fun v h L => ∃ b : Addr, v = some (.ref b) ∧ Fr n0 L ∧ Keep h0 h [] ∧ h0.size ≤ b ∧ own_A Z h b .char 65 (own_pt 64 c0 c1 c2 c3)) := by
  refine own_of (plainFor_of_name pn_com_example_bewaker_bewaker_fhir_InteractionIsIdPinLaw) ?_
  intro p e s m below meth c s₁ hx hby hml hown hnm hret hlk hZ X0 e0
  have N0 := Fr.nil n0
  have K0 := Keep.refl h0 []
  rw [ef_rm65]
  refine own_by (T' := s₁) (f' := (mkF m 2 #[.val (.int c0), .val (.int c1), .val (.int c2), .val (.int c3)] [(.int (65 : Int32))])) (fun t k => XS.bipush X0.here hx rfl (hb hby d19_0) k) ?_
  refine own_mkA X0 hx hZ e0 (hb hby d19_2) (hw _ (List.mem_of_getElem? (i := 4) rfl)) (v := 0) rfl (by decide) 65 (by decide) (by decide) (by decide) (by decide) ?_
  intro T11 h11 b11 X11 e11 g11 E11 A11r
  have gn11 : n0 ≤ b11 := by rw [g11]; exact Z0
  have gh11 : h0.size ≤ b11 := by rw [g11]; exact K0.1
  show own_Go p e below _ T11 (mkF m 4 #[.val (.int c0), .val (.int c1), .val (.int c2), .val (.int c3)] [(.ref b11)])
  have A11 : own_A Z h11 b11 .char 65 (fun _ => 0) := A11r
  have sz12 : n0 ≤ h11.size := Nat.le_trans Z0 E11.1
  have K13 := K0.ext E11
  have A14 : own_A Z h11 b11 .char 65 (own_pf 64 c0 c1 c2 c3 0) := A11.congr (fun i hi => by show (0 : Int32) = (own_pf 64 c0 c1 c2 c3 0) i; unfold own_pf; rw [if_neg (by omega)])
  refine own_by (T' := T11) (f' := (mkF m 5 #[.val (.int c0), .val (.int c1), .val (.int c2), .val (.int c3)] [(.ref b11), (.ref b11)])) (fun t k => XS.dup X11.here hx rfl (hb hby d19_4) rfl rfl k) ?_
  refine own_by (T' := T11) (f' := (mkF m 6 #[.val (.int c0), .val (.int c1), .val (.int c2), .val (.int c3)] [(.int (0 : Int32)), (.ref b11), (.ref b11)])) (fun t k => XS.iconst X11.here hx rfl (hb hby d19_5) k) ?_
  refine own_by (T' := T11) (f' := (mkF m 7 #[.val (.int c0), .val (.int c1), .val (.int c2), .val (.int c3)] [(.int c0), (.int (0 : Int32)), (.ref b11), (.ref b11)])) (fun t k => XS.iloadN X11.here hx rfl (hb hby d19_6) rfl k) ?_
  have _ : (0 : Int32).toInt = 0 := by decide
  refine own_stC X11 hx hZ e11 (hb hby d19_7) A14 (by first | decide | omega) (by first | decide | omega) ?_
  intro T15 h15 X15 e15 W15 A15
  show own_Go p e below _ T15 (mkF m 8 #[.val (.int c0), .val (.int c1), .val (.int c2), .val (.int c3)] [(.ref b11)])
  have sz16 : n0 ≤ h15.size := by rw [W15.size]; exact sz12
  have K17 := K13.wr W15 (Or.inr gh11)
  have N15 := Fr.snoc X15 N0 gn11
  have A18 : own_A Z h15 b11 .char 65 (own_pf 64 c0 c1 c2 c3 1) := A15.congr (fun i hi => by show (if i = (0 : Int32).toInt.toNat then nar .char c0 else (own_pf 64 c0 c1 c2 c3 0) i) = (own_pf 64 c0 c1 c2 c3 1) i; rw [show (0 : Int32).toInt.toNat = 0 from by decide, own_nc hc0]; exact own_pf_step rfl i)
  refine own_by (T' := T15) (f' := (mkF m 9 #[.val (.int c0), .val (.int c1), .val (.int c2), .val (.int c3)] [(.ref b11), (.ref b11)])) (fun t k => XS.dup X15.here hx rfl (hb hby d19_8) rfl rfl k) ?_
  refine own_by (T' := T15) (f' := (mkF m 10 #[.val (.int c0), .val (.int c1), .val (.int c2), .val (.int c3)] [(.int (1 : Int32)), (.ref b11), (.ref b11)])) (fun t k => XS.iconst X15.here hx rfl (hb hby d19_9) k) ?_
  refine own_by (T' := T15) (f' := (mkF m 11 #[.val (.int c0), .val (.int c1), .val (.int c2), .val (.int c3)] [(.int c3), (.int (1 : Int32)), (.ref b11), (.ref b11)])) (fun t k => XS.iloadN X15.here hx rfl (hb hby d19_10) rfl k) ?_
  have _ : (1 : Int32).toInt = 1 := by decide
  refine own_stC X15 hx hZ e15 (hb hby d19_11) A18 (by first | decide | omega) (by first | decide | omega) ?_
  intro T19 h19 X19 e19 W19 A19
  show own_Go p e below _ T19 (mkF m 12 #[.val (.int c0), .val (.int c1), .val (.int c2), .val (.int c3)] [(.ref b11)])
  have sz20 : n0 ≤ h19.size := by rw [W19.size]; exact sz16
  have K21 := K17.wr W19 (Or.inr gh11)
  have N19 := Fr.snoc X19 N15 gn11
  have A22 : own_A Z h19 b11 .char 65 (own_pf 64 c0 c1 c2 c3 2) := A19.congr (fun i hi => by show (if i = (1 : Int32).toInt.toNat then nar .char c3 else (own_pf 64 c0 c1 c2 c3 1) i) = (own_pf 64 c0 c1 c2 c3 2) i; rw [show (1 : Int32).toInt.toNat = 1 from by decide, own_nc hc3]; exact own_pf_step rfl i)
  refine own_by (T' := T19) (f' := (mkF m 13 #[.val (.int c0), .val (.int c1), .val (.int c2), .val (.int c3)] [(.ref b11), (.ref b11)])) (fun t k => XS.dup X19.here hx rfl (hb hby d19_12) rfl rfl k) ?_
  refine own_by (T' := T19) (f' := (mkF m 14 #[.val (.int c0), .val (.int c1), .val (.int c2), .val (.int c3)] [(.int (2 : Int32)), (.ref b11), (.ref b11)])) (fun t k => XS.iconst X19.here hx rfl (hb hby d19_13) k) ?_
  refine own_by (T' := T19) (f' := (mkF m 15 #[.val (.int c0), .val (.int c1), .val (.int c2), .val (.int c3)] [(.int c3), (.int (2 : Int32)), (.ref b11), (.ref b11)])) (fun t k => XS.iloadN X19.here hx rfl (hb hby d19_14) rfl k) ?_
  have _ : (2 : Int32).toInt = 2 := by decide
  refine own_stC X19 hx hZ e19 (hb hby d19_15) A22 (by first | decide | omega) (by first | decide | omega) ?_
  intro T23 h23 X23 e23 W23 A23
  show own_Go p e below _ T23 (mkF m 16 #[.val (.int c0), .val (.int c1), .val (.int c2), .val (.int c3)] [(.ref b11)])
  have sz24 : n0 ≤ h23.size := by rw [W23.size]; exact sz20
  have K25 := K21.wr W23 (Or.inr gh11)
  have N23 := Fr.snoc X23 N19 gn11
  have A26 : own_A Z h23 b11 .char 65 (own_pf 64 c0 c1 c2 c3 3) := A23.congr (fun i hi => by show (if i = (2 : Int32).toInt.toNat then nar .char c3 else (own_pf 64 c0 c1 c2 c3 2) i) = (own_pf 64 c0 c1 c2 c3 3) i; rw [show (2 : Int32).toInt.toNat = 2 from by decide, own_nc hc3]; exact own_pf_step rfl i)
  refine own_by (T' := T23) (f' := (mkF m 17 #[.val (.int c0), .val (.int c1), .val (.int c2), .val (.int c3)] [(.ref b11), (.ref b11)])) (fun t k => XS.dup X23.here hx rfl (hb hby d19_16) rfl rfl k) ?_
  refine own_by (T' := T23) (f' := (mkF m 18 #[.val (.int c0), .val (.int c1), .val (.int c2), .val (.int c3)] [(.int (3 : Int32)), (.ref b11), (.ref b11)])) (fun t k => XS.iconst X23.here hx rfl (hb hby d19_17) k) ?_
  refine own_by (T' := T23) (f' := (mkF m 19 #[.val (.int c0), .val (.int c1), .val (.int c2), .val (.int c3)] [(.int c3), (.int (3 : Int32)), (.ref b11), (.ref b11)])) (fun t k => XS.iloadN X23.here hx rfl (hb hby d19_18) rfl k) ?_
  have _ : (3 : Int32).toInt = 3 := by decide
  refine own_stC X23 hx hZ e23 (hb hby d19_19) A26 (by first | decide | omega) (by first | decide | omega) ?_
  intro T27 h27 X27 e27 W27 A27
  show own_Go p e below _ T27 (mkF m 20 #[.val (.int c0), .val (.int c1), .val (.int c2), .val (.int c3)] [(.ref b11)])
  have sz28 : n0 ≤ h27.size := by rw [W27.size]; exact sz24
  have K29 := K25.wr W27 (Or.inr gh11)
  have N27 := Fr.snoc X27 N23 gn11
  have A30 : own_A Z h27 b11 .char 65 (own_pf 64 c0 c1 c2 c3 4) := A27.congr (fun i hi => by show (if i = (3 : Int32).toInt.toNat then nar .char c3 else (own_pf 64 c0 c1 c2 c3 3) i) = (own_pf 64 c0 c1 c2 c3 4) i; rw [show (3 : Int32).toInt.toNat = 3 from by decide, own_nc hc3]; exact own_pf_step rfl i)
  refine own_by (T' := T27) (f' := (mkF m 21 #[.val (.int c0), .val (.int c1), .val (.int c2), .val (.int c3)] [(.ref b11), (.ref b11)])) (fun t k => XS.dup X27.here hx rfl (hb hby d19_20) rfl rfl k) ?_
  refine own_by (T' := T27) (f' := (mkF m 22 #[.val (.int c0), .val (.int c1), .val (.int c2), .val (.int c3)] [(.int (4 : Int32)), (.ref b11), (.ref b11)])) (fun t k => XS.iconst X27.here hx rfl (hb hby d19_21) k) ?_
  refine own_by (T' := T27) (f' := (mkF m 23 #[.val (.int c0), .val (.int c1), .val (.int c2), .val (.int c3)] [(.int c3), (.int (4 : Int32)), (.ref b11), (.ref b11)])) (fun t k => XS.iloadN X27.here hx rfl (hb hby d19_22) rfl k) ?_
  have _ : (4 : Int32).toInt = 4 := by decide
  refine own_stC X27 hx hZ e27 (hb hby d19_23) A30 (by first | decide | omega) (by first | decide | omega) ?_
  intro T31 h31 X31 e31 W31 A31
  show own_Go p e below _ T31 (mkF m 24 #[.val (.int c0), .val (.int c1), .val (.int c2), .val (.int c3)] [(.ref b11)])
  have sz32 : n0 ≤ h31.size := by rw [W31.size]; exact sz28
  have K33 := K29.wr W31 (Or.inr gh11)
  have N31 := Fr.snoc X31 N27 gn11
  have A34 : own_A Z h31 b11 .char 65 (own_pf 64 c0 c1 c2 c3 5) := A31.congr (fun i hi => by show (if i = (4 : Int32).toInt.toNat then nar .char c3 else (own_pf 64 c0 c1 c2 c3 4) i) = (own_pf 64 c0 c1 c2 c3 5) i; rw [show (4 : Int32).toInt.toNat = 4 from by decide, own_nc hc3]; exact own_pf_step rfl i)
  refine own_by (T' := T31) (f' := (mkF m 25 #[.val (.int c0), .val (.int c1), .val (.int c2), .val (.int c3)] [(.ref b11), (.ref b11)])) (fun t k => XS.dup X31.here hx rfl (hb hby d19_24) rfl rfl k) ?_
  refine own_by (T' := T31) (f' := (mkF m 26 #[.val (.int c0), .val (.int c1), .val (.int c2), .val (.int c3)] [(.int (5 : Int32)), (.ref b11), (.ref b11)])) (fun t k => XS.iconst X31.here hx rfl (hb hby d19_25) k) ?_
  refine own_by (T' := T31) (f' := (mkF m 27 #[.val (.int c0), .val (.int c1), .val (.int c2), .val (.int c3)] [(.int c3), (.int (5 : Int32)), (.ref b11), (.ref b11)])) (fun t k => XS.iloadN X31.here hx rfl (hb hby d19_26) rfl k) ?_
  have _ : (5 : Int32).toInt = 5 := by decide
  refine own_stC X31 hx hZ e31 (hb hby d19_27) A34 (by first | decide | omega) (by first | decide | omega) ?_
  intro T35 h35 X35 e35 W35 A35
  show own_Go p e below _ T35 (mkF m 28 #[.val (.int c0), .val (.int c1), .val (.int c2), .val (.int c3)] [(.ref b11)])
  have sz36 : n0 ≤ h35.size := by rw [W35.size]; exact sz32
  have K37 := K33.wr W35 (Or.inr gh11)
  have N35 := Fr.snoc X35 N31 gn11
  have A38 : own_A Z h35 b11 .char 65 (own_pf 64 c0 c1 c2 c3 6) := A35.congr (fun i hi => by show (if i = (5 : Int32).toInt.toNat then nar .char c3 else (own_pf 64 c0 c1 c2 c3 5) i) = (own_pf 64 c0 c1 c2 c3 6) i; rw [show (5 : Int32).toInt.toNat = 5 from by decide, own_nc hc3]; exact own_pf_step rfl i)
  refine own_by (T' := T35) (f' := (mkF m 29 #[.val (.int c0), .val (.int c1), .val (.int c2), .val (.int c3)] [(.ref b11), (.ref b11)])) (fun t k => XS.dup X35.here hx rfl (hb hby d19_28) rfl rfl k) ?_
  refine own_by (T' := T35) (f' := (mkF m 31 #[.val (.int c0), .val (.int c1), .val (.int c2), .val (.int c3)] [(.int (6 : Int32)), (.ref b11), (.ref b11)])) (fun t k => XS.bipush X35.here hx rfl (hb hby d19_29) k) ?_
  refine own_by (T' := T35) (f' := (mkF m 32 #[.val (.int c0), .val (.int c1), .val (.int c2), .val (.int c3)] [(.int c3), (.int (6 : Int32)), (.ref b11), (.ref b11)])) (fun t k => XS.iloadN X35.here hx rfl (hb hby d19_31) rfl k) ?_
  have _ : (6 : Int32).toInt = 6 := by decide
  refine own_stC X35 hx hZ e35 (hb hby d19_32) A38 (by first | decide | omega) (by first | decide | omega) ?_
  intro T39 h39 X39 e39 W39 A39
  show own_Go p e below _ T39 (mkF m 33 #[.val (.int c0), .val (.int c1), .val (.int c2), .val (.int c3)] [(.ref b11)])
  have sz40 : n0 ≤ h39.size := by rw [W39.size]; exact sz36
  have K41 := K37.wr W39 (Or.inr gh11)
  have N39 := Fr.snoc X39 N35 gn11
  have A42 : own_A Z h39 b11 .char 65 (own_pf 64 c0 c1 c2 c3 7) := A39.congr (fun i hi => by show (if i = (6 : Int32).toInt.toNat then nar .char c3 else (own_pf 64 c0 c1 c2 c3 6) i) = (own_pf 64 c0 c1 c2 c3 7) i; rw [show (6 : Int32).toInt.toNat = 6 from by decide, own_nc hc3]; exact own_pf_step rfl i)
  refine own_by (T' := T39) (f' := (mkF m 34 #[.val (.int c0), .val (.int c1), .val (.int c2), .val (.int c3)] [(.ref b11), (.ref b11)])) (fun t k => XS.dup X39.here hx rfl (hb hby d19_33) rfl rfl k) ?_
  refine own_by (T' := T39) (f' := (mkF m 36 #[.val (.int c0), .val (.int c1), .val (.int c2), .val (.int c3)] [(.int (7 : Int32)), (.ref b11), (.ref b11)])) (fun t k => XS.bipush X39.here hx rfl (hb hby d19_34) k) ?_
  refine own_by (T' := T39) (f' := (mkF m 37 #[.val (.int c0), .val (.int c1), .val (.int c2), .val (.int c3)] [(.int c3), (.int (7 : Int32)), (.ref b11), (.ref b11)])) (fun t k => XS.iloadN X39.here hx rfl (hb hby d19_36) rfl k) ?_
  have _ : (7 : Int32).toInt = 7 := by decide
  refine own_stC X39 hx hZ e39 (hb hby d19_37) A42 (by first | decide | omega) (by first | decide | omega) ?_
  intro T43 h43 X43 e43 W43 A43
  show own_Go p e below _ T43 (mkF m 38 #[.val (.int c0), .val (.int c1), .val (.int c2), .val (.int c3)] [(.ref b11)])
  have sz44 : n0 ≤ h43.size := by rw [W43.size]; exact sz40
  have K45 := K41.wr W43 (Or.inr gh11)
  have N43 := Fr.snoc X43 N39 gn11
  have A46 : own_A Z h43 b11 .char 65 (own_pf 64 c0 c1 c2 c3 8) := A43.congr (fun i hi => by show (if i = (7 : Int32).toInt.toNat then nar .char c3 else (own_pf 64 c0 c1 c2 c3 7) i) = (own_pf 64 c0 c1 c2 c3 8) i; rw [show (7 : Int32).toInt.toNat = 7 from by decide, own_nc hc3]; exact own_pf_step rfl i)
  refine own_by (T' := T43) (f' := (mkF m 39 #[.val (.int c0), .val (.int c1), .val (.int c2), .val (.int c3)] [(.ref b11), (.ref b11)])) (fun t k => XS.dup X43.here hx rfl (hb hby d19_38) rfl rfl k) ?_
  refine own_by (T' := T43) (f' := (mkF m 41 #[.val (.int c0), .val (.int c1), .val (.int c2), .val (.int c3)] [(.int (8 : Int32)), (.ref b11), (.ref b11)])) (fun t k => XS.bipush X43.here hx rfl (hb hby d19_39) k) ?_
  refine own_by (T' := T43) (f' := (mkF m 42 #[.val (.int c0), .val (.int c1), .val (.int c2), .val (.int c3)] [(.int c3), (.int (8 : Int32)), (.ref b11), (.ref b11)])) (fun t k => XS.iloadN X43.here hx rfl (hb hby d19_41) rfl k) ?_
  have _ : (8 : Int32).toInt = 8 := by decide
  refine own_stC X43 hx hZ e43 (hb hby d19_42) A46 (by first | decide | omega) (by first | decide | omega) ?_
  intro T47 h47 X47 e47 W47 A47
  show own_Go p e below _ T47 (mkF m 43 #[.val (.int c0), .val (.int c1), .val (.int c2), .val (.int c3)] [(.ref b11)])
  have sz48 : n0 ≤ h47.size := by rw [W47.size]; exact sz44
  have K49 := K45.wr W47 (Or.inr gh11)
  have N47 := Fr.snoc X47 N43 gn11
  have A50 : own_A Z h47 b11 .char 65 (own_pf 64 c0 c1 c2 c3 9) := A47.congr (fun i hi => by show (if i = (8 : Int32).toInt.toNat then nar .char c3 else (own_pf 64 c0 c1 c2 c3 8) i) = (own_pf 64 c0 c1 c2 c3 9) i; rw [show (8 : Int32).toInt.toNat = 8 from by decide, own_nc hc3]; exact own_pf_step rfl i)
  refine own_by (T' := T47) (f' := (mkF m 44 #[.val (.int c0), .val (.int c1), .val (.int c2), .val (.int c3)] [(.ref b11), (.ref b11)])) (fun t k => XS.dup X47.here hx rfl (hb hby d19_43) rfl rfl k) ?_
  refine own_by (T' := T47) (f' := (mkF m 46 #[.val (.int c0), .val (.int c1), .val (.int c2), .val (.int c3)] [(.int (9 : Int32)), (.ref b11), (.ref b11)])) (fun t k => XS.bipush X47.here hx rfl (hb hby d19_44) k) ?_
  refine own_by (T' := T47) (f' := (mkF m 47 #[.val (.int c0), .val (.int c1), .val (.int c2), .val (.int c3)] [(.int c3), (.int (9 : Int32)), (.ref b11), (.ref b11)])) (fun t k => XS.iloadN X47.here hx rfl (hb hby d19_46) rfl k) ?_
  have _ : (9 : Int32).toInt = 9 := by decide
  refine own_stC X47 hx hZ e47 (hb hby d19_47) A50 (by first | decide | omega) (by first | decide | omega) ?_
  intro T51 h51 X51 e51 W51 A51
  show own_Go p e below _ T51 (mkF m 48 #[.val (.int c0), .val (.int c1), .val (.int c2), .val (.int c3)] [(.ref b11)])
  have sz52 : n0 ≤ h51.size := by rw [W51.size]; exact sz48
  have K53 := K49.wr W51 (Or.inr gh11)
  have N51 := Fr.snoc X51 N47 gn11
  have A54 : own_A Z h51 b11 .char 65 (own_pf 64 c0 c1 c2 c3 10) := A51.congr (fun i hi => by show (if i = (9 : Int32).toInt.toNat then nar .char c3 else (own_pf 64 c0 c1 c2 c3 9) i) = (own_pf 64 c0 c1 c2 c3 10) i; rw [show (9 : Int32).toInt.toNat = 9 from by decide, own_nc hc3]; exact own_pf_step rfl i)
  refine own_by (T' := T51) (f' := (mkF m 49 #[.val (.int c0), .val (.int c1), .val (.int c2), .val (.int c3)] [(.ref b11), (.ref b11)])) (fun t k => XS.dup X51.here hx rfl (hb hby d19_48) rfl rfl k) ?_
  refine own_by (T' := T51) (f' := (mkF m 51 #[.val (.int c0), .val (.int c1), .val (.int c2), .val (.int c3)] [(.int (10 : Int32)), (.ref b11), (.ref b11)])) (fun t k => XS.bipush X51.here hx rfl (hb hby d19_49) k) ?_
  refine own_by (T' := T51) (f' := (mkF m 52 #[.val (.int c0), .val (.int c1), .val (.int c2), .val (.int c3)] [(.int c3), (.int (10 : Int32)), (.ref b11), (.ref b11)])) (fun t k => XS.iloadN X51.here hx rfl (hb hby d19_51) rfl k) ?_
  have _ : (10 : Int32).toInt = 10 := by decide
  refine own_stC X51 hx hZ e51 (hb hby d19_52) A54 (by first | decide | omega) (by first | decide | omega) ?_
  intro T55 h55 X55 e55 W55 A55
  show own_Go p e below _ T55 (mkF m 53 #[.val (.int c0), .val (.int c1), .val (.int c2), .val (.int c3)] [(.ref b11)])
  have sz56 : n0 ≤ h55.size := by rw [W55.size]; exact sz52
  have K57 := K53.wr W55 (Or.inr gh11)
  have N55 := Fr.snoc X55 N51 gn11
  have A58 : own_A Z h55 b11 .char 65 (own_pf 64 c0 c1 c2 c3 11) := A55.congr (fun i hi => by show (if i = (10 : Int32).toInt.toNat then nar .char c3 else (own_pf 64 c0 c1 c2 c3 10) i) = (own_pf 64 c0 c1 c2 c3 11) i; rw [show (10 : Int32).toInt.toNat = 10 from by decide, own_nc hc3]; exact own_pf_step rfl i)
  refine own_by (T' := T55) (f' := (mkF m 54 #[.val (.int c0), .val (.int c1), .val (.int c2), .val (.int c3)] [(.ref b11), (.ref b11)])) (fun t k => XS.dup X55.here hx rfl (hb hby d19_53) rfl rfl k) ?_
  refine own_by (T' := T55) (f' := (mkF m 56 #[.val (.int c0), .val (.int c1), .val (.int c2), .val (.int c3)] [(.int (11 : Int32)), (.ref b11), (.ref b11)])) (fun t k => XS.bipush X55.here hx rfl (hb hby d19_54) k) ?_
  refine own_by (T' := T55) (f' := (mkF m 57 #[.val (.int c0), .val (.int c1), .val (.int c2), .val (.int c3)] [(.int c3), (.int (11 : Int32)), (.ref b11), (.ref b11)])) (fun t k => XS.iloadN X55.here hx rfl (hb hby d19_56) rfl k) ?_
  have _ : (11 : Int32).toInt = 11 := by decide
  refine own_stC X55 hx hZ e55 (hb hby d19_57) A58 (by first | decide | omega) (by first | decide | omega) ?_
  intro T59 h59 X59 e59 W59 A59
  show own_Go p e below _ T59 (mkF m 58 #[.val (.int c0), .val (.int c1), .val (.int c2), .val (.int c3)] [(.ref b11)])
  have sz60 : n0 ≤ h59.size := by rw [W59.size]; exact sz56
  have K61 := K57.wr W59 (Or.inr gh11)
  have N59 := Fr.snoc X59 N55 gn11
  have A62 : own_A Z h59 b11 .char 65 (own_pf 64 c0 c1 c2 c3 12) := A59.congr (fun i hi => by show (if i = (11 : Int32).toInt.toNat then nar .char c3 else (own_pf 64 c0 c1 c2 c3 11) i) = (own_pf 64 c0 c1 c2 c3 12) i; rw [show (11 : Int32).toInt.toNat = 11 from by decide, own_nc hc3]; exact own_pf_step rfl i)
  refine own_by (T' := T59) (f' := (mkF m 59 #[.val (.int c0), .val (.int c1), .val (.int c2), .val (.int c3)] [(.ref b11), (.ref b11)])) (fun t k => XS.dup X59.here hx rfl (hb hby d19_58) rfl rfl k) ?_
  refine own_by (T' := T59) (f' := (mkF m 61 #[.val (.int c0), .val (.int c1), .val (.int c2), .val (.int c3)] [(.int (12 : Int32)), (.ref b11), (.ref b11)])) (fun t k => XS.bipush X59.here hx rfl (hb hby d19_59) k) ?_
  refine own_by (T' := T59) (f' := (mkF m 62 #[.val (.int c0), .val (.int c1), .val (.int c2), .val (.int c3)] [(.int c3), (.int (12 : Int32)), (.ref b11), (.ref b11)])) (fun t k => XS.iloadN X59.here hx rfl (hb hby d19_61) rfl k) ?_
  have _ : (12 : Int32).toInt = 12 := by decide
  refine own_stC X59 hx hZ e59 (hb hby d19_62) A62 (by first | decide | omega) (by first | decide | omega) ?_
  intro T63 h63 X63 e63 W63 A63
  show own_Go p e below _ T63 (mkF m 63 #[.val (.int c0), .val (.int c1), .val (.int c2), .val (.int c3)] [(.ref b11)])
  have sz64 : n0 ≤ h63.size := by rw [W63.size]; exact sz60
  have K65 := K61.wr W63 (Or.inr gh11)
  have N63 := Fr.snoc X63 N59 gn11
  have A66 : own_A Z h63 b11 .char 65 (own_pf 64 c0 c1 c2 c3 13) := A63.congr (fun i hi => by show (if i = (12 : Int32).toInt.toNat then nar .char c3 else (own_pf 64 c0 c1 c2 c3 12) i) = (own_pf 64 c0 c1 c2 c3 13) i; rw [show (12 : Int32).toInt.toNat = 12 from by decide, own_nc hc3]; exact own_pf_step rfl i)
  refine own_by (T' := T63) (f' := (mkF m 64 #[.val (.int c0), .val (.int c1), .val (.int c2), .val (.int c3)] [(.ref b11), (.ref b11)])) (fun t k => XS.dup X63.here hx rfl (hb hby d19_63) rfl rfl k) ?_
  refine own_by (T' := T63) (f' := (mkF m 66 #[.val (.int c0), .val (.int c1), .val (.int c2), .val (.int c3)] [(.int (13 : Int32)), (.ref b11), (.ref b11)])) (fun t k => XS.bipush X63.here hx rfl (hb hby d19_64) k) ?_
  refine own_by (T' := T63) (f' := (mkF m 67 #[.val (.int c0), .val (.int c1), .val (.int c2), .val (.int c3)] [(.int c3), (.int (13 : Int32)), (.ref b11), (.ref b11)])) (fun t k => XS.iloadN X63.here hx rfl (hb hby d19_66) rfl k) ?_
  have _ : (13 : Int32).toInt = 13 := by decide
  refine own_stC X63 hx hZ e63 (hb hby d19_67) A66 (by first | decide | omega) (by first | decide | omega) ?_
  intro T67 h67 X67 e67 W67 A67
  show own_Go p e below _ T67 (mkF m 68 #[.val (.int c0), .val (.int c1), .val (.int c2), .val (.int c3)] [(.ref b11)])
  have sz68 : n0 ≤ h67.size := by rw [W67.size]; exact sz64
  have K69 := K65.wr W67 (Or.inr gh11)
  have N67 := Fr.snoc X67 N63 gn11
  have A70 : own_A Z h67 b11 .char 65 (own_pf 64 c0 c1 c2 c3 14) := A67.congr (fun i hi => by show (if i = (13 : Int32).toInt.toNat then nar .char c3 else (own_pf 64 c0 c1 c2 c3 13) i) = (own_pf 64 c0 c1 c2 c3 14) i; rw [show (13 : Int32).toInt.toNat = 13 from by decide, own_nc hc3]; exact own_pf_step rfl i)
  refine own_by (T' := T67) (f' := (mkF m 69 #[.val (.int c0), .val (.int c1), .val (.int c2), .val (.int c3)] [(.ref b11), (.ref b11)])) (fun t k => XS.dup X67.here hx rfl (hb hby d19_68) rfl rfl k) ?_
  refine own_by (T' := T67) (f' := (mkF m 71 #[.val (.int c0), .val (.int c1), .val (.int c2), .val (.int c3)] [(.int (14 : Int32)), (.ref b11), (.ref b11)])) (fun t k => XS.bipush X67.here hx rfl (hb hby d19_69) k) ?_
  refine own_by (T' := T67) (f' := (mkF m 72 #[.val (.int c0), .val (.int c1), .val (.int c2), .val (.int c3)] [(.int c3), (.int (14 : Int32)), (.ref b11), (.ref b11)])) (fun t k => XS.iloadN X67.here hx rfl (hb hby d19_71) rfl k) ?_
  have _ : (14 : Int32).toInt = 14 := by decide
  refine own_stC X67 hx hZ e67 (hb hby d19_72) A70 (by first | decide | omega) (by first | decide | omega) ?_
  intro T71 h71 X71 e71 W71 A71
  show own_Go p e below _ T71 (mkF m 73 #[.val (.int c0), .val (.int c1), .val (.int c2), .val (.int c3)] [(.ref b11)])
  have sz72 : n0 ≤ h71.size := by rw [W71.size]; exact sz68
  have K73 := K69.wr W71 (Or.inr gh11)
  have N71 := Fr.snoc X71 N67 gn11
  have A74 : own_A Z h71 b11 .char 65 (own_pf 64 c0 c1 c2 c3 15) := A71.congr (fun i hi => by show (if i = (14 : Int32).toInt.toNat then nar .char c3 else (own_pf 64 c0 c1 c2 c3 14) i) = (own_pf 64 c0 c1 c2 c3 15) i; rw [show (14 : Int32).toInt.toNat = 14 from by decide, own_nc hc3]; exact own_pf_step rfl i)
  refine own_by (T' := T71) (f' := (mkF m 74 #[.val (.int c0), .val (.int c1), .val (.int c2), .val (.int c3)] [(.ref b11), (.ref b11)])) (fun t k => XS.dup X71.here hx rfl (hb hby d19_73) rfl rfl k) ?_
  refine own_by (T' := T71) (f' := (mkF m 76 #[.val (.int c0), .val (.int c1), .val (.int c2), .val (.int c3)] [(.int (15 : Int32)), (.ref b11), (.ref b11)])) (fun t k => XS.bipush X71.here hx rfl (hb hby d19_74) k) ?_
  refine own_by (T' := T71) (f' := (mkF m 77 #[.val (.int c0), .val (.int c1), .val (.int c2), .val (.int c3)] [(.int c3), (.int (15 : Int32)), (.ref b11), (.ref b11)])) (fun t k => XS.iloadN X71.here hx rfl (hb hby d19_76) rfl k) ?_
  have _ : (15 : Int32).toInt = 15 := by decide
  refine own_stC X71 hx hZ e71 (hb hby d19_77) A74 (by first | decide | omega) (by first | decide | omega) ?_
  intro T75 h75 X75 e75 W75 A75
  show own_Go p e below _ T75 (mkF m 78 #[.val (.int c0), .val (.int c1), .val (.int c2), .val (.int c3)] [(.ref b11)])
  have sz76 : n0 ≤ h75.size := by rw [W75.size]; exact sz72
  have K77 := K73.wr W75 (Or.inr gh11)
  have N75 := Fr.snoc X75 N71 gn11
  have A78 : own_A Z h75 b11 .char 65 (own_pf 64 c0 c1 c2 c3 16) := A75.congr (fun i hi => by show (if i = (15 : Int32).toInt.toNat then nar .char c3 else (own_pf 64 c0 c1 c2 c3 15) i) = (own_pf 64 c0 c1 c2 c3 16) i; rw [show (15 : Int32).toInt.toNat = 15 from by decide, own_nc hc3]; exact own_pf_step rfl i)
  refine own_by (T' := T75) (f' := (mkF m 79 #[.val (.int c0), .val (.int c1), .val (.int c2), .val (.int c3)] [(.ref b11), (.ref b11)])) (fun t k => XS.dup X75.here hx rfl (hb hby d19_78) rfl rfl k) ?_
  refine own_by (T' := T75) (f' := (mkF m 81 #[.val (.int c0), .val (.int c1), .val (.int c2), .val (.int c3)] [(.int (16 : Int32)), (.ref b11), (.ref b11)])) (fun t k => XS.bipush X75.here hx rfl (hb hby d19_79) k) ?_
  refine own_by (T' := T75) (f' := (mkF m 82 #[.val (.int c0), .val (.int c1), .val (.int c2), .val (.int c3)] [(.int c3), (.int (16 : Int32)), (.ref b11), (.ref b11)])) (fun t k => XS.iloadN X75.here hx rfl (hb hby d19_81) rfl k) ?_
  have _ : (16 : Int32).toInt = 16 := by decide
  refine own_stC X75 hx hZ e75 (hb hby d19_82) A78 (by first | decide | omega) (by first | decide | omega) ?_
  intro T79 h79 X79 e79 W79 A79
  show own_Go p e below _ T79 (mkF m 83 #[.val (.int c0), .val (.int c1), .val (.int c2), .val (.int c3)] [(.ref b11)])
  have sz80 : n0 ≤ h79.size := by rw [W79.size]; exact sz76
  have K81 := K77.wr W79 (Or.inr gh11)
  have N79 := Fr.snoc X79 N75 gn11
  have A82 : own_A Z h79 b11 .char 65 (own_pf 64 c0 c1 c2 c3 17) := A79.congr (fun i hi => by show (if i = (16 : Int32).toInt.toNat then nar .char c3 else (own_pf 64 c0 c1 c2 c3 16) i) = (own_pf 64 c0 c1 c2 c3 17) i; rw [show (16 : Int32).toInt.toNat = 16 from by decide, own_nc hc3]; exact own_pf_step rfl i)
  refine own_by (T' := T79) (f' := (mkF m 84 #[.val (.int c0), .val (.int c1), .val (.int c2), .val (.int c3)] [(.ref b11), (.ref b11)])) (fun t k => XS.dup X79.here hx rfl (hb hby d19_83) rfl rfl k) ?_
  refine own_by (T' := T79) (f' := (mkF m 86 #[.val (.int c0), .val (.int c1), .val (.int c2), .val (.int c3)] [(.int (17 : Int32)), (.ref b11), (.ref b11)])) (fun t k => XS.bipush X79.here hx rfl (hb hby d19_84) k) ?_
  refine own_by (T' := T79) (f' := (mkF m 87 #[.val (.int c0), .val (.int c1), .val (.int c2), .val (.int c3)] [(.int c3), (.int (17 : Int32)), (.ref b11), (.ref b11)])) (fun t k => XS.iloadN X79.here hx rfl (hb hby d19_86) rfl k) ?_
  have _ : (17 : Int32).toInt = 17 := by decide
  refine own_stC X79 hx hZ e79 (hb hby d19_87) A82 (by first | decide | omega) (by first | decide | omega) ?_
  intro T83 h83 X83 e83 W83 A83
  show own_Go p e below _ T83 (mkF m 88 #[.val (.int c0), .val (.int c1), .val (.int c2), .val (.int c3)] [(.ref b11)])
  have sz84 : n0 ≤ h83.size := by rw [W83.size]; exact sz80
  have K85 := K81.wr W83 (Or.inr gh11)
  have N83 := Fr.snoc X83 N79 gn11
  have A86 : own_A Z h83 b11 .char 65 (own_pf 64 c0 c1 c2 c3 18) := A83.congr (fun i hi => by show (if i = (17 : Int32).toInt.toNat then nar .char c3 else (own_pf 64 c0 c1 c2 c3 17) i) = (own_pf 64 c0 c1 c2 c3 18) i; rw [show (17 : Int32).toInt.toNat = 17 from by decide, own_nc hc3]; exact own_pf_step rfl i)
  refine own_by (T' := T83) (f' := (mkF m 89 #[.val (.int c0), .val (.int c1), .val (.int c2), .val (.int c3)] [(.ref b11), (.ref b11)])) (fun t k => XS.dup X83.here hx rfl (hb hby d19_88) rfl rfl k) ?_
  refine own_by (T' := T83) (f' := (mkF m 91 #[.val (.int c0), .val (.int c1), .val (.int c2), .val (.int c3)] [(.int (18 : Int32)), (.ref b11), (.ref b11)])) (fun t k => XS.bipush X83.here hx rfl (hb hby d19_89) k) ?_
  refine own_by (T' := T83) (f' := (mkF m 92 #[.val (.int c0), .val (.int c1), .val (.int c2), .val (.int c3)] [(.int c3), (.int (18 : Int32)), (.ref b11), (.ref b11)])) (fun t k => XS.iloadN X83.here hx rfl (hb hby d19_91) rfl k) ?_
  have _ : (18 : Int32).toInt = 18 := by decide
  refine own_stC X83 hx hZ e83 (hb hby d19_92) A86 (by first | decide | omega) (by first | decide | omega) ?_
  intro T87 h87 X87 e87 W87 A87
  show own_Go p e below _ T87 (mkF m 93 #[.val (.int c0), .val (.int c1), .val (.int c2), .val (.int c3)] [(.ref b11)])
  have sz88 : n0 ≤ h87.size := by rw [W87.size]; exact sz84
  have K89 := K85.wr W87 (Or.inr gh11)
  have N87 := Fr.snoc X87 N83 gn11
  have A90 : own_A Z h87 b11 .char 65 (own_pf 64 c0 c1 c2 c3 19) := A87.congr (fun i hi => by show (if i = (18 : Int32).toInt.toNat then nar .char c3 else (own_pf 64 c0 c1 c2 c3 18) i) = (own_pf 64 c0 c1 c2 c3 19) i; rw [show (18 : Int32).toInt.toNat = 18 from by decide, own_nc hc3]; exact own_pf_step rfl i)
  refine own_by (T' := T87) (f' := (mkF m 94 #[.val (.int c0), .val (.int c1), .val (.int c2), .val (.int c3)] [(.ref b11), (.ref b11)])) (fun t k => XS.dup X87.here hx rfl (hb hby d19_93) rfl rfl k) ?_
  refine own_by (T' := T87) (f' := (mkF m 96 #[.val (.int c0), .val (.int c1), .val (.int c2), .val (.int c3)] [(.int (19 : Int32)), (.ref b11), (.ref b11)])) (fun t k => XS.bipush X87.here hx rfl (hb hby d19_94) k) ?_
  refine own_by (T' := T87) (f' := (mkF m 97 #[.val (.int c0), .val (.int c1), .val (.int c2), .val (.int c3)] [(.int c3), (.int (19 : Int32)), (.ref b11), (.ref b11)])) (fun t k => XS.iloadN X87.here hx rfl (hb hby d19_96) rfl k) ?_
  have _ : (19 : Int32).toInt = 19 := by decide
  refine own_stC X87 hx hZ e87 (hb hby d19_97) A90 (by first | decide | omega) (by first | decide | omega) ?_
  intro T91 h91 X91 e91 W91 A91
  show own_Go p e below _ T91 (mkF m 98 #[.val (.int c0), .val (.int c1), .val (.int c2), .val (.int c3)] [(.ref b11)])
  have sz92 : n0 ≤ h91.size := by rw [W91.size]; exact sz88
  have K93 := K89.wr W91 (Or.inr gh11)
  have N91 := Fr.snoc X91 N87 gn11
  have A94 : own_A Z h91 b11 .char 65 (own_pf 64 c0 c1 c2 c3 20) := A91.congr (fun i hi => by show (if i = (19 : Int32).toInt.toNat then nar .char c3 else (own_pf 64 c0 c1 c2 c3 19) i) = (own_pf 64 c0 c1 c2 c3 20) i; rw [show (19 : Int32).toInt.toNat = 19 from by decide, own_nc hc3]; exact own_pf_step rfl i)
  refine own_by (T' := T91) (f' := (mkF m 99 #[.val (.int c0), .val (.int c1), .val (.int c2), .val (.int c3)] [(.ref b11), (.ref b11)])) (fun t k => XS.dup X91.here hx rfl (hb hby d19_98) rfl rfl k) ?_
  refine own_by (T' := T91) (f' := (mkF m 101 #[.val (.int c0), .val (.int c1), .val (.int c2), .val (.int c3)] [(.int (20 : Int32)), (.ref b11), (.ref b11)])) (fun t k => XS.bipush X91.here hx rfl (hb hby d19_99) k) ?_
  refine own_by (T' := T91) (f' := (mkF m 102 #[.val (.int c0), .val (.int c1), .val (.int c2), .val (.int c3)] [(.int c3), (.int (20 : Int32)), (.ref b11), (.ref b11)])) (fun t k => XS.iloadN X91.here hx rfl (hb hby d19_101) rfl k) ?_
  have _ : (20 : Int32).toInt = 20 := by decide
  refine own_stC X91 hx hZ e91 (hb hby d19_102) A94 (by first | decide | omega) (by first | decide | omega) ?_
  intro T95 h95 X95 e95 W95 A95
  show own_Go p e below _ T95 (mkF m 103 #[.val (.int c0), .val (.int c1), .val (.int c2), .val (.int c3)] [(.ref b11)])
  have sz96 : n0 ≤ h95.size := by rw [W95.size]; exact sz92
  have K97 := K93.wr W95 (Or.inr gh11)
  have N95 := Fr.snoc X95 N91 gn11
  have A98 : own_A Z h95 b11 .char 65 (own_pf 64 c0 c1 c2 c3 21) := A95.congr (fun i hi => by show (if i = (20 : Int32).toInt.toNat then nar .char c3 else (own_pf 64 c0 c1 c2 c3 20) i) = (own_pf 64 c0 c1 c2 c3 21) i; rw [show (20 : Int32).toInt.toNat = 20 from by decide, own_nc hc3]; exact own_pf_step rfl i)
  refine own_by (T' := T95) (f' := (mkF m 104 #[.val (.int c0), .val (.int c1), .val (.int c2), .val (.int c3)] [(.ref b11), (.ref b11)])) (fun t k => XS.dup X95.here hx rfl (hb hby d19_103) rfl rfl k) ?_
  refine own_by (T' := T95) (f' := (mkF m 106 #[.val (.int c0), .val (.int c1), .val (.int c2), .val (.int c3)] [(.int (21 : Int32)), (.ref b11), (.ref b11)])) (fun t k => XS.bipush X95.here hx rfl (hb hby d19_104) k) ?_
  refine own_by (T' := T95) (f' := (mkF m 107 #[.val (.int c0), .val (.int c1), .val (.int c2), .val (.int c3)] [(.int c3), (.int (21 : Int32)), (.ref b11), (.ref b11)])) (fun t k => XS.iloadN X95.here hx rfl (hb hby d19_106) rfl k) ?_
  have _ : (21 : Int32).toInt = 21 := by decide
  refine own_stC X95 hx hZ e95 (hb hby d19_107) A98 (by first | decide | omega) (by first | decide | omega) ?_
  intro T99 h99 X99 e99 W99 A99
  show own_Go p e below _ T99 (mkF m 108 #[.val (.int c0), .val (.int c1), .val (.int c2), .val (.int c3)] [(.ref b11)])
  have sz100 : n0 ≤ h99.size := by rw [W99.size]; exact sz96
  have K101 := K97.wr W99 (Or.inr gh11)
  have N99 := Fr.snoc X99 N95 gn11
  have A102 : own_A Z h99 b11 .char 65 (own_pf 64 c0 c1 c2 c3 22) := A99.congr (fun i hi => by show (if i = (21 : Int32).toInt.toNat then nar .char c3 else (own_pf 64 c0 c1 c2 c3 21) i) = (own_pf 64 c0 c1 c2 c3 22) i; rw [show (21 : Int32).toInt.toNat = 21 from by decide, own_nc hc3]; exact own_pf_step rfl i)
  refine own_by (T' := T99) (f' := (mkF m 109 #[.val (.int c0), .val (.int c1), .val (.int c2), .val (.int c3)] [(.ref b11), (.ref b11)])) (fun t k => XS.dup X99.here hx rfl (hb hby d19_108) rfl rfl k) ?_
  refine own_by (T' := T99) (f' := (mkF m 111 #[.val (.int c0), .val (.int c1), .val (.int c2), .val (.int c3)] [(.int (22 : Int32)), (.ref b11), (.ref b11)])) (fun t k => XS.bipush X99.here hx rfl (hb hby d19_109) k) ?_
  refine own_by (T' := T99) (f' := (mkF m 112 #[.val (.int c0), .val (.int c1), .val (.int c2), .val (.int c3)] [(.int c3), (.int (22 : Int32)), (.ref b11), (.ref b11)])) (fun t k => XS.iloadN X99.here hx rfl (hb hby d19_111) rfl k) ?_
  have _ : (22 : Int32).toInt = 22 := by decide
  refine own_stC X99 hx hZ e99 (hb hby d19_112) A102 (by first | decide | omega) (by first | decide | omega) ?_
  intro T103 h103 X103 e103 W103 A103
  show own_Go p e below _ T103 (mkF m 113 #[.val (.int c0), .val (.int c1), .val (.int c2), .val (.int c3)] [(.ref b11)])
  have sz104 : n0 ≤ h103.size := by rw [W103.size]; exact sz100
  have K105 := K101.wr W103 (Or.inr gh11)
  have N103 := Fr.snoc X103 N99 gn11
  have A106 : own_A Z h103 b11 .char 65 (own_pf 64 c0 c1 c2 c3 23) := A103.congr (fun i hi => by show (if i = (22 : Int32).toInt.toNat then nar .char c3 else (own_pf 64 c0 c1 c2 c3 22) i) = (own_pf 64 c0 c1 c2 c3 23) i; rw [show (22 : Int32).toInt.toNat = 22 from by decide, own_nc hc3]; exact own_pf_step rfl i)
  refine own_by (T' := T103) (f' := (mkF m 114 #[.val (.int c0), .val (.int c1), .val (.int c2), .val (.int c3)] [(.ref b11), (.ref b11)])) (fun t k => XS.dup X103.here hx rfl (hb hby d19_113) rfl rfl k) ?_
  refine own_by (T' := T103) (f' := (mkF m 116 #[.val (.int c0), .val (.int c1), .val (.int c2), .val (.int c3)] [(.int (23 : Int32)), (.ref b11), (.ref b11)])) (fun t k => XS.bipush X103.here hx rfl (hb hby d19_114) k) ?_
  refine own_by (T' := T103) (f' := (mkF m 117 #[.val (.int c0), .val (.int c1), .val (.int c2), .val (.int c3)] [(.int c3), (.int (23 : Int32)), (.ref b11), (.ref b11)])) (fun t k => XS.iloadN X103.here hx rfl (hb hby d19_116) rfl k) ?_
  have _ : (23 : Int32).toInt = 23 := by decide
  refine own_stC X103 hx hZ e103 (hb hby d19_117) A106 (by first | decide | omega) (by first | decide | omega) ?_
  intro T107 h107 X107 e107 W107 A107
  show own_Go p e below _ T107 (mkF m 118 #[.val (.int c0), .val (.int c1), .val (.int c2), .val (.int c3)] [(.ref b11)])
  have sz108 : n0 ≤ h107.size := by rw [W107.size]; exact sz104
  have K109 := K105.wr W107 (Or.inr gh11)
  have N107 := Fr.snoc X107 N103 gn11
  have A110 : own_A Z h107 b11 .char 65 (own_pf 64 c0 c1 c2 c3 24) := A107.congr (fun i hi => by show (if i = (23 : Int32).toInt.toNat then nar .char c3 else (own_pf 64 c0 c1 c2 c3 23) i) = (own_pf 64 c0 c1 c2 c3 24) i; rw [show (23 : Int32).toInt.toNat = 23 from by decide, own_nc hc3]; exact own_pf_step rfl i)
  refine own_by (T' := T107) (f' := (mkF m 119 #[.val (.int c0), .val (.int c1), .val (.int c2), .val (.int c3)] [(.ref b11), (.ref b11)])) (fun t k => XS.dup X107.here hx rfl (hb hby d19_118) rfl rfl k) ?_
  refine own_by (T' := T107) (f' := (mkF m 121 #[.val (.int c0), .val (.int c1), .val (.int c2), .val (.int c3)] [(.int (24 : Int32)), (.ref b11), (.ref b11)])) (fun t k => XS.bipush X107.here hx rfl (hb hby d19_119) k) ?_
  refine own_by (T' := T107) (f' := (mkF m 122 #[.val (.int c0), .val (.int c1), .val (.int c2), .val (.int c3)] [(.int c3), (.int (24 : Int32)), (.ref b11), (.ref b11)])) (fun t k => XS.iloadN X107.here hx rfl (hb hby d19_121) rfl k) ?_
  have _ : (24 : Int32).toInt = 24 := by decide
  refine own_stC X107 hx hZ e107 (hb hby d19_122) A110 (by first | decide | omega) (by first | decide | omega) ?_
  intro T111 h111 X111 e111 W111 A111
  show own_Go p e below _ T111 (mkF m 123 #[.val (.int c0), .val (.int c1), .val (.int c2), .val (.int c3)] [(.ref b11)])
  have sz112 : n0 ≤ h111.size := by rw [W111.size]; exact sz108
  have K113 := K109.wr W111 (Or.inr gh11)
  have N111 := Fr.snoc X111 N107 gn11
  have A114 : own_A Z h111 b11 .char 65 (own_pf 64 c0 c1 c2 c3 25) := A111.congr (fun i hi => by show (if i = (24 : Int32).toInt.toNat then nar .char c3 else (own_pf 64 c0 c1 c2 c3 24) i) = (own_pf 64 c0 c1 c2 c3 25) i; rw [show (24 : Int32).toInt.toNat = 24 from by decide, own_nc hc3]; exact own_pf_step rfl i)
  refine own_by (T' := T111) (f' := (mkF m 124 #[.val (.int c0), .val (.int c1), .val (.int c2), .val (.int c3)] [(.ref b11), (.ref b11)])) (fun t k => XS.dup X111.here hx rfl (hb hby d19_123) rfl rfl k) ?_
  refine own_by (T' := T111) (f' := (mkF m 126 #[.val (.int c0), .val (.int c1), .val (.int c2), .val (.int c3)] [(.int (25 : Int32)), (.ref b11), (.ref b11)])) (fun t k => XS.bipush X111.here hx rfl (hb hby d19_124) k) ?_
  refine own_by (T' := T111) (f' := (mkF m 127 #[.val (.int c0), .val (.int c1), .val (.int c2), .val (.int c3)] [(.int c3), (.int (25 : Int32)), (.ref b11), (.ref b11)])) (fun t k => XS.iloadN X111.here hx rfl (hb hby d19_126) rfl k) ?_
  have _ : (25 : Int32).toInt = 25 := by decide
  refine own_stC X111 hx hZ e111 (hb hby d19_127) A114 (by first | decide | omega) (by first | decide | omega) ?_
  intro T115 h115 X115 e115 W115 A115
  show own_Go p e below _ T115 (mkF m 128 #[.val (.int c0), .val (.int c1), .val (.int c2), .val (.int c3)] [(.ref b11)])
  have sz116 : n0 ≤ h115.size := by rw [W115.size]; exact sz112
  have K117 := K113.wr W115 (Or.inr gh11)
  have N115 := Fr.snoc X115 N111 gn11
  have A118 : own_A Z h115 b11 .char 65 (own_pf 64 c0 c1 c2 c3 26) := A115.congr (fun i hi => by show (if i = (25 : Int32).toInt.toNat then nar .char c3 else (own_pf 64 c0 c1 c2 c3 25) i) = (own_pf 64 c0 c1 c2 c3 26) i; rw [show (25 : Int32).toInt.toNat = 25 from by decide, own_nc hc3]; exact own_pf_step rfl i)
  refine own_by (T' := T115) (f' := (mkF m 129 #[.val (.int c0), .val (.int c1), .val (.int c2), .val (.int c3)] [(.ref b11), (.ref b11)])) (fun t k => XS.dup X115.here hx rfl (hb hby d19_128) rfl rfl k) ?_
  refine own_by (T' := T115) (f' := (mkF m 131 #[.val (.int c0), .val (.int c1), .val (.int c2), .val (.int c3)] [(.int (26 : Int32)), (.ref b11), (.ref b11)])) (fun t k => XS.bipush X115.here hx rfl (hb hby d19_129) k) ?_
  refine own_by (T' := T115) (f' := (mkF m 132 #[.val (.int c0), .val (.int c1), .val (.int c2), .val (.int c3)] [(.int c3), (.int (26 : Int32)), (.ref b11), (.ref b11)])) (fun t k => XS.iloadN X115.here hx rfl (hb hby d19_131) rfl k) ?_
  have _ : (26 : Int32).toInt = 26 := by decide
  refine own_stC X115 hx hZ e115 (hb hby d19_132) A118 (by first | decide | omega) (by first | decide | omega) ?_
  intro T119 h119 X119 e119 W119 A119
  show own_Go p e below _ T119 (mkF m 133 #[.val (.int c0), .val (.int c1), .val (.int c2), .val (.int c3)] [(.ref b11)])
  have sz120 : n0 ≤ h119.size := by rw [W119.size]; exact sz116
  have K121 := K117.wr W119 (Or.inr gh11)
  have N119 := Fr.snoc X119 N115 gn11
  have A122 : own_A Z h119 b11 .char 65 (own_pf 64 c0 c1 c2 c3 27) := A119.congr (fun i hi => by show (if i = (26 : Int32).toInt.toNat then nar .char c3 else (own_pf 64 c0 c1 c2 c3 26) i) = (own_pf 64 c0 c1 c2 c3 27) i; rw [show (26 : Int32).toInt.toNat = 26 from by decide, own_nc hc3]; exact own_pf_step rfl i)
  refine own_by (T' := T119) (f' := (mkF m 134 #[.val (.int c0), .val (.int c1), .val (.int c2), .val (.int c3)] [(.ref b11), (.ref b11)])) (fun t k => XS.dup X119.here hx rfl (hb hby d19_133) rfl rfl k) ?_
  refine own_by (T' := T119) (f' := (mkF m 136 #[.val (.int c0), .val (.int c1), .val (.int c2), .val (.int c3)] [(.int (27 : Int32)), (.ref b11), (.ref b11)])) (fun t k => XS.bipush X119.here hx rfl (hb hby d19_134) k) ?_
  refine own_by (T' := T119) (f' := (mkF m 137 #[.val (.int c0), .val (.int c1), .val (.int c2), .val (.int c3)] [(.int c3), (.int (27 : Int32)), (.ref b11), (.ref b11)])) (fun t k => XS.iloadN X119.here hx rfl (hb hby d19_136) rfl k) ?_
  have _ : (27 : Int32).toInt = 27 := by decide
  refine own_stC X119 hx hZ e119 (hb hby d19_137) A122 (by first | decide | omega) (by first | decide | omega) ?_
  intro T123 h123 X123 e123 W123 A123
  show own_Go p e below _ T123 (mkF m 138 #[.val (.int c0), .val (.int c1), .val (.int c2), .val (.int c3)] [(.ref b11)])
  have sz124 : n0 ≤ h123.size := by rw [W123.size]; exact sz120
  have K125 := K121.wr W123 (Or.inr gh11)
  have N123 := Fr.snoc X123 N119 gn11
  have A126 : own_A Z h123 b11 .char 65 (own_pf 64 c0 c1 c2 c3 28) := A123.congr (fun i hi => by show (if i = (27 : Int32).toInt.toNat then nar .char c3 else (own_pf 64 c0 c1 c2 c3 27) i) = (own_pf 64 c0 c1 c2 c3 28) i; rw [show (27 : Int32).toInt.toNat = 27 from by decide, own_nc hc3]; exact own_pf_step rfl i)
  refine own_by (T' := T123) (f' := (mkF m 139 #[.val (.int c0), .val (.int c1), .val (.int c2), .val (.int c3)] [(.ref b11), (.ref b11)])) (fun t k => XS.dup X123.here hx rfl (hb hby d19_138) rfl rfl k) ?_
  refine own_by (T' := T123) (f' := (mkF m 141 #[.val (.int c0), .val (.int c1), .val (.int c2), .val (.int c3)] [(.int (28 : Int32)), (.ref b11), (.ref b11)])) (fun t k => XS.bipush X123.here hx rfl (hb hby d19_139) k) ?_
  refine own_by (T' := T123) (f' := (mkF m 142 #[.val (.int c0), .val (.int c1), .val (.int c2), .val (.int c3)] [(.int c3), (.int (28 : Int32)), (.ref b11), (.ref b11)])) (fun t k => XS.iloadN X123.here hx rfl (hb hby d19_141) rfl k) ?_
  have _ : (28 : Int32).toInt = 28 := by decide
  refine own_stC X123 hx hZ e123 (hb hby d19_142) A126 (by first | decide | omega) (by first | decide | omega) ?_
  intro T127 h127 X127 e127 W127 A127
  show own_Go p e below _ T127 (mkF m 143 #[.val (.int c0), .val (.int c1), .val (.int c2), .val (.int c3)] [(.ref b11)])
  have sz128 : n0 ≤ h127.size := by rw [W127.size]; exact sz124
  have K129 := K125.wr W127 (Or.inr gh11)
  have N127 := Fr.snoc X127 N123 gn11
  have A130 : own_A Z h127 b11 .char 65 (own_pf 64 c0 c1 c2 c3 29) := A127.congr (fun i hi => by show (if i = (28 : Int32).toInt.toNat then nar .char c3 else (own_pf 64 c0 c1 c2 c3 28) i) = (own_pf 64 c0 c1 c2 c3 29) i; rw [show (28 : Int32).toInt.toNat = 28 from by decide, own_nc hc3]; exact own_pf_step rfl i)
  refine own_by (T' := T127) (f' := (mkF m 144 #[.val (.int c0), .val (.int c1), .val (.int c2), .val (.int c3)] [(.ref b11), (.ref b11)])) (fun t k => XS.dup X127.here hx rfl (hb hby d19_143) rfl rfl k) ?_
  refine own_by (T' := T127) (f' := (mkF m 146 #[.val (.int c0), .val (.int c1), .val (.int c2), .val (.int c3)] [(.int (29 : Int32)), (.ref b11), (.ref b11)])) (fun t k => XS.bipush X127.here hx rfl (hb hby d19_144) k) ?_
  refine own_by (T' := T127) (f' := (mkF m 147 #[.val (.int c0), .val (.int c1), .val (.int c2), .val (.int c3)] [(.int c3), (.int (29 : Int32)), (.ref b11), (.ref b11)])) (fun t k => XS.iloadN X127.here hx rfl (hb hby d19_146) rfl k) ?_
  have _ : (29 : Int32).toInt = 29 := by decide
  refine own_stC X127 hx hZ e127 (hb hby d19_147) A130 (by first | decide | omega) (by first | decide | omega) ?_
  intro T131 h131 X131 e131 W131 A131
  show own_Go p e below _ T131 (mkF m 148 #[.val (.int c0), .val (.int c1), .val (.int c2), .val (.int c3)] [(.ref b11)])
  have sz132 : n0 ≤ h131.size := by rw [W131.size]; exact sz128
  have K133 := K129.wr W131 (Or.inr gh11)
  have N131 := Fr.snoc X131 N127 gn11
  have A134 : own_A Z h131 b11 .char 65 (own_pf 64 c0 c1 c2 c3 30) := A131.congr (fun i hi => by show (if i = (29 : Int32).toInt.toNat then nar .char c3 else (own_pf 64 c0 c1 c2 c3 29) i) = (own_pf 64 c0 c1 c2 c3 30) i; rw [show (29 : Int32).toInt.toNat = 29 from by decide, own_nc hc3]; exact own_pf_step rfl i)
  refine own_by (T' := T131) (f' := (mkF m 149 #[.val (.int c0), .val (.int c1), .val (.int c2), .val (.int c3)] [(.ref b11), (.ref b11)])) (fun t k => XS.dup X131.here hx rfl (hb hby d19_148) rfl rfl k) ?_
  refine own_by (T' := T131) (f' := (mkF m 151 #[.val (.int c0), .val (.int c1), .val (.int c2), .val (.int c3)] [(.int (30 : Int32)), (.ref b11), (.ref b11)])) (fun t k => XS.bipush X131.here hx rfl (hb hby d19_149) k) ?_
  refine own_by (T' := T131) (f' := (mkF m 152 #[.val (.int c0), .val (.int c1), .val (.int c2), .val (.int c3)] [(.int c3), (.int (30 : Int32)), (.ref b11), (.ref b11)])) (fun t k => XS.iloadN X131.here hx rfl (hb hby d19_151) rfl k) ?_
  have _ : (30 : Int32).toInt = 30 := by decide
  refine own_stC X131 hx hZ e131 (hb hby d19_152) A134 (by first | decide | omega) (by first | decide | omega) ?_
  intro T135 h135 X135 e135 W135 A135
  show own_Go p e below _ T135 (mkF m 153 #[.val (.int c0), .val (.int c1), .val (.int c2), .val (.int c3)] [(.ref b11)])
  have sz136 : n0 ≤ h135.size := by rw [W135.size]; exact sz132
  have K137 := K133.wr W135 (Or.inr gh11)
  have N135 := Fr.snoc X135 N131 gn11
  have A138 : own_A Z h135 b11 .char 65 (own_pf 64 c0 c1 c2 c3 31) := A135.congr (fun i hi => by show (if i = (30 : Int32).toInt.toNat then nar .char c3 else (own_pf 64 c0 c1 c2 c3 30) i) = (own_pf 64 c0 c1 c2 c3 31) i; rw [show (30 : Int32).toInt.toNat = 30 from by decide, own_nc hc3]; exact own_pf_step rfl i)
  refine own_by (T' := T135) (f' := (mkF m 154 #[.val (.int c0), .val (.int c1), .val (.int c2), .val (.int c3)] [(.ref b11), (.ref b11)])) (fun t k => XS.dup X135.here hx rfl (hb hby d19_153) rfl rfl k) ?_
  refine own_by (T' := T135) (f' := (mkF m 156 #[.val (.int c0), .val (.int c1), .val (.int c2), .val (.int c3)] [(.int (31 : Int32)), (.ref b11), (.ref b11)])) (fun t k => XS.bipush X135.here hx rfl (hb hby d19_154) k) ?_
  refine own_by (T' := T135) (f' := (mkF m 157 #[.val (.int c0), .val (.int c1), .val (.int c2), .val (.int c3)] [(.int c3), (.int (31 : Int32)), (.ref b11), (.ref b11)])) (fun t k => XS.iloadN X135.here hx rfl (hb hby d19_156) rfl k) ?_
  have _ : (31 : Int32).toInt = 31 := by decide
  refine own_stC X135 hx hZ e135 (hb hby d19_157) A138 (by first | decide | omega) (by first | decide | omega) ?_
  intro T139 h139 X139 e139 W139 A139
  show own_Go p e below _ T139 (mkF m 158 #[.val (.int c0), .val (.int c1), .val (.int c2), .val (.int c3)] [(.ref b11)])
  have sz140 : n0 ≤ h139.size := by rw [W139.size]; exact sz136
  have K141 := K137.wr W139 (Or.inr gh11)
  have N139 := Fr.snoc X139 N135 gn11
  have A142 : own_A Z h139 b11 .char 65 (own_pf 64 c0 c1 c2 c3 32) := A139.congr (fun i hi => by show (if i = (31 : Int32).toInt.toNat then nar .char c3 else (own_pf 64 c0 c1 c2 c3 31) i) = (own_pf 64 c0 c1 c2 c3 32) i; rw [show (31 : Int32).toInt.toNat = 31 from by decide, own_nc hc3]; exact own_pf_step rfl i)
  refine own_by (T' := T139) (f' := (mkF m 159 #[.val (.int c0), .val (.int c1), .val (.int c2), .val (.int c3)] [(.ref b11), (.ref b11)])) (fun t k => XS.dup X139.here hx rfl (hb hby d19_158) rfl rfl k) ?_
  refine own_by (T' := T139) (f' := (mkF m 161 #[.val (.int c0), .val (.int c1), .val (.int c2), .val (.int c3)] [(.int (32 : Int32)), (.ref b11), (.ref b11)])) (fun t k => XS.bipush X139.here hx rfl (hb hby d19_159) k) ?_
  refine own_by (T' := T139) (f' := (mkF m 162 #[.val (.int c0), .val (.int c1), .val (.int c2), .val (.int c3)] [(.int c1), (.int (32 : Int32)), (.ref b11), (.ref b11)])) (fun t k => XS.iloadN X139.here hx rfl (hb hby d19_161) rfl k) ?_
  have _ : (32 : Int32).toInt = 32 := by decide
  refine own_stC X139 hx hZ e139 (hb hby d19_162) A142 (by first | decide | omega) (by first | decide | omega) ?_
  intro T143 h143 X143 e143 W143 A143
  show own_Go p e below _ T143 (mkF m 163 #[.val (.int c0), .val (.int c1), .val (.int c2), .val (.int c3)] [(.ref b11)])
  have sz144 : n0 ≤ h143.size := by rw [W143.size]; exact sz140
  have K145 := K141.wr W143 (Or.inr gh11)
  have N143 := Fr.snoc X143 N139 gn11
  have A146 : own_A Z h143 b11 .char 65 (own_pf 64 c0 c1 c2 c3 33) := A143.congr (fun i hi => by show (if i = (32 : Int32).toInt.toNat then nar .char c1 else (own_pf 64 c0 c1 c2 c3 32) i) = (own_pf 64 c0 c1 c2 c3 33) i; rw [show (32 : Int32).toInt.toNat = 32 from by decide, own_nc hc1]; exact own_pf_step rfl i)
  refine own_by (T' := T143) (f' := (mkF m 164 #[.val (.int c0), .val (.int c1), .val (.int c2), .val (.int c3)] [(.ref b11), (.ref b11)])) (fun t k => XS.dup X143.here hx rfl (hb hby d19_163) rfl rfl k) ?_
  refine own_by (T' := T143) (f' := (mkF m 166 #[.val (.int c0), .val (.int c1), .val (.int c2), .val (.int c3)] [(.int (33 : Int32)), (.ref b11), (.ref b11)])) (fun t k => XS.bipush X143.here hx rfl (hb hby d19_164) k) ?_
  refine own_by (T' := T143) (f' := (mkF m 167 #[.val (.int c0), .val (.int c1), .val (.int c2), .val (.int c3)] [(.int c3), (.int (33 : Int32)), (.ref b11), (.ref b11)])) (fun t k => XS.iloadN X143.here hx rfl (hb hby d19_166) rfl k) ?_
  have _ : (33 : Int32).toInt = 33 := by decide
  refine own_stC X143 hx hZ e143 (hb hby d19_167) A146 (by first | decide | omega) (by first | decide | omega) ?_
  intro T147 h147 X147 e147 W147 A147
  show own_Go p e below _ T147 (mkF m 168 #[.val (.int c0), .val (.int c1), .val (.int c2), .val (.int c3)] [(.ref b11)])
  have sz148 : n0 ≤ h147.size := by rw [W147.size]; exact sz144
  have K149 := K145.wr W147 (Or.inr gh11)
  have N147 := Fr.snoc X147 N143 gn11
  have A150 : own_A Z h147 b11 .char 65 (own_pf 64 c0 c1 c2 c3 34) := A147.congr (fun i hi => by show (if i = (33 : Int32).toInt.toNat then nar .char c3 else (own_pf 64 c0 c1 c2 c3 33) i) = (own_pf 64 c0 c1 c2 c3 34) i; rw [show (33 : Int32).toInt.toNat = 33 from by decide, own_nc hc3]; exact own_pf_step rfl i)
  refine own_by (T' := T147) (f' := (mkF m 169 #[.val (.int c0), .val (.int c1), .val (.int c2), .val (.int c3)] [(.ref b11), (.ref b11)])) (fun t k => XS.dup X147.here hx rfl (hb hby d19_168) rfl rfl k) ?_
  refine own_by (T' := T147) (f' := (mkF m 171 #[.val (.int c0), .val (.int c1), .val (.int c2), .val (.int c3)] [(.int (34 : Int32)), (.ref b11), (.ref b11)])) (fun t k => XS.bipush X147.here hx rfl (hb hby d19_169) k) ?_
  refine own_by (T' := T147) (f' := (mkF m 172 #[.val (.int c0), .val (.int c1), .val (.int c2), .val (.int c3)] [(.int c3), (.int (34 : Int32)), (.ref b11), (.ref b11)])) (fun t k => XS.iloadN X147.here hx rfl (hb hby d19_171) rfl k) ?_
  have _ : (34 : Int32).toInt = 34 := by decide
  refine own_stC X147 hx hZ e147 (hb hby d19_172) A150 (by first | decide | omega) (by first | decide | omega) ?_
  intro T151 h151 X151 e151 W151 A151
  show own_Go p e below _ T151 (mkF m 173 #[.val (.int c0), .val (.int c1), .val (.int c2), .val (.int c3)] [(.ref b11)])
  have sz152 : n0 ≤ h151.size := by rw [W151.size]; exact sz148
  have K153 := K149.wr W151 (Or.inr gh11)
  have N151 := Fr.snoc X151 N147 gn11
  have A154 : own_A Z h151 b11 .char 65 (own_pf 64 c0 c1 c2 c3 35) := A151.congr (fun i hi => by show (if i = (34 : Int32).toInt.toNat then nar .char c3 else (own_pf 64 c0 c1 c2 c3 34) i) = (own_pf 64 c0 c1 c2 c3 35) i; rw [show (34 : Int32).toInt.toNat = 34 from by decide, own_nc hc3]; exact own_pf_step rfl i)
  refine own_by (T' := T151) (f' := (mkF m 174 #[.val (.int c0), .val (.int c1), .val (.int c2), .val (.int c3)] [(.ref b11), (.ref b11)])) (fun t k => XS.dup X151.here hx rfl (hb hby d19_173) rfl rfl k) ?_
  refine own_by (T' := T151) (f' := (mkF m 176 #[.val (.int c0), .val (.int c1), .val (.int c2), .val (.int c3)] [(.int (35 : Int32)), (.ref b11), (.ref b11)])) (fun t k => XS.bipush X151.here hx rfl (hb hby d19_174) k) ?_
  refine own_by (T' := T151) (f' := (mkF m 177 #[.val (.int c0), .val (.int c1), .val (.int c2), .val (.int c3)] [(.int c3), (.int (35 : Int32)), (.ref b11), (.ref b11)])) (fun t k => XS.iloadN X151.here hx rfl (hb hby d19_176) rfl k) ?_
  have _ : (35 : Int32).toInt = 35 := by decide
  refine own_stC X151 hx hZ e151 (hb hby d19_177) A154 (by first | decide | omega) (by first | decide | omega) ?_
  intro T155 h155 X155 e155 W155 A155
  show own_Go p e below _ T155 (mkF m 178 #[.val (.int c0), .val (.int c1), .val (.int c2), .val (.int c3)] [(.ref b11)])
  have sz156 : n0 ≤ h155.size := by rw [W155.size]; exact sz152
  have K157 := K153.wr W155 (Or.inr gh11)
  have N155 := Fr.snoc X155 N151 gn11
  have A158 : own_A Z h155 b11 .char 65 (own_pf 64 c0 c1 c2 c3 36) := A155.congr (fun i hi => by show (if i = (35 : Int32).toInt.toNat then nar .char c3 else (own_pf 64 c0 c1 c2 c3 35) i) = (own_pf 64 c0 c1 c2 c3 36) i; rw [show (35 : Int32).toInt.toNat = 35 from by decide, own_nc hc3]; exact own_pf_step rfl i)
  refine own_by (T' := T155) (f' := (mkF m 179 #[.val (.int c0), .val (.int c1), .val (.int c2), .val (.int c3)] [(.ref b11), (.ref b11)])) (fun t k => XS.dup X155.here hx rfl (hb hby d19_178) rfl rfl k) ?_
  refine own_by (T' := T155) (f' := (mkF m 181 #[.val (.int c0), .val (.int c1), .val (.int c2), .val (.int c3)] [(.int (36 : Int32)), (.ref b11), (.ref b11)])) (fun t k => XS.bipush X155.here hx rfl (hb hby d19_179) k) ?_
  refine own_by (T' := T155) (f' := (mkF m 182 #[.val (.int c0), .val (.int c1), .val (.int c2), .val (.int c3)] [(.int c3), (.int (36 : Int32)), (.ref b11), (.ref b11)])) (fun t k => XS.iloadN X155.here hx rfl (hb hby d19_181) rfl k) ?_
  have _ : (36 : Int32).toInt = 36 := by decide
  refine own_stC X155 hx hZ e155 (hb hby d19_182) A158 (by first | decide | omega) (by first | decide | omega) ?_
  intro T159 h159 X159 e159 W159 A159
  show own_Go p e below _ T159 (mkF m 183 #[.val (.int c0), .val (.int c1), .val (.int c2), .val (.int c3)] [(.ref b11)])
  have sz160 : n0 ≤ h159.size := by rw [W159.size]; exact sz156
  have K161 := K157.wr W159 (Or.inr gh11)
  have N159 := Fr.snoc X159 N155 gn11
  have A162 : own_A Z h159 b11 .char 65 (own_pf 64 c0 c1 c2 c3 37) := A159.congr (fun i hi => by show (if i = (36 : Int32).toInt.toNat then nar .char c3 else (own_pf 64 c0 c1 c2 c3 36) i) = (own_pf 64 c0 c1 c2 c3 37) i; rw [show (36 : Int32).toInt.toNat = 36 from by decide, own_nc hc3]; exact own_pf_step rfl i)
  refine own_by (T' := T159) (f' := (mkF m 184 #[.val (.int c0), .val (.int c1), .val (.int c2), .val (.int c3)] [(.ref b11), (.ref b11)])) (fun t k => XS.dup X159.here hx rfl (hb hby d19_183) rfl rfl k) ?_
  refine own_by (T' := T159) (f' := (mkF m 186 #[.val (.int c0), .val (.int c1), .val (.int c2), .val (.int c3)] [(.int (37 : Int32)), (.ref b11), (.ref b11)])) (fun t k => XS.bipush X159.here hx rfl (hb hby d19_184) k) ?_
  refine own_by (T' := T159) (f' := (mkF m 187 #[.val (.int c0), .val (.int c1), .val (.int c2), .val (.int c3)] [(.int c3), (.int (37 : Int32)), (.ref b11), (.ref b11)])) (fun t k => XS.iloadN X159.here hx rfl (hb hby d19_186) rfl k) ?_
  have _ : (37 : Int32).toInt = 37 := by decide
  refine own_stC X159 hx hZ e159 (hb hby d19_187) A162 (by first | decide | omega) (by first | decide | omega) ?_
  intro T163 h163 X163 e163 W163 A163
  show own_Go p e below _ T163 (mkF m 188 #[.val (.int c0), .val (.int c1), .val (.int c2), .val (.int c3)] [(.ref b11)])
  have sz164 : n0 ≤ h163.size := by rw [W163.size]; exact sz160
  have K165 := K161.wr W163 (Or.inr gh11)
  have N163 := Fr.snoc X163 N159 gn11
  have A166 : own_A Z h163 b11 .char 65 (own_pf 64 c0 c1 c2 c3 38) := A163.congr (fun i hi => by show (if i = (37 : Int32).toInt.toNat then nar .char c3 else (own_pf 64 c0 c1 c2 c3 37) i) = (own_pf 64 c0 c1 c2 c3 38) i; rw [show (37 : Int32).toInt.toNat = 37 from by decide, own_nc hc3]; exact own_pf_step rfl i)
  refine own_by (T' := T163) (f' := (mkF m 189 #[.val (.int c0), .val (.int c1), .val (.int c2), .val (.int c3)] [(.ref b11), (.ref b11)])) (fun t k => XS.dup X163.here hx rfl (hb hby d19_188) rfl rfl k) ?_
  refine own_by (T' := T163) (f' := (mkF m 191 #[.val (.int c0), .val (.int c1), .val (.int c2), .val (.int c3)] [(.int (38 : Int32)), (.ref b11), (.ref b11)])) (fun t k => XS.bipush X163.here hx rfl (hb hby d19_189) k) ?_
  refine own_by (T' := T163) (f' := (mkF m 192 #[.val (.int c0), .val (.int c1), .val (.int c2), .val (.int c3)] [(.int c3), (.int (38 : Int32)), (.ref b11), (.ref b11)])) (fun t k => XS.iloadN X163.here hx rfl (hb hby d19_191) rfl k) ?_
  have _ : (38 : Int32).toInt = 38 := by decide
  refine own_stC X163 hx hZ e163 (hb hby d19_192) A166 (by first | decide | omega) (by first | decide | omega) ?_
  intro T167 h167 X167 e167 W167 A167
  show own_Go p e below _ T167 (mkF m 193 #[.val (.int c0), .val (.int c1), .val (.int c2), .val (.int c3)] [(.ref b11)])
  have sz168 : n0 ≤ h167.size := by rw [W167.size]; exact sz164
  have K169 := K165.wr W167 (Or.inr gh11)
  have N167 := Fr.snoc X167 N163 gn11
  have A170 : own_A Z h167 b11 .char 65 (own_pf 64 c0 c1 c2 c3 39) := A167.congr (fun i hi => by show (if i = (38 : Int32).toInt.toNat then nar .char c3 else (own_pf 64 c0 c1 c2 c3 38) i) = (own_pf 64 c0 c1 c2 c3 39) i; rw [show (38 : Int32).toInt.toNat = 38 from by decide, own_nc hc3]; exact own_pf_step rfl i)
  refine own_by (T' := T167) (f' := (mkF m 194 #[.val (.int c0), .val (.int c1), .val (.int c2), .val (.int c3)] [(.ref b11), (.ref b11)])) (fun t k => XS.dup X167.here hx rfl (hb hby d19_193) rfl rfl k) ?_
  refine own_by (T' := T167) (f' := (mkF m 196 #[.val (.int c0), .val (.int c1), .val (.int c2), .val (.int c3)] [(.int (39 : Int32)), (.ref b11), (.ref b11)])) (fun t k => XS.bipush X167.here hx rfl (hb hby d19_194) k) ?_
  refine own_by (T' := T167) (f' := (mkF m 197 #[.val (.int c0), .val (.int c1), .val (.int c2), .val (.int c3)] [(.int c3), (.int (39 : Int32)), (.ref b11), (.ref b11)])) (fun t k => XS.iloadN X167.here hx rfl (hb hby d19_196) rfl k) ?_
  have _ : (39 : Int32).toInt = 39 := by decide
  refine own_stC X167 hx hZ e167 (hb hby d19_197) A170 (by first | decide | omega) (by first | decide | omega) ?_
  intro T171 h171 X171 e171 W171 A171
  show own_Go p e below _ T171 (mkF m 198 #[.val (.int c0), .val (.int c1), .val (.int c2), .val (.int c3)] [(.ref b11)])
  have sz172 : n0 ≤ h171.size := by rw [W171.size]; exact sz168
  have K173 := K169.wr W171 (Or.inr gh11)
  have N171 := Fr.snoc X171 N167 gn11
  have A174 : own_A Z h171 b11 .char 65 (own_pf 64 c0 c1 c2 c3 40) := A171.congr (fun i hi => by show (if i = (39 : Int32).toInt.toNat then nar .char c3 else (own_pf 64 c0 c1 c2 c3 39) i) = (own_pf 64 c0 c1 c2 c3 40) i; rw [show (39 : Int32).toInt.toNat = 39 from by decide, own_nc hc3]; exact own_pf_step rfl i)
  refine own_by (T' := T171) (f' := (mkF m 199 #[.val (.int c0), .val (.int c1), .val (.int c2), .val (.int c3)] [(.ref b11), (.ref b11)])) (fun t k => XS.dup X171.here hx rfl (hb hby d19_198) rfl rfl k) ?_
  refine own_by (T' := T171) (f' := (mkF m 201 #[.val (.int c0), .val (.int c1), .val (.int c2), .val (.int c3)] [(.int (40 : Int32)), (.ref b11), (.ref b11)])) (fun t k => XS.bipush X171.here hx rfl (hb hby d19_199) k) ?_
  refine own_by (T' := T171) (f' := (mkF m 202 #[.val (.int c0), .val (.int c1), .val (.int c2), .val (.int c3)] [(.int c3), (.int (40 : Int32)), (.ref b11), (.ref b11)])) (fun t k => XS.iloadN X171.here hx rfl (hb hby d19_201) rfl k) ?_
  have _ : (40 : Int32).toInt = 40 := by decide
  refine own_stC X171 hx hZ e171 (hb hby d19_202) A174 (by first | decide | omega) (by first | decide | omega) ?_
  intro T175 h175 X175 e175 W175 A175
  show own_Go p e below _ T175 (mkF m 203 #[.val (.int c0), .val (.int c1), .val (.int c2), .val (.int c3)] [(.ref b11)])
  have sz176 : n0 ≤ h175.size := by rw [W175.size]; exact sz172
  have K177 := K173.wr W175 (Or.inr gh11)
  have N175 := Fr.snoc X175 N171 gn11
  have A178 : own_A Z h175 b11 .char 65 (own_pf 64 c0 c1 c2 c3 41) := A175.congr (fun i hi => by show (if i = (40 : Int32).toInt.toNat then nar .char c3 else (own_pf 64 c0 c1 c2 c3 40) i) = (own_pf 64 c0 c1 c2 c3 41) i; rw [show (40 : Int32).toInt.toNat = 40 from by decide, own_nc hc3]; exact own_pf_step rfl i)
  refine own_by (T' := T175) (f' := (mkF m 204 #[.val (.int c0), .val (.int c1), .val (.int c2), .val (.int c3)] [(.ref b11), (.ref b11)])) (fun t k => XS.dup X175.here hx rfl (hb hby d19_203) rfl rfl k) ?_
  refine own_by (T' := T175) (f' := (mkF m 206 #[.val (.int c0), .val (.int c1), .val (.int c2), .val (.int c3)] [(.int (41 : Int32)), (.ref b11), (.ref b11)])) (fun t k => XS.bipush X175.here hx rfl (hb hby d19_204) k) ?_
  refine own_by (T' := T175) (f' := (mkF m 207 #[.val (.int c0), .val (.int c1), .val (.int c2), .val (.int c3)] [(.int c3), (.int (41 : Int32)), (.ref b11), (.ref b11)])) (fun t k => XS.iloadN X175.here hx rfl (hb hby d19_206) rfl k) ?_
  have _ : (41 : Int32).toInt = 41 := by decide
  refine own_stC X175 hx hZ e175 (hb hby d19_207) A178 (by first | decide | omega) (by first | decide | omega) ?_
  intro T179 h179 X179 e179 W179 A179
  show own_Go p e below _ T179 (mkF m 208 #[.val (.int c0), .val (.int c1), .val (.int c2), .val (.int c3)] [(.ref b11)])
  have sz180 : n0 ≤ h179.size := by rw [W179.size]; exact sz176
  have K181 := K177.wr W179 (Or.inr gh11)
  have N179 := Fr.snoc X179 N175 gn11
  have A182 : own_A Z h179 b11 .char 65 (own_pf 64 c0 c1 c2 c3 42) := A179.congr (fun i hi => by show (if i = (41 : Int32).toInt.toNat then nar .char c3 else (own_pf 64 c0 c1 c2 c3 41) i) = (own_pf 64 c0 c1 c2 c3 42) i; rw [show (41 : Int32).toInt.toNat = 41 from by decide, own_nc hc3]; exact own_pf_step rfl i)
  refine own_by (T' := T179) (f' := (mkF m 209 #[.val (.int c0), .val (.int c1), .val (.int c2), .val (.int c3)] [(.ref b11), (.ref b11)])) (fun t k => XS.dup X179.here hx rfl (hb hby d19_208) rfl rfl k) ?_
  refine own_by (T' := T179) (f' := (mkF m 211 #[.val (.int c0), .val (.int c1), .val (.int c2), .val (.int c3)] [(.int (42 : Int32)), (.ref b11), (.ref b11)])) (fun t k => XS.bipush X179.here hx rfl (hb hby d19_209) k) ?_
  refine own_by (T' := T179) (f' := (mkF m 212 #[.val (.int c0), .val (.int c1), .val (.int c2), .val (.int c3)] [(.int c3), (.int (42 : Int32)), (.ref b11), (.ref b11)])) (fun t k => XS.iloadN X179.here hx rfl (hb hby d19_211) rfl k) ?_
  have _ : (42 : Int32).toInt = 42 := by decide
  refine own_stC X179 hx hZ e179 (hb hby d19_212) A182 (by first | decide | omega) (by first | decide | omega) ?_
  intro T183 h183 X183 e183 W183 A183
  show own_Go p e below _ T183 (mkF m 213 #[.val (.int c0), .val (.int c1), .val (.int c2), .val (.int c3)] [(.ref b11)])
  have sz184 : n0 ≤ h183.size := by rw [W183.size]; exact sz180
  have K185 := K181.wr W183 (Or.inr gh11)
  have N183 := Fr.snoc X183 N179 gn11
  have A186 : own_A Z h183 b11 .char 65 (own_pf 64 c0 c1 c2 c3 43) := A183.congr (fun i hi => by show (if i = (42 : Int32).toInt.toNat then nar .char c3 else (own_pf 64 c0 c1 c2 c3 42) i) = (own_pf 64 c0 c1 c2 c3 43) i; rw [show (42 : Int32).toInt.toNat = 42 from by decide, own_nc hc3]; exact own_pf_step rfl i)
  refine own_by (T' := T183) (f' := (mkF m 214 #[.val (.int c0), .val (.int c1), .val (.int c2), .val (.int c3)] [(.ref b11), (.ref b11)])) (fun t k => XS.dup X183.here hx rfl (hb hby d19_213) rfl rfl k) ?_
  refine own_by (T' := T183) (f' := (mkF m 216 #[.val (.int c0), .val (.int c1), .val (.int c2), .val (.int c3)] [(.int (43 : Int32)), (.ref b11), (.ref b11)])) (fun t k => XS.bipush X183.here hx rfl (hb hby d19_214) k) ?_
  refine own_by (T' := T183) (f' := (mkF m 217 #[.val (.int c0), .val (.int c1), .val (.int c2), .val (.int c3)] [(.int c3), (.int (43 : Int32)), (.ref b11), (.ref b11)])) (fun t k => XS.iloadN X183.here hx rfl (hb hby d19_216) rfl k) ?_
  have _ : (43 : Int32).toInt = 43 := by decide
  refine own_stC X183 hx hZ e183 (hb hby d19_217) A186 (by first | decide | omega) (by first | decide | omega) ?_
  intro T187 h187 X187 e187 W187 A187
  show own_Go p e below _ T187 (mkF m 218 #[.val (.int c0), .val (.int c1), .val (.int c2), .val (.int c3)] [(.ref b11)])
  have sz188 : n0 ≤ h187.size := by rw [W187.size]; exact sz184
  have K189 := K185.wr W187 (Or.inr gh11)
  have N187 := Fr.snoc X187 N183 gn11
  have A190 : own_A Z h187 b11 .char 65 (own_pf 64 c0 c1 c2 c3 44) := A187.congr (fun i hi => by show (if i = (43 : Int32).toInt.toNat then nar .char c3 else (own_pf 64 c0 c1 c2 c3 43) i) = (own_pf 64 c0 c1 c2 c3 44) i; rw [show (43 : Int32).toInt.toNat = 43 from by decide, own_nc hc3]; exact own_pf_step rfl i)
  refine own_by (T' := T187) (f' := (mkF m 219 #[.val (.int c0), .val (.int c1), .val (.int c2), .val (.int c3)] [(.ref b11), (.ref b11)])) (fun t k => XS.dup X187.here hx rfl (hb hby d19_218) rfl rfl k) ?_
  refine own_by (T' := T187) (f' := (mkF m 221 #[.val (.int c0), .val (.int c1), .val (.int c2), .val (.int c3)] [(.int (44 : Int32)), (.ref b11), (.ref b11)])) (fun t k => XS.bipush X187.here hx rfl (hb hby d19_219) k) ?_
  refine own_by (T' := T187) (f' := (mkF m 222 #[.val (.int c0), .val (.int c1), .val (.int c2), .val (.int c3)] [(.int c3), (.int (44 : Int32)), (.ref b11), (.ref b11)])) (fun t k => XS.iloadN X187.here hx rfl (hb hby d19_221) rfl k) ?_
  have _ : (44 : Int32).toInt = 44 := by decide
  refine own_stC X187 hx hZ e187 (hb hby d19_222) A190 (by first | decide | omega) (by first | decide | omega) ?_
  intro T191 h191 X191 e191 W191 A191
  show own_Go p e below _ T191 (mkF m 223 #[.val (.int c0), .val (.int c1), .val (.int c2), .val (.int c3)] [(.ref b11)])
  have sz192 : n0 ≤ h191.size := by rw [W191.size]; exact sz188
  have K193 := K189.wr W191 (Or.inr gh11)
  have N191 := Fr.snoc X191 N187 gn11
  have A194 : own_A Z h191 b11 .char 65 (own_pf 64 c0 c1 c2 c3 45) := A191.congr (fun i hi => by show (if i = (44 : Int32).toInt.toNat then nar .char c3 else (own_pf 64 c0 c1 c2 c3 44) i) = (own_pf 64 c0 c1 c2 c3 45) i; rw [show (44 : Int32).toInt.toNat = 44 from by decide, own_nc hc3]; exact own_pf_step rfl i)
  refine own_by (T' := T191) (f' := (mkF m 224 #[.val (.int c0), .val (.int c1), .val (.int c2), .val (.int c3)] [(.ref b11), (.ref b11)])) (fun t k => XS.dup X191.here hx rfl (hb hby d19_223) rfl rfl k) ?_
  refine own_by (T' := T191) (f' := (mkF m 226 #[.val (.int c0), .val (.int c1), .val (.int c2), .val (.int c3)] [(.int (45 : Int32)), (.ref b11), (.ref b11)])) (fun t k => XS.bipush X191.here hx rfl (hb hby d19_224) k) ?_
  refine own_by (T' := T191) (f' := (mkF m 227 #[.val (.int c0), .val (.int c1), .val (.int c2), .val (.int c3)] [(.int c3), (.int (45 : Int32)), (.ref b11), (.ref b11)])) (fun t k => XS.iloadN X191.here hx rfl (hb hby d19_226) rfl k) ?_
  have _ : (45 : Int32).toInt = 45 := by decide
  refine own_stC X191 hx hZ e191 (hb hby d19_227) A194 (by first | decide | omega) (by first | decide | omega) ?_
  intro T195 h195 X195 e195 W195 A195
  show own_Go p e below _ T195 (mkF m 228 #[.val (.int c0), .val (.int c1), .val (.int c2), .val (.int c3)] [(.ref b11)])
  have sz196 : n0 ≤ h195.size := by rw [W195.size]; exact sz192
  have K197 := K193.wr W195 (Or.inr gh11)
  have N195 := Fr.snoc X195 N191 gn11
  have A198 : own_A Z h195 b11 .char 65 (own_pf 64 c0 c1 c2 c3 46) := A195.congr (fun i hi => by show (if i = (45 : Int32).toInt.toNat then nar .char c3 else (own_pf 64 c0 c1 c2 c3 45) i) = (own_pf 64 c0 c1 c2 c3 46) i; rw [show (45 : Int32).toInt.toNat = 45 from by decide, own_nc hc3]; exact own_pf_step rfl i)
  refine own_by (T' := T195) (f' := (mkF m 229 #[.val (.int c0), .val (.int c1), .val (.int c2), .val (.int c3)] [(.ref b11), (.ref b11)])) (fun t k => XS.dup X195.here hx rfl (hb hby d19_228) rfl rfl k) ?_
  refine own_by (T' := T195) (f' := (mkF m 231 #[.val (.int c0), .val (.int c1), .val (.int c2), .val (.int c3)] [(.int (46 : Int32)), (.ref b11), (.ref b11)])) (fun t k => XS.bipush X195.here hx rfl (hb hby d19_229) k) ?_
  refine own_by (T' := T195) (f' := (mkF m 232 #[.val (.int c0), .val (.int c1), .val (.int c2), .val (.int c3)] [(.int c3), (.int (46 : Int32)), (.ref b11), (.ref b11)])) (fun t k => XS.iloadN X195.here hx rfl (hb hby d19_231) rfl k) ?_
  have _ : (46 : Int32).toInt = 46 := by decide
  refine own_stC X195 hx hZ e195 (hb hby d19_232) A198 (by first | decide | omega) (by first | decide | omega) ?_
  intro T199 h199 X199 e199 W199 A199
  show own_Go p e below _ T199 (mkF m 233 #[.val (.int c0), .val (.int c1), .val (.int c2), .val (.int c3)] [(.ref b11)])
  have sz200 : n0 ≤ h199.size := by rw [W199.size]; exact sz196
  have K201 := K197.wr W199 (Or.inr gh11)
  have N199 := Fr.snoc X199 N195 gn11
  have A202 : own_A Z h199 b11 .char 65 (own_pf 64 c0 c1 c2 c3 47) := A199.congr (fun i hi => by show (if i = (46 : Int32).toInt.toNat then nar .char c3 else (own_pf 64 c0 c1 c2 c3 46) i) = (own_pf 64 c0 c1 c2 c3 47) i; rw [show (46 : Int32).toInt.toNat = 46 from by decide, own_nc hc3]; exact own_pf_step rfl i)
  refine own_by (T' := T199) (f' := (mkF m 234 #[.val (.int c0), .val (.int c1), .val (.int c2), .val (.int c3)] [(.ref b11), (.ref b11)])) (fun t k => XS.dup X199.here hx rfl (hb hby d19_233) rfl rfl k) ?_
  refine own_by (T' := T199) (f' := (mkF m 236 #[.val (.int c0), .val (.int c1), .val (.int c2), .val (.int c3)] [(.int (47 : Int32)), (.ref b11), (.ref b11)])) (fun t k => XS.bipush X199.here hx rfl (hb hby d19_234) k) ?_
  refine own_by (T' := T199) (f' := (mkF m 237 #[.val (.int c0), .val (.int c1), .val (.int c2), .val (.int c3)] [(.int c3), (.int (47 : Int32)), (.ref b11), (.ref b11)])) (fun t k => XS.iloadN X199.here hx rfl (hb hby d19_236) rfl k) ?_
  have _ : (47 : Int32).toInt = 47 := by decide
  refine own_stC X199 hx hZ e199 (hb hby d19_237) A202 (by first | decide | omega) (by first | decide | omega) ?_
  intro T203 h203 X203 e203 W203 A203
  show own_Go p e below _ T203 (mkF m 238 #[.val (.int c0), .val (.int c1), .val (.int c2), .val (.int c3)] [(.ref b11)])
  have sz204 : n0 ≤ h203.size := by rw [W203.size]; exact sz200
  have K205 := K201.wr W203 (Or.inr gh11)
  have N203 := Fr.snoc X203 N199 gn11
  have A206 : own_A Z h203 b11 .char 65 (own_pf 64 c0 c1 c2 c3 48) := A203.congr (fun i hi => by show (if i = (47 : Int32).toInt.toNat then nar .char c3 else (own_pf 64 c0 c1 c2 c3 47) i) = (own_pf 64 c0 c1 c2 c3 48) i; rw [show (47 : Int32).toInt.toNat = 47 from by decide, own_nc hc3]; exact own_pf_step rfl i)
  refine own_by (T' := T203) (f' := (mkF m 239 #[.val (.int c0), .val (.int c1), .val (.int c2), .val (.int c3)] [(.ref b11), (.ref b11)])) (fun t k => XS.dup X203.here hx rfl (hb hby d19_238) rfl rfl k) ?_
  refine own_by (T' := T203) (f' := (mkF m 241 #[.val (.int c0), .val (.int c1), .val (.int c2), .val (.int c3)] [(.int (48 : Int32)), (.ref b11), (.ref b11)])) (fun t k => XS.bipush X203.here hx rfl (hb hby d19_239) k) ?_
  refine own_by (T' := T203) (f' := (mkF m 242 #[.val (.int c0), .val (.int c1), .val (.int c2), .val (.int c3)] [(.int c3), (.int (48 : Int32)), (.ref b11), (.ref b11)])) (fun t k => XS.iloadN X203.here hx rfl (hb hby d19_241) rfl k) ?_
  have _ : (48 : Int32).toInt = 48 := by decide
  refine own_stC X203 hx hZ e203 (hb hby d19_242) A206 (by first | decide | omega) (by first | decide | omega) ?_
  intro T207 h207 X207 e207 W207 A207
  show own_Go p e below _ T207 (mkF m 243 #[.val (.int c0), .val (.int c1), .val (.int c2), .val (.int c3)] [(.ref b11)])
  have sz208 : n0 ≤ h207.size := by rw [W207.size]; exact sz204
  have K209 := K205.wr W207 (Or.inr gh11)
  have N207 := Fr.snoc X207 N203 gn11
  have A210 : own_A Z h207 b11 .char 65 (own_pf 64 c0 c1 c2 c3 49) := A207.congr (fun i hi => by show (if i = (48 : Int32).toInt.toNat then nar .char c3 else (own_pf 64 c0 c1 c2 c3 48) i) = (own_pf 64 c0 c1 c2 c3 49) i; rw [show (48 : Int32).toInt.toNat = 48 from by decide, own_nc hc3]; exact own_pf_step rfl i)
  refine own_by (T' := T207) (f' := (mkF m 244 #[.val (.int c0), .val (.int c1), .val (.int c2), .val (.int c3)] [(.ref b11), (.ref b11)])) (fun t k => XS.dup X207.here hx rfl (hb hby d19_243) rfl rfl k) ?_
  refine own_by (T' := T207) (f' := (mkF m 246 #[.val (.int c0), .val (.int c1), .val (.int c2), .val (.int c3)] [(.int (49 : Int32)), (.ref b11), (.ref b11)])) (fun t k => XS.bipush X207.here hx rfl (hb hby d19_244) k) ?_
  refine own_by (T' := T207) (f' := (mkF m 247 #[.val (.int c0), .val (.int c1), .val (.int c2), .val (.int c3)] [(.int c3), (.int (49 : Int32)), (.ref b11), (.ref b11)])) (fun t k => XS.iloadN X207.here hx rfl (hb hby d19_246) rfl k) ?_
  have _ : (49 : Int32).toInt = 49 := by decide
  refine own_stC X207 hx hZ e207 (hb hby d19_247) A210 (by first | decide | omega) (by first | decide | omega) ?_
  intro T211 h211 X211 e211 W211 A211
  show own_Go p e below _ T211 (mkF m 248 #[.val (.int c0), .val (.int c1), .val (.int c2), .val (.int c3)] [(.ref b11)])
  have sz212 : n0 ≤ h211.size := by rw [W211.size]; exact sz208
  have K213 := K209.wr W211 (Or.inr gh11)
  have N211 := Fr.snoc X211 N207 gn11
  have A214 : own_A Z h211 b11 .char 65 (own_pf 64 c0 c1 c2 c3 50) := A211.congr (fun i hi => by show (if i = (49 : Int32).toInt.toNat then nar .char c3 else (own_pf 64 c0 c1 c2 c3 49) i) = (own_pf 64 c0 c1 c2 c3 50) i; rw [show (49 : Int32).toInt.toNat = 49 from by decide, own_nc hc3]; exact own_pf_step rfl i)
  refine own_by (T' := T211) (f' := (mkF m 249 #[.val (.int c0), .val (.int c1), .val (.int c2), .val (.int c3)] [(.ref b11), (.ref b11)])) (fun t k => XS.dup X211.here hx rfl (hb hby d19_248) rfl rfl k) ?_
  refine own_by (T' := T211) (f' := (mkF m 251 #[.val (.int c0), .val (.int c1), .val (.int c2), .val (.int c3)] [(.int (50 : Int32)), (.ref b11), (.ref b11)])) (fun t k => XS.bipush X211.here hx rfl (hb hby d19_249) k) ?_
  refine own_by (T' := T211) (f' := (mkF m 252 #[.val (.int c0), .val (.int c1), .val (.int c2), .val (.int c3)] [(.int c3), (.int (50 : Int32)), (.ref b11), (.ref b11)])) (fun t k => XS.iloadN X211.here hx rfl (hb hby d19_251) rfl k) ?_
  have _ : (50 : Int32).toInt = 50 := by decide
  refine own_stC X211 hx hZ e211 (hb hby d19_252) A214 (by first | decide | omega) (by first | decide | omega) ?_
  intro T215 h215 X215 e215 W215 A215
  show own_Go p e below _ T215 (mkF m 253 #[.val (.int c0), .val (.int c1), .val (.int c2), .val (.int c3)] [(.ref b11)])
  have sz216 : n0 ≤ h215.size := by rw [W215.size]; exact sz212
  have K217 := K213.wr W215 (Or.inr gh11)
  have N215 := Fr.snoc X215 N211 gn11
  have A218 : own_A Z h215 b11 .char 65 (own_pf 64 c0 c1 c2 c3 51) := A215.congr (fun i hi => by show (if i = (50 : Int32).toInt.toNat then nar .char c3 else (own_pf 64 c0 c1 c2 c3 50) i) = (own_pf 64 c0 c1 c2 c3 51) i; rw [show (50 : Int32).toInt.toNat = 50 from by decide, own_nc hc3]; exact own_pf_step rfl i)
  refine own_by (T' := T215) (f' := (mkF m 254 #[.val (.int c0), .val (.int c1), .val (.int c2), .val (.int c3)] [(.ref b11), (.ref b11)])) (fun t k => XS.dup X215.here hx rfl (hb hby d19_253) rfl rfl k) ?_
  refine own_by (T' := T215) (f' := (mkF m 256 #[.val (.int c0), .val (.int c1), .val (.int c2), .val (.int c3)] [(.int (51 : Int32)), (.ref b11), (.ref b11)])) (fun t k => XS.bipush X215.here hx rfl (hb hby d19_254) k) ?_
  refine own_by (T' := T215) (f' := (mkF m 257 #[.val (.int c0), .val (.int c1), .val (.int c2), .val (.int c3)] [(.int c3), (.int (51 : Int32)), (.ref b11), (.ref b11)])) (fun t k => XS.iloadN X215.here hx rfl (hb hby d19_256) rfl k) ?_
  have _ : (51 : Int32).toInt = 51 := by decide
  refine own_stC X215 hx hZ e215 (hb hby d19_257) A218 (by first | decide | omega) (by first | decide | omega) ?_
  intro T219 h219 X219 e219 W219 A219
  show own_Go p e below _ T219 (mkF m 258 #[.val (.int c0), .val (.int c1), .val (.int c2), .val (.int c3)] [(.ref b11)])
  have sz220 : n0 ≤ h219.size := by rw [W219.size]; exact sz216
  have K221 := K217.wr W219 (Or.inr gh11)
  have N219 := Fr.snoc X219 N215 gn11
  have A222 : own_A Z h219 b11 .char 65 (own_pf 64 c0 c1 c2 c3 52) := A219.congr (fun i hi => by show (if i = (51 : Int32).toInt.toNat then nar .char c3 else (own_pf 64 c0 c1 c2 c3 51) i) = (own_pf 64 c0 c1 c2 c3 52) i; rw [show (51 : Int32).toInt.toNat = 51 from by decide, own_nc hc3]; exact own_pf_step rfl i)
  refine own_by (T' := T219) (f' := (mkF m 259 #[.val (.int c0), .val (.int c1), .val (.int c2), .val (.int c3)] [(.ref b11), (.ref b11)])) (fun t k => XS.dup X219.here hx rfl (hb hby d19_258) rfl rfl k) ?_
  refine own_by (T' := T219) (f' := (mkF m 261 #[.val (.int c0), .val (.int c1), .val (.int c2), .val (.int c3)] [(.int (52 : Int32)), (.ref b11), (.ref b11)])) (fun t k => XS.bipush X219.here hx rfl (hb hby d19_259) k) ?_
  refine own_by (T' := T219) (f' := (mkF m 262 #[.val (.int c0), .val (.int c1), .val (.int c2), .val (.int c3)] [(.int c3), (.int (52 : Int32)), (.ref b11), (.ref b11)])) (fun t k => XS.iloadN X219.here hx rfl (hb hby d19_261) rfl k) ?_
  have _ : (52 : Int32).toInt = 52 := by decide
  refine own_stC X219 hx hZ e219 (hb hby d19_262) A222 (by first | decide | omega) (by first | decide | omega) ?_
  intro T223 h223 X223 e223 W223 A223
  show own_Go p e below _ T223 (mkF m 263 #[.val (.int c0), .val (.int c1), .val (.int c2), .val (.int c3)] [(.ref b11)])
  have sz224 : n0 ≤ h223.size := by rw [W223.size]; exact sz220
  have K225 := K221.wr W223 (Or.inr gh11)
  have N223 := Fr.snoc X223 N219 gn11
  have A226 : own_A Z h223 b11 .char 65 (own_pf 64 c0 c1 c2 c3 53) := A223.congr (fun i hi => by show (if i = (52 : Int32).toInt.toNat then nar .char c3 else (own_pf 64 c0 c1 c2 c3 52) i) = (own_pf 64 c0 c1 c2 c3 53) i; rw [show (52 : Int32).toInt.toNat = 52 from by decide, own_nc hc3]; exact own_pf_step rfl i)
  refine own_by (T' := T223) (f' := (mkF m 264 #[.val (.int c0), .val (.int c1), .val (.int c2), .val (.int c3)] [(.ref b11), (.ref b11)])) (fun t k => XS.dup X223.here hx rfl (hb hby d19_263) rfl rfl k) ?_
  refine own_by (T' := T223) (f' := (mkF m 266 #[.val (.int c0), .val (.int c1), .val (.int c2), .val (.int c3)] [(.int (53 : Int32)), (.ref b11), (.ref b11)])) (fun t k => XS.bipush X223.here hx rfl (hb hby d19_264) k) ?_
  refine own_by (T' := T223) (f' := (mkF m 267 #[.val (.int c0), .val (.int c1), .val (.int c2), .val (.int c3)] [(.int c3), (.int (53 : Int32)), (.ref b11), (.ref b11)])) (fun t k => XS.iloadN X223.here hx rfl (hb hby d19_266) rfl k) ?_
  have _ : (53 : Int32).toInt = 53 := by decide
  refine own_stC X223 hx hZ e223 (hb hby d19_267) A226 (by first | decide | omega) (by first | decide | omega) ?_
  intro T227 h227 X227 e227 W227 A227
  show own_Go p e below _ T227 (mkF m 268 #[.val (.int c0), .val (.int c1), .val (.int c2), .val (.int c3)] [(.ref b11)])
  have sz228 : n0 ≤ h227.size := by rw [W227.size]; exact sz224
  have K229 := K225.wr W227 (Or.inr gh11)
  have N227 := Fr.snoc X227 N223 gn11
  have A230 : own_A Z h227 b11 .char 65 (own_pf 64 c0 c1 c2 c3 54) := A227.congr (fun i hi => by show (if i = (53 : Int32).toInt.toNat then nar .char c3 else (own_pf 64 c0 c1 c2 c3 53) i) = (own_pf 64 c0 c1 c2 c3 54) i; rw [show (53 : Int32).toInt.toNat = 53 from by decide, own_nc hc3]; exact own_pf_step rfl i)
  refine own_by (T' := T227) (f' := (mkF m 269 #[.val (.int c0), .val (.int c1), .val (.int c2), .val (.int c3)] [(.ref b11), (.ref b11)])) (fun t k => XS.dup X227.here hx rfl (hb hby d19_268) rfl rfl k) ?_
  refine own_by (T' := T227) (f' := (mkF m 271 #[.val (.int c0), .val (.int c1), .val (.int c2), .val (.int c3)] [(.int (54 : Int32)), (.ref b11), (.ref b11)])) (fun t k => XS.bipush X227.here hx rfl (hb hby d19_269) k) ?_
  refine own_by (T' := T227) (f' := (mkF m 272 #[.val (.int c0), .val (.int c1), .val (.int c2), .val (.int c3)] [(.int c3), (.int (54 : Int32)), (.ref b11), (.ref b11)])) (fun t k => XS.iloadN X227.here hx rfl (hb hby d19_271) rfl k) ?_
  have _ : (54 : Int32).toInt = 54 := by decide
  refine own_stC X227 hx hZ e227 (hb hby d19_272) A230 (by first | decide | omega) (by first | decide | omega) ?_
  intro T231 h231 X231 e231 W231 A231
  show own_Go p e below _ T231 (mkF m 273 #[.val (.int c0), .val (.int c1), .val (.int c2), .val (.int c3)] [(.ref b11)])
  have sz232 : n0 ≤ h231.size := by rw [W231.size]; exact sz228
  have K233 := K229.wr W231 (Or.inr gh11)
  have N231 := Fr.snoc X231 N227 gn11
  have A234 : own_A Z h231 b11 .char 65 (own_pf 64 c0 c1 c2 c3 55) := A231.congr (fun i hi => by show (if i = (54 : Int32).toInt.toNat then nar .char c3 else (own_pf 64 c0 c1 c2 c3 54) i) = (own_pf 64 c0 c1 c2 c3 55) i; rw [show (54 : Int32).toInt.toNat = 54 from by decide, own_nc hc3]; exact own_pf_step rfl i)
  refine own_by (T' := T231) (f' := (mkF m 274 #[.val (.int c0), .val (.int c1), .val (.int c2), .val (.int c3)] [(.ref b11), (.ref b11)])) (fun t k => XS.dup X231.here hx rfl (hb hby d19_273) rfl rfl k) ?_
  refine own_by (T' := T231) (f' := (mkF m 276 #[.val (.int c0), .val (.int c1), .val (.int c2), .val (.int c3)] [(.int (55 : Int32)), (.ref b11), (.ref b11)])) (fun t k => XS.bipush X231.here hx rfl (hb hby d19_274) k) ?_
  refine own_by (T' := T231) (f' := (mkF m 277 #[.val (.int c0), .val (.int c1), .val (.int c2), .val (.int c3)] [(.int c3), (.int (55 : Int32)), (.ref b11), (.ref b11)])) (fun t k => XS.iloadN X231.here hx rfl (hb hby d19_276) rfl k) ?_
  have _ : (55 : Int32).toInt = 55 := by decide
  refine own_stC X231 hx hZ e231 (hb hby d19_277) A234 (by first | decide | omega) (by first | decide | omega) ?_
  intro T235 h235 X235 e235 W235 A235
  show own_Go p e below _ T235 (mkF m 278 #[.val (.int c0), .val (.int c1), .val (.int c2), .val (.int c3)] [(.ref b11)])
  have sz236 : n0 ≤ h235.size := by rw [W235.size]; exact sz232
  have K237 := K233.wr W235 (Or.inr gh11)
  have N235 := Fr.snoc X235 N231 gn11
  have A238 : own_A Z h235 b11 .char 65 (own_pf 64 c0 c1 c2 c3 56) := A235.congr (fun i hi => by show (if i = (55 : Int32).toInt.toNat then nar .char c3 else (own_pf 64 c0 c1 c2 c3 55) i) = (own_pf 64 c0 c1 c2 c3 56) i; rw [show (55 : Int32).toInt.toNat = 55 from by decide, own_nc hc3]; exact own_pf_step rfl i)
  refine own_by (T' := T235) (f' := (mkF m 279 #[.val (.int c0), .val (.int c1), .val (.int c2), .val (.int c3)] [(.ref b11), (.ref b11)])) (fun t k => XS.dup X235.here hx rfl (hb hby d19_278) rfl rfl k) ?_
  refine own_by (T' := T235) (f' := (mkF m 281 #[.val (.int c0), .val (.int c1), .val (.int c2), .val (.int c3)] [(.int (56 : Int32)), (.ref b11), (.ref b11)])) (fun t k => XS.bipush X235.here hx rfl (hb hby d19_279) k) ?_
  refine own_by (T' := T235) (f' := (mkF m 282 #[.val (.int c0), .val (.int c1), .val (.int c2), .val (.int c3)] [(.int c3), (.int (56 : Int32)), (.ref b11), (.ref b11)])) (fun t k => XS.iloadN X235.here hx rfl (hb hby d19_281) rfl k) ?_
  have _ : (56 : Int32).toInt = 56 := by decide
  refine own_stC X235 hx hZ e235 (hb hby d19_282) A238 (by first | decide | omega) (by first | decide | omega) ?_
  intro T239 h239 X239 e239 W239 A239
  show own_Go p e below _ T239 (mkF m 283 #[.val (.int c0), .val (.int c1), .val (.int c2), .val (.int c3)] [(.ref b11)])
  have sz240 : n0 ≤ h239.size := by rw [W239.size]; exact sz236
  have K241 := K237.wr W239 (Or.inr gh11)
  have N239 := Fr.snoc X239 N235 gn11
  have A242 : own_A Z h239 b11 .char 65 (own_pf 64 c0 c1 c2 c3 57) := A239.congr (fun i hi => by show (if i = (56 : Int32).toInt.toNat then nar .char c3 else (own_pf 64 c0 c1 c2 c3 56) i) = (own_pf 64 c0 c1 c2 c3 57) i; rw [show (56 : Int32).toInt.toNat = 56 from by decide, own_nc hc3]; exact own_pf_step rfl i)
  refine own_by (T' := T239) (f' := (mkF m 284 #[.val (.int c0), .val (.int c1), .val (.int c2), .val (.int c3)] [(.ref b11), (.ref b11)])) (fun t k => XS.dup X239.here hx rfl (hb hby d19_283) rfl rfl k) ?_
  refine own_by (T' := T239) (f' := (mkF m 286 #[.val (.int c0), .val (.int c1), .val (.int c2), .val (.int c3)] [(.int (57 : Int32)), (.ref b11), (.ref b11)])) (fun t k => XS.bipush X239.here hx rfl (hb hby d19_284) k) ?_
  refine own_by (T' := T239) (f' := (mkF m 287 #[.val (.int c0), .val (.int c1), .val (.int c2), .val (.int c3)] [(.int c3), (.int (57 : Int32)), (.ref b11), (.ref b11)])) (fun t k => XS.iloadN X239.here hx rfl (hb hby d19_286) rfl k) ?_
  have _ : (57 : Int32).toInt = 57 := by decide
  refine own_stC X239 hx hZ e239 (hb hby d19_287) A242 (by first | decide | omega) (by first | decide | omega) ?_
  intro T243 h243 X243 e243 W243 A243
  show own_Go p e below _ T243 (mkF m 288 #[.val (.int c0), .val (.int c1), .val (.int c2), .val (.int c3)] [(.ref b11)])
  have sz244 : n0 ≤ h243.size := by rw [W243.size]; exact sz240
  have K245 := K241.wr W243 (Or.inr gh11)
  have N243 := Fr.snoc X243 N239 gn11
  have A246 : own_A Z h243 b11 .char 65 (own_pf 64 c0 c1 c2 c3 58) := A243.congr (fun i hi => by show (if i = (57 : Int32).toInt.toNat then nar .char c3 else (own_pf 64 c0 c1 c2 c3 57) i) = (own_pf 64 c0 c1 c2 c3 58) i; rw [show (57 : Int32).toInt.toNat = 57 from by decide, own_nc hc3]; exact own_pf_step rfl i)
  refine own_by (T' := T243) (f' := (mkF m 289 #[.val (.int c0), .val (.int c1), .val (.int c2), .val (.int c3)] [(.ref b11), (.ref b11)])) (fun t k => XS.dup X243.here hx rfl (hb hby d19_288) rfl rfl k) ?_
  refine own_by (T' := T243) (f' := (mkF m 291 #[.val (.int c0), .val (.int c1), .val (.int c2), .val (.int c3)] [(.int (58 : Int32)), (.ref b11), (.ref b11)])) (fun t k => XS.bipush X243.here hx rfl (hb hby d19_289) k) ?_
  refine own_by (T' := T243) (f' := (mkF m 292 #[.val (.int c0), .val (.int c1), .val (.int c2), .val (.int c3)] [(.int c3), (.int (58 : Int32)), (.ref b11), (.ref b11)])) (fun t k => XS.iloadN X243.here hx rfl (hb hby d19_291) rfl k) ?_
  have _ : (58 : Int32).toInt = 58 := by decide
  refine own_stC X243 hx hZ e243 (hb hby d19_292) A246 (by first | decide | omega) (by first | decide | omega) ?_
  intro T247 h247 X247 e247 W247 A247
  show own_Go p e below _ T247 (mkF m 293 #[.val (.int c0), .val (.int c1), .val (.int c2), .val (.int c3)] [(.ref b11)])
  have sz248 : n0 ≤ h247.size := by rw [W247.size]; exact sz244
  have K249 := K245.wr W247 (Or.inr gh11)
  have N247 := Fr.snoc X247 N243 gn11
  have A250 : own_A Z h247 b11 .char 65 (own_pf 64 c0 c1 c2 c3 59) := A247.congr (fun i hi => by show (if i = (58 : Int32).toInt.toNat then nar .char c3 else (own_pf 64 c0 c1 c2 c3 58) i) = (own_pf 64 c0 c1 c2 c3 59) i; rw [show (58 : Int32).toInt.toNat = 58 from by decide, own_nc hc3]; exact own_pf_step rfl i)
  refine own_by (T' := T247) (f' := (mkF m 294 #[.val (.int c0), .val (.int c1), .val (.int c2), .val (.int c3)] [(.ref b11), (.ref b11)])) (fun t k => XS.dup X247.here hx rfl (hb hby d19_293) rfl rfl k) ?_
  refine own_by (T' := T247) (f' := (mkF m 296 #[.val (.int c0), .val (.int c1), .val (.int c2), .val (.int c3)] [(.int (59 : Int32)), (.ref b11), (.ref b11)])) (fun t k => XS.bipush X247.here hx rfl (hb hby d19_294) k) ?_
  refine own_by (T' := T247) (f' := (mkF m 297 #[.val (.int c0), .val (.int c1), .val (.int c2), .val (.int c3)] [(.int c3), (.int (59 : Int32)), (.ref b11), (.ref b11)])) (fun t k => XS.iloadN X247.here hx rfl (hb hby d19_296) rfl k) ?_
  have _ : (59 : Int32).toInt = 59 := by decide
  refine own_stC X247 hx hZ e247 (hb hby d19_297) A250 (by first | decide | omega) (by first | decide | omega) ?_
  intro T251 h251 X251 e251 W251 A251
  show own_Go p e below _ T251 (mkF m 298 #[.val (.int c0), .val (.int c1), .val (.int c2), .val (.int c3)] [(.ref b11)])
  have sz252 : n0 ≤ h251.size := by rw [W251.size]; exact sz248
  have K253 := K249.wr W251 (Or.inr gh11)
  have N251 := Fr.snoc X251 N247 gn11
  have A254 : own_A Z h251 b11 .char 65 (own_pf 64 c0 c1 c2 c3 60) := A251.congr (fun i hi => by show (if i = (59 : Int32).toInt.toNat then nar .char c3 else (own_pf 64 c0 c1 c2 c3 59) i) = (own_pf 64 c0 c1 c2 c3 60) i; rw [show (59 : Int32).toInt.toNat = 59 from by decide, own_nc hc3]; exact own_pf_step rfl i)
  refine own_by (T' := T251) (f' := (mkF m 299 #[.val (.int c0), .val (.int c1), .val (.int c2), .val (.int c3)] [(.ref b11), (.ref b11)])) (fun t k => XS.dup X251.here hx rfl (hb hby d19_298) rfl rfl k) ?_
  refine own_by (T' := T251) (f' := (mkF m 301 #[.val (.int c0), .val (.int c1), .val (.int c2), .val (.int c3)] [(.int (60 : Int32)), (.ref b11), (.ref b11)])) (fun t k => XS.bipush X251.here hx rfl (hb hby d19_299) k) ?_
  refine own_by (T' := T251) (f' := (mkF m 302 #[.val (.int c0), .val (.int c1), .val (.int c2), .val (.int c3)] [(.int c3), (.int (60 : Int32)), (.ref b11), (.ref b11)])) (fun t k => XS.iloadN X251.here hx rfl (hb hby d19_301) rfl k) ?_
  have _ : (60 : Int32).toInt = 60 := by decide
  refine own_stC X251 hx hZ e251 (hb hby d19_302) A254 (by first | decide | omega) (by first | decide | omega) ?_
  intro T255 h255 X255 e255 W255 A255
  show own_Go p e below _ T255 (mkF m 303 #[.val (.int c0), .val (.int c1), .val (.int c2), .val (.int c3)] [(.ref b11)])
  have sz256 : n0 ≤ h255.size := by rw [W255.size]; exact sz252
  have K257 := K253.wr W255 (Or.inr gh11)
  have N255 := Fr.snoc X255 N251 gn11
  have A258 : own_A Z h255 b11 .char 65 (own_pf 64 c0 c1 c2 c3 61) := A255.congr (fun i hi => by show (if i = (60 : Int32).toInt.toNat then nar .char c3 else (own_pf 64 c0 c1 c2 c3 60) i) = (own_pf 64 c0 c1 c2 c3 61) i; rw [show (60 : Int32).toInt.toNat = 60 from by decide, own_nc hc3]; exact own_pf_step rfl i)
  refine own_by (T' := T255) (f' := (mkF m 304 #[.val (.int c0), .val (.int c1), .val (.int c2), .val (.int c3)] [(.ref b11), (.ref b11)])) (fun t k => XS.dup X255.here hx rfl (hb hby d19_303) rfl rfl k) ?_
  refine own_by (T' := T255) (f' := (mkF m 306 #[.val (.int c0), .val (.int c1), .val (.int c2), .val (.int c3)] [(.int (61 : Int32)), (.ref b11), (.ref b11)])) (fun t k => XS.bipush X255.here hx rfl (hb hby d19_304) k) ?_
  refine own_by (T' := T255) (f' := (mkF m 307 #[.val (.int c0), .val (.int c1), .val (.int c2), .val (.int c3)] [(.int c3), (.int (61 : Int32)), (.ref b11), (.ref b11)])) (fun t k => XS.iloadN X255.here hx rfl (hb hby d19_306) rfl k) ?_
  have _ : (61 : Int32).toInt = 61 := by decide
  refine own_stC X255 hx hZ e255 (hb hby d19_307) A258 (by first | decide | omega) (by first | decide | omega) ?_
  intro T259 h259 X259 e259 W259 A259
  show own_Go p e below _ T259 (mkF m 308 #[.val (.int c0), .val (.int c1), .val (.int c2), .val (.int c3)] [(.ref b11)])
  have sz260 : n0 ≤ h259.size := by rw [W259.size]; exact sz256
  have K261 := K257.wr W259 (Or.inr gh11)
  have N259 := Fr.snoc X259 N255 gn11
  have A262 : own_A Z h259 b11 .char 65 (own_pf 64 c0 c1 c2 c3 62) := A259.congr (fun i hi => by show (if i = (61 : Int32).toInt.toNat then nar .char c3 else (own_pf 64 c0 c1 c2 c3 61) i) = (own_pf 64 c0 c1 c2 c3 62) i; rw [show (61 : Int32).toInt.toNat = 61 from by decide, own_nc hc3]; exact own_pf_step rfl i)
  refine own_by (T' := T259) (f' := (mkF m 309 #[.val (.int c0), .val (.int c1), .val (.int c2), .val (.int c3)] [(.ref b11), (.ref b11)])) (fun t k => XS.dup X259.here hx rfl (hb hby d19_308) rfl rfl k) ?_
  refine own_by (T' := T259) (f' := (mkF m 311 #[.val (.int c0), .val (.int c1), .val (.int c2), .val (.int c3)] [(.int (62 : Int32)), (.ref b11), (.ref b11)])) (fun t k => XS.bipush X259.here hx rfl (hb hby d19_309) k) ?_
  refine own_by (T' := T259) (f' := (mkF m 312 #[.val (.int c0), .val (.int c1), .val (.int c2), .val (.int c3)] [(.int c3), (.int (62 : Int32)), (.ref b11), (.ref b11)])) (fun t k => XS.iloadN X259.here hx rfl (hb hby d19_311) rfl k) ?_
  have _ : (62 : Int32).toInt = 62 := by decide
  refine own_stC X259 hx hZ e259 (hb hby d19_312) A262 (by first | decide | omega) (by first | decide | omega) ?_
  intro T263 h263 X263 e263 W263 A263
  show own_Go p e below _ T263 (mkF m 313 #[.val (.int c0), .val (.int c1), .val (.int c2), .val (.int c3)] [(.ref b11)])
  have sz264 : n0 ≤ h263.size := by rw [W263.size]; exact sz260
  have K265 := K261.wr W263 (Or.inr gh11)
  have N263 := Fr.snoc X263 N259 gn11
  have A266 : own_A Z h263 b11 .char 65 (own_pf 64 c0 c1 c2 c3 63) := A263.congr (fun i hi => by show (if i = (62 : Int32).toInt.toNat then nar .char c3 else (own_pf 64 c0 c1 c2 c3 62) i) = (own_pf 64 c0 c1 c2 c3 63) i; rw [show (62 : Int32).toInt.toNat = 62 from by decide, own_nc hc3]; exact own_pf_step rfl i)
  refine own_by (T' := T263) (f' := (mkF m 314 #[.val (.int c0), .val (.int c1), .val (.int c2), .val (.int c3)] [(.ref b11), (.ref b11)])) (fun t k => XS.dup X263.here hx rfl (hb hby d19_313) rfl rfl k) ?_
  refine own_by (T' := T263) (f' := (mkF m 316 #[.val (.int c0), .val (.int c1), .val (.int c2), .val (.int c3)] [(.int (63 : Int32)), (.ref b11), (.ref b11)])) (fun t k => XS.bipush X263.here hx rfl (hb hby d19_314) k) ?_
  refine own_by (T' := T263) (f' := (mkF m 317 #[.val (.int c0), .val (.int c1), .val (.int c2), .val (.int c3)] [(.int c3), (.int (63 : Int32)), (.ref b11), (.ref b11)])) (fun t k => XS.iloadN X263.here hx rfl (hb hby d19_316) rfl k) ?_
  have _ : (63 : Int32).toInt = 63 := by decide
  refine own_stC X263 hx hZ e263 (hb hby d19_317) A266 (by first | decide | omega) (by first | decide | omega) ?_
  intro T267 h267 X267 e267 W267 A267
  show own_Go p e below _ T267 (mkF m 318 #[.val (.int c0), .val (.int c1), .val (.int c2), .val (.int c3)] [(.ref b11)])
  have sz268 : n0 ≤ h267.size := by rw [W267.size]; exact sz264
  have K269 := K265.wr W267 (Or.inr gh11)
  have N267 := Fr.snoc X267 N263 gn11
  have A270 : own_A Z h267 b11 .char 65 (own_pf 64 c0 c1 c2 c3 64) := A267.congr (fun i hi => by show (if i = (63 : Int32).toInt.toNat then nar .char c3 else (own_pf 64 c0 c1 c2 c3 63) i) = (own_pf 64 c0 c1 c2 c3 64) i; rw [show (63 : Int32).toInt.toNat = 63 from by decide, own_nc hc3]; exact own_pf_step rfl i)
  refine own_by (T' := T267) (f' := (mkF m 319 #[.val (.int c0), .val (.int c1), .val (.int c2), .val (.int c3)] [(.ref b11), (.ref b11)])) (fun t k => XS.dup X267.here hx rfl (hb hby d19_318) rfl rfl k) ?_
  refine own_by (T' := T267) (f' := (mkF m 321 #[.val (.int c0), .val (.int c1), .val (.int c2), .val (.int c3)] [(.int (64 : Int32)), (.ref b11), (.ref b11)])) (fun t k => XS.bipush X267.here hx rfl (hb hby d19_319) k) ?_
  refine own_by (T' := T267) (f' := (mkF m 322 #[.val (.int c0), .val (.int c1), .val (.int c2), .val (.int c3)] [(.int c2), (.int (64 : Int32)), (.ref b11), (.ref b11)])) (fun t k => XS.iloadN X267.here hx rfl (hb hby d19_321) rfl k) ?_
  have _ : (64 : Int32).toInt = 64 := by decide
  refine own_stC X267 hx hZ e267 (hb hby d19_322) A270 (by first | decide | omega) (by first | decide | omega) ?_
  intro T271 h271 X271 e271 W271 A271
  show own_Go p e below _ T271 (mkF m 323 #[.val (.int c0), .val (.int c1), .val (.int c2), .val (.int c3)] [(.ref b11)])
  have sz272 : n0 ≤ h271.size := by rw [W271.size]; exact sz268
  have K273 := K269.wr W271 (Or.inr gh11)
  have N271 := Fr.snoc X271 N267 gn11
  have A274 : own_A Z h271 b11 .char 65 (own_pf 64 c0 c1 c2 c3 65) := A271.congr (fun i hi => by show (if i = (64 : Int32).toInt.toNat then nar .char c2 else (own_pf 64 c0 c1 c2 c3 64) i) = (own_pf 64 c0 c1 c2 c3 65) i; rw [show (64 : Int32).toInt.toNat = 64 from by decide, own_nc hc2]; exact own_pf_step rfl i)
  have A275 : own_A Z h271 b11 .char 65 (own_pt 64 c0 c1 c2 c3) := A274.congr (fun i hi => by show (own_pf 64 c0 c1 c2 c3 65) i = _; unfold own_pf; rw [if_pos hi])
  refine own_retA X271 hx hret hlk (hb hby d19_323) rfl rfl rfl (by decide) (by decide) ?_
  try rw [e271]
  exact ⟨b11, rfl, N271, K273, gh11, A275⟩
theorem ef_rmEQ1 (m : MethodId) (x0 : Addr) (x1 : Addr) : entryFrame m #[(.ref x0), (.ref x1)] 3 = mkF m 0 #[.val (.ref x0), .val (.ref x1), .unset] [] := by first | (simp [entryFrame, mkF, argsToLocals, Value.category]; done) | rfl
set_option maxRecDepth 65536 in
set_option maxHeartbeats 40000000 in
theorem rmEQ1 (l : Launch) (Z : State) (a0 : Array Value) (hw : ∀ d ∈ tables_1, d.before a0 Z = true) (ws : List Jvm.Cond) (a1 a2 : Addr) (cs : Int32) (fm : Value) (h0 : Heap) (E1 : Exa Z h0 a1 "java/lang/String") (E2 : Exa Z h0 a2 "java/lang/String") (C1 : Fld Z h0 a1 "java/lang/String" "coder" "B" (.int 1)) (C2 : Fld Z h0 a2 "java/lang/String" "coder" "B" (.int 0)) (ST : own_St Z h0 cs fm) :
    own_Ct l Z (⟨"java/lang/String", "equals", "(Ljava/lang/Object;)Z"⟩ : MethodName) jdk_42_method_66_code 3 (some .boolean) ws ({ frames := 1, cells := 0, slots := 0, locals := 16 } : Room) #[(.ref a1), (.ref a2)] h0 (fun v h L => v = some (.int 0) ∧ L = [] ∧ h = h0) := by
  refine own_of (plainFor_of_name pn_java_lang_String) ?_
  intro p e s m below meth c s₁ hx hby hml hown hnm hret hlk hZ X0 e0
  rw [ef_rmEQ1]
  refine own_by (T' := s₁) (f' := (mkF m 1 #[.val (.ref a1), .val (.ref a2), .unset] [(.ref a1)])) (fun t k => XS.aloadN X0.here hx rfl (hb hby d9_0) rfl rfl k) ?_
  refine own_by (T' := s₁) (f' := (mkF m 2 #[.val (.ref a1), .val (.ref a2), .unset] [(.ref a2), (.ref a1)])) (fun t k => XS.aloadN X0.here hx rfl (hb hby d9_1) rfl rfl k) ?_
  by_cases ha2_11 : a1 = a2
  · have _ := X0
    refine own_by (T' := s₁) (f' := (mkF m 5 #[.val (.ref a1), .val (.ref a2), .unset] [])) (fun t k => Jvm.RoadKit.acmp (g := (mkF m 2 #[.val (.ref a1), .val (.ref a2), .unset] [(.ref a2), (.ref a1)])) X0 hx rfl rfl rfl (pc0 := 2) (pc' := 5) (same := true) rfl (hb hby d9_2) rfl (decide_eq_true (congrArg Value.ref ha2_11)) (by decide) (by decide) k) ?_
    refine own_by (T' := s₁) (f' := (mkF m 6 #[.val (.ref a1), .val (.ref a2), .unset] [(.int (1 : Int32))])) (fun t k => XS.iconst X0.here hx rfl (hb hby d9_5) k) ?_
    refine own_retZ X0 hx hret hlk (hb hby d9_6) (Or.inr rfl) (by decide) (by decide) ?_
    try rw [e0]
    exfalso
    have ha := ha2_11
    subst ha
    exact absurd (own_fld_uniq C1 C2) (by decide)
  · have _ := X0
    refine own_by (T' := s₁) (f' := (mkF m 7 #[.val (.ref a1), .val (.ref a2), .unset] [])) (fun t k => Jvm.RoadKit.acmp (g := (mkF m 2 #[.val (.ref a1), .val (.ref a2), .unset] [(.ref a2), (.ref a1)])) X0 hx rfl rfl rfl (pc0 := 2) (pc' := 7) (same := false) rfl (hb hby d9_2) rfl (decide_eq_false fun q => ha2_11 (Value.ref.inj q)) (by decide) (by decide) k) ?_
    refine own_by (T' := s₁) (f' := (mkF m 8 #[.val (.ref a1), .val (.ref a2), .unset] [(.ref a2)])) (fun t k => XS.aloadN X0.here hx rfl (hb hby d9_7) rfl rfl k) ?_
    obtain ⟨T12, X12, e12, st12⟩ := instY X0 hx hZ hown (hw _ (List.mem_of_getElem? (i := 52) rfl)) e0 (Ins.self E2) (g := (mkF m 8 #[.val (.ref a1), .val (.ref a2), .unset] [(.ref a2)])) rfl rfl (hb hby d9_8)
    refine own_by (f' := (mkF m 11 #[.val (.ref a1), .val (.ref a2), .unset] [(.int (1 : Int32))])) st12 ?_
    refine own_by (T' := T12) (f' := (mkF m 14 #[.val (.ref a1), .val (.ref a2), .unset] [])) (fun t k => XS.ifNo X12.here hx rfl (hb hby d9_11) rfl ((if0 _ _).trans (feq (by decide)).1) k) ?_
    refine own_by (T' := T12) (f' := (mkF m 15 #[.val (.ref a1), .val (.ref a2), .unset] [(.ref a2)])) (fun t k => XS.aloadN X12.here hx rfl (hb hby d9_14) rfl rfl k) ?_
    obtain ⟨T13, X13, e13, st13⟩ := castY X12 hx hZ hown (hw _ (List.mem_of_getElem? (i := 52) rfl)) e12 (Ins.self E2) (g := (mkF m 15 #[.val (.ref a1), .val (.ref a2), .unset] [(.ref a2)])) rfl rfl (hb hby d9_15)
    refine own_by (f' := (mkF m 18 #[.val (.ref a1), .val (.ref a2), .unset] [(.ref a2)])) st13 ?_
    refine own_by (T' := T13) (f' := (mkF m 19 #[.val (.ref a1), .val (.ref a2), .val (.ref a2)] [])) (fun t k => XS.astoreN X13.here hx rfl (hb hby d9_18) rfl rfl (l' := #[.val (.ref a1), .val (.ref a2), .val (.ref a2)]) rfl k) ?_
    refine own_getS (host := "") X13 hx hZ hown e13 (hb hby d9_19) (Or.inl (hw _ (List.mem_of_getElem? (i := 45) rfl))) Via.refl ST.1 ?_
    intro T14 X14 e14
    show own_Go p e below _ T14 (mkF m 22 #[.val (.ref a1), .val (.ref a2), .val (.ref a2)] [(.int cs)])
    refine own_by (T' := T14) (f' := (mkF m 25 #[.val (.ref a1), .val (.ref a2), .val (.ref a2)] [])) (fun t k => XS.ifNo X14.here hx rfl (hb hby d9_22) rfl ((if0 _ _).trans (feq ST.2.2.2.2.2.1).1) k) ?_
    refine own_by (T' := T14) (f' := (mkF m 26 #[.val (.ref a1), .val (.ref a2), .val (.ref a2)] [(.ref a1)])) (fun t k => XS.aloadN X14.here hx rfl (hb hby d9_25) rfl rfl k) ?_
    refine own_getF (host := "") X14 hx hZ hown e14 (hb hby d9_26) (Or.inl (hw _ (List.mem_of_getElem? (i := 25) rfl))) Via.refl C1 ?_
    intro T15 X15 e15
    show own_Go p e below _ T15 (mkF m 29 #[.val (.ref a1), .val (.ref a2), .val (.ref a2)] [(.int (1 : Int32))])
    refine own_by (T' := T15) (f' := (mkF m 30 #[.val (.ref a1), .val (.ref a2), .val (.ref a2)] [(.ref a2), (.int (1 : Int32))])) (fun t k => XS.aloadN X15.here hx rfl (hb hby d9_29) rfl rfl k) ?_
    refine own_getF (host := "") X15 hx hZ hown e15 (hb hby d9_30) (Or.inl (hw _ (List.mem_of_getElem? (i := 25) rfl))) Via.refl C2 ?_
    intro T16 X16 e16
    show own_Go p e below _ T16 (mkF m 33 #[.val (.ref a1), .val (.ref a2), .val (.ref a2)] [(.int (0 : Int32)), (.int (1 : Int32))])
    refine own_by (T' := T16) (f' := (mkF m 54 #[.val (.ref a1), .val (.ref a2), .val (.ref a2)] [])) (fun t k => XS.icmpYes X16.here hx rfl (pc0 := 33) (pc' := 54) rfl (hb hby d9_33) rfl (feq (by decide)).2 (by decide) (by decide) k) ?_
    refine own_by (T' := T16) (f' := (mkF m 55 #[.val (.ref a1), .val (.ref a2), .val (.ref a2)] [(.int (0 : Int32))])) (fun t k => XS.iconst X16.here hx rfl (hb hby d9_54) k) ?_
    refine own_retZ X16 hx hret hlk (hb hby d9_55) (Or.inl rfl) (by decide) (by decide) ?_
    try rw [e16]
    exact ⟨rfl, rfl, rfl⟩
theorem rmEJ1 (l : Launch) (Z : State) (a0 : Array Value) (hw : ∀ d ∈ tables_1, d.before a0 Z = true) (ws : List Jvm.Cond) (a a2 b2 : Addr) (n : Nat) (f : Nat → Int32) (cs : Int32) (fm : Value) (h0 : Heap) (J : own_JS Z h0 a n f) (E2 : Exa Z h0 a2 "java/lang/String") (C2 : Fld Z h0 a2 "java/lang/String" "coder" "B" (.int 0)) (V2 : Fld Z h0 a2 "java/lang/String" "value" "[B" (.ref b2)) (A2 : own_A Z h0 b2 .byte 1 (fun i => List.getD [(46 : Int32)] i 0)) (ST : own_St Z h0 cs fm) : own_Ct l Z (⟨"java/lang/String", "equals", "(Ljava/lang/Object;)Z"⟩ : MethodName) jdk_42_method_66_code 3 (some .boolean) ws ({ frames := 1, cells := 0, slots := 0, locals := 16 } : Room) #[(.ref a), (.ref a2)] h0 (fun v h L => v = some (.int (own_d1 n f)) ∧ L = [] ∧ h = h0) := by
  obtain ⟨hn, hc, E1, b1, z, V1, h4⟩ := J
  rcases h4 with ⟨C1, hz, hl, B1⟩ | ⟨C1, hz, hbg, B1⟩
  · rw [← own_eq1 hc hl]
    exact rmEQ l Z a0 hw ws a a2 b1 b2 z (1 : Int32) n 1 _ _ cs h0 E1 C1 V1 B1 hz E2 C2 V2 A2 (by decide) ST.2.2.2.2.2.1 ST.1
  · rw [own_dz1 hbg]
    exact rmEQ1 l Z a0 hw ws a a2 cs fm h0 E1 E2 C1 C2 ST
theorem rmEJ2 (l : Launch) (Z : State) (a0 : Array Value) (hw : ∀ d ∈ tables_1, d.before a0 Z = true) (ws : List Jvm.Cond) (a a2 b2 : Addr) (n : Nat) (f : Nat → Int32) (cs : Int32) (fm : Value) (h0 : Heap) (J : own_JS Z h0 a n f) (E2 : Exa Z h0 a2 "java/lang/String") (C2 : Fld Z h0 a2 "java/lang/String" "coder" "B" (.int 0)) (V2 : Fld Z h0 a2 "java/lang/String" "value" "[B" (.ref b2)) (A2 : own_A Z h0 b2 .byte 2 (fun i => List.getD [(46 : Int32), (46 : Int32)] i 0)) (ST : own_St Z h0 cs fm) : own_Ct l Z (⟨"java/lang/String", "equals", "(Ljava/lang/Object;)Z"⟩ : MethodName) jdk_42_method_66_code 3 (some .boolean) ws ({ frames := 1, cells := 0, slots := 0, locals := 16 } : Room) #[(.ref a), (.ref a2)] h0 (fun v h L => v = some (.int (own_d2 n f)) ∧ L = [] ∧ h = h0) := by
  obtain ⟨hn, hc, E1, b1, z, V1, h4⟩ := J
  rcases h4 with ⟨C1, hz, hl, B1⟩ | ⟨C1, hz, hbg, B1⟩
  · rw [← own_eq2 hc hl]
    exact rmEQ l Z a0 hw ws a a2 b1 b2 z (2 : Int32) n 2 _ _ cs h0 E1 C1 V1 B1 hz E2 C2 V2 A2 (by decide) ST.2.2.2.2.2.1 ST.1
  · rw [own_dz2 hbg]
    exact rmEQ1 l Z a0 hw ws a a2 cs fm h0 E1 E2 C1 C2 ST
theorem ef_rmID (m : MethodId) (x0 : Addr) : entryFrame m #[(.ref x0)] 4 = mkF m 0 #[.val (.ref x0), .unset, .unset, .unset] [] := by first | (simp [entryFrame, mkF, argsToLocals, Value.category]; done) | rfl
set_option maxRecDepth 65536 in
set_option maxHeartbeats 40000000 in
theorem rmID (l : Launch) (Z : State) (a0 : Array Value) (hw : ∀ d ∈ tables_1, d.before a0 Z = true) (ws : List Jvm.Cond) (a : Addr) (ln : Int32) (n : Nat) (f : Nat → Int32) (cs : Int32) (fm : Value) (h0 : Heap) (hl : ln.toInt = (n : Nat)) (hn : n < 1073741824) (J : own_JS Z h0 a n f) (ST : own_St Z h0 cs fm) :
    own_CtW l Z consts_1 (⟨"com/example/bewaker/bewaker/fhir/Interaction", "isId", "(Ljava/lang/String;)Z"⟩ : MethodName) prog_6_method_6_code 4 (some .boolean) ws ({ frames := 5, cells := 4, slots := 20, locals := 72 } : Room) #[(.ref a)] h0 (fun v h L => ∃ r : Int32, v = some (.int r) ∧ own_idr n f r ∧ L = []) := by
  have hEL := own_EW hw
  refine own_ofW (plainFor_of_name pn_com_example_bewaker_bewaker_fhir_Interaction) ?_
  intro p e s m below meth c s₁ hx hby hml hown hnm hret hlk hZ X0 e0 hs0 hS hk CH
  have post0 : (n = 0 ∨ 64 < n ∨ (∃ q, q < n ∧ own_vc (f q) = 0) ∨ own_d1 n f = 1 ∨ own_d2 n f = 1) → ∀ (iv : Int32) (s3 : Slot) (TL : State), Stand p l e ({ frames := 5, cells := 4, slots := 20, locals := 72 } : Room) (s.setVm s.vm) m #[(.ref a)] below meth c TL [] 0 0 → TL.heap = h0 → own_Go p e below (own_EndsW Z consts_1 s ({ frames := 5, cells := 4, slots := 20, locals := 72 } : Room) (fun v h L => ∃ r : Int32, v = some (.int r) ∧ own_idr n f r ∧ L = [])) TL (mkF m 102 #[.val (.ref a), .val (.int 0), .val (.int iv), s3] []) := by
    intro hR iv s3 TL XL eL
    refine own_by (T' := TL) (f' := (mkF m 103 #[.val (.ref a), .val (.int (0 : Int32)), .val (.int iv), s3] [(.ref a)])) (fun t k => XS.aloadN XL.here hx rfl (hb hby d5_102) rfl rfl k) ?_
    refine own_ldc (us := [(46 : Int32)]) (z := (1 : Int32)) XL hx hZ hown eL (hb hby d5_103) (hw _ (List.mem_of_getElem? (i := 46) rfl)) (own_wS hw) hS hk hEL (by decide) CH own_t_46 (by decide) (by decide) 4 (by decide) (by decide) (by decide) (by decide) ?_
    intro a51 T51 h51 kx51 b51 X51 e51 E51 hS hk hZ hown hW51 CHs51 CH L51 A51 C51 V51 B51 sf51
    show own_Go p e below _ T51 (mkF m 105 #[.val (.ref a), .val (.int (0 : Int32)), .val (.int iv), s3] [(.ref a51), (.ref a)])
    have f52 := (J.ext E51)
    have f53 := (ST.ext E51)
    have f54 := (J.2.2.1.ext E51)
    refine own_callV X51 hx hZ hown e51 (hb hby d5_105) [(.ref a51)] [] 0 (rmEJ1 l Z a0 hw [] a a51 b51 n f cs fm h51 f52 A51 C51 V51 B51 f53) f54 (hw _ (List.mem_of_getElem? (i := 47) rfl)) (hw _ (List.mem_of_getElem? (i := 48) rfl)) (notFace_of_selects (args := #[]) (mvT hZ (hw _ (List.mem_of_getElem? (i := 50) rfl)))) (hw _ (List.mem_of_getElem? (i := 50) rfl)) (hw _ (List.mem_of_getElem? (i := 49) rfl)) (hw _ (List.mem_of_getElem? (i := 7) rfl)) (hw _ (List.mem_of_getElem? (i := 51) rfl)) (by decide) pd__Ljava_lang_Object__Z (by rw [hml]; rfl) rfl rfl (Nat.le_of_eq rfl) (by decide) (by decide) (by decide) (by decide) ?_
    rintro T55 _ L55 X55 ⟨rfl, rfl, e55⟩
    show own_Go p e below _ T55 (mkF m 108 #[.val (.ref a), .val (.int (0 : Int32)), .val (.int iv), s3] [(.int (own_d1 n f))])
    rw [List.append_nil] at X55
    rcases own_d101 n f with hd1 | hd1
    · rw [hd1]
      show own_Go p e below _ T55 (mkF m 108 #[.val (.ref a), .val (.int (0 : Int32)), .val (.int iv), s3] [(.int (0 : Int32))])
      refine own_by (T' := T55) (f' := (mkF m 111 #[.val (.ref a), .val (.int (0 : Int32)), .val (.int iv), s3] [])) (fun t k => XS.ifNo X55.here hx rfl (hb hby d5_108) rfl ((if0 _ _).trans (teq rfl).2) k) ?_
      refine own_by (T' := T55) (f' := (mkF m 112 #[.val (.ref a), .val (.int (0 : Int32)), .val (.int iv), s3] [(.ref a)])) (fun t k => XS.aloadN X55.here hx rfl (hb hby d5_111) rfl rfl k) ?_
      refine own_ldc (us := [(46 : Int32), (46 : Int32)]) (z := (2 : Int32)) X55 hx hZ hown e55 (hb hby d5_112) (hw _ (List.mem_of_getElem? (i := 57) rfl)) (own_wS hw) hS hk hEL (by decide) CH own_t_57 (by decide) (by decide) 8 (by decide) (by decide) (by decide) (by decide) ?_
      intro a56 T56 h56 kx56 b56 X56 e56 E56 hS hk hZ hown hW56 CHs56 CH L56 A56 C56 V56 B56 sf56
      show own_Go p e below _ T56 (mkF m 114 #[.val (.ref a), .val (.int (0 : Int32)), .val (.int iv), s3] [(.ref a56), (.ref a)])
      have f57 := (f52.ext E56)
      have f58 := (f53.ext E56)
      have f59 := (f54.ext E56)
      refine own_callV X56 hx hZ hown e56 (hb hby d5_114) [(.ref a56)] [] 0 (rmEJ2 l Z a0 hw [] a a56 b56 n f cs fm h56 f57 A56 C56 V56 B56 f58) f59 (hw _ (List.mem_of_getElem? (i := 47) rfl)) (hw _ (List.mem_of_getElem? (i := 48) rfl)) (notFace_of_selects (args := #[]) (mvT hZ (hw _ (List.mem_of_getElem? (i := 50) rfl)))) (hw _ (List.mem_of_getElem? (i := 50) rfl)) (hw _ (List.mem_of_getElem? (i := 49) rfl)) (hw _ (List.mem_of_getElem? (i := 7) rfl)) (hw _ (List.mem_of_getElem? (i := 51) rfl)) (by decide) pd__Ljava_lang_Object__Z (by rw [hml]; rfl) rfl rfl (Nat.le_of_eq rfl) (by decide) (by decide) (by decide) (by decide) ?_
      rintro T60 _ L60 X60 ⟨rfl, rfl, e60⟩
      show own_Go p e below _ T60 (mkF m 117 #[.val (.ref a), .val (.int (0 : Int32)), .val (.int iv), s3] [(.int (own_d2 n f))])
      rw [List.append_nil] at X60
      rcases own_d201 n f with hd2 | hd2
      · rw [hd2]
        show own_Go p e below _ T60 (mkF m 117 #[.val (.ref a), .val (.int (0 : Int32)), .val (.int iv), s3] [(.int (0 : Int32))])
        refine own_by (T' := T60) (f' := (mkF m 124 #[.val (.ref a), .val (.int (0 : Int32)), .val (.int iv), s3] [])) (fun t k => XS.ifYes X60.here hx rfl (pc0 := 117) (pc' := 124) rfl (hb hby d5_117) rfl ((if0 _ _).trans (teq rfl).1) (by decide) (by decide) k) ?_
        refine own_by (T' := T60) (f' := (mkF m 125 #[.val (.ref a), .val (.int (0 : Int32)), .val (.int iv), s3] [(.int (0 : Int32))])) (fun t k => XS.iconst X60.here hx rfl (hb hby d5_124) k) ?_
        refine own_by (T' := T60) (f' := (mkF m 126 #[.val (.ref a), .val (.int (0 : Int32)), .val (.int (0 : Int32)), s3] [])) (fun t k => XS.istoreN X60.here hx rfl (hb hby d5_125) rfl (l' := #[.val (.ref a), .val (.int (0 : Int32)), .val (.int (0 : Int32)), s3]) rfl k) ?_
        refine own_by (T' := T60) (f' := (mkF m 127 #[.val (.ref a), .val (.int (0 : Int32)), .val (.int (0 : Int32)), s3] [(.int (0 : Int32))])) (fun t k => XS.iloadN X60.here hx rfl (hb hby d5_126) rfl k) ?_
        refine own_by (T' := T60) (f' := (mkF m 138 #[.val (.ref a), .val (.int (0 : Int32)), .val (.int (0 : Int32)), s3] [])) (fun t k => XS.ifYes X60.here hx rfl (pc0 := 127) (pc' := 138) rfl (hb hby d5_127) rfl ((if0 _ _).trans (teq rfl).1) (by decide) (by decide) k) ?_
        refine own_by (T' := T60) (f' := (mkF m 139 #[.val (.ref a), .val (.int (0 : Int32)), .val (.int (0 : Int32)), s3] [(.int (0 : Int32))])) (fun t k => XS.iconst X60.here hx rfl (hb hby d5_138) k) ?_
        refine own_retW X60 hx hret hlk hZ hEL hs0 e60 hS hk CH (hb hby d5_139) rfl (Or.inl ⟨rfl, Or.inr (Or.inl rfl), _, rfl⟩) (by decide) (by decide) ?_
        try rw [e60]
        exact ⟨_, rfl, Or.inr ⟨rfl, hR⟩, rfl⟩
      · rw [hd2]
        show own_Go p e below _ T60 (mkF m 117 #[.val (.ref a), .val (.int (0 : Int32)), .val (.int iv), s3] [(.int (1 : Int32))])
        refine own_by (T' := T60) (f' := (mkF m 120 #[.val (.ref a), .val (.int (0 : Int32)), .val (.int iv), s3] [])) (fun t k => XS.ifNo X60.here hx rfl (hb hby d5_117) rfl ((if0 _ _).trans (feq (by decide)).1) k) ?_
        refine own_by (T' := T60) (f' := (mkF m 121 #[.val (.ref a), .val (.int (0 : Int32)), .val (.int iv), s3] [(.int (1 : Int32))])) (fun t k => XS.iconst X60.here hx rfl (hb hby d5_120) k) ?_
        refine own_by (T' := T60) (f' := (mkF m 125 #[.val (.ref a), .val (.int (0 : Int32)), .val (.int iv), s3] [(.int (1 : Int32))])) (fun t k => XS.goto X60.here hx rfl (pc0 := 121) (pc' := 125) rfl (hb hby d5_121) (by decide) (by decide) k) ?_
        refine own_by (T' := T60) (f' := (mkF m 126 #[.val (.ref a), .val (.int (0 : Int32)), .val (.int (1 : Int32)), s3] [])) (fun t k => XS.istoreN X60.here hx rfl (hb hby d5_125) rfl (l' := #[.val (.ref a), .val (.int (0 : Int32)), .val (.int (1 : Int32)), s3]) rfl k) ?_
        refine own_by (T' := T60) (f' := (mkF m 127 #[.val (.ref a), .val (.int (0 : Int32)), .val (.int (1 : Int32)), s3] [(.int (0 : Int32))])) (fun t k => XS.iloadN X60.here hx rfl (hb hby d5_126) rfl k) ?_
        refine own_by (T' := T60) (f' := (mkF m 138 #[.val (.ref a), .val (.int (0 : Int32)), .val (.int (1 : Int32)), s3] [])) (fun t k => XS.ifYes X60.here hx rfl (pc0 := 127) (pc' := 138) rfl (hb hby d5_127) rfl ((if0 _ _).trans (teq rfl).1) (by decide) (by decide) k) ?_
        refine own_by (T' := T60) (f' := (mkF m 139 #[.val (.ref a), .val (.int (0 : Int32)), .val (.int (1 : Int32)), s3] [(.int (0 : Int32))])) (fun t k => XS.iconst X60.here hx rfl (hb hby d5_138) k) ?_
        refine own_retW X60 hx hret hlk hZ hEL hs0 e60 hS hk CH (hb hby d5_139) rfl (Or.inl ⟨rfl, Or.inr (Or.inl rfl), _, rfl⟩) (by decide) (by decide) ?_
        try rw [e60]
        exact ⟨_, rfl, Or.inr ⟨rfl, hR⟩, rfl⟩
    · rw [hd1]
      show own_Go p e below _ T55 (mkF m 108 #[.val (.ref a), .val (.int (0 : Int32)), .val (.int iv), s3] [(.int (1 : Int32))])
      refine own_by (T' := T55) (f' := (mkF m 120 #[.val (.ref a), .val (.int (0 : Int32)), .val (.int iv), s3] [])) (fun t k => XS.ifYes X55.here hx rfl (pc0 := 108) (pc' := 120) rfl (hb hby d5_108) rfl ((if0 _ _).trans (feq (by decide)).2) (by decide) (by decide) k) ?_
      refine own_by (T' := T55) (f' := (mkF m 121 #[.val (.ref a), .val (.int (0 : Int32)), .val (.int iv), s3] [(.int (1 : Int32))])) (fun t k => XS.iconst X55.here hx rfl (hb hby d5_120) k) ?_
      refine own_by (T' := T55) (f' := (mkF m 125 #[.val (.ref a), .val (.int (0 : Int32)), .val (.int iv), s3] [(.int (1 : Int32))])) (fun t k => XS.goto X55.here hx rfl (pc0 := 121) (pc' := 125) rfl (hb hby d5_121) (by decide) (by decide) k) ?_
      refine own_by (T' := T55) (f' := (mkF m 126 #[.val (.ref a), .val (.int (0 : Int32)), .val (.int (1 : Int32)), s3] [])) (fun t k => XS.istoreN X55.here hx rfl (hb hby d5_125) rfl (l' := #[.val (.ref a), .val (.int (0 : Int32)), .val (.int (1 : Int32)), s3]) rfl k) ?_
      refine own_by (T' := T55) (f' := (mkF m 127 #[.val (.ref a), .val (.int (0 : Int32)), .val (.int (1 : Int32)), s3] [(.int (0 : Int32))])) (fun t k => XS.iloadN X55.here hx rfl (hb hby d5_126) rfl k) ?_
      refine own_by (T' := T55) (f' := (mkF m 138 #[.val (.ref a), .val (.int (0 : Int32)), .val (.int (1 : Int32)), s3] [])) (fun t k => XS.ifYes X55.here hx rfl (pc0 := 127) (pc' := 138) rfl (hb hby d5_127) rfl ((if0 _ _).trans (teq rfl).1) (by decide) (by decide) k) ?_
      refine own_by (T' := T55) (f' := (mkF m 139 #[.val (.ref a), .val (.int (0 : Int32)), .val (.int (1 : Int32)), s3] [(.int (0 : Int32))])) (fun t k => XS.iconst X55.here hx rfl (hb hby d5_138) k) ?_
      refine own_retW X55 hx hret hlk hZ hEL hs0 e55 hS hk CH (hb hby d5_139) rfl (Or.inl ⟨rfl, Or.inr (Or.inl rfl), _, rfl⟩) (by decide) (by decide) ?_
      try rw [e55]
      exact ⟨_, rfl, Or.inr ⟨rfl, hR⟩, rfl⟩
  have post1 : 1 ≤ n → n ≤ 64 → (∀ q, q < n → own_vc (f q) = 1) → ∀ (iv : Int32) (s3 : Slot) (TL : State), Stand p l e ({ frames := 5, cells := 4, slots := 20, locals := 72 } : Room) (s.setVm s.vm) m #[(.ref a)] below meth c TL [] 0 0 → TL.heap = h0 → own_Go p e below (own_EndsW Z consts_1 s ({ frames := 5, cells := 4, slots := 20, locals := 72 } : Room) (fun v h L => ∃ r : Int32, v = some (.int r) ∧ own_idr n f r ∧ L = [])) TL (mkF m 102 #[.val (.ref a), .val (.int 1), .val (.int iv), s3] []) := by
    intro h1n hn64 hall iv s3 TL XL eL
    refine own_by (T' := TL) (f' := (mkF m 103 #[.val (.ref a), .val (.int (1 : Int32)), .val (.int iv), s3] [(.ref a)])) (fun t k => XS.aloadN XL.here hx rfl (hb hby d5_102) rfl rfl k) ?_
    refine own_ldc (us := [(46 : Int32)]) (z := (1 : Int32)) XL hx hZ hown eL (hb hby d5_103) (hw _ (List.mem_of_getElem? (i := 46) rfl)) (own_wS hw) hS hk hEL (by decide) CH own_t_46 (by decide) (by decide) 4 (by decide) (by decide) (by decide) (by decide) ?_
    intro a51 T51 h51 kx51 b51 X51 e51 E51 hS hk hZ hown hW51 CHs51 CH L51 A51 C51 V51 B51 sf51
    show own_Go p e below _ T51 (mkF m 105 #[.val (.ref a), .val (.int (1 : Int32)), .val (.int iv), s3] [(.ref a51), (.ref a)])
    have f52 := (J.ext E51)
    have f53 := (ST.ext E51)
    have f54 := (J.2.2.1.ext E51)
    refine own_callV X51 hx hZ hown e51 (hb hby d5_105) [(.ref a51)] [] 0 (rmEJ1 l Z a0 hw [] a a51 b51 n f cs fm h51 f52 A51 C51 V51 B51 f53) f54 (hw _ (List.mem_of_getElem? (i := 47) rfl)) (hw _ (List.mem_of_getElem? (i := 48) rfl)) (notFace_of_selects (args := #[]) (mvT hZ (hw _ (List.mem_of_getElem? (i := 50) rfl)))) (hw _ (List.mem_of_getElem? (i := 50) rfl)) (hw _ (List.mem_of_getElem? (i := 49) rfl)) (hw _ (List.mem_of_getElem? (i := 7) rfl)) (hw _ (List.mem_of_getElem? (i := 51) rfl)) (by decide) pd__Ljava_lang_Object__Z (by rw [hml]; rfl) rfl rfl (Nat.le_of_eq rfl) (by decide) (by decide) (by decide) (by decide) ?_
    rintro T55 _ L55 X55 ⟨rfl, rfl, e55⟩
    show own_Go p e below _ T55 (mkF m 108 #[.val (.ref a), .val (.int (1 : Int32)), .val (.int iv), s3] [(.int (own_d1 n f))])
    rw [List.append_nil] at X55
    rcases own_d101 n f with hd1 | hd1
    · rw [hd1]
      show own_Go p e below _ T55 (mkF m 108 #[.val (.ref a), .val (.int (1 : Int32)), .val (.int iv), s3] [(.int (0 : Int32))])
      refine own_by (T' := T55) (f' := (mkF m 111 #[.val (.ref a), .val (.int (1 : Int32)), .val (.int iv), s3] [])) (fun t k => XS.ifNo X55.here hx rfl (hb hby d5_108) rfl ((if0 _ _).trans (teq rfl).2) k) ?_
      refine own_by (T' := T55) (f' := (mkF m 112 #[.val (.ref a), .val (.int (1 : Int32)), .val (.int iv), s3] [(.ref a)])) (fun t k => XS.aloadN X55.here hx rfl (hb hby d5_111) rfl rfl k) ?_
      refine own_ldc (us := [(46 : Int32), (46 : Int32)]) (z := (2 : Int32)) X55 hx hZ hown e55 (hb hby d5_112) (hw _ (List.mem_of_getElem? (i := 57) rfl)) (own_wS hw) hS hk hEL (by decide) CH own_t_57 (by decide) (by decide) 8 (by decide) (by decide) (by decide) (by decide) ?_
      intro a56 T56 h56 kx56 b56 X56 e56 E56 hS hk hZ hown hW56 CHs56 CH L56 A56 C56 V56 B56 sf56
      show own_Go p e below _ T56 (mkF m 114 #[.val (.ref a), .val (.int (1 : Int32)), .val (.int iv), s3] [(.ref a56), (.ref a)])
      have f57 := (f52.ext E56)
      have f58 := (f53.ext E56)
      have f59 := (f54.ext E56)
      refine own_callV X56 hx hZ hown e56 (hb hby d5_114) [(.ref a56)] [] 0 (rmEJ2 l Z a0 hw [] a a56 b56 n f cs fm h56 f57 A56 C56 V56 B56 f58) f59 (hw _ (List.mem_of_getElem? (i := 47) rfl)) (hw _ (List.mem_of_getElem? (i := 48) rfl)) (notFace_of_selects (args := #[]) (mvT hZ (hw _ (List.mem_of_getElem? (i := 50) rfl)))) (hw _ (List.mem_of_getElem? (i := 50) rfl)) (hw _ (List.mem_of_getElem? (i := 49) rfl)) (hw _ (List.mem_of_getElem? (i := 7) rfl)) (hw _ (List.mem_of_getElem? (i := 51) rfl)) (by decide) pd__Ljava_lang_Object__Z (by rw [hml]; rfl) rfl rfl (Nat.le_of_eq rfl) (by decide) (by decide) (by decide) (by decide) ?_
      rintro T60 _ L60 X60 ⟨rfl, rfl, e60⟩
      show own_Go p e below _ T60 (mkF m 117 #[.val (.ref a), .val (.int (1 : Int32)), .val (.int iv), s3] [(.int (own_d2 n f))])
      rw [List.append_nil] at X60
      rcases own_d201 n f with hd2 | hd2
      · rw [hd2]
        show own_Go p e below _ T60 (mkF m 117 #[.val (.ref a), .val (.int (1 : Int32)), .val (.int iv), s3] [(.int (0 : Int32))])
        refine own_by (T' := T60) (f' := (mkF m 124 #[.val (.ref a), .val (.int (1 : Int32)), .val (.int iv), s3] [])) (fun t k => XS.ifYes X60.here hx rfl (pc0 := 117) (pc' := 124) rfl (hb hby d5_117) rfl ((if0 _ _).trans (teq rfl).1) (by decide) (by decide) k) ?_
        refine own_by (T' := T60) (f' := (mkF m 125 #[.val (.ref a), .val (.int (1 : Int32)), .val (.int iv), s3] [(.int (0 : Int32))])) (fun t k => XS.iconst X60.here hx rfl (hb hby d5_124) k) ?_
        refine own_by (T' := T60) (f' := (mkF m 126 #[.val (.ref a), .val (.int (1 : Int32)), .val (.int (0 : Int32)), s3] [])) (fun t k => XS.istoreN X60.here hx rfl (hb hby d5_125) rfl (l' := #[.val (.ref a), .val (.int (1 : Int32)), .val (.int (0 : Int32)), s3]) rfl k) ?_
        refine own_by (T' := T60) (f' := (mkF m 127 #[.val (.ref a), .val (.int (1 : Int32)), .val (.int (0 : Int32)), s3] [(.int (1 : Int32))])) (fun t k => XS.iloadN X60.here hx rfl (hb hby d5_126) rfl k) ?_
        refine own_by (T' := T60) (f' := (mkF m 130 #[.val (.ref a), .val (.int (1 : Int32)), .val (.int (0 : Int32)), s3] [])) (fun t k => XS.ifNo X60.here hx rfl (hb hby d5_127) rfl ((if0 _ _).trans (feq (by decide)).1) k) ?_
        refine own_by (T' := T60) (f' := (mkF m 131 #[.val (.ref a), .val (.int (1 : Int32)), .val (.int (0 : Int32)), s3] [(.int (0 : Int32))])) (fun t k => XS.iloadN X60.here hx rfl (hb hby d5_130) rfl k) ?_
        refine own_by (T' := T60) (f' := (mkF m 134 #[.val (.ref a), .val (.int (1 : Int32)), .val (.int (0 : Int32)), s3] [])) (fun t k => XS.ifNo X60.here hx rfl (hb hby d5_131) rfl ((if0 _ _).trans (teq rfl).2) k) ?_
        refine own_by (T' := T60) (f' := (mkF m 135 #[.val (.ref a), .val (.int (1 : Int32)), .val (.int (0 : Int32)), s3] [(.int (1 : Int32))])) (fun t k => XS.iconst X60.here hx rfl (hb hby d5_134) k) ?_
        refine own_by (T' := T60) (f' := (mkF m 139 #[.val (.ref a), .val (.int (1 : Int32)), .val (.int (0 : Int32)), s3] [(.int (1 : Int32))])) (fun t k => XS.goto X60.here hx rfl (pc0 := 135) (pc' := 139) rfl (hb hby d5_135) (by decide) (by decide) k) ?_
        refine own_retW X60 hx hret hlk hZ hEL hs0 e60 hS hk CH (hb hby d5_139) rfl (Or.inl ⟨rfl, Or.inr (Or.inl rfl), _, rfl⟩) (by decide) (by decide) ?_
        try rw [e60]
        exact ⟨_, rfl, Or.inl ⟨rfl, h1n, hn64, hall, hd1, hd2⟩, rfl⟩
      · rw [hd2]
        show own_Go p e below _ T60 (mkF m 117 #[.val (.ref a), .val (.int (1 : Int32)), .val (.int iv), s3] [(.int (1 : Int32))])
        refine own_by (T' := T60) (f' := (mkF m 120 #[.val (.ref a), .val (.int (1 : Int32)), .val (.int iv), s3] [])) (fun t k => XS.ifNo X60.here hx rfl (hb hby d5_117) rfl ((if0 _ _).trans (feq (by decide)).1) k) ?_
        refine own_by (T' := T60) (f' := (mkF m 121 #[.val (.ref a), .val (.int (1 : Int32)), .val (.int iv), s3] [(.int (1 : Int32))])) (fun t k => XS.iconst X60.here hx rfl (hb hby d5_120) k) ?_
        refine own_by (T' := T60) (f' := (mkF m 125 #[.val (.ref a), .val (.int (1 : Int32)), .val (.int iv), s3] [(.int (1 : Int32))])) (fun t k => XS.goto X60.here hx rfl (pc0 := 121) (pc' := 125) rfl (hb hby d5_121) (by decide) (by decide) k) ?_
        refine own_by (T' := T60) (f' := (mkF m 126 #[.val (.ref a), .val (.int (1 : Int32)), .val (.int (1 : Int32)), s3] [])) (fun t k => XS.istoreN X60.here hx rfl (hb hby d5_125) rfl (l' := #[.val (.ref a), .val (.int (1 : Int32)), .val (.int (1 : Int32)), s3]) rfl k) ?_
        refine own_by (T' := T60) (f' := (mkF m 127 #[.val (.ref a), .val (.int (1 : Int32)), .val (.int (1 : Int32)), s3] [(.int (1 : Int32))])) (fun t k => XS.iloadN X60.here hx rfl (hb hby d5_126) rfl k) ?_
        refine own_by (T' := T60) (f' := (mkF m 130 #[.val (.ref a), .val (.int (1 : Int32)), .val (.int (1 : Int32)), s3] [])) (fun t k => XS.ifNo X60.here hx rfl (hb hby d5_127) rfl ((if0 _ _).trans (feq (by decide)).1) k) ?_
        refine own_by (T' := T60) (f' := (mkF m 131 #[.val (.ref a), .val (.int (1 : Int32)), .val (.int (1 : Int32)), s3] [(.int (1 : Int32))])) (fun t k => XS.iloadN X60.here hx rfl (hb hby d5_130) rfl k) ?_
        refine own_by (T' := T60) (f' := (mkF m 138 #[.val (.ref a), .val (.int (1 : Int32)), .val (.int (1 : Int32)), s3] [])) (fun t k => XS.ifYes X60.here hx rfl (pc0 := 131) (pc' := 138) rfl (hb hby d5_131) rfl ((if0 _ _).trans (feq (by decide)).2) (by decide) (by decide) k) ?_
        refine own_by (T' := T60) (f' := (mkF m 139 #[.val (.ref a), .val (.int (1 : Int32)), .val (.int (1 : Int32)), s3] [(.int (0 : Int32))])) (fun t k => XS.iconst X60.here hx rfl (hb hby d5_138) k) ?_
        refine own_retW X60 hx hret hlk hZ hEL hs0 e60 hS hk CH (hb hby d5_139) rfl (Or.inl ⟨rfl, Or.inr (Or.inl rfl), _, rfl⟩) (by decide) (by decide) ?_
        try rw [e60]
        exact ⟨_, rfl, Or.inr ⟨rfl, Or.inr (Or.inr (Or.inr (Or.inr hd2)))⟩, rfl⟩
    · rw [hd1]
      show own_Go p e below _ T55 (mkF m 108 #[.val (.ref a), .val (.int (1 : Int32)), .val (.int iv), s3] [(.int (1 : Int32))])
      refine own_by (T' := T55) (f' := (mkF m 120 #[.val (.ref a), .val (.int (1 : Int32)), .val (.int iv), s3] [])) (fun t k => XS.ifYes X55.here hx rfl (pc0 := 108) (pc' := 120) rfl (hb hby d5_108) rfl ((if0 _ _).trans (feq (by decide)).2) (by decide) (by decide) k) ?_
      refine own_by (T' := T55) (f' := (mkF m 121 #[.val (.ref a), .val (.int (1 : Int32)), .val (.int iv), s3] [(.int (1 : Int32))])) (fun t k => XS.iconst X55.here hx rfl (hb hby d5_120) k) ?_
      refine own_by (T' := T55) (f' := (mkF m 125 #[.val (.ref a), .val (.int (1 : Int32)), .val (.int iv), s3] [(.int (1 : Int32))])) (fun t k => XS.goto X55.here hx rfl (pc0 := 121) (pc' := 125) rfl (hb hby d5_121) (by decide) (by decide) k) ?_
      refine own_by (T' := T55) (f' := (mkF m 126 #[.val (.ref a), .val (.int (1 : Int32)), .val (.int (1 : Int32)), s3] [])) (fun t k => XS.istoreN X55.here hx rfl (hb hby d5_125) rfl (l' := #[.val (.ref a), .val (.int (1 : Int32)), .val (.int (1 : Int32)), s3]) rfl k) ?_
      refine own_by (T' := T55) (f' := (mkF m 127 #[.val (.ref a), .val (.int (1 : Int32)), .val (.int (1 : Int32)), s3] [(.int (1 : Int32))])) (fun t k => XS.iloadN X55.here hx rfl (hb hby d5_126) rfl k) ?_
      refine own_by (T' := T55) (f' := (mkF m 130 #[.val (.ref a), .val (.int (1 : Int32)), .val (.int (1 : Int32)), s3] [])) (fun t k => XS.ifNo X55.here hx rfl (hb hby d5_127) rfl ((if0 _ _).trans (feq (by decide)).1) k) ?_
      refine own_by (T' := T55) (f' := (mkF m 131 #[.val (.ref a), .val (.int (1 : Int32)), .val (.int (1 : Int32)), s3] [(.int (1 : Int32))])) (fun t k => XS.iloadN X55.here hx rfl (hb hby d5_130) rfl k) ?_
      refine own_by (T' := T55) (f' := (mkF m 138 #[.val (.ref a), .val (.int (1 : Int32)), .val (.int (1 : Int32)), s3] [])) (fun t k => XS.ifYes X55.here hx rfl (pc0 := 131) (pc' := 138) rfl (hb hby d5_131) rfl ((if0 _ _).trans (feq (by decide)).2) (by decide) (by decide) k) ?_
      refine own_by (T' := T55) (f' := (mkF m 139 #[.val (.ref a), .val (.int (1 : Int32)), .val (.int (1 : Int32)), s3] [(.int (0 : Int32))])) (fun t k => XS.iconst X55.here hx rfl (hb hby d5_138) k) ?_
      refine own_retW X55 hx hret hlk hZ hEL hs0 e55 hS hk CH (hb hby d5_139) rfl (Or.inl ⟨rfl, Or.inr (Or.inl rfl), _, rfl⟩) (by decide) (by decide) ?_
      try rw [e55]
      exact ⟨_, rfl, Or.inr ⟨rfl, Or.inr (Or.inr (Or.inr (Or.inl hd1)))⟩, rfl⟩
  have zero : (n = 0 ∨ 64 < n ∨ (∃ q, q < n ∧ own_vc (f q) = 0) ∨ own_d1 n f = 1 ∨ own_d2 n f = 1) → ∀ (iv : Int32) (s3 : Slot) (TL : State), Stand p l e ({ frames := 5, cells := 4, slots := 20, locals := 72 } : Room) (s.setVm s.vm) m #[(.ref a)] below meth c TL [] 0 0 → TL.heap = h0 → own_Go p e below (own_EndsW Z consts_1 s ({ frames := 5, cells := 4, slots := 20, locals := 72 } : Room) (fun v h L => ∃ r : Int32, v = some (.int r) ∧ own_idr n f r ∧ L = [])) TL (mkF m 24 #[.val (.ref a), .val (.int 0), .val (.int iv), s3] []) := by
    intro hR iv s3 TL XL eL
    refine own_by (T' := TL) (f' := (mkF m 25 #[.val (.ref a), .val (.int (0 : Int32)), .val (.int iv), s3] [(.int iv)])) (fun t k => XS.iloadN XL.here hx rfl (hb hby d5_24) rfl k) ?_
    refine own_by (T' := TL) (f' := (mkF m 26 #[.val (.ref a), .val (.int (0 : Int32)), .val (.int iv), s3] [(.ref a), (.int iv)])) (fun t k => XS.aloadN XL.here hx rfl (hb hby d5_25) rfl rfl k) ?_
    refine own_callV XL hx hZ hown eL (hb hby d5_26) [] [(.int iv)] 1 (rmLN l Z a0 hw [] a ln n f cs fm h0 hl J ST) J.2.2.1 (hw _ (List.mem_of_getElem? (i := 35) rfl)) (hw _ (List.mem_of_getElem? (i := 36) rfl)) (notFace_of_selects (args := #[]) (mvT hZ (hw _ (List.mem_of_getElem? (i := 38) rfl)))) (hw _ (List.mem_of_getElem? (i := 38) rfl)) (hw _ (List.mem_of_getElem? (i := 37) rfl)) (hw _ (List.mem_of_getElem? (i := 7) rfl)) (hw _ (List.mem_of_getElem? (i := 39) rfl)) (by decide) pd___I (by rw [hml]; rfl) rfl rfl (Nat.le_of_eq rfl) (by decide) (by decide) (by decide) (by decide) ?_
    rintro T51 _ L51 X51 ⟨rfl, rfl, e51⟩
    show own_Go p e below _ T51 (mkF m 29 #[.val (.ref a), .val (.int (0 : Int32)), .val (.int iv), s3] [(.int ln), (.int iv)])
    rw [List.append_nil] at X51
    by_cases hc29_52 : iv < ln
    · have _ := X51
      refine own_by (T' := T51) (f' := (mkF m 32 #[.val (.ref a), .val (.int (0 : Int32)), .val (.int iv), s3] [])) (fun t k => XS.icmpNo X51.here hx rfl (hb hby d5_29) rfl (tlt hc29_52).2.1 k) ?_
      refine own_by (T' := T51) (f' := (mkF m 33 #[.val (.ref a), .val (.int (0 : Int32)), .val (.int iv), s3] [(.int (0 : Int32))])) (fun t k => XS.iloadN X51.here hx rfl (hb hby d5_32) rfl k) ?_
      refine own_by (T' := T51) (f' := (mkF m 102 #[.val (.ref a), .val (.int (0 : Int32)), .val (.int iv), s3] [])) (fun t k => XS.ifYes X51.here hx rfl (pc0 := 33) (pc' := 102) rfl (hb hby d5_33) rfl ((if0 _ _).trans (teq rfl).1) (by decide) (by decide) k) ?_
      exact post0 hR iv s3 T51 X51 e51
    · have _ := X51
      refine own_by (T' := T51) (f' := (mkF m 102 #[.val (.ref a), .val (.int (0 : Int32)), .val (.int iv), s3] [])) (fun t k => XS.icmpYes X51.here hx rfl (pc0 := 29) (pc' := 102) rfl (hb hby d5_29) rfl (flt hc29_52).2.1 (by decide) (by decide) k) ?_
      exact post0 hR iv s3 T51 X51 e51
  have loop : 1 ≤ n → n ≤ 64 → ∀ (k j : Nat) (iv : Int32) (s3 : Slot) (TL : State), One s3 → j + k = n → iv.toInt = (j : Nat) → (∀ q, q < j → own_vc (f q) = 1) → Stand p l e ({ frames := 5, cells := 4, slots := 20, locals := 72 } : Room) (s.setVm s.vm) m #[(.ref a)] below meth c TL [] 0 0 → TL.heap = h0 → own_Go p e below (own_EndsW Z consts_1 s ({ frames := 5, cells := 4, slots := 20, locals := 72 } : Room) (fun v h L => ∃ r : Int32, v = some (.int r) ∧ own_idr n f r ∧ L = [])) TL (mkF m 24 #[.val (.ref a), .val (.int 1), .val (.int iv), s3] []) := by
    intro h1n hn64 k
    induction k with
    | zero =>
      intro j iv s3 TL hs3 hjk hiv hall XL eL
      refine own_by (T' := TL) (f' := (mkF m 25 #[.val (.ref a), .val (.int (1 : Int32)), .val (.int iv), s3] [(.int iv)])) (fun t k => XS.iloadN XL.here hx rfl (hb hby d5_24) rfl k) ?_
      refine own_by (T' := TL) (f' := (mkF m 26 #[.val (.ref a), .val (.int (1 : Int32)), .val (.int iv), s3] [(.ref a), (.int iv)])) (fun t k => XS.aloadN XL.here hx rfl (hb hby d5_25) rfl rfl k) ?_
      refine own_callV XL hx hZ hown eL (hb hby d5_26) [] [(.int iv)] 1 (rmLN l Z a0 hw [] a ln n f cs fm h0 hl J ST) J.2.2.1 (hw _ (List.mem_of_getElem? (i := 35) rfl)) (hw _ (List.mem_of_getElem? (i := 36) rfl)) (notFace_of_selects (args := #[]) (mvT hZ (hw _ (List.mem_of_getElem? (i := 38) rfl)))) (hw _ (List.mem_of_getElem? (i := 38) rfl)) (hw _ (List.mem_of_getElem? (i := 37) rfl)) (hw _ (List.mem_of_getElem? (i := 7) rfl)) (hw _ (List.mem_of_getElem? (i := 39) rfl)) (by decide) pd___I (by rw [hml]; rfl) rfl rfl (Nat.le_of_eq rfl) (by decide) (by decide) (by decide) (by decide) ?_
      rintro T51 _ L51 X51 ⟨rfl, rfl, e51⟩
      show own_Go p e below _ T51 (mkF m 29 #[.val (.ref a), .val (.int (1 : Int32)), .val (.int iv), s3] [(.int ln), (.int iv)])
      rw [List.append_nil] at X51
      have hc29_52 : ¬ (iv < ln) := (by rw [Int32.lt_iff_toInt_lt]; omega)
      refine own_by (T' := T51) (f' := (mkF m 102 #[.val (.ref a), .val (.int (1 : Int32)), .val (.int iv), s3] [])) (fun t k => XS.icmpYes X51.here hx rfl (pc0 := 29) (pc' := 102) rfl (hb hby d5_29) rfl (flt hc29_52).2.1 (by decide) (by decide) k) ?_
      exact post1 h1n hn64 (fun q hq => hall q (by omega)) iv s3 T51 X51 e51
    | succ k ih =>
      intro j iv s3 TL hs3 hjk hiv hall XL eL
      refine own_by (T' := TL) (f' := (mkF m 25 #[.val (.ref a), .val (.int (1 : Int32)), .val (.int iv), s3] [(.int iv)])) (fun t k => XS.iloadN XL.here hx rfl (hb hby d5_24) rfl k) ?_
      refine own_by (T' := TL) (f' := (mkF m 26 #[.val (.ref a), .val (.int (1 : Int32)), .val (.int iv), s3] [(.ref a), (.int iv)])) (fun t k => XS.aloadN XL.here hx rfl (hb hby d5_25) rfl rfl k) ?_
      refine own_callV XL hx hZ hown eL (hb hby d5_26) [] [(.int iv)] 1 (rmLN l Z a0 hw [] a ln n f cs fm h0 hl J ST) J.2.2.1 (hw _ (List.mem_of_getElem? (i := 35) rfl)) (hw _ (List.mem_of_getElem? (i := 36) rfl)) (notFace_of_selects (args := #[]) (mvT hZ (hw _ (List.mem_of_getElem? (i := 38) rfl)))) (hw _ (List.mem_of_getElem? (i := 38) rfl)) (hw _ (List.mem_of_getElem? (i := 37) rfl)) (hw _ (List.mem_of_getElem? (i := 7) rfl)) (hw _ (List.mem_of_getElem? (i := 39) rfl)) (by decide) pd___I (by rw [hml]; rfl) rfl rfl (Nat.le_of_eq rfl) (by decide) (by decide) (by decide) (by decide) ?_
      rintro T51 _ L51 X51 ⟨rfl, rfl, e51⟩
      show own_Go p e below _ T51 (mkF m 29 #[.val (.ref a), .val (.int (1 : Int32)), .val (.int iv), s3] [(.int ln), (.int iv)])
      rw [List.append_nil] at X51
      have hc29_52 : iv < ln := (by rw [Int32.lt_iff_toInt_lt]; omega)
      refine own_by (T' := T51) (f' := (mkF m 32 #[.val (.ref a), .val (.int (1 : Int32)), .val (.int iv), s3] [])) (fun t k => XS.icmpNo X51.here hx rfl (hb hby d5_29) rfl (tlt hc29_52).2.1 k) ?_
      refine own_by (T' := T51) (f' := (mkF m 33 #[.val (.ref a), .val (.int (1 : Int32)), .val (.int iv), s3] [(.int (1 : Int32))])) (fun t k => XS.iloadN X51.here hx rfl (hb hby d5_32) rfl k) ?_
      refine own_by (T' := T51) (f' := (mkF m 36 #[.val (.ref a), .val (.int (1 : Int32)), .val (.int iv), s3] [])) (fun t k => XS.ifNo X51.here hx rfl (hb hby d5_33) rfl ((if0 _ _).trans (feq (by decide)).1) k) ?_
      refine own_by (T' := T51) (f' := (mkF m 37 #[.val (.ref a), .val (.int (1 : Int32)), .val (.int iv), s3] [(.ref a)])) (fun t k => XS.aloadN X51.here hx rfl (hb hby d5_36) rfl rfl k) ?_
      refine own_by (T' := T51) (f' := (mkF m 38 #[.val (.ref a), .val (.int (1 : Int32)), .val (.int iv), s3] [(.int iv), (.ref a)])) (fun t k => XS.iloadN X51.here hx rfl (hb hby d5_37) rfl k) ?_
      refine own_callV X51 hx hZ hown e51 (hb hby d5_38) [(.int iv)] [] 0 (rmCA l Z a0 hw [] a iv j n f cs fm h0 hiv (by omega) J ST) J.2.2.1 (hw _ (List.mem_of_getElem? (i := 68) rfl)) (hw _ (List.mem_of_getElem? (i := 69) rfl)) (notFace_of_selects (args := #[]) (mvT hZ (hw _ (List.mem_of_getElem? (i := 71) rfl)))) (hw _ (List.mem_of_getElem? (i := 71) rfl)) (hw _ (List.mem_of_getElem? (i := 70) rfl)) (hw _ (List.mem_of_getElem? (i := 7) rfl)) (hw _ (List.mem_of_getElem? (i := 72) rfl)) (by decide) pd__I_C (by rw [hml]; rfl) rfl rfl (Nat.le_of_eq rfl) (by decide) (by decide) (by decide) (by decide) ?_
      rintro T53 _ L53 X53 ⟨rfl, rfl, e53⟩
      show own_Go p e below _ T53 (mkF m 41 #[.val (.ref a), .val (.int (1 : Int32)), .val (.int iv), s3] [(.int (f j))])
      rw [List.append_nil] at X53
      refine own_by (T' := T53) (f' := (mkF m 42 #[.val (.ref a), .val (.int (1 : Int32)), .val (.int iv), .val (.int (f j))] [])) (fun t k => XS.istoreN X53.here hx rfl (hb hby d5_41) rfl (l' := #[.val (.ref a), .val (.int (1 : Int32)), .val (.int iv), .val (.int (f j))]) (os_b_5_41 hs3) k) ?_
      refine own_by (T' := T53) (f' := (mkF m 43 #[.val (.ref a), .val (.int (1 : Int32)), .val (.int iv), .val (.int (f j))] [(.int (f j))])) (fun t k => XS.iloadN X53.here hx rfl (hb hby d5_42) rfl k) ?_
      refine own_by (T' := T53) (f' := (mkF m 45 #[.val (.ref a), .val (.int (1 : Int32)), .val (.int iv), .val (.int (f j))] [(.int (65 : Int32)), (.int (f j))])) (fun t k => XS.bipush X53.here hx rfl (hb hby d5_43) k) ?_
      have mg84 : ∀ t, Steps p.tables e below (T53.setTop (mkF m 95 #[.val (.ref a), .val (.int (1 : Int32)), .val (.int iv), .val (.int (f j))] [(.int (if (f j) < (65 : Int32) then (if (f j) < (97 : Int32) then (if (f j) < (48 : Int32) then (if (f j) = (45 : Int32) then (1 : Int32) else (if (f j) = (46 : Int32) then (1 : Int32) else (0 : Int32))) else (if (57 : Int32) < (f j) then (if (f j) = (45 : Int32) then (1 : Int32) else (if (f j) = (46 : Int32) then (1 : Int32) else (0 : Int32))) else (1 : Int32))) else (if (122 : Int32) < (f j) then (if (f j) < (48 : Int32) then (if (f j) = (45 : Int32) then (1 : Int32) else (if (f j) = (46 : Int32) then (1 : Int32) else (0 : Int32))) else (if (57 : Int32) < (f j) then (if (f j) = (45 : Int32) then (1 : Int32) else (if (f j) = (46 : Int32) then (1 : Int32) else (0 : Int32))) else (1 : Int32))) else (1 : Int32))) else (if (90 : Int32) < (f j) then (if (f j) < (97 : Int32) then (if (f j) < (48 : Int32) then (if (f j) = (45 : Int32) then (1 : Int32) else (if (f j) = (46 : Int32) then (1 : Int32) else (0 : Int32))) else (if (57 : Int32) < (f j) then (if (f j) = (45 : Int32) then (1 : Int32) else (if (f j) = (46 : Int32) then (1 : Int32) else (0 : Int32))) else (1 : Int32))) else (if (122 : Int32) < (f j) then (if (f j) < (48 : Int32) then (if (f j) = (45 : Int32) then (1 : Int32) else (if (f j) = (46 : Int32) then (1 : Int32) else (0 : Int32))) else (if (57 : Int32) < (f j) then (if (f j) = (45 : Int32) then (1 : Int32) else (if (f j) = (46 : Int32) then (1 : Int32) else (0 : Int32))) else (1 : Int32))) else (1 : Int32))) else (1 : Int32))))])) t → Steps p.tables e below (T53.setTop (mkF m 45 #[.val (.ref a), .val (.int (1 : Int32)), .val (.int iv), .val (.int (f j))] [(.int (65 : Int32)), (.int (f j))])) t := by
        intro t k0
        by_cases hm54 : (f j) < (65 : Int32)
        · skip
          refine XS.icmpYes X53.here hx rfl (pc0 := 45) (pc' := 54) rfl (hb hby d5_45) rfl (tlt hm54).1 (by decide) (by decide) ?_
          show Steps p.tables e below (T53.setTop (mkF m 54 #[.val (.ref a), .val (.int (1 : Int32)), .val (.int iv), .val (.int (f j))] [])) _
          refine XS.iloadN X53.here hx rfl (hb hby d5_54) rfl ?_
          show Steps p.tables e below (T53.setTop (mkF m 55 #[.val (.ref a), .val (.int (1 : Int32)), .val (.int iv), .val (.int (f j))] [(.int (f j))])) _
          refine XS.bipush X53.here hx rfl (hb hby d5_55) ?_
          show Steps p.tables e below (T53.setTop (mkF m 57 #[.val (.ref a), .val (.int (1 : Int32)), .val (.int iv), .val (.int (f j))] [(.int (97 : Int32)), (.int (f j))])) _
          by_cases hm55 : (f j) < (97 : Int32)
          · skip
            refine XS.icmpYes X53.here hx rfl (pc0 := 57) (pc' := 66) rfl (hb hby d5_57) rfl (tlt hm55).1 (by decide) (by decide) ?_
            show Steps p.tables e below (T53.setTop (mkF m 66 #[.val (.ref a), .val (.int (1 : Int32)), .val (.int iv), .val (.int (f j))] [])) _
            refine XS.iloadN X53.here hx rfl (hb hby d5_66) rfl ?_
            show Steps p.tables e below (T53.setTop (mkF m 67 #[.val (.ref a), .val (.int (1 : Int32)), .val (.int iv), .val (.int (f j))] [(.int (f j))])) _
            refine XS.bipush X53.here hx rfl (hb hby d5_67) ?_
            show Steps p.tables e below (T53.setTop (mkF m 69 #[.val (.ref a), .val (.int (1 : Int32)), .val (.int iv), .val (.int (f j))] [(.int (48 : Int32)), (.int (f j))])) _
            by_cases hm56 : (f j) < (48 : Int32)
            · skip
              refine XS.icmpYes X53.here hx rfl (pc0 := 69) (pc' := 78) rfl (hb hby d5_69) rfl (tlt hm56).1 (by decide) (by decide) ?_
              show Steps p.tables e below (T53.setTop (mkF m 78 #[.val (.ref a), .val (.int (1 : Int32)), .val (.int iv), .val (.int (f j))] [])) _
              refine XS.iloadN X53.here hx rfl (hb hby d5_78) rfl ?_
              show Steps p.tables e below (T53.setTop (mkF m 79 #[.val (.ref a), .val (.int (1 : Int32)), .val (.int iv), .val (.int (f j))] [(.int (f j))])) _
              refine XS.bipush X53.here hx rfl (hb hby d5_79) ?_
              show Steps p.tables e below (T53.setTop (mkF m 81 #[.val (.ref a), .val (.int (1 : Int32)), .val (.int iv), .val (.int (f j))] [(.int (45 : Int32)), (.int (f j))])) _
              by_cases hm57 : (f j) = (45 : Int32)
              · skip
                refine XS.icmpYes X53.here hx rfl (pc0 := 81) (pc' := 90) rfl (hb hby d5_81) rfl (teq hm57).1 (by decide) (by decide) ?_
                show Steps p.tables e below (T53.setTop (mkF m 90 #[.val (.ref a), .val (.int (1 : Int32)), .val (.int iv), .val (.int (f j))] [])) _
                refine XS.iconst X53.here hx rfl (hb hby d5_90) ?_
                show Steps p.tables e below (T53.setTop (mkF m 91 #[.val (.ref a), .val (.int (1 : Int32)), .val (.int iv), .val (.int (f j))] [(.int (1 : Int32))])) _
                refine XS.goto X53.here hx rfl (pc0 := 91) (pc' := 95) rfl (hb hby d5_91) (by decide) (by decide) ?_
                show Steps p.tables e below (T53.setTop (mkF m 95 #[.val (.ref a), .val (.int (1 : Int32)), .val (.int iv), .val (.int (f j))] [(.int (1 : Int32))])) _
                try simp only [if_pos hm54, if_pos hm55, if_pos hm56, if_pos hm57] at k0
                exact k0
              · skip
                refine XS.icmpNo X53.here hx rfl (hb hby d5_81) rfl (feq hm57).1 ?_
                show Steps p.tables e below (T53.setTop (mkF m 84 #[.val (.ref a), .val (.int (1 : Int32)), .val (.int iv), .val (.int (f j))] [])) _
                refine XS.iloadN X53.here hx rfl (hb hby d5_84) rfl ?_
                show Steps p.tables e below (T53.setTop (mkF m 85 #[.val (.ref a), .val (.int (1 : Int32)), .val (.int iv), .val (.int (f j))] [(.int (f j))])) _
                refine XS.bipush X53.here hx rfl (hb hby d5_85) ?_
                show Steps p.tables e below (T53.setTop (mkF m 87 #[.val (.ref a), .val (.int (1 : Int32)), .val (.int iv), .val (.int (f j))] [(.int (46 : Int32)), (.int (f j))])) _
                by_cases hm58 : (f j) = (46 : Int32)
                · skip
                  refine XS.icmpNo X53.here hx rfl (hb hby d5_87) rfl (teq hm58).2 ?_
                  show Steps p.tables e below (T53.setTop (mkF m 90 #[.val (.ref a), .val (.int (1 : Int32)), .val (.int iv), .val (.int (f j))] [])) _
                  refine XS.iconst X53.here hx rfl (hb hby d5_90) ?_
                  show Steps p.tables e below (T53.setTop (mkF m 91 #[.val (.ref a), .val (.int (1 : Int32)), .val (.int iv), .val (.int (f j))] [(.int (1 : Int32))])) _
                  refine XS.goto X53.here hx rfl (pc0 := 91) (pc' := 95) rfl (hb hby d5_91) (by decide) (by decide) ?_
                  show Steps p.tables e below (T53.setTop (mkF m 95 #[.val (.ref a), .val (.int (1 : Int32)), .val (.int iv), .val (.int (f j))] [(.int (1 : Int32))])) _
                  try simp only [if_pos hm54, if_pos hm55, if_pos hm56, if_neg hm57, if_pos hm58] at k0
                  exact k0
                · skip
                  refine XS.icmpYes X53.here hx rfl (pc0 := 87) (pc' := 94) rfl (hb hby d5_87) rfl (feq hm58).2 (by decide) (by decide) ?_
                  show Steps p.tables e below (T53.setTop (mkF m 94 #[.val (.ref a), .val (.int (1 : Int32)), .val (.int iv), .val (.int (f j))] [])) _
                  refine XS.iconst X53.here hx rfl (hb hby d5_94) ?_
                  show Steps p.tables e below (T53.setTop (mkF m 95 #[.val (.ref a), .val (.int (1 : Int32)), .val (.int iv), .val (.int (f j))] [(.int (0 : Int32))])) _
                  try simp only [if_pos hm54, if_pos hm55, if_pos hm56, if_neg hm57, if_neg hm58] at k0
                  exact k0
            · skip
              refine XS.icmpNo X53.here hx rfl (hb hby d5_69) rfl (flt hm56).1 ?_
              show Steps p.tables e below (T53.setTop (mkF m 72 #[.val (.ref a), .val (.int (1 : Int32)), .val (.int iv), .val (.int (f j))] [])) _
              refine XS.iloadN X53.here hx rfl (hb hby d5_72) rfl ?_
              show Steps p.tables e below (T53.setTop (mkF m 73 #[.val (.ref a), .val (.int (1 : Int32)), .val (.int iv), .val (.int (f j))] [(.int (f j))])) _
              refine XS.bipush X53.here hx rfl (hb hby d5_73) ?_
              show Steps p.tables e below (T53.setTop (mkF m 75 #[.val (.ref a), .val (.int (1 : Int32)), .val (.int iv), .val (.int (f j))] [(.int (57 : Int32)), (.int (f j))])) _
              by_cases hm59 : (57 : Int32) < (f j)
              · skip
                refine XS.icmpNo X53.here hx rfl (hb hby d5_75) rfl (tlt hm59).2.2.2 ?_
                show Steps p.tables e below (T53.setTop (mkF m 78 #[.val (.ref a), .val (.int (1 : Int32)), .val (.int iv), .val (.int (f j))] [])) _
                refine XS.iloadN X53.here hx rfl (hb hby d5_78) rfl ?_
                show Steps p.tables e below (T53.setTop (mkF m 79 #[.val (.ref a), .val (.int (1 : Int32)), .val (.int iv), .val (.int (f j))] [(.int (f j))])) _
                refine XS.bipush X53.here hx rfl (hb hby d5_79) ?_
                show Steps p.tables e below (T53.setTop (mkF m 81 #[.val (.ref a), .val (.int (1 : Int32)), .val (.int iv), .val (.int (f j))] [(.int (45 : Int32)), (.int (f j))])) _
                by_cases hm60 : (f j) = (45 : Int32)
                · skip
                  refine XS.icmpYes X53.here hx rfl (pc0 := 81) (pc' := 90) rfl (hb hby d5_81) rfl (teq hm60).1 (by decide) (by decide) ?_
                  show Steps p.tables e below (T53.setTop (mkF m 90 #[.val (.ref a), .val (.int (1 : Int32)), .val (.int iv), .val (.int (f j))] [])) _
                  refine XS.iconst X53.here hx rfl (hb hby d5_90) ?_
                  show Steps p.tables e below (T53.setTop (mkF m 91 #[.val (.ref a), .val (.int (1 : Int32)), .val (.int iv), .val (.int (f j))] [(.int (1 : Int32))])) _
                  refine XS.goto X53.here hx rfl (pc0 := 91) (pc' := 95) rfl (hb hby d5_91) (by decide) (by decide) ?_
                  show Steps p.tables e below (T53.setTop (mkF m 95 #[.val (.ref a), .val (.int (1 : Int32)), .val (.int iv), .val (.int (f j))] [(.int (1 : Int32))])) _
                  try simp only [if_pos hm54, if_pos hm55, if_neg hm56, if_pos hm59, if_pos hm60] at k0
                  exact k0
                · skip
                  refine XS.icmpNo X53.here hx rfl (hb hby d5_81) rfl (feq hm60).1 ?_
                  show Steps p.tables e below (T53.setTop (mkF m 84 #[.val (.ref a), .val (.int (1 : Int32)), .val (.int iv), .val (.int (f j))] [])) _
                  refine XS.iloadN X53.here hx rfl (hb hby d5_84) rfl ?_
                  show Steps p.tables e below (T53.setTop (mkF m 85 #[.val (.ref a), .val (.int (1 : Int32)), .val (.int iv), .val (.int (f j))] [(.int (f j))])) _
                  refine XS.bipush X53.here hx rfl (hb hby d5_85) ?_
                  show Steps p.tables e below (T53.setTop (mkF m 87 #[.val (.ref a), .val (.int (1 : Int32)), .val (.int iv), .val (.int (f j))] [(.int (46 : Int32)), (.int (f j))])) _
                  by_cases hm61 : (f j) = (46 : Int32)
                  · skip
                    refine XS.icmpNo X53.here hx rfl (hb hby d5_87) rfl (teq hm61).2 ?_
                    show Steps p.tables e below (T53.setTop (mkF m 90 #[.val (.ref a), .val (.int (1 : Int32)), .val (.int iv), .val (.int (f j))] [])) _
                    refine XS.iconst X53.here hx rfl (hb hby d5_90) ?_
                    show Steps p.tables e below (T53.setTop (mkF m 91 #[.val (.ref a), .val (.int (1 : Int32)), .val (.int iv), .val (.int (f j))] [(.int (1 : Int32))])) _
                    refine XS.goto X53.here hx rfl (pc0 := 91) (pc' := 95) rfl (hb hby d5_91) (by decide) (by decide) ?_
                    show Steps p.tables e below (T53.setTop (mkF m 95 #[.val (.ref a), .val (.int (1 : Int32)), .val (.int iv), .val (.int (f j))] [(.int (1 : Int32))])) _
                    try simp only [if_pos hm54, if_pos hm55, if_neg hm56, if_pos hm59, if_neg hm60, if_pos hm61] at k0
                    exact k0
                  · skip
                    refine XS.icmpYes X53.here hx rfl (pc0 := 87) (pc' := 94) rfl (hb hby d5_87) rfl (feq hm61).2 (by decide) (by decide) ?_
                    show Steps p.tables e below (T53.setTop (mkF m 94 #[.val (.ref a), .val (.int (1 : Int32)), .val (.int iv), .val (.int (f j))] [])) _
                    refine XS.iconst X53.here hx rfl (hb hby d5_94) ?_
                    show Steps p.tables e below (T53.setTop (mkF m 95 #[.val (.ref a), .val (.int (1 : Int32)), .val (.int iv), .val (.int (f j))] [(.int (0 : Int32))])) _
                    try simp only [if_pos hm54, if_pos hm55, if_neg hm56, if_pos hm59, if_neg hm60, if_neg hm61] at k0
                    exact k0
              · skip
                refine XS.icmpYes X53.here hx rfl (pc0 := 75) (pc' := 90) rfl (hb hby d5_75) rfl (flt hm59).2.2.2 (by decide) (by decide) ?_
                show Steps p.tables e below (T53.setTop (mkF m 90 #[.val (.ref a), .val (.int (1 : Int32)), .val (.int iv), .val (.int (f j))] [])) _
                refine XS.iconst X53.here hx rfl (hb hby d5_90) ?_
                show Steps p.tables e below (T53.setTop (mkF m 91 #[.val (.ref a), .val (.int (1 : Int32)), .val (.int iv), .val (.int (f j))] [(.int (1 : Int32))])) _
                refine XS.goto X53.here hx rfl (pc0 := 91) (pc' := 95) rfl (hb hby d5_91) (by decide) (by decide) ?_
                show Steps p.tables e below (T53.setTop (mkF m 95 #[.val (.ref a), .val (.int (1 : Int32)), .val (.int iv), .val (.int (f j))] [(.int (1 : Int32))])) _
                try simp only [if_pos hm54, if_pos hm55, if_neg hm56, if_neg hm59] at k0
                exact k0
          · skip
            refine XS.icmpNo X53.here hx rfl (hb hby d5_57) rfl (flt hm55).1 ?_
            show Steps p.tables e below (T53.setTop (mkF m 60 #[.val (.ref a), .val (.int (1 : Int32)), .val (.int iv), .val (.int (f j))] [])) _
            refine XS.iloadN X53.here hx rfl (hb hby d5_60) rfl ?_
            show Steps p.tables e below (T53.setTop (mkF m 61 #[.val (.ref a), .val (.int (1 : Int32)), .val (.int iv), .val (.int (f j))] [(.int (f j))])) _
            refine XS.bipush X53.here hx rfl (hb hby d5_61) ?_
            show Steps p.tables e below (T53.setTop (mkF m 63 #[.val (.ref a), .val (.int (1 : Int32)), .val (.int iv), .val (.int (f j))] [(.int (122 : Int32)), (.int (f j))])) _
            by_cases hm62 : (122 : Int32) < (f j)
            · skip
              refine XS.icmpNo X53.here hx rfl (hb hby d5_63) rfl (tlt hm62).2.2.2 ?_
              show Steps p.tables e below (T53.setTop (mkF m 66 #[.val (.ref a), .val (.int (1 : Int32)), .val (.int iv), .val (.int (f j))] [])) _
              refine XS.iloadN X53.here hx rfl (hb hby d5_66) rfl ?_
              show Steps p.tables e below (T53.setTop (mkF m 67 #[.val (.ref a), .val (.int (1 : Int32)), .val (.int iv), .val (.int (f j))] [(.int (f j))])) _
              refine XS.bipush X53.here hx rfl (hb hby d5_67) ?_
              show Steps p.tables e below (T53.setTop (mkF m 69 #[.val (.ref a), .val (.int (1 : Int32)), .val (.int iv), .val (.int (f j))] [(.int (48 : Int32)), (.int (f j))])) _
              by_cases hm63 : (f j) < (48 : Int32)
              · skip
                refine XS.icmpYes X53.here hx rfl (pc0 := 69) (pc' := 78) rfl (hb hby d5_69) rfl (tlt hm63).1 (by decide) (by decide) ?_
                show Steps p.tables e below (T53.setTop (mkF m 78 #[.val (.ref a), .val (.int (1 : Int32)), .val (.int iv), .val (.int (f j))] [])) _
                refine XS.iloadN X53.here hx rfl (hb hby d5_78) rfl ?_
                show Steps p.tables e below (T53.setTop (mkF m 79 #[.val (.ref a), .val (.int (1 : Int32)), .val (.int iv), .val (.int (f j))] [(.int (f j))])) _
                refine XS.bipush X53.here hx rfl (hb hby d5_79) ?_
                show Steps p.tables e below (T53.setTop (mkF m 81 #[.val (.ref a), .val (.int (1 : Int32)), .val (.int iv), .val (.int (f j))] [(.int (45 : Int32)), (.int (f j))])) _
                by_cases hm64 : (f j) = (45 : Int32)
                · skip
                  refine XS.icmpYes X53.here hx rfl (pc0 := 81) (pc' := 90) rfl (hb hby d5_81) rfl (teq hm64).1 (by decide) (by decide) ?_
                  show Steps p.tables e below (T53.setTop (mkF m 90 #[.val (.ref a), .val (.int (1 : Int32)), .val (.int iv), .val (.int (f j))] [])) _
                  refine XS.iconst X53.here hx rfl (hb hby d5_90) ?_
                  show Steps p.tables e below (T53.setTop (mkF m 91 #[.val (.ref a), .val (.int (1 : Int32)), .val (.int iv), .val (.int (f j))] [(.int (1 : Int32))])) _
                  refine XS.goto X53.here hx rfl (pc0 := 91) (pc' := 95) rfl (hb hby d5_91) (by decide) (by decide) ?_
                  show Steps p.tables e below (T53.setTop (mkF m 95 #[.val (.ref a), .val (.int (1 : Int32)), .val (.int iv), .val (.int (f j))] [(.int (1 : Int32))])) _
                  try simp only [if_pos hm54, if_neg hm55, if_pos hm62, if_pos hm63, if_pos hm64] at k0
                  exact k0
                · skip
                  refine XS.icmpNo X53.here hx rfl (hb hby d5_81) rfl (feq hm64).1 ?_
                  show Steps p.tables e below (T53.setTop (mkF m 84 #[.val (.ref a), .val (.int (1 : Int32)), .val (.int iv), .val (.int (f j))] [])) _
                  refine XS.iloadN X53.here hx rfl (hb hby d5_84) rfl ?_
                  show Steps p.tables e below (T53.setTop (mkF m 85 #[.val (.ref a), .val (.int (1 : Int32)), .val (.int iv), .val (.int (f j))] [(.int (f j))])) _
                  refine XS.bipush X53.here hx rfl (hb hby d5_85) ?_
                  show Steps p.tables e below (T53.setTop (mkF m 87 #[.val (.ref a), .val (.int (1 : Int32)), .val (.int iv), .val (.int (f j))] [(.int (46 : Int32)), (.int (f j))])) _
                  by_cases hm65 : (f j) = (46 : Int32)
                  · skip
                    refine XS.icmpNo X53.here hx rfl (hb hby d5_87) rfl (teq hm65).2 ?_
                    show Steps p.tables e below (T53.setTop (mkF m 90 #[.val (.ref a), .val (.int (1 : Int32)), .val (.int iv), .val (.int (f j))] [])) _
                    refine XS.iconst X53.here hx rfl (hb hby d5_90) ?_
                    show Steps p.tables e below (T53.setTop (mkF m 91 #[.val (.ref a), .val (.int (1 : Int32)), .val (.int iv), .val (.int (f j))] [(.int (1 : Int32))])) _
                    refine XS.goto X53.here hx rfl (pc0 := 91) (pc' := 95) rfl (hb hby d5_91) (by decide) (by decide) ?_
                    show Steps p.tables e below (T53.setTop (mkF m 95 #[.val (.ref a), .val (.int (1 : Int32)), .val (.int iv), .val (.int (f j))] [(.int (1 : Int32))])) _
                    try simp only [if_pos hm54, if_neg hm55, if_pos hm62, if_pos hm63, if_neg hm64, if_pos hm65] at k0
                    exact k0
                  · skip
                    refine XS.icmpYes X53.here hx rfl (pc0 := 87) (pc' := 94) rfl (hb hby d5_87) rfl (feq hm65).2 (by decide) (by decide) ?_
                    show Steps p.tables e below (T53.setTop (mkF m 94 #[.val (.ref a), .val (.int (1 : Int32)), .val (.int iv), .val (.int (f j))] [])) _
                    refine XS.iconst X53.here hx rfl (hb hby d5_94) ?_
                    show Steps p.tables e below (T53.setTop (mkF m 95 #[.val (.ref a), .val (.int (1 : Int32)), .val (.int iv), .val (.int (f j))] [(.int (0 : Int32))])) _
                    try simp only [if_pos hm54, if_neg hm55, if_pos hm62, if_pos hm63, if_neg hm64, if_neg hm65] at k0
                    exact k0
              · skip
                refine XS.icmpNo X53.here hx rfl (hb hby d5_69) rfl (flt hm63).1 ?_
                show Steps p.tables e below (T53.setTop (mkF m 72 #[.val (.ref a), .val (.int (1 : Int32)), .val (.int iv), .val (.int (f j))] [])) _
                refine XS.iloadN X53.here hx rfl (hb hby d5_72) rfl ?_
                show Steps p.tables e below (T53.setTop (mkF m 73 #[.val (.ref a), .val (.int (1 : Int32)), .val (.int iv), .val (.int (f j))] [(.int (f j))])) _
                refine XS.bipush X53.here hx rfl (hb hby d5_73) ?_
                show Steps p.tables e below (T53.setTop (mkF m 75 #[.val (.ref a), .val (.int (1 : Int32)), .val (.int iv), .val (.int (f j))] [(.int (57 : Int32)), (.int (f j))])) _
                by_cases hm66 : (57 : Int32) < (f j)
                · skip
                  refine XS.icmpNo X53.here hx rfl (hb hby d5_75) rfl (tlt hm66).2.2.2 ?_
                  show Steps p.tables e below (T53.setTop (mkF m 78 #[.val (.ref a), .val (.int (1 : Int32)), .val (.int iv), .val (.int (f j))] [])) _
                  refine XS.iloadN X53.here hx rfl (hb hby d5_78) rfl ?_
                  show Steps p.tables e below (T53.setTop (mkF m 79 #[.val (.ref a), .val (.int (1 : Int32)), .val (.int iv), .val (.int (f j))] [(.int (f j))])) _
                  refine XS.bipush X53.here hx rfl (hb hby d5_79) ?_
                  show Steps p.tables e below (T53.setTop (mkF m 81 #[.val (.ref a), .val (.int (1 : Int32)), .val (.int iv), .val (.int (f j))] [(.int (45 : Int32)), (.int (f j))])) _
                  by_cases hm67 : (f j) = (45 : Int32)
                  · skip
                    refine XS.icmpYes X53.here hx rfl (pc0 := 81) (pc' := 90) rfl (hb hby d5_81) rfl (teq hm67).1 (by decide) (by decide) ?_
                    show Steps p.tables e below (T53.setTop (mkF m 90 #[.val (.ref a), .val (.int (1 : Int32)), .val (.int iv), .val (.int (f j))] [])) _
                    refine XS.iconst X53.here hx rfl (hb hby d5_90) ?_
                    show Steps p.tables e below (T53.setTop (mkF m 91 #[.val (.ref a), .val (.int (1 : Int32)), .val (.int iv), .val (.int (f j))] [(.int (1 : Int32))])) _
                    refine XS.goto X53.here hx rfl (pc0 := 91) (pc' := 95) rfl (hb hby d5_91) (by decide) (by decide) ?_
                    show Steps p.tables e below (T53.setTop (mkF m 95 #[.val (.ref a), .val (.int (1 : Int32)), .val (.int iv), .val (.int (f j))] [(.int (1 : Int32))])) _
                    try simp only [if_pos hm54, if_neg hm55, if_pos hm62, if_neg hm63, if_pos hm66, if_pos hm67] at k0
                    exact k0
                  · skip
                    refine XS.icmpNo X53.here hx rfl (hb hby d5_81) rfl (feq hm67).1 ?_
                    show Steps p.tables e below (T53.setTop (mkF m 84 #[.val (.ref a), .val (.int (1 : Int32)), .val (.int iv), .val (.int (f j))] [])) _
                    refine XS.iloadN X53.here hx rfl (hb hby d5_84) rfl ?_
                    show Steps p.tables e below (T53.setTop (mkF m 85 #[.val (.ref a), .val (.int (1 : Int32)), .val (.int iv), .val (.int (f j))] [(.int (f j))])) _
                    refine XS.bipush X53.here hx rfl (hb hby d5_85) ?_
                    show Steps p.tables e below (T53.setTop (mkF m 87 #[.val (.ref a), .val (.int (1 : Int32)), .val (.int iv), .val (.int (f j))] [(.int (46 : Int32)), (.int (f j))])) _
                    by_cases hm68 : (f j) = (46 : Int32)
                    · skip
                      refine XS.icmpNo X53.here hx rfl (hb hby d5_87) rfl (teq hm68).2 ?_
                      show Steps p.tables e below (T53.setTop (mkF m 90 #[.val (.ref a), .val (.int (1 : Int32)), .val (.int iv), .val (.int (f j))] [])) _
                      refine XS.iconst X53.here hx rfl (hb hby d5_90) ?_
                      show Steps p.tables e below (T53.setTop (mkF m 91 #[.val (.ref a), .val (.int (1 : Int32)), .val (.int iv), .val (.int (f j))] [(.int (1 : Int32))])) _
                      refine XS.goto X53.here hx rfl (pc0 := 91) (pc' := 95) rfl (hb hby d5_91) (by decide) (by decide) ?_
                      show Steps p.tables e below (T53.setTop (mkF m 95 #[.val (.ref a), .val (.int (1 : Int32)), .val (.int iv), .val (.int (f j))] [(.int (1 : Int32))])) _
                      try simp only [if_pos hm54, if_neg hm55, if_pos hm62, if_neg hm63, if_pos hm66, if_neg hm67, if_pos hm68] at k0
                      exact k0
                    · skip
                      refine XS.icmpYes X53.here hx rfl (pc0 := 87) (pc' := 94) rfl (hb hby d5_87) rfl (feq hm68).2 (by decide) (by decide) ?_
                      show Steps p.tables e below (T53.setTop (mkF m 94 #[.val (.ref a), .val (.int (1 : Int32)), .val (.int iv), .val (.int (f j))] [])) _
                      refine XS.iconst X53.here hx rfl (hb hby d5_94) ?_
                      show Steps p.tables e below (T53.setTop (mkF m 95 #[.val (.ref a), .val (.int (1 : Int32)), .val (.int iv), .val (.int (f j))] [(.int (0 : Int32))])) _
                      try simp only [if_pos hm54, if_neg hm55, if_pos hm62, if_neg hm63, if_pos hm66, if_neg hm67, if_neg hm68] at k0
                      exact k0
                · skip
                  refine XS.icmpYes X53.here hx rfl (pc0 := 75) (pc' := 90) rfl (hb hby d5_75) rfl (flt hm66).2.2.2 (by decide) (by decide) ?_
                  show Steps p.tables e below (T53.setTop (mkF m 90 #[.val (.ref a), .val (.int (1 : Int32)), .val (.int iv), .val (.int (f j))] [])) _
                  refine XS.iconst X53.here hx rfl (hb hby d5_90) ?_
                  show Steps p.tables e below (T53.setTop (mkF m 91 #[.val (.ref a), .val (.int (1 : Int32)), .val (.int iv), .val (.int (f j))] [(.int (1 : Int32))])) _
                  refine XS.goto X53.here hx rfl (pc0 := 91) (pc' := 95) rfl (hb hby d5_91) (by decide) (by decide) ?_
                  show Steps p.tables e below (T53.setTop (mkF m 95 #[.val (.ref a), .val (.int (1 : Int32)), .val (.int iv), .val (.int (f j))] [(.int (1 : Int32))])) _
                  try simp only [if_pos hm54, if_neg hm55, if_pos hm62, if_neg hm63, if_neg hm66] at k0
                  exact k0
            · skip
              refine XS.icmpYes X53.here hx rfl (pc0 := 63) (pc' := 90) rfl (hb hby d5_63) rfl (flt hm62).2.2.2 (by decide) (by decide) ?_
              show Steps p.tables e below (T53.setTop (mkF m 90 #[.val (.ref a), .val (.int (1 : Int32)), .val (.int iv), .val (.int (f j))] [])) _
              refine XS.iconst X53.here hx rfl (hb hby d5_90) ?_
              show Steps p.tables e below (T53.setTop (mkF m 91 #[.val (.ref a), .val (.int (1 : Int32)), .val (.int iv), .val (.int (f j))] [(.int (1 : Int32))])) _
              refine XS.goto X53.here hx rfl (pc0 := 91) (pc' := 95) rfl (hb hby d5_91) (by decide) (by decide) ?_
              show Steps p.tables e below (T53.setTop (mkF m 95 #[.val (.ref a), .val (.int (1 : Int32)), .val (.int iv), .val (.int (f j))] [(.int (1 : Int32))])) _
              try simp only [if_pos hm54, if_neg hm55, if_neg hm62] at k0
              exact k0
        · skip
          refine XS.icmpNo X53.here hx rfl (hb hby d5_45) rfl (flt hm54).1 ?_
          show Steps p.tables e below (T53.setTop (mkF m 48 #[.val (.ref a), .val (.int (1 : Int32)), .val (.int iv), .val (.int (f j))] [])) _
          refine XS.iloadN X53.here hx rfl (hb hby d5_48) rfl ?_
          show Steps p.tables e below (T53.setTop (mkF m 49 #[.val (.ref a), .val (.int (1 : Int32)), .val (.int iv), .val (.int (f j))] [(.int (f j))])) _
          refine XS.bipush X53.here hx rfl (hb hby d5_49) ?_
          show Steps p.tables e below (T53.setTop (mkF m 51 #[.val (.ref a), .val (.int (1 : Int32)), .val (.int iv), .val (.int (f j))] [(.int (90 : Int32)), (.int (f j))])) _
          by_cases hm69 : (90 : Int32) < (f j)
          · skip
            refine XS.icmpNo X53.here hx rfl (hb hby d5_51) rfl (tlt hm69).2.2.2 ?_
            show Steps p.tables e below (T53.setTop (mkF m 54 #[.val (.ref a), .val (.int (1 : Int32)), .val (.int iv), .val (.int (f j))] [])) _
            refine XS.iloadN X53.here hx rfl (hb hby d5_54) rfl ?_
            show Steps p.tables e below (T53.setTop (mkF m 55 #[.val (.ref a), .val (.int (1 : Int32)), .val (.int iv), .val (.int (f j))] [(.int (f j))])) _
            refine XS.bipush X53.here hx rfl (hb hby d5_55) ?_
            show Steps p.tables e below (T53.setTop (mkF m 57 #[.val (.ref a), .val (.int (1 : Int32)), .val (.int iv), .val (.int (f j))] [(.int (97 : Int32)), (.int (f j))])) _
            by_cases hm70 : (f j) < (97 : Int32)
            · skip
              refine XS.icmpYes X53.here hx rfl (pc0 := 57) (pc' := 66) rfl (hb hby d5_57) rfl (tlt hm70).1 (by decide) (by decide) ?_
              show Steps p.tables e below (T53.setTop (mkF m 66 #[.val (.ref a), .val (.int (1 : Int32)), .val (.int iv), .val (.int (f j))] [])) _
              refine XS.iloadN X53.here hx rfl (hb hby d5_66) rfl ?_
              show Steps p.tables e below (T53.setTop (mkF m 67 #[.val (.ref a), .val (.int (1 : Int32)), .val (.int iv), .val (.int (f j))] [(.int (f j))])) _
              refine XS.bipush X53.here hx rfl (hb hby d5_67) ?_
              show Steps p.tables e below (T53.setTop (mkF m 69 #[.val (.ref a), .val (.int (1 : Int32)), .val (.int iv), .val (.int (f j))] [(.int (48 : Int32)), (.int (f j))])) _
              by_cases hm71 : (f j) < (48 : Int32)
              · skip
                refine XS.icmpYes X53.here hx rfl (pc0 := 69) (pc' := 78) rfl (hb hby d5_69) rfl (tlt hm71).1 (by decide) (by decide) ?_
                show Steps p.tables e below (T53.setTop (mkF m 78 #[.val (.ref a), .val (.int (1 : Int32)), .val (.int iv), .val (.int (f j))] [])) _
                refine XS.iloadN X53.here hx rfl (hb hby d5_78) rfl ?_
                show Steps p.tables e below (T53.setTop (mkF m 79 #[.val (.ref a), .val (.int (1 : Int32)), .val (.int iv), .val (.int (f j))] [(.int (f j))])) _
                refine XS.bipush X53.here hx rfl (hb hby d5_79) ?_
                show Steps p.tables e below (T53.setTop (mkF m 81 #[.val (.ref a), .val (.int (1 : Int32)), .val (.int iv), .val (.int (f j))] [(.int (45 : Int32)), (.int (f j))])) _
                by_cases hm72 : (f j) = (45 : Int32)
                · skip
                  refine XS.icmpYes X53.here hx rfl (pc0 := 81) (pc' := 90) rfl (hb hby d5_81) rfl (teq hm72).1 (by decide) (by decide) ?_
                  show Steps p.tables e below (T53.setTop (mkF m 90 #[.val (.ref a), .val (.int (1 : Int32)), .val (.int iv), .val (.int (f j))] [])) _
                  refine XS.iconst X53.here hx rfl (hb hby d5_90) ?_
                  show Steps p.tables e below (T53.setTop (mkF m 91 #[.val (.ref a), .val (.int (1 : Int32)), .val (.int iv), .val (.int (f j))] [(.int (1 : Int32))])) _
                  refine XS.goto X53.here hx rfl (pc0 := 91) (pc' := 95) rfl (hb hby d5_91) (by decide) (by decide) ?_
                  show Steps p.tables e below (T53.setTop (mkF m 95 #[.val (.ref a), .val (.int (1 : Int32)), .val (.int iv), .val (.int (f j))] [(.int (1 : Int32))])) _
                  try simp only [if_neg hm54, if_pos hm69, if_pos hm70, if_pos hm71, if_pos hm72] at k0
                  exact k0
                · skip
                  refine XS.icmpNo X53.here hx rfl (hb hby d5_81) rfl (feq hm72).1 ?_
                  show Steps p.tables e below (T53.setTop (mkF m 84 #[.val (.ref a), .val (.int (1 : Int32)), .val (.int iv), .val (.int (f j))] [])) _
                  refine XS.iloadN X53.here hx rfl (hb hby d5_84) rfl ?_
                  show Steps p.tables e below (T53.setTop (mkF m 85 #[.val (.ref a), .val (.int (1 : Int32)), .val (.int iv), .val (.int (f j))] [(.int (f j))])) _
                  refine XS.bipush X53.here hx rfl (hb hby d5_85) ?_
                  show Steps p.tables e below (T53.setTop (mkF m 87 #[.val (.ref a), .val (.int (1 : Int32)), .val (.int iv), .val (.int (f j))] [(.int (46 : Int32)), (.int (f j))])) _
                  by_cases hm73 : (f j) = (46 : Int32)
                  · skip
                    refine XS.icmpNo X53.here hx rfl (hb hby d5_87) rfl (teq hm73).2 ?_
                    show Steps p.tables e below (T53.setTop (mkF m 90 #[.val (.ref a), .val (.int (1 : Int32)), .val (.int iv), .val (.int (f j))] [])) _
                    refine XS.iconst X53.here hx rfl (hb hby d5_90) ?_
                    show Steps p.tables e below (T53.setTop (mkF m 91 #[.val (.ref a), .val (.int (1 : Int32)), .val (.int iv), .val (.int (f j))] [(.int (1 : Int32))])) _
                    refine XS.goto X53.here hx rfl (pc0 := 91) (pc' := 95) rfl (hb hby d5_91) (by decide) (by decide) ?_
                    show Steps p.tables e below (T53.setTop (mkF m 95 #[.val (.ref a), .val (.int (1 : Int32)), .val (.int iv), .val (.int (f j))] [(.int (1 : Int32))])) _
                    try simp only [if_neg hm54, if_pos hm69, if_pos hm70, if_pos hm71, if_neg hm72, if_pos hm73] at k0
                    exact k0
                  · skip
                    refine XS.icmpYes X53.here hx rfl (pc0 := 87) (pc' := 94) rfl (hb hby d5_87) rfl (feq hm73).2 (by decide) (by decide) ?_
                    show Steps p.tables e below (T53.setTop (mkF m 94 #[.val (.ref a), .val (.int (1 : Int32)), .val (.int iv), .val (.int (f j))] [])) _
                    refine XS.iconst X53.here hx rfl (hb hby d5_94) ?_
                    show Steps p.tables e below (T53.setTop (mkF m 95 #[.val (.ref a), .val (.int (1 : Int32)), .val (.int iv), .val (.int (f j))] [(.int (0 : Int32))])) _
                    try simp only [if_neg hm54, if_pos hm69, if_pos hm70, if_pos hm71, if_neg hm72, if_neg hm73] at k0
                    exact k0
              · skip
                refine XS.icmpNo X53.here hx rfl (hb hby d5_69) rfl (flt hm71).1 ?_
                show Steps p.tables e below (T53.setTop (mkF m 72 #[.val (.ref a), .val (.int (1 : Int32)), .val (.int iv), .val (.int (f j))] [])) _
                refine XS.iloadN X53.here hx rfl (hb hby d5_72) rfl ?_
                show Steps p.tables e below (T53.setTop (mkF m 73 #[.val (.ref a), .val (.int (1 : Int32)), .val (.int iv), .val (.int (f j))] [(.int (f j))])) _
                refine XS.bipush X53.here hx rfl (hb hby d5_73) ?_
                show Steps p.tables e below (T53.setTop (mkF m 75 #[.val (.ref a), .val (.int (1 : Int32)), .val (.int iv), .val (.int (f j))] [(.int (57 : Int32)), (.int (f j))])) _
                by_cases hm74 : (57 : Int32) < (f j)
                · skip
                  refine XS.icmpNo X53.here hx rfl (hb hby d5_75) rfl (tlt hm74).2.2.2 ?_
                  show Steps p.tables e below (T53.setTop (mkF m 78 #[.val (.ref a), .val (.int (1 : Int32)), .val (.int iv), .val (.int (f j))] [])) _
                  refine XS.iloadN X53.here hx rfl (hb hby d5_78) rfl ?_
                  show Steps p.tables e below (T53.setTop (mkF m 79 #[.val (.ref a), .val (.int (1 : Int32)), .val (.int iv), .val (.int (f j))] [(.int (f j))])) _
                  refine XS.bipush X53.here hx rfl (hb hby d5_79) ?_
                  show Steps p.tables e below (T53.setTop (mkF m 81 #[.val (.ref a), .val (.int (1 : Int32)), .val (.int iv), .val (.int (f j))] [(.int (45 : Int32)), (.int (f j))])) _
                  by_cases hm75 : (f j) = (45 : Int32)
                  · skip
                    refine XS.icmpYes X53.here hx rfl (pc0 := 81) (pc' := 90) rfl (hb hby d5_81) rfl (teq hm75).1 (by decide) (by decide) ?_
                    show Steps p.tables e below (T53.setTop (mkF m 90 #[.val (.ref a), .val (.int (1 : Int32)), .val (.int iv), .val (.int (f j))] [])) _
                    refine XS.iconst X53.here hx rfl (hb hby d5_90) ?_
                    show Steps p.tables e below (T53.setTop (mkF m 91 #[.val (.ref a), .val (.int (1 : Int32)), .val (.int iv), .val (.int (f j))] [(.int (1 : Int32))])) _
                    refine XS.goto X53.here hx rfl (pc0 := 91) (pc' := 95) rfl (hb hby d5_91) (by decide) (by decide) ?_
                    show Steps p.tables e below (T53.setTop (mkF m 95 #[.val (.ref a), .val (.int (1 : Int32)), .val (.int iv), .val (.int (f j))] [(.int (1 : Int32))])) _
                    try simp only [if_neg hm54, if_pos hm69, if_pos hm70, if_neg hm71, if_pos hm74, if_pos hm75] at k0
                    exact k0
                  · skip
                    refine XS.icmpNo X53.here hx rfl (hb hby d5_81) rfl (feq hm75).1 ?_
                    show Steps p.tables e below (T53.setTop (mkF m 84 #[.val (.ref a), .val (.int (1 : Int32)), .val (.int iv), .val (.int (f j))] [])) _
                    refine XS.iloadN X53.here hx rfl (hb hby d5_84) rfl ?_
                    show Steps p.tables e below (T53.setTop (mkF m 85 #[.val (.ref a), .val (.int (1 : Int32)), .val (.int iv), .val (.int (f j))] [(.int (f j))])) _
                    refine XS.bipush X53.here hx rfl (hb hby d5_85) ?_
                    show Steps p.tables e below (T53.setTop (mkF m 87 #[.val (.ref a), .val (.int (1 : Int32)), .val (.int iv), .val (.int (f j))] [(.int (46 : Int32)), (.int (f j))])) _
                    by_cases hm76 : (f j) = (46 : Int32)
                    · skip
                      refine XS.icmpNo X53.here hx rfl (hb hby d5_87) rfl (teq hm76).2 ?_
                      show Steps p.tables e below (T53.setTop (mkF m 90 #[.val (.ref a), .val (.int (1 : Int32)), .val (.int iv), .val (.int (f j))] [])) _
                      refine XS.iconst X53.here hx rfl (hb hby d5_90) ?_
                      show Steps p.tables e below (T53.setTop (mkF m 91 #[.val (.ref a), .val (.int (1 : Int32)), .val (.int iv), .val (.int (f j))] [(.int (1 : Int32))])) _
                      refine XS.goto X53.here hx rfl (pc0 := 91) (pc' := 95) rfl (hb hby d5_91) (by decide) (by decide) ?_
                      show Steps p.tables e below (T53.setTop (mkF m 95 #[.val (.ref a), .val (.int (1 : Int32)), .val (.int iv), .val (.int (f j))] [(.int (1 : Int32))])) _
                      try simp only [if_neg hm54, if_pos hm69, if_pos hm70, if_neg hm71, if_pos hm74, if_neg hm75, if_pos hm76] at k0
                      exact k0
                    · skip
                      refine XS.icmpYes X53.here hx rfl (pc0 := 87) (pc' := 94) rfl (hb hby d5_87) rfl (feq hm76).2 (by decide) (by decide) ?_
                      show Steps p.tables e below (T53.setTop (mkF m 94 #[.val (.ref a), .val (.int (1 : Int32)), .val (.int iv), .val (.int (f j))] [])) _
                      refine XS.iconst X53.here hx rfl (hb hby d5_94) ?_
                      show Steps p.tables e below (T53.setTop (mkF m 95 #[.val (.ref a), .val (.int (1 : Int32)), .val (.int iv), .val (.int (f j))] [(.int (0 : Int32))])) _
                      try simp only [if_neg hm54, if_pos hm69, if_pos hm70, if_neg hm71, if_pos hm74, if_neg hm75, if_neg hm76] at k0
                      exact k0
                · skip
                  refine XS.icmpYes X53.here hx rfl (pc0 := 75) (pc' := 90) rfl (hb hby d5_75) rfl (flt hm74).2.2.2 (by decide) (by decide) ?_
                  show Steps p.tables e below (T53.setTop (mkF m 90 #[.val (.ref a), .val (.int (1 : Int32)), .val (.int iv), .val (.int (f j))] [])) _
                  refine XS.iconst X53.here hx rfl (hb hby d5_90) ?_
                  show Steps p.tables e below (T53.setTop (mkF m 91 #[.val (.ref a), .val (.int (1 : Int32)), .val (.int iv), .val (.int (f j))] [(.int (1 : Int32))])) _
                  refine XS.goto X53.here hx rfl (pc0 := 91) (pc' := 95) rfl (hb hby d5_91) (by decide) (by decide) ?_
                  show Steps p.tables e below (T53.setTop (mkF m 95 #[.val (.ref a), .val (.int (1 : Int32)), .val (.int iv), .val (.int (f j))] [(.int (1 : Int32))])) _
                  try simp only [if_neg hm54, if_pos hm69, if_pos hm70, if_neg hm71, if_neg hm74] at k0
                  exact k0
            · skip
              refine XS.icmpNo X53.here hx rfl (hb hby d5_57) rfl (flt hm70).1 ?_
              show Steps p.tables e below (T53.setTop (mkF m 60 #[.val (.ref a), .val (.int (1 : Int32)), .val (.int iv), .val (.int (f j))] [])) _
              refine XS.iloadN X53.here hx rfl (hb hby d5_60) rfl ?_
              show Steps p.tables e below (T53.setTop (mkF m 61 #[.val (.ref a), .val (.int (1 : Int32)), .val (.int iv), .val (.int (f j))] [(.int (f j))])) _
              refine XS.bipush X53.here hx rfl (hb hby d5_61) ?_
              show Steps p.tables e below (T53.setTop (mkF m 63 #[.val (.ref a), .val (.int (1 : Int32)), .val (.int iv), .val (.int (f j))] [(.int (122 : Int32)), (.int (f j))])) _
              by_cases hm77 : (122 : Int32) < (f j)
              · skip
                refine XS.icmpNo X53.here hx rfl (hb hby d5_63) rfl (tlt hm77).2.2.2 ?_
                show Steps p.tables e below (T53.setTop (mkF m 66 #[.val (.ref a), .val (.int (1 : Int32)), .val (.int iv), .val (.int (f j))] [])) _
                refine XS.iloadN X53.here hx rfl (hb hby d5_66) rfl ?_
                show Steps p.tables e below (T53.setTop (mkF m 67 #[.val (.ref a), .val (.int (1 : Int32)), .val (.int iv), .val (.int (f j))] [(.int (f j))])) _
                refine XS.bipush X53.here hx rfl (hb hby d5_67) ?_
                show Steps p.tables e below (T53.setTop (mkF m 69 #[.val (.ref a), .val (.int (1 : Int32)), .val (.int iv), .val (.int (f j))] [(.int (48 : Int32)), (.int (f j))])) _
                by_cases hm78 : (f j) < (48 : Int32)
                · skip
                  refine XS.icmpYes X53.here hx rfl (pc0 := 69) (pc' := 78) rfl (hb hby d5_69) rfl (tlt hm78).1 (by decide) (by decide) ?_
                  show Steps p.tables e below (T53.setTop (mkF m 78 #[.val (.ref a), .val (.int (1 : Int32)), .val (.int iv), .val (.int (f j))] [])) _
                  refine XS.iloadN X53.here hx rfl (hb hby d5_78) rfl ?_
                  show Steps p.tables e below (T53.setTop (mkF m 79 #[.val (.ref a), .val (.int (1 : Int32)), .val (.int iv), .val (.int (f j))] [(.int (f j))])) _
                  refine XS.bipush X53.here hx rfl (hb hby d5_79) ?_
                  show Steps p.tables e below (T53.setTop (mkF m 81 #[.val (.ref a), .val (.int (1 : Int32)), .val (.int iv), .val (.int (f j))] [(.int (45 : Int32)), (.int (f j))])) _
                  by_cases hm79 : (f j) = (45 : Int32)
                  · skip
                    refine XS.icmpYes X53.here hx rfl (pc0 := 81) (pc' := 90) rfl (hb hby d5_81) rfl (teq hm79).1 (by decide) (by decide) ?_
                    show Steps p.tables e below (T53.setTop (mkF m 90 #[.val (.ref a), .val (.int (1 : Int32)), .val (.int iv), .val (.int (f j))] [])) _
                    refine XS.iconst X53.here hx rfl (hb hby d5_90) ?_
                    show Steps p.tables e below (T53.setTop (mkF m 91 #[.val (.ref a), .val (.int (1 : Int32)), .val (.int iv), .val (.int (f j))] [(.int (1 : Int32))])) _
                    refine XS.goto X53.here hx rfl (pc0 := 91) (pc' := 95) rfl (hb hby d5_91) (by decide) (by decide) ?_
                    show Steps p.tables e below (T53.setTop (mkF m 95 #[.val (.ref a), .val (.int (1 : Int32)), .val (.int iv), .val (.int (f j))] [(.int (1 : Int32))])) _
                    try simp only [if_neg hm54, if_pos hm69, if_neg hm70, if_pos hm77, if_pos hm78, if_pos hm79] at k0
                    exact k0
                  · skip
                    refine XS.icmpNo X53.here hx rfl (hb hby d5_81) rfl (feq hm79).1 ?_
                    show Steps p.tables e below (T53.setTop (mkF m 84 #[.val (.ref a), .val (.int (1 : Int32)), .val (.int iv), .val (.int (f j))] [])) _
                    refine XS.iloadN X53.here hx rfl (hb hby d5_84) rfl ?_
                    show Steps p.tables e below (T53.setTop (mkF m 85 #[.val (.ref a), .val (.int (1 : Int32)), .val (.int iv), .val (.int (f j))] [(.int (f j))])) _
                    refine XS.bipush X53.here hx rfl (hb hby d5_85) ?_
                    show Steps p.tables e below (T53.setTop (mkF m 87 #[.val (.ref a), .val (.int (1 : Int32)), .val (.int iv), .val (.int (f j))] [(.int (46 : Int32)), (.int (f j))])) _
                    by_cases hm80 : (f j) = (46 : Int32)
                    · skip
                      refine XS.icmpNo X53.here hx rfl (hb hby d5_87) rfl (teq hm80).2 ?_
                      show Steps p.tables e below (T53.setTop (mkF m 90 #[.val (.ref a), .val (.int (1 : Int32)), .val (.int iv), .val (.int (f j))] [])) _
                      refine XS.iconst X53.here hx rfl (hb hby d5_90) ?_
                      show Steps p.tables e below (T53.setTop (mkF m 91 #[.val (.ref a), .val (.int (1 : Int32)), .val (.int iv), .val (.int (f j))] [(.int (1 : Int32))])) _
                      refine XS.goto X53.here hx rfl (pc0 := 91) (pc' := 95) rfl (hb hby d5_91) (by decide) (by decide) ?_
                      show Steps p.tables e below (T53.setTop (mkF m 95 #[.val (.ref a), .val (.int (1 : Int32)), .val (.int iv), .val (.int (f j))] [(.int (1 : Int32))])) _
                      try simp only [if_neg hm54, if_pos hm69, if_neg hm70, if_pos hm77, if_pos hm78, if_neg hm79, if_pos hm80] at k0
                      exact k0
                    · skip
                      refine XS.icmpYes X53.here hx rfl (pc0 := 87) (pc' := 94) rfl (hb hby d5_87) rfl (feq hm80).2 (by decide) (by decide) ?_
                      show Steps p.tables e below (T53.setTop (mkF m 94 #[.val (.ref a), .val (.int (1 : Int32)), .val (.int iv), .val (.int (f j))] [])) _
                      refine XS.iconst X53.here hx rfl (hb hby d5_94) ?_
                      show Steps p.tables e below (T53.setTop (mkF m 95 #[.val (.ref a), .val (.int (1 : Int32)), .val (.int iv), .val (.int (f j))] [(.int (0 : Int32))])) _
                      try simp only [if_neg hm54, if_pos hm69, if_neg hm70, if_pos hm77, if_pos hm78, if_neg hm79, if_neg hm80] at k0
                      exact k0
                · skip
                  refine XS.icmpNo X53.here hx rfl (hb hby d5_69) rfl (flt hm78).1 ?_
                  show Steps p.tables e below (T53.setTop (mkF m 72 #[.val (.ref a), .val (.int (1 : Int32)), .val (.int iv), .val (.int (f j))] [])) _
                  refine XS.iloadN X53.here hx rfl (hb hby d5_72) rfl ?_
                  show Steps p.tables e below (T53.setTop (mkF m 73 #[.val (.ref a), .val (.int (1 : Int32)), .val (.int iv), .val (.int (f j))] [(.int (f j))])) _
                  refine XS.bipush X53.here hx rfl (hb hby d5_73) ?_
                  show Steps p.tables e below (T53.setTop (mkF m 75 #[.val (.ref a), .val (.int (1 : Int32)), .val (.int iv), .val (.int (f j))] [(.int (57 : Int32)), (.int (f j))])) _
                  by_cases hm81 : (57 : Int32) < (f j)
                  · skip
                    refine XS.icmpNo X53.here hx rfl (hb hby d5_75) rfl (tlt hm81).2.2.2 ?_
                    show Steps p.tables e below (T53.setTop (mkF m 78 #[.val (.ref a), .val (.int (1 : Int32)), .val (.int iv), .val (.int (f j))] [])) _
                    refine XS.iloadN X53.here hx rfl (hb hby d5_78) rfl ?_
                    show Steps p.tables e below (T53.setTop (mkF m 79 #[.val (.ref a), .val (.int (1 : Int32)), .val (.int iv), .val (.int (f j))] [(.int (f j))])) _
                    refine XS.bipush X53.here hx rfl (hb hby d5_79) ?_
                    show Steps p.tables e below (T53.setTop (mkF m 81 #[.val (.ref a), .val (.int (1 : Int32)), .val (.int iv), .val (.int (f j))] [(.int (45 : Int32)), (.int (f j))])) _
                    by_cases hm82 : (f j) = (45 : Int32)
                    · skip
                      refine XS.icmpYes X53.here hx rfl (pc0 := 81) (pc' := 90) rfl (hb hby d5_81) rfl (teq hm82).1 (by decide) (by decide) ?_
                      show Steps p.tables e below (T53.setTop (mkF m 90 #[.val (.ref a), .val (.int (1 : Int32)), .val (.int iv), .val (.int (f j))] [])) _
                      refine XS.iconst X53.here hx rfl (hb hby d5_90) ?_
                      show Steps p.tables e below (T53.setTop (mkF m 91 #[.val (.ref a), .val (.int (1 : Int32)), .val (.int iv), .val (.int (f j))] [(.int (1 : Int32))])) _
                      refine XS.goto X53.here hx rfl (pc0 := 91) (pc' := 95) rfl (hb hby d5_91) (by decide) (by decide) ?_
                      show Steps p.tables e below (T53.setTop (mkF m 95 #[.val (.ref a), .val (.int (1 : Int32)), .val (.int iv), .val (.int (f j))] [(.int (1 : Int32))])) _
                      try simp only [if_neg hm54, if_pos hm69, if_neg hm70, if_pos hm77, if_neg hm78, if_pos hm81, if_pos hm82] at k0
                      exact k0
                    · skip
                      refine XS.icmpNo X53.here hx rfl (hb hby d5_81) rfl (feq hm82).1 ?_
                      show Steps p.tables e below (T53.setTop (mkF m 84 #[.val (.ref a), .val (.int (1 : Int32)), .val (.int iv), .val (.int (f j))] [])) _
                      refine XS.iloadN X53.here hx rfl (hb hby d5_84) rfl ?_
                      show Steps p.tables e below (T53.setTop (mkF m 85 #[.val (.ref a), .val (.int (1 : Int32)), .val (.int iv), .val (.int (f j))] [(.int (f j))])) _
                      refine XS.bipush X53.here hx rfl (hb hby d5_85) ?_
                      show Steps p.tables e below (T53.setTop (mkF m 87 #[.val (.ref a), .val (.int (1 : Int32)), .val (.int iv), .val (.int (f j))] [(.int (46 : Int32)), (.int (f j))])) _
                      by_cases hm83 : (f j) = (46 : Int32)
                      · skip
                        refine XS.icmpNo X53.here hx rfl (hb hby d5_87) rfl (teq hm83).2 ?_
                        show Steps p.tables e below (T53.setTop (mkF m 90 #[.val (.ref a), .val (.int (1 : Int32)), .val (.int iv), .val (.int (f j))] [])) _
                        refine XS.iconst X53.here hx rfl (hb hby d5_90) ?_
                        show Steps p.tables e below (T53.setTop (mkF m 91 #[.val (.ref a), .val (.int (1 : Int32)), .val (.int iv), .val (.int (f j))] [(.int (1 : Int32))])) _
                        refine XS.goto X53.here hx rfl (pc0 := 91) (pc' := 95) rfl (hb hby d5_91) (by decide) (by decide) ?_
                        show Steps p.tables e below (T53.setTop (mkF m 95 #[.val (.ref a), .val (.int (1 : Int32)), .val (.int iv), .val (.int (f j))] [(.int (1 : Int32))])) _
                        try simp only [if_neg hm54, if_pos hm69, if_neg hm70, if_pos hm77, if_neg hm78, if_pos hm81, if_neg hm82, if_pos hm83] at k0
                        exact k0
                      · skip
                        refine XS.icmpYes X53.here hx rfl (pc0 := 87) (pc' := 94) rfl (hb hby d5_87) rfl (feq hm83).2 (by decide) (by decide) ?_
                        show Steps p.tables e below (T53.setTop (mkF m 94 #[.val (.ref a), .val (.int (1 : Int32)), .val (.int iv), .val (.int (f j))] [])) _
                        refine XS.iconst X53.here hx rfl (hb hby d5_94) ?_
                        show Steps p.tables e below (T53.setTop (mkF m 95 #[.val (.ref a), .val (.int (1 : Int32)), .val (.int iv), .val (.int (f j))] [(.int (0 : Int32))])) _
                        try simp only [if_neg hm54, if_pos hm69, if_neg hm70, if_pos hm77, if_neg hm78, if_pos hm81, if_neg hm82, if_neg hm83] at k0
                        exact k0
                  · skip
                    refine XS.icmpYes X53.here hx rfl (pc0 := 75) (pc' := 90) rfl (hb hby d5_75) rfl (flt hm81).2.2.2 (by decide) (by decide) ?_
                    show Steps p.tables e below (T53.setTop (mkF m 90 #[.val (.ref a), .val (.int (1 : Int32)), .val (.int iv), .val (.int (f j))] [])) _
                    refine XS.iconst X53.here hx rfl (hb hby d5_90) ?_
                    show Steps p.tables e below (T53.setTop (mkF m 91 #[.val (.ref a), .val (.int (1 : Int32)), .val (.int iv), .val (.int (f j))] [(.int (1 : Int32))])) _
                    refine XS.goto X53.here hx rfl (pc0 := 91) (pc' := 95) rfl (hb hby d5_91) (by decide) (by decide) ?_
                    show Steps p.tables e below (T53.setTop (mkF m 95 #[.val (.ref a), .val (.int (1 : Int32)), .val (.int iv), .val (.int (f j))] [(.int (1 : Int32))])) _
                    try simp only [if_neg hm54, if_pos hm69, if_neg hm70, if_pos hm77, if_neg hm78, if_neg hm81] at k0
                    exact k0
              · skip
                refine XS.icmpYes X53.here hx rfl (pc0 := 63) (pc' := 90) rfl (hb hby d5_63) rfl (flt hm77).2.2.2 (by decide) (by decide) ?_
                show Steps p.tables e below (T53.setTop (mkF m 90 #[.val (.ref a), .val (.int (1 : Int32)), .val (.int iv), .val (.int (f j))] [])) _
                refine XS.iconst X53.here hx rfl (hb hby d5_90) ?_
                show Steps p.tables e below (T53.setTop (mkF m 91 #[.val (.ref a), .val (.int (1 : Int32)), .val (.int iv), .val (.int (f j))] [(.int (1 : Int32))])) _
                refine XS.goto X53.here hx rfl (pc0 := 91) (pc' := 95) rfl (hb hby d5_91) (by decide) (by decide) ?_
                show Steps p.tables e below (T53.setTop (mkF m 95 #[.val (.ref a), .val (.int (1 : Int32)), .val (.int iv), .val (.int (f j))] [(.int (1 : Int32))])) _
                try simp only [if_neg hm54, if_pos hm69, if_neg hm70, if_neg hm77] at k0
                exact k0
          · skip
            refine XS.icmpYes X53.here hx rfl (pc0 := 51) (pc' := 90) rfl (hb hby d5_51) rfl (flt hm69).2.2.2 (by decide) (by decide) ?_
            show Steps p.tables e below (T53.setTop (mkF m 90 #[.val (.ref a), .val (.int (1 : Int32)), .val (.int iv), .val (.int (f j))] [])) _
            refine XS.iconst X53.here hx rfl (hb hby d5_90) ?_
            show Steps p.tables e below (T53.setTop (mkF m 91 #[.val (.ref a), .val (.int (1 : Int32)), .val (.int iv), .val (.int (f j))] [(.int (1 : Int32))])) _
            refine XS.goto X53.here hx rfl (pc0 := 91) (pc' := 95) rfl (hb hby d5_91) (by decide) (by decide) ?_
            show Steps p.tables e below (T53.setTop (mkF m 95 #[.val (.ref a), .val (.int (1 : Int32)), .val (.int iv), .val (.int (f j))] [(.int (1 : Int32))])) _
            try simp only [if_neg hm54, if_neg hm69] at k0
            exact k0
      refine own_by mg84 ?_
      rw [show (if (f j) < (65 : Int32) then (if (f j) < (97 : Int32) then (if (f j) < (48 : Int32) then (if (f j) = (45 : Int32) then (1 : Int32) else (if (f j) = (46 : Int32) then (1 : Int32) else (0 : Int32))) else (if (57 : Int32) < (f j) then (if (f j) = (45 : Int32) then (1 : Int32) else (if (f j) = (46 : Int32) then (1 : Int32) else (0 : Int32))) else (1 : Int32))) else (if (122 : Int32) < (f j) then (if (f j) < (48 : Int32) then (if (f j) = (45 : Int32) then (1 : Int32) else (if (f j) = (46 : Int32) then (1 : Int32) else (0 : Int32))) else (if (57 : Int32) < (f j) then (if (f j) = (45 : Int32) then (1 : Int32) else (if (f j) = (46 : Int32) then (1 : Int32) else (0 : Int32))) else (1 : Int32))) else (1 : Int32))) else (if (90 : Int32) < (f j) then (if (f j) < (97 : Int32) then (if (f j) < (48 : Int32) then (if (f j) = (45 : Int32) then (1 : Int32) else (if (f j) = (46 : Int32) then (1 : Int32) else (0 : Int32))) else (if (57 : Int32) < (f j) then (if (f j) = (45 : Int32) then (1 : Int32) else (if (f j) = (46 : Int32) then (1 : Int32) else (0 : Int32))) else (1 : Int32))) else (if (122 : Int32) < (f j) then (if (f j) < (48 : Int32) then (if (f j) = (45 : Int32) then (1 : Int32) else (if (f j) = (46 : Int32) then (1 : Int32) else (0 : Int32))) else (if (57 : Int32) < (f j) then (if (f j) = (45 : Int32) then (1 : Int32) else (if (f j) = (46 : Int32) then (1 : Int32) else (0 : Int32))) else (1 : Int32))) else (1 : Int32))) else (1 : Int32))) = own_vc (f j) from rfl]
      rcases own_vc01 (f j) with hv | hv
      · rw [hv]
        show own_Go p e below _ T53 (mkF m 95 #[.val (.ref a), .val (.int (1 : Int32)), .val (.int iv), .val (.int (f j))] [(.int (0 : Int32))])
        refine own_by (T' := T53) (f' := (mkF m 96 #[.val (.ref a), .val (.int (0 : Int32)), .val (.int iv), .val (.int (f j))] [])) (fun t k => XS.istoreN X53.here hx rfl (hb hby d5_95) rfl (l' := #[.val (.ref a), .val (.int (0 : Int32)), .val (.int iv), .val (.int (f j))]) rfl k) ?_
        refine own_by (T' := T53) (f' := (mkF m 99 #[.val (.ref a), .val (.int (0 : Int32)), .val (.int (iv + (1 : Int32))), .val (.int (f j))] [])) (fun t k => XS.iinc X53.here hx rfl (hb hby d5_96) rfl (l' := #[.val (.ref a), .val (.int (0 : Int32)), .val (.int (iv + (1 : Int32))), .val (.int (f j))]) rfl k) ?_
        refine own_by (T' := T53) (f' := (mkF m 24 #[.val (.ref a), .val (.int (0 : Int32)), .val (.int (iv + (1 : Int32))), .val (.int (f j))] [])) (fun t k => XS.goto X53.here hx rfl (pc0 := 99) (pc' := 24) rfl (hb hby d5_99) (by decide) (by decide) k) ?_
        exact zero (Or.inr (Or.inr (Or.inl ⟨j, by omega, hv⟩))) (iv + (1 : Int32)) (.val (.int (f j))) T53 X53 e53
      · rw [hv]
        show own_Go p e below _ T53 (mkF m 95 #[.val (.ref a), .val (.int (1 : Int32)), .val (.int iv), .val (.int (f j))] [(.int (1 : Int32))])
        refine own_by (T' := T53) (f' := (mkF m 96 #[.val (.ref a), .val (.int (1 : Int32)), .val (.int iv), .val (.int (f j))] [])) (fun t k => XS.istoreN X53.here hx rfl (hb hby d5_95) rfl (l' := #[.val (.ref a), .val (.int (1 : Int32)), .val (.int iv), .val (.int (f j))]) rfl k) ?_
        refine own_by (T' := T53) (f' := (mkF m 99 #[.val (.ref a), .val (.int (1 : Int32)), .val (.int (iv + (1 : Int32))), .val (.int (f j))] [])) (fun t k => XS.iinc X53.here hx rfl (hb hby d5_96) rfl (l' := #[.val (.ref a), .val (.int (1 : Int32)), .val (.int (iv + (1 : Int32))), .val (.int (f j))]) rfl k) ?_
        refine own_by (T' := T53) (f' := (mkF m 24 #[.val (.ref a), .val (.int (1 : Int32)), .val (.int (iv + (1 : Int32))), .val (.int (f j))] [])) (fun t k => XS.goto X53.here hx rfl (pc0 := 99) (pc' := 24) rfl (hb hby d5_99) (by decide) (by decide) k) ?_
        exact ih (j + 1) (iv + (1 : Int32)) (.val (.int (f j))) T53 (Or.inr ⟨_, rfl, rfl⟩) (by omega) (own_inc hiv (by omega : j < n) (by omega)) (fun q hq => if e : q = j then e ▸ hv else hall q (by omega)) X53 e53
  rw [ef_rmID]
  refine own_by (T' := s₁) (f' := (mkF m 1 #[.val (.ref a), .unset, .unset, .unset] [(.ref a)])) (fun t k => XS.aloadN X0.here hx rfl (hb hby d5_0) rfl rfl k) ?_
  refine own_callV X0 hx hZ hown e0 (hb hby d5_1) [] [] 0 (rmEM l Z a0 hw [] a n f cs fm h0 J ST) J.2.2.1 (hw _ (List.mem_of_getElem? (i := 30) rfl)) (hw _ (List.mem_of_getElem? (i := 31) rfl)) (notFace_of_selects (args := #[]) (mvT hZ (hw _ (List.mem_of_getElem? (i := 33) rfl)))) (hw _ (List.mem_of_getElem? (i := 33) rfl)) (hw _ (List.mem_of_getElem? (i := 32) rfl)) (hw _ (List.mem_of_getElem? (i := 7) rfl)) (hw _ (List.mem_of_getElem? (i := 34) rfl)) (by decide) pd___Z (by rw [hml]; rfl) rfl rfl (Nat.le_of_eq rfl) (by decide) (by decide) (by decide) (by decide) ?_
  rintro T11 _ L11 X11 ⟨rfl, rfl, e11⟩
  show own_Go p e below _ T11 (mkF m 4 #[.val (.ref a), .unset, .unset, .unset] [(.int (if n = 0 then 1 else 0))])
  rw [List.append_nil] at X11
  by_cases hn0 : n = 0
  · rw [if_pos hn0]
    show own_Go p e below _ T11 (mkF m 4 #[.val (.ref a), .unset, .unset, .unset] [(.int (1 : Int32))])
    refine own_by (T' := T11) (f' := (mkF m 20 #[.val (.ref a), .unset, .unset, .unset] [])) (fun t k => XS.ifYes X11.here hx rfl (pc0 := 4) (pc' := 20) rfl (hb hby d5_4) rfl ((if0 _ _).trans (feq (by decide)).2) (by decide) (by decide) k) ?_
    refine own_by (T' := T11) (f' := (mkF m 21 #[.val (.ref a), .unset, .unset, .unset] [(.int (0 : Int32))])) (fun t k => XS.iconst X11.here hx rfl (hb hby d5_20) k) ?_
    refine own_by (T' := T11) (f' := (mkF m 22 #[.val (.ref a), .val (.int (0 : Int32)), .unset, .unset] [])) (fun t k => XS.istoreN X11.here hx rfl (hb hby d5_21) rfl (l' := #[.val (.ref a), .val (.int (0 : Int32)), .unset, .unset]) rfl k) ?_
    refine own_by (T' := T11) (f' := (mkF m 23 #[.val (.ref a), .val (.int (0 : Int32)), .unset, .unset] [(.int (0 : Int32))])) (fun t k => XS.iconst X11.here hx rfl (hb hby d5_22) k) ?_
    refine own_by (T' := T11) (f' := (mkF m 24 #[.val (.ref a), .val (.int (0 : Int32)), .val (.int (0 : Int32)), .unset] [])) (fun t k => XS.istoreN X11.here hx rfl (hb hby d5_23) rfl (l' := #[.val (.ref a), .val (.int (0 : Int32)), .val (.int (0 : Int32)), .unset]) rfl k) ?_
    exact zero (Or.inl hn0) 0 .unset T11 X11 e11
  · rw [if_neg hn0]
    show own_Go p e below _ T11 (mkF m 4 #[.val (.ref a), .unset, .unset, .unset] [(.int (0 : Int32))])
    refine own_by (T' := T11) (f' := (mkF m 7 #[.val (.ref a), .unset, .unset, .unset] [])) (fun t k => XS.ifNo X11.here hx rfl (hb hby d5_4) rfl ((if0 _ _).trans (teq rfl).2) k) ?_
    refine own_by (T' := T11) (f' := (mkF m 8 #[.val (.ref a), .unset, .unset, .unset] [(.ref a)])) (fun t k => XS.aloadN X11.here hx rfl (hb hby d5_7) rfl rfl k) ?_
    refine own_callV X11 hx hZ hown e11 (hb hby d5_8) [] [] 0 (rmLN l Z a0 hw [] a ln n f cs fm h0 hl J ST) J.2.2.1 (hw _ (List.mem_of_getElem? (i := 35) rfl)) (hw _ (List.mem_of_getElem? (i := 36) rfl)) (notFace_of_selects (args := #[]) (mvT hZ (hw _ (List.mem_of_getElem? (i := 38) rfl)))) (hw _ (List.mem_of_getElem? (i := 38) rfl)) (hw _ (List.mem_of_getElem? (i := 37) rfl)) (hw _ (List.mem_of_getElem? (i := 7) rfl)) (hw _ (List.mem_of_getElem? (i := 39) rfl)) (by decide) pd___I (by rw [hml]; rfl) rfl rfl (Nat.le_of_eq rfl) (by decide) (by decide) (by decide) (by decide) ?_
    rintro T12 _ L12 X12 ⟨rfl, rfl, e12⟩
    show own_Go p e below _ T12 (mkF m 11 #[.val (.ref a), .unset, .unset, .unset] [(.int ln)])
    rw [List.append_nil] at X12
    refine own_by (T' := T12) (f' := (mkF m 13 #[.val (.ref a), .unset, .unset, .unset] [(.int (64 : Int32)), (.int ln)])) (fun t k => XS.bipush X12.here hx rfl (hb hby d5_11) k) ?_
    by_cases hc13_13 : (64 : Int32) < ln
    · have _ := X12
      refine own_by (T' := T12) (f' := (mkF m 20 #[.val (.ref a), .unset, .unset, .unset] [])) (fun t k => XS.icmpYes X12.here hx rfl (pc0 := 13) (pc' := 20) rfl (hb hby d5_13) rfl (tlt hc13_13).2.2.1 (by decide) (by decide) k) ?_
      refine own_by (T' := T12) (f' := (mkF m 21 #[.val (.ref a), .unset, .unset, .unset] [(.int (0 : Int32))])) (fun t k => XS.iconst X12.here hx rfl (hb hby d5_20) k) ?_
      refine own_by (T' := T12) (f' := (mkF m 22 #[.val (.ref a), .val (.int (0 : Int32)), .unset, .unset] [])) (fun t k => XS.istoreN X12.here hx rfl (hb hby d5_21) rfl (l' := #[.val (.ref a), .val (.int (0 : Int32)), .unset, .unset]) rfl k) ?_
      refine own_by (T' := T12) (f' := (mkF m 23 #[.val (.ref a), .val (.int (0 : Int32)), .unset, .unset] [(.int (0 : Int32))])) (fun t k => XS.iconst X12.here hx rfl (hb hby d5_22) k) ?_
      refine own_by (T' := T12) (f' := (mkF m 24 #[.val (.ref a), .val (.int (0 : Int32)), .val (.int (0 : Int32)), .unset] [])) (fun t k => XS.istoreN X12.here hx rfl (hb hby d5_23) rfl (l' := #[.val (.ref a), .val (.int (0 : Int32)), .val (.int (0 : Int32)), .unset]) rfl k) ?_
      have h64 : (64 : Int32).toInt = ((64 : Nat) : Int) := by decide
      exact zero (Or.inr (Or.inl (own_ltn h64 hl hc13_13))) 0 .unset T12 X12 e12
    · have _ := X12
      refine own_by (T' := T12) (f' := (mkF m 16 #[.val (.ref a), .unset, .unset, .unset] [])) (fun t k => XS.icmpNo X12.here hx rfl (hb hby d5_13) rfl (flt hc13_13).2.2.1 k) ?_
      refine own_by (T' := T12) (f' := (mkF m 17 #[.val (.ref a), .unset, .unset, .unset] [(.int (1 : Int32))])) (fun t k => XS.iconst X12.here hx rfl (hb hby d5_16) k) ?_
      refine own_by (T' := T12) (f' := (mkF m 21 #[.val (.ref a), .unset, .unset, .unset] [(.int (1 : Int32))])) (fun t k => XS.goto X12.here hx rfl (pc0 := 17) (pc' := 21) rfl (hb hby d5_17) (by decide) (by decide) k) ?_
      refine own_by (T' := T12) (f' := (mkF m 22 #[.val (.ref a), .val (.int (1 : Int32)), .unset, .unset] [])) (fun t k => XS.istoreN X12.here hx rfl (hb hby d5_21) rfl (l' := #[.val (.ref a), .val (.int (1 : Int32)), .unset, .unset]) rfl k) ?_
      refine own_by (T' := T12) (f' := (mkF m 23 #[.val (.ref a), .val (.int (1 : Int32)), .unset, .unset] [(.int (0 : Int32))])) (fun t k => XS.iconst X12.here hx rfl (hb hby d5_22) k) ?_
      refine own_by (T' := T12) (f' := (mkF m 24 #[.val (.ref a), .val (.int (1 : Int32)), .val (.int (0 : Int32)), .unset] [])) (fun t k => XS.istoreN X12.here hx rfl (hb hby d5_23) rfl (l' := #[.val (.ref a), .val (.int (1 : Int32)), .val (.int (0 : Int32)), .unset]) rfl k) ?_
      have h64 : (64 : Int32).toInt = ((64 : Nat) : Int) := by decide
      have hn64 := own_nltn h64 hl hc13_13
      exact loop (by omega) (by omega) n 0 0 .unset T12 (Or.inl rfl) (by omega) (by decide) (fun q hq => absurd hq (Nat.not_lt_zero q)) X12 e12
theorem ef_rm0 (m : MethodId) (x0 : Int32) (x1 : Int32) (x2 : Int32) (x3 : Int32) (x4 : Int32) : entryFrame m #[(.int x0), (.int x1), (.int x2), (.int x3), (.int x4)] maxLocals = mkF m 0 #[.val (.int x0), .val (.int x1), .val (.int x2), .val (.int x3), .val (.int x4), .unset, .unset, .unset, .unset, .unset, .unset, .unset, .unset, .unset, .unset, .unset] [] := by first | (simp [entryFrame, mkF, argsToLocals, Value.category, maxLocals]; done) | rfl
set_option maxRecDepth 65536 in
set_option maxHeartbeats 40000000 in
theorem rm0 (l : Launch) (Z : State) (a0 : Array Value) (hw : ∀ d ∈ tables_1, d.before a0 Z = true) (ws : List Jvm.Cond) (i0 i1 i2 i3 i4 : Int32) (cs : Int32) (fm : Value) (h0 : Heap) (n0 : Nat) (Z0 : n0 ≤ h0.size) (ST : own_St Z h0 cs fm) :
    own_CtW l Z consts_1 x code maxLocals ret ws room_1 #[(.int i0), (.int i1), (.int i2), (.int i3), (.int i4)] h0 (fun v h L => v = some (.int 1) ∧ Fr n0 L) := by
  have hEL := own_EW hw
  refine own_ofW (plainFor_of_name pn_com_example_bewaker_bewaker_fhir_InteractionIsIdPinLaw) ?_
  intro p e s m below meth c s₁ hx hby hml hown hnm hret hlk hZ X0 e0 hs0 hS hk CH
  have N0 := Fr.nil n0
  rw [ef_rm0]
  refine own_by (T' := s₁) (f' := (mkF m 1 #[.val (.int i0), .val (.int i1), .val (.int i2), .val (.int i3), .val (.int i4), .unset, .unset, .unset, .unset, .unset, .unset, .unset, .unset, .unset, .unset, .unset] [(.int i1)])) (fun t k => XS.iloadN X0.here hx rfl (hb hby at_0) rfl k) ?_
  refine own_by (T' := s₁) (f' := (mkF m 2 #[.val (.int i0), .val (.int i1), .val (.int i2), .val (.int i3), .val (.int i4), .unset, .unset, .unset, .unset, .unset, .unset, .unset, .unset, .unset, .unset, .unset] [(.int (i1.toUInt32.toUInt16.toUInt32.toInt32))])) (fun t k => XS.i2c X0.here hx rfl (hb hby at_1) rfl k) ?_
  obtain ⟨c0, ec0⟩ : ∃ z : Int32, z = (i1.toUInt32.toUInt16.toUInt32.toInt32) := ⟨_, rfl⟩
  rw [← ec0]
  have hc0 : 0 ≤ c0.toInt ∧ c0.toInt < 65536 := by rw [ec0]; exact own_chr _
  show own_Go p e below _ s₁ (mkF m 2 #[.val (.int i0), .val (.int i1), .val (.int i2), .val (.int i3), .val (.int i4), .unset, .unset, .unset, .unset, .unset, .unset, .unset, .unset, .unset, .unset, .unset] [(.int c0)])
  refine own_by (T' := s₁) (f' := (mkF m 4 #[.val (.int i0), .val (.int i1), .val (.int i2), .val (.int i3), .val (.int i4), .val (.int c0), .unset, .unset, .unset, .unset, .unset, .unset, .unset, .unset, .unset, .unset] [])) (fun t k => XS.istore X0.here hx rfl (hb hby at_2) rfl (l' := #[.val (.int i0), .val (.int i1), .val (.int i2), .val (.int i3), .val (.int i4), .val (.int c0), .unset, .unset, .unset, .unset, .unset, .unset, .unset, .unset, .unset, .unset]) rfl k) ?_
  refine own_by (T' := s₁) (f' := (mkF m 5 #[.val (.int i0), .val (.int i1), .val (.int i2), .val (.int i3), .val (.int i4), .val (.int c0), .unset, .unset, .unset, .unset, .unset, .unset, .unset, .unset, .unset, .unset] [(.int i2)])) (fun t k => XS.iloadN X0.here hx rfl (hb hby at_4) rfl k) ?_
  refine own_by (T' := s₁) (f' := (mkF m 6 #[.val (.int i0), .val (.int i1), .val (.int i2), .val (.int i3), .val (.int i4), .val (.int c0), .unset, .unset, .unset, .unset, .unset, .unset, .unset, .unset, .unset, .unset] [(.int (i2.toUInt32.toUInt16.toUInt32.toInt32))])) (fun t k => XS.i2c X0.here hx rfl (hb hby at_5) rfl k) ?_
  obtain ⟨c1, ec1⟩ : ∃ z : Int32, z = (i2.toUInt32.toUInt16.toUInt32.toInt32) := ⟨_, rfl⟩
  rw [← ec1]
  have hc1 : 0 ≤ c1.toInt ∧ c1.toInt < 65536 := by rw [ec1]; exact own_chr _
  show own_Go p e below _ s₁ (mkF m 6 #[.val (.int i0), .val (.int i1), .val (.int i2), .val (.int i3), .val (.int i4), .val (.int c0), .unset, .unset, .unset, .unset, .unset, .unset, .unset, .unset, .unset, .unset] [(.int c1)])
  refine own_by (T' := s₁) (f' := (mkF m 8 #[.val (.int i0), .val (.int i1), .val (.int i2), .val (.int i3), .val (.int i4), .val (.int c0), .val (.int c1), .unset, .unset, .unset, .unset, .unset, .unset, .unset, .unset, .unset] [])) (fun t k => XS.istore X0.here hx rfl (hb hby at_6) rfl (l' := #[.val (.int i0), .val (.int i1), .val (.int i2), .val (.int i3), .val (.int i4), .val (.int c0), .val (.int c1), .unset, .unset, .unset, .unset, .unset, .unset, .unset, .unset, .unset]) rfl k) ?_
  refine own_by (T' := s₁) (f' := (mkF m 9 #[.val (.int i0), .val (.int i1), .val (.int i2), .val (.int i3), .val (.int i4), .val (.int c0), .val (.int c1), .unset, .unset, .unset, .unset, .unset, .unset, .unset, .unset, .unset] [(.int i3)])) (fun t k => XS.iloadN X0.here hx rfl (hb hby at_8) rfl k) ?_
  refine own_by (T' := s₁) (f' := (mkF m 10 #[.val (.int i0), .val (.int i1), .val (.int i2), .val (.int i3), .val (.int i4), .val (.int c0), .val (.int c1), .unset, .unset, .unset, .unset, .unset, .unset, .unset, .unset, .unset] [(.int (i3.toUInt32.toUInt16.toUInt32.toInt32))])) (fun t k => XS.i2c X0.here hx rfl (hb hby at_9) rfl k) ?_
  obtain ⟨c2, ec2⟩ : ∃ z : Int32, z = (i3.toUInt32.toUInt16.toUInt32.toInt32) := ⟨_, rfl⟩
  rw [← ec2]
  have hc2 : 0 ≤ c2.toInt ∧ c2.toInt < 65536 := by rw [ec2]; exact own_chr _
  show own_Go p e below _ s₁ (mkF m 10 #[.val (.int i0), .val (.int i1), .val (.int i2), .val (.int i3), .val (.int i4), .val (.int c0), .val (.int c1), .unset, .unset, .unset, .unset, .unset, .unset, .unset, .unset, .unset] [(.int c2)])
  refine own_by (T' := s₁) (f' := (mkF m 12 #[.val (.int i0), .val (.int i1), .val (.int i2), .val (.int i3), .val (.int i4), .val (.int c0), .val (.int c1), .val (.int c2), .unset, .unset, .unset, .unset, .unset, .unset, .unset, .unset] [])) (fun t k => XS.istore X0.here hx rfl (hb hby at_10) rfl (l' := #[.val (.int i0), .val (.int i1), .val (.int i2), .val (.int i3), .val (.int i4), .val (.int c0), .val (.int c1), .val (.int c2), .unset, .unset, .unset, .unset, .unset, .unset, .unset, .unset]) rfl k) ?_
  refine own_by (T' := s₁) (f' := (mkF m 14 #[.val (.int i0), .val (.int i1), .val (.int i2), .val (.int i3), .val (.int i4), .val (.int c0), .val (.int c1), .val (.int c2), .unset, .unset, .unset, .unset, .unset, .unset, .unset, .unset] [(.int i4)])) (fun t k => XS.iload X0.here hx rfl (hb hby at_12) rfl k) ?_
  refine own_by (T' := s₁) (f' := (mkF m 15 #[.val (.int i0), .val (.int i1), .val (.int i2), .val (.int i3), .val (.int i4), .val (.int c0), .val (.int c1), .val (.int c2), .unset, .unset, .unset, .unset, .unset, .unset, .unset, .unset] [(.int (i4.toUInt32.toUInt16.toUInt32.toInt32))])) (fun t k => XS.i2c X0.here hx rfl (hb hby at_14) rfl k) ?_
  obtain ⟨c3, ec3⟩ : ∃ z : Int32, z = (i4.toUInt32.toUInt16.toUInt32.toInt32) := ⟨_, rfl⟩
  rw [← ec3]
  have hc3 : 0 ≤ c3.toInt ∧ c3.toInt < 65536 := by rw [ec3]; exact own_chr _
  show own_Go p e below _ s₁ (mkF m 15 #[.val (.int i0), .val (.int i1), .val (.int i2), .val (.int i3), .val (.int i4), .val (.int c0), .val (.int c1), .val (.int c2), .unset, .unset, .unset, .unset, .unset, .unset, .unset, .unset] [(.int c3)])
  refine own_by (T' := s₁) (f' := (mkF m 17 #[.val (.int i0), .val (.int i1), .val (.int i2), .val (.int i3), .val (.int i4), .val (.int c0), .val (.int c1), .val (.int c2), .val (.int c3), .unset, .unset, .unset, .unset, .unset, .unset, .unset] [])) (fun t k => XS.istore X0.here hx rfl (hb hby at_15) rfl (l' := #[.val (.int i0), .val (.int i1), .val (.int i2), .val (.int i3), .val (.int i4), .val (.int c0), .val (.int c1), .val (.int c2), .val (.int c3), .unset, .unset, .unset, .unset, .unset, .unset, .unset]) rfl k) ?_
  refine own_by (T' := s₁) (f' := (mkF m 19 #[.val (.int i0), .val (.int i1), .val (.int i2), .val (.int i3), .val (.int i4), .val (.int c0), .val (.int c1), .val (.int c2), .val (.int c3), .unset, .unset, .unset, .unset, .unset, .unset, .unset] [(.int c0)])) (fun t k => XS.iload X0.here hx rfl (hb hby at_17) rfl k) ?_
  refine own_callS X0 hx hZ hown e0 (hb hby at_19) [(.int c0)] [] 0 (rmVL l Z a0 hw [] c0 h0) (hw _ (List.mem_of_getElem? (i := 0) rfl)) (hw _ (List.mem_of_getElem? (i := 1) rfl)) (hw _ (List.mem_of_getElem? (i := 2) rfl)) (hw _ (List.mem_of_getElem? (i := 3) rfl)) (by decide) pd__C_Z (by rw [hml]; rfl) rfl rfl (Nat.le_of_eq rfl) (by decide) (by decide) (by decide) (by decide) ?_
  rintro T11 _ L11 X11 ⟨rfl, rfl, e11⟩
  show own_Go p e below _ T11 (mkF m 22 #[.val (.int i0), .val (.int i1), .val (.int i2), .val (.int i3), .val (.int i4), .val (.int c0), .val (.int c1), .val (.int c2), .val (.int c3), .unset, .unset, .unset, .unset, .unset, .unset, .unset] [(.int (own_vl c0))])
  rw [List.append_nil] at X11
  refine own_by (T' := T11) (f' := (mkF m 24 #[.val (.int i0), .val (.int i1), .val (.int i2), .val (.int i3), .val (.int i4), .val (.int c0), .val (.int c1), .val (.int c2), .val (.int c3), .val (.int (own_vl c0)), .unset, .unset, .unset, .unset, .unset, .unset] [])) (fun t k => XS.istore X11.here hx rfl (hb hby at_22) rfl (l' := #[.val (.int i0), .val (.int i1), .val (.int i2), .val (.int i3), .val (.int i4), .val (.int c0), .val (.int c1), .val (.int c2), .val (.int c3), .val (.int (own_vl c0)), .unset, .unset, .unset, .unset, .unset, .unset]) rfl k) ?_
  refine own_by (T' := T11) (f' := (mkF m 26 #[.val (.int i0), .val (.int i1), .val (.int i2), .val (.int i3), .val (.int i4), .val (.int c0), .val (.int c1), .val (.int c2), .val (.int c3), .val (.int (own_vl c0)), .unset, .unset, .unset, .unset, .unset, .unset] [(.int c1)])) (fun t k => XS.iload X11.here hx rfl (hb hby at_24) rfl k) ?_
  refine own_callS X11 hx hZ hown e11 (hb hby at_26) [(.int c1)] [] 0 (rmVL l Z a0 hw [] c1 h0) (hw _ (List.mem_of_getElem? (i := 0) rfl)) (hw _ (List.mem_of_getElem? (i := 1) rfl)) (hw _ (List.mem_of_getElem? (i := 2) rfl)) (hw _ (List.mem_of_getElem? (i := 3) rfl)) (by decide) pd__C_Z (by rw [hml]; rfl) rfl rfl (Nat.le_of_eq rfl) (by decide) (by decide) (by decide) (by decide) ?_
  rintro T12 _ L12 X12 ⟨rfl, rfl, e12⟩
  show own_Go p e below _ T12 (mkF m 29 #[.val (.int i0), .val (.int i1), .val (.int i2), .val (.int i3), .val (.int i4), .val (.int c0), .val (.int c1), .val (.int c2), .val (.int c3), .val (.int (own_vl c0)), .unset, .unset, .unset, .unset, .unset, .unset] [(.int (own_vl c1))])
  rw [List.append_nil] at X12
  refine own_by (T' := T12) (f' := (mkF m 31 #[.val (.int i0), .val (.int i1), .val (.int i2), .val (.int i3), .val (.int i4), .val (.int c0), .val (.int c1), .val (.int c2), .val (.int c3), .val (.int (own_vl c0)), .val (.int (own_vl c1)), .unset, .unset, .unset, .unset, .unset] [])) (fun t k => XS.istore X12.here hx rfl (hb hby at_29) rfl (l' := #[.val (.int i0), .val (.int i1), .val (.int i2), .val (.int i3), .val (.int i4), .val (.int c0), .val (.int c1), .val (.int c2), .val (.int c3), .val (.int (own_vl c0)), .val (.int (own_vl c1)), .unset, .unset, .unset, .unset, .unset]) rfl k) ?_
  refine own_by (T' := T12) (f' := (mkF m 33 #[.val (.int i0), .val (.int i1), .val (.int i2), .val (.int i3), .val (.int i4), .val (.int c0), .val (.int c1), .val (.int c2), .val (.int c3), .val (.int (own_vl c0)), .val (.int (own_vl c1)), .unset, .unset, .unset, .unset, .unset] [(.int c2)])) (fun t k => XS.iload X12.here hx rfl (hb hby at_31) rfl k) ?_
  refine own_callS X12 hx hZ hown e12 (hb hby at_33) [(.int c2)] [] 0 (rmVL l Z a0 hw [] c2 h0) (hw _ (List.mem_of_getElem? (i := 0) rfl)) (hw _ (List.mem_of_getElem? (i := 1) rfl)) (hw _ (List.mem_of_getElem? (i := 2) rfl)) (hw _ (List.mem_of_getElem? (i := 3) rfl)) (by decide) pd__C_Z (by rw [hml]; rfl) rfl rfl (Nat.le_of_eq rfl) (by decide) (by decide) (by decide) (by decide) ?_
  rintro T13 _ L13 X13 ⟨rfl, rfl, e13⟩
  show own_Go p e below _ T13 (mkF m 36 #[.val (.int i0), .val (.int i1), .val (.int i2), .val (.int i3), .val (.int i4), .val (.int c0), .val (.int c1), .val (.int c2), .val (.int c3), .val (.int (own_vl c0)), .val (.int (own_vl c1)), .unset, .unset, .unset, .unset, .unset] [(.int (own_vl c2))])
  rw [List.append_nil] at X13
  refine own_by (T' := T13) (f' := (mkF m 38 #[.val (.int i0), .val (.int i1), .val (.int i2), .val (.int i3), .val (.int i4), .val (.int c0), .val (.int c1), .val (.int c2), .val (.int c3), .val (.int (own_vl c0)), .val (.int (own_vl c1)), .val (.int (own_vl c2)), .unset, .unset, .unset, .unset] [])) (fun t k => XS.istore X13.here hx rfl (hb hby at_36) rfl (l' := #[.val (.int i0), .val (.int i1), .val (.int i2), .val (.int i3), .val (.int i4), .val (.int c0), .val (.int c1), .val (.int c2), .val (.int c3), .val (.int (own_vl c0)), .val (.int (own_vl c1)), .val (.int (own_vl c2)), .unset, .unset, .unset, .unset]) rfl k) ?_
  refine own_by (T' := T13) (f' := (mkF m 40 #[.val (.int i0), .val (.int i1), .val (.int i2), .val (.int i3), .val (.int i4), .val (.int c0), .val (.int c1), .val (.int c2), .val (.int c3), .val (.int (own_vl c0)), .val (.int (own_vl c1)), .val (.int (own_vl c2)), .unset, .unset, .unset, .unset] [(.int c3)])) (fun t k => XS.iload X13.here hx rfl (hb hby at_38) rfl k) ?_
  refine own_callS X13 hx hZ hown e13 (hb hby at_40) [(.int c3)] [] 0 (rmVL l Z a0 hw [] c3 h0) (hw _ (List.mem_of_getElem? (i := 0) rfl)) (hw _ (List.mem_of_getElem? (i := 1) rfl)) (hw _ (List.mem_of_getElem? (i := 2) rfl)) (hw _ (List.mem_of_getElem? (i := 3) rfl)) (by decide) pd__C_Z (by rw [hml]; rfl) rfl rfl (Nat.le_of_eq rfl) (by decide) (by decide) (by decide) (by decide) ?_
  rintro T14 _ L14 X14 ⟨rfl, rfl, e14⟩
  show own_Go p e below _ T14 (mkF m 43 #[.val (.int i0), .val (.int i1), .val (.int i2), .val (.int i3), .val (.int i4), .val (.int c0), .val (.int c1), .val (.int c2), .val (.int c3), .val (.int (own_vl c0)), .val (.int (own_vl c1)), .val (.int (own_vl c2)), .unset, .unset, .unset, .unset] [(.int (own_vl c3))])
  rw [List.append_nil] at X14
  refine own_by (T' := T14) (f' := (mkF m 45 #[.val (.int i0), .val (.int i1), .val (.int i2), .val (.int i3), .val (.int i4), .val (.int c0), .val (.int c1), .val (.int c2), .val (.int c3), .val (.int (own_vl c0)), .val (.int (own_vl c1)), .val (.int (own_vl c2)), .val (.int (own_vl c3)), .unset, .unset, .unset] [])) (fun t k => XS.istore X14.here hx rfl (hb hby at_43) rfl (l' := #[.val (.int i0), .val (.int i1), .val (.int i2), .val (.int i3), .val (.int i4), .val (.int c0), .val (.int c1), .val (.int c2), .val (.int c3), .val (.int (own_vl c0)), .val (.int (own_vl c1)), .val (.int (own_vl c2)), .val (.int (own_vl c3)), .unset, .unset, .unset]) rfl k) ?_
  refine own_by (T' := T14) (f' := (mkF m 46 #[.val (.int i0), .val (.int i1), .val (.int i2), .val (.int i3), .val (.int i4), .val (.int c0), .val (.int c1), .val (.int c2), .val (.int c3), .val (.int (own_vl c0)), .val (.int (own_vl c1)), .val (.int (own_vl c2)), .val (.int (own_vl c3)), .unset, .unset, .unset] [(.int i0)])) (fun t k => XS.iloadN X14.here hx rfl (hb hby at_45) rfl k) ?_
  refine own_by (T' := T14) (f' := (mkF m 48 #[.val (.int i0), .val (.int i1), .val (.int i2), .val (.int i3), .val (.int i4), .val (.int c0), .val (.int c1), .val (.int c2), .val (.int c3), .val (.int (own_vl c0)), .val (.int (own_vl c1)), .val (.int (own_vl c2)), .val (.int (own_vl c3)), .unset, .unset, .unset] [(.int (7 : Int32)), (.int i0)])) (fun t k => XS.bipush X14.here hx rfl (hb hby at_46) k) ?_
  refine own_by (T' := T14) (f' := (mkF m 49 #[.val (.int i0), .val (.int i1), .val (.int i2), .val (.int i3), .val (.int i4), .val (.int c0), .val (.int c1), .val (.int c2), .val (.int c3), .val (.int (own_vl c0)), .val (.int (own_vl c1)), .val (.int (own_vl c2)), .val (.int (own_vl c3)), .unset, .unset, .unset] [(.int (i0 &&& (7 : Int32)))])) (fun t k => XS.iand X14.here hx rfl (hb hby at_48) rfl k) ?_
  rcases own_m7 i0 with hl | hl | hl | hl | hl | hl | hl | hl
  · rw [hl]
    show own_Go p e below _ T14 (mkF m 49 #[.val (.int i0), .val (.int i1), .val (.int i2), .val (.int i3), .val (.int i4), .val (.int c0), .val (.int c1), .val (.int c2), .val (.int c3), .val (.int (own_vl c0)), .val (.int (own_vl c1)), .val (.int (own_vl c2)), .val (.int (own_vl c3)), .unset, .unset, .unset] [(.int (0 : Int32))])
    refine own_by (T' := T14) (f' := (mkF m 51 #[.val (.int i0), .val (.int i1), .val (.int i2), .val (.int i3), .val (.int i4), .val (.int c0), .val (.int c1), .val (.int c2), .val (.int c3), .val (.int (own_vl c0)), .val (.int (own_vl c1)), .val (.int (own_vl c2)), .val (.int (own_vl c3)), .val (.int (0 : Int32)), .unset, .unset] [])) (fun t k => XS.istore X14.here hx rfl (hb hby at_49) rfl (l' := #[.val (.int i0), .val (.int i1), .val (.int i2), .val (.int i3), .val (.int i4), .val (.int c0), .val (.int c1), .val (.int c2), .val (.int c3), .val (.int (own_vl c0)), .val (.int (own_vl c1)), .val (.int (own_vl c2)), .val (.int (own_vl c3)), .val (.int (0 : Int32)), .unset, .unset]) rfl k) ?_
    refine own_by (T' := T14) (f' := (mkF m 53 #[.val (.int i0), .val (.int i1), .val (.int i2), .val (.int i3), .val (.int i4), .val (.int c0), .val (.int c1), .val (.int c2), .val (.int c3), .val (.int (own_vl c0)), .val (.int (own_vl c1)), .val (.int (own_vl c2)), .val (.int (own_vl c3)), .val (.int (0 : Int32)), .unset, .unset] [(.int (0 : Int32))])) (fun t k => XS.iload X14.here hx rfl (hb hby at_51) rfl k) ?_
    refine own_by (T' := T14) (f' := (mkF m 56 #[.val (.int i0), .val (.int i1), .val (.int i2), .val (.int i3), .val (.int i4), .val (.int c0), .val (.int c1), .val (.int c2), .val (.int c3), .val (.int (own_vl c0)), .val (.int (own_vl c1)), .val (.int (own_vl c2)), .val (.int (own_vl c3)), .val (.int (0 : Int32)), .unset, .unset] [])) (fun t k => XS.ifNo X14.here hx rfl (hb hby at_53) rfl ((if0 _ _).trans (teq rfl).2) k) ?_
    refine own_by (T' := T14) (f' := (mkF m 57 #[.val (.int i0), .val (.int i1), .val (.int i2), .val (.int i3), .val (.int i4), .val (.int c0), .val (.int c1), .val (.int c2), .val (.int c3), .val (.int (own_vl c0)), .val (.int (own_vl c1)), .val (.int (own_vl c2)), .val (.int (own_vl c3)), .val (.int (0 : Int32)), .unset, .unset] [(.int (0 : Int32))])) (fun t k => XS.iconst X14.here hx rfl (hb hby at_56) k) ?_
    refine own_mkA X14 hx hZ e14 (hb hby at_57) (hw _ (List.mem_of_getElem? (i := 4) rfl)) (v := 0) rfl (by decide) 0 (by decide) (by decide) (by decide) (by decide) ?_
    intro T15 h15 b15 X15 e15 g15 E15 A15r
    have gn15 : n0 ≤ b15 := by rw [g15]; exact Z0
    show own_Go p e below _ T15 (mkF m 59 #[.val (.int i0), .val (.int i1), .val (.int i2), .val (.int i3), .val (.int i4), .val (.int c0), .val (.int c1), .val (.int c2), .val (.int c3), .val (.int (own_vl c0)), .val (.int (own_vl c1)), .val (.int (own_vl c2)), .val (.int (own_vl c3)), .val (.int (0 : Int32)), .unset, .unset] [(.ref b15)])
    have A15 : own_A Z h15 b15 .char 0 (fun _ => 0) := A15r
    have hk := Nat.le_trans hk E15.1
    have CH := CH.trans (CHr.ext E15 CH.1)
    have sz16 : n0 ≤ h15.size := Nat.le_trans Z0 E15.1
    refine own_by (T' := T15) (f' := (mkF m 61 #[.val (.int i0), .val (.int i1), .val (.int i2), .val (.int i3), .val (.int i4), .val (.int c0), .val (.int c1), .val (.int c2), .val (.int c3), .val (.int (own_vl c0)), .val (.int (own_vl c1)), .val (.int (own_vl c2)), .val (.int (own_vl c3)), .val (.int (0 : Int32)), .val (.ref b15), .unset] [])) (fun t k => XS.astore X15.here hx rfl (hb hby at_59) rfl rfl (l' := #[.val (.int i0), .val (.int i1), .val (.int i2), .val (.int i3), .val (.int i4), .val (.int c0), .val (.int c1), .val (.int c2), .val (.int c3), .val (.int (own_vl c0)), .val (.int (own_vl c1)), .val (.int (own_vl c2)), .val (.int (own_vl c3)), .val (.int (0 : Int32)), .val (.ref b15), .unset]) rfl k) ?_
    refine own_by (T' := T15) (f' := (mkF m 62 #[.val (.int i0), .val (.int i1), .val (.int i2), .val (.int i3), .val (.int i4), .val (.int c0), .val (.int c1), .val (.int c2), .val (.int c3), .val (.int (own_vl c0)), .val (.int (own_vl c1)), .val (.int (own_vl c2)), .val (.int (own_vl c3)), .val (.int (0 : Int32)), .val (.ref b15), .unset] [(.int (0 : Int32))])) (fun t k => XS.iconst X15.here hx rfl (hb hby at_61) k) ?_
    refine own_by (T' := T15) (f' := (mkF m 64 #[.val (.int i0), .val (.int i1), .val (.int i2), .val (.int i3), .val (.int i4), .val (.int c0), .val (.int c1), .val (.int c2), .val (.int c3), .val (.int (own_vl c0)), .val (.int (own_vl c1)), .val (.int (own_vl c2)), .val (.int (own_vl c3)), .val (.int (0 : Int32)), .val (.ref b15), .val (.int (0 : Int32))] [])) (fun t k => XS.istore X15.here hx rfl (hb hby at_62) rfl (l' := #[.val (.int i0), .val (.int i1), .val (.int i2), .val (.int i3), .val (.int i4), .val (.int c0), .val (.int c1), .val (.int c2), .val (.int c3), .val (.int (own_vl c0)), .val (.int (own_vl c1)), .val (.int (own_vl c2)), .val (.int (own_vl c3)), .val (.int (0 : Int32)), .val (.ref b15), .val (.int (0 : Int32))]) rfl k) ?_
    refine own_by (T' := T15) (f' := (mkF m 282 #[.val (.int i0), .val (.int i1), .val (.int i2), .val (.int i3), .val (.int i4), .val (.int c0), .val (.int c1), .val (.int c2), .val (.int c3), .val (.int (own_vl c0)), .val (.int (own_vl c1)), .val (.int (own_vl c2)), .val (.int (own_vl c3)), .val (.int (0 : Int32)), .val (.ref b15), .val (.int (0 : Int32))] [])) (fun t k => XS.goto X15.here hx rfl (pc0 := 64) (pc' := 282) rfl (hb hby at_64) (by decide) (by decide) k) ?_
    refine own_new X15 hx hZ hown e15 (hb hby at_282) (hw _ (List.mem_of_getElem? (i := 5) rfl)) (hw _ (List.mem_of_getElem? (i := 6) rfl)) (hw _ (List.mem_of_getElem? (i := 7) rfl)) (by decide) (by decide) ?_
    intro T17 h17 b17 X17 e17 g17 E17 A17 D17
    have ne17_b15 : b15 ≠ b17 := Nat.ne_of_lt (by rw [g17]; exact A15.lt)
    have gn17 : n0 ≤ b17 := by rw [g17]; exact sz16
    show own_Go p e below _ T17 (mkF m 285 #[.val (.int i0), .val (.int i1), .val (.int i2), .val (.int i3), .val (.int i4), .val (.int c0), .val (.int c1), .val (.int c2), .val (.int c3), .val (.int (own_vl c0)), .val (.int (own_vl c1)), .val (.int (own_vl c2)), .val (.int (own_vl c3)), .val (.int (0 : Int32)), .val (.ref b15), .val (.int (0 : Int32))] [(.ref b17)])
    have S_b17 := Safe.ext E17 CH.1 (Safe.new (Nat.le_of_eq g17.symm))
    have hk := Nat.le_trans hk E17.1
    have CH := CH.trans (CHr.ext E17 CH.1)
    have F17_value : Fld Z h17 b17 "java/lang/String" "value" "[B" .null := D17 (Or.inr (hw _ (List.mem_of_getElem? (i := 20) rfl))) (ty := (.array .byte)) (by decide)
    have F17_coder : Fld Z h17 b17 "java/lang/String" "coder" "B" (.int (0 : Int32)) := D17 (Or.inr (hw _ (List.mem_of_getElem? (i := 21) rfl))) (ty := .byte) (by decide)
    have sz18 : n0 ≤ h17.size := Nat.le_trans sz16 E17.1
    refine own_by (T' := T17) (f' := (mkF m 286 #[.val (.int i0), .val (.int i1), .val (.int i2), .val (.int i3), .val (.int i4), .val (.int c0), .val (.int c1), .val (.int c2), .val (.int c3), .val (.int (own_vl c0)), .val (.int (own_vl c1)), .val (.int (own_vl c2)), .val (.int (own_vl c3)), .val (.int (0 : Int32)), .val (.ref b15), .val (.int (0 : Int32))] [(.ref b17), (.ref b17)])) (fun t k => XS.dup X17.here hx rfl (hb hby at_285) rfl rfl k) ?_
    refine own_by (T' := T17) (f' := (mkF m 288 #[.val (.int i0), .val (.int i1), .val (.int i2), .val (.int i3), .val (.int i4), .val (.int c0), .val (.int c1), .val (.int c2), .val (.int c3), .val (.int (own_vl c0)), .val (.int (own_vl c1)), .val (.int (own_vl c2)), .val (.int (own_vl c3)), .val (.int (0 : Int32)), .val (.ref b15), .val (.int (0 : Int32))] [(.ref b15), (.ref b17), (.ref b17)])) (fun t k => XS.aload X17.here hx rfl (hb hby at_286) rfl rfl k) ?_
    have q19 : ∀ x ∈ [b17], ∃ c : Cell, h17[x]? = some c ∧ c.vm.isStatics = false := (allS (own_ns A17) all0)
    have f20 := (A15.ext E17)
    have A21 : own_A Z h17 b15 .char 0 (fun i => List.getD [] i 0) := f20.congr (fun i hi => by exact absurd hi (Nat.not_lt_zero i))
    have f22 := ((ST.ext E15).ext E17)
    have lt23 := A17.lt
    refine own_callNW X17 hx hZ hown e17 (hb hby at_288) hS hk hEL CH [(.ref b15)] [(.ref b17)] 1 (rmI1e l Z a0 hw [] b17 b15 (fun i => List.getD [] i 0) _ cs fm h17 n0 sz18 gn17 A17 F17_value F17_coder f22 A21) (hw _ (List.mem_of_getElem? (i := 8) rfl)) (hw _ (List.mem_of_getElem? (i := 9) rfl)) (hw _ (List.mem_of_getElem? (i := 7) rfl)) (hw _ (List.mem_of_getElem? (i := 10) rfl)) rfl (by decide) pd___C_V (by rw [hml]; rfl) rfl rfl (Nat.le_of_eq rfl) (by decide) (by decide) (by decide) (by decide) ?_
    rintro T24 _ L24 X24 hS hk hZ hown hW24 CHs24 CH ⟨rfl, N24q, K24, Q24⟩
    show own_Go p e below _ T24 (mkF m 291 #[.val (.int i0), .val (.int i1), .val (.int i2), .val (.int i3), .val (.int i4), .val (.int c0), .val (.int c1), .val (.int c2), .val (.int c3), .val (.int (own_vl c0)), .val (.int (own_vl c1)), .val (.int (own_vl c2)), .val (.int (own_vl c3)), .val (.int (0 : Int32)), .val (.ref b15), .val (.int (0 : Int32))] [(.ref b17)])
    have S_b17 := CHr.safe CHs24 lt23 S_b17
    have N24 := Fr.app N0 N24q
    have sz25 : n0 ≤ T24.heap.size := Nat.le_trans sz18 K24.1
    have f26 := (f22.keep K24 q19)
    have lt27 := Q24.2.2.1.lt
    refine own_callSW X24 hx hZ hown rfl (hb hby at_291) hS hk hEL CH [(.ref b17)] [] 0 (rmID l Z a0 hw [] b17 (0 : Int32) 0 (fun i => List.getD [] i 0) cs fm T24.heap (by decide) (by decide) Q24 f26) (hw _ (List.mem_of_getElem? (i := 26) rfl)) (hw _ (List.mem_of_getElem? (i := 27) rfl)) (hw _ (List.mem_of_getElem? (i := 28) rfl)) (hw _ (List.mem_of_getElem? (i := 29) rfl)) (by decide) pd__Ljava_lang_String__Z (by rw [hml]; rfl) rfl rfl (Nat.le_of_eq rfl) (by decide) (by decide) (by decide) (by decide) ?_
    rintro T28 _ L28 X28 hS hk hZ hown hW28 CHs28 CH ⟨r28, rfl, hr28, rfl⟩
    show own_Go p e below _ T28 (mkF m 294 #[.val (.int i0), .val (.int i1), .val (.int i2), .val (.int i3), .val (.int i4), .val (.int c0), .val (.int c1), .val (.int c2), .val (.int c3), .val (.int (own_vl c0)), .val (.int (own_vl c1)), .val (.int (own_vl c2)), .val (.int (own_vl c3)), .val (.int (0 : Int32)), .val (.ref b15), .val (.int (0 : Int32))] [(.int r28)])
    have S_b17 := CHr.safe CHs28 lt27 S_b17
    rw [List.append_nil] at X28
    refine own_by (T' := T28) (f' := (mkF m 296 #[.val (.int i0), .val (.int i1), .val (.int i2), .val (.int i3), .val (.int i4), .val (.int c0), .val (.int c1), .val (.int c2), .val (.int c3), .val (.int (own_vl c0)), .val (.int (own_vl c1)), .val (.int (own_vl c2)), .val (.int (own_vl c3)), .val (.int (0 : Int32)), .val (.ref b15), .val (.int (0 : Int32))] [(.int (0 : Int32)), (.int r28)])) (fun t k => XS.iload X28.here hx rfl (hb hby at_294) rfl k) ?_
    have hc296_29 : r28 = (0 : Int32) := own_lw0 hr28
    refine own_by (T' := T28) (f' := (mkF m 299 #[.val (.int i0), .val (.int i1), .val (.int i2), .val (.int i3), .val (.int i4), .val (.int c0), .val (.int c1), .val (.int c2), .val (.int c3), .val (.int (own_vl c0)), .val (.int (own_vl c1)), .val (.int (own_vl c2)), .val (.int (own_vl c3)), .val (.int (0 : Int32)), .val (.ref b15), .val (.int (0 : Int32))] [])) (fun t k => XS.icmpNo X28.here hx rfl (hb hby at_296) rfl (teq hc296_29).2 k) ?_
    refine own_by (T' := T28) (f' := (mkF m 300 #[.val (.int i0), .val (.int i1), .val (.int i2), .val (.int i3), .val (.int i4), .val (.int c0), .val (.int c1), .val (.int c2), .val (.int c3), .val (.int (own_vl c0)), .val (.int (own_vl c1)), .val (.int (own_vl c2)), .val (.int (own_vl c3)), .val (.int (0 : Int32)), .val (.ref b15), .val (.int (0 : Int32))] [(.int (1 : Int32))])) (fun t k => XS.iconst X28.here hx rfl (hb hby at_299) k) ?_
    refine own_by (T' := T28) (f' := (mkF m 304 #[.val (.int i0), .val (.int i1), .val (.int i2), .val (.int i3), .val (.int i4), .val (.int c0), .val (.int c1), .val (.int c2), .val (.int c3), .val (.int (own_vl c0)), .val (.int (own_vl c1)), .val (.int (own_vl c2)), .val (.int (own_vl c3)), .val (.int (0 : Int32)), .val (.ref b15), .val (.int (0 : Int32))] [(.int (1 : Int32))])) (fun t k => XS.goto X28.here hx rfl (pc0 := 300) (pc' := 304) rfl (hb hby at_300) (by decide) (by decide) k) ?_
    refine own_retW X28 hx hret hlk hZ hEL hs0 rfl hS hk CH (hb hby at_304) rfl (Or.inl ⟨rfl, Or.inr (Or.inl rfl), _, rfl⟩) (by decide) (by decide) ?_
    exact ⟨rfl, N24⟩
  · rw [hl]
    show own_Go p e below _ T14 (mkF m 49 #[.val (.int i0), .val (.int i1), .val (.int i2), .val (.int i3), .val (.int i4), .val (.int c0), .val (.int c1), .val (.int c2), .val (.int c3), .val (.int (own_vl c0)), .val (.int (own_vl c1)), .val (.int (own_vl c2)), .val (.int (own_vl c3)), .unset, .unset, .unset] [(.int (1 : Int32))])
    refine own_by (T' := T14) (f' := (mkF m 51 #[.val (.int i0), .val (.int i1), .val (.int i2), .val (.int i3), .val (.int i4), .val (.int c0), .val (.int c1), .val (.int c2), .val (.int c3), .val (.int (own_vl c0)), .val (.int (own_vl c1)), .val (.int (own_vl c2)), .val (.int (own_vl c3)), .val (.int (1 : Int32)), .unset, .unset] [])) (fun t k => XS.istore X14.here hx rfl (hb hby at_49) rfl (l' := #[.val (.int i0), .val (.int i1), .val (.int i2), .val (.int i3), .val (.int i4), .val (.int c0), .val (.int c1), .val (.int c2), .val (.int c3), .val (.int (own_vl c0)), .val (.int (own_vl c1)), .val (.int (own_vl c2)), .val (.int (own_vl c3)), .val (.int (1 : Int32)), .unset, .unset]) rfl k) ?_
    refine own_by (T' := T14) (f' := (mkF m 53 #[.val (.int i0), .val (.int i1), .val (.int i2), .val (.int i3), .val (.int i4), .val (.int c0), .val (.int c1), .val (.int c2), .val (.int c3), .val (.int (own_vl c0)), .val (.int (own_vl c1)), .val (.int (own_vl c2)), .val (.int (own_vl c3)), .val (.int (1 : Int32)), .unset, .unset] [(.int (1 : Int32))])) (fun t k => XS.iload X14.here hx rfl (hb hby at_51) rfl k) ?_
    refine own_by (T' := T14) (f' := (mkF m 67 #[.val (.int i0), .val (.int i1), .val (.int i2), .val (.int i3), .val (.int i4), .val (.int c0), .val (.int c1), .val (.int c2), .val (.int c3), .val (.int (own_vl c0)), .val (.int (own_vl c1)), .val (.int (own_vl c2)), .val (.int (own_vl c3)), .val (.int (1 : Int32)), .unset, .unset] [])) (fun t k => XS.ifYes X14.here hx rfl (pc0 := 53) (pc' := 67) rfl (hb hby at_53) rfl ((if0 _ _).trans (feq (by decide)).2) (by decide) (by decide) k) ?_
    refine own_by (T' := T14) (f' := (mkF m 69 #[.val (.int i0), .val (.int i1), .val (.int i2), .val (.int i3), .val (.int i4), .val (.int c0), .val (.int c1), .val (.int c2), .val (.int c3), .val (.int (own_vl c0)), .val (.int (own_vl c1)), .val (.int (own_vl c2)), .val (.int (own_vl c3)), .val (.int (1 : Int32)), .unset, .unset] [(.int (1 : Int32))])) (fun t k => XS.iload X14.here hx rfl (hb hby at_67) rfl k) ?_
    refine own_by (T' := T14) (f' := (mkF m 70 #[.val (.int i0), .val (.int i1), .val (.int i2), .val (.int i3), .val (.int i4), .val (.int c0), .val (.int c1), .val (.int c2), .val (.int c3), .val (.int (own_vl c0)), .val (.int (own_vl c1)), .val (.int (own_vl c2)), .val (.int (own_vl c3)), .val (.int (1 : Int32)), .unset, .unset] [(.int (1 : Int32)), (.int (1 : Int32))])) (fun t k => XS.iconst X14.here hx rfl (hb hby at_69) k) ?_
    refine own_by (T' := T14) (f' := (mkF m 73 #[.val (.int i0), .val (.int i1), .val (.int i2), .val (.int i3), .val (.int i4), .val (.int c0), .val (.int c1), .val (.int c2), .val (.int c3), .val (.int (own_vl c0)), .val (.int (own_vl c1)), .val (.int (own_vl c2)), .val (.int (own_vl c3)), .val (.int (1 : Int32)), .unset, .unset] [])) (fun t k => XS.icmpNo X14.here hx rfl (hb hby at_70) rfl (teq rfl).2 k) ?_
    refine own_by (T' := T14) (f' := (mkF m 74 #[.val (.int i0), .val (.int i1), .val (.int i2), .val (.int i3), .val (.int i4), .val (.int c0), .val (.int c1), .val (.int c2), .val (.int c3), .val (.int (own_vl c0)), .val (.int (own_vl c1)), .val (.int (own_vl c2)), .val (.int (own_vl c3)), .val (.int (1 : Int32)), .unset, .unset] [(.int (1 : Int32))])) (fun t k => XS.iconst X14.here hx rfl (hb hby at_73) k) ?_
    refine own_mkA X14 hx hZ e14 (hb hby at_74) (hw _ (List.mem_of_getElem? (i := 4) rfl)) (v := 0) rfl (by decide) 1 (by decide) (by decide) (by decide) (by decide) ?_
    intro T30 h30 b30 X30 e30 g30 E30 A30r
    have gn30 : n0 ≤ b30 := by rw [g30]; exact Z0
    show own_Go p e below _ T30 (mkF m 76 #[.val (.int i0), .val (.int i1), .val (.int i2), .val (.int i3), .val (.int i4), .val (.int c0), .val (.int c1), .val (.int c2), .val (.int c3), .val (.int (own_vl c0)), .val (.int (own_vl c1)), .val (.int (own_vl c2)), .val (.int (own_vl c3)), .val (.int (1 : Int32)), .unset, .unset] [(.ref b30)])
    have A30 : own_A Z h30 b30 .char 1 (fun _ => 0) := A30r
    have hk := Nat.le_trans hk E30.1
    have CH := CH.trans (CHr.ext E30 CH.1)
    have sz31 : n0 ≤ h30.size := Nat.le_trans Z0 E30.1
    refine own_by (T' := T30) (f' := (mkF m 77 #[.val (.int i0), .val (.int i1), .val (.int i2), .val (.int i3), .val (.int i4), .val (.int c0), .val (.int c1), .val (.int c2), .val (.int c3), .val (.int (own_vl c0)), .val (.int (own_vl c1)), .val (.int (own_vl c2)), .val (.int (own_vl c3)), .val (.int (1 : Int32)), .unset, .unset] [(.ref b30), (.ref b30)])) (fun t k => XS.dup X30.here hx rfl (hb hby at_76) rfl rfl k) ?_
    refine own_by (T' := T30) (f' := (mkF m 78 #[.val (.int i0), .val (.int i1), .val (.int i2), .val (.int i3), .val (.int i4), .val (.int c0), .val (.int c1), .val (.int c2), .val (.int c3), .val (.int (own_vl c0)), .val (.int (own_vl c1)), .val (.int (own_vl c2)), .val (.int (own_vl c3)), .val (.int (1 : Int32)), .unset, .unset] [(.int (0 : Int32)), (.ref b30), (.ref b30)])) (fun t k => XS.iconst X30.here hx rfl (hb hby at_77) k) ?_
    refine own_by (T' := T30) (f' := (mkF m 80 #[.val (.int i0), .val (.int i1), .val (.int i2), .val (.int i3), .val (.int i4), .val (.int c0), .val (.int c1), .val (.int c2), .val (.int c3), .val (.int (own_vl c0)), .val (.int (own_vl c1)), .val (.int (own_vl c2)), .val (.int (own_vl c3)), .val (.int (1 : Int32)), .unset, .unset] [(.int c0), (.int (0 : Int32)), (.ref b30), (.ref b30)])) (fun t k => XS.iload X30.here hx rfl (hb hby at_78) rfl k) ?_
    have _ : (0 : Int32).toInt = 0 := by decide
    refine own_stC X30 hx hZ e30 (hb hby at_80) A30 (by first | decide | omega) (by first | decide | omega) ?_
    intro T32 h32 X32 e32 W32 A32
    show own_Go p e below _ T32 (mkF m 81 #[.val (.int i0), .val (.int i1), .val (.int i2), .val (.int i3), .val (.int i4), .val (.int c0), .val (.int c1), .val (.int c2), .val (.int c3), .val (.int (own_vl c0)), .val (.int (own_vl c1)), .val (.int (own_vl c2)), .val (.int (own_vl c3)), .val (.int (1 : Int32)), .unset, .unset] [(.ref b30)])
    have hk := Nat.le_trans hk (Nat.le_of_eq W32.size.symm)
    have CH := CH.trans (CHr.wr W32 (own_A.safe hZ.alike A30 (by decide)) CH.1)
    have sz33 : n0 ≤ h32.size := by rw [W32.size]; exact sz31
    have N32 := Fr.snoc X32 N0 gn30
    have A34 : own_A Z h32 b30 .char 1 (fun i => if i = 0 then c0 else 0) := A32.congr (fun i hi => by have q : (0 : Int32).toInt.toNat = 0 := (by decide); simp only [q, own_nc hc0])
    have A35 : own_A Z h32 b30 .char 1 (fun i => List.getD [c0] i 0) := A34.congr (fun i hi => by match i, hi with | 0, _ => rfl | (q + 1), h => exact absurd h (by omega))
    refine own_by (T' := T32) (f' := (mkF m 83 #[.val (.int i0), .val (.int i1), .val (.int i2), .val (.int i3), .val (.int i4), .val (.int c0), .val (.int c1), .val (.int c2), .val (.int c3), .val (.int (own_vl c0)), .val (.int (own_vl c1)), .val (.int (own_vl c2)), .val (.int (own_vl c3)), .val (.int (1 : Int32)), .val (.ref b30), .unset] [])) (fun t k => XS.astore X32.here hx rfl (hb hby at_81) rfl rfl (l' := #[.val (.int i0), .val (.int i1), .val (.int i2), .val (.int i3), .val (.int i4), .val (.int c0), .val (.int c1), .val (.int c2), .val (.int c3), .val (.int (own_vl c0)), .val (.int (own_vl c1)), .val (.int (own_vl c2)), .val (.int (own_vl c3)), .val (.int (1 : Int32)), .val (.ref b30), .unset]) rfl k) ?_
    refine own_by (T' := T32) (f' := (mkF m 85 #[.val (.int i0), .val (.int i1), .val (.int i2), .val (.int i3), .val (.int i4), .val (.int c0), .val (.int c1), .val (.int c2), .val (.int c3), .val (.int (own_vl c0)), .val (.int (own_vl c1)), .val (.int (own_vl c2)), .val (.int (own_vl c3)), .val (.int (1 : Int32)), .val (.ref b30), .unset] [(.int (own_vl c0))])) (fun t k => XS.iload X32.here hx rfl (hb hby at_83) rfl k) ?_
    have mg38 : ∀ t, Steps p.tables e below (T32.setTop (mkF m 100 #[.val (.int i0), .val (.int i1), .val (.int i2), .val (.int i3), .val (.int i4), .val (.int c0), .val (.int c1), .val (.int c2), .val (.int c3), .val (.int (own_vl c0)), .val (.int (own_vl c1)), .val (.int (own_vl c2)), .val (.int (own_vl c3)), .val (.int (1 : Int32)), .val (.ref b30), .unset] [(.int (if (own_vl c0) = (0 : Int32) then (0 : Int32) else (if c0 = (46 : Int32) then (0 : Int32) else (1 : Int32))))])) t → Steps p.tables e below (T32.setTop (mkF m 85 #[.val (.int i0), .val (.int i1), .val (.int i2), .val (.int i3), .val (.int i4), .val (.int c0), .val (.int c1), .val (.int c2), .val (.int c3), .val (.int (own_vl c0)), .val (.int (own_vl c1)), .val (.int (own_vl c2)), .val (.int (own_vl c3)), .val (.int (1 : Int32)), .val (.ref b30), .unset] [(.int (own_vl c0))])) t := by
      intro t k0
      by_cases hm36 : (own_vl c0) = (0 : Int32)
      · skip
        refine XS.ifYes X32.here hx rfl (pc0 := 85) (pc' := 99) rfl (hb hby at_85) rfl ((if0 _ _).trans (teq hm36).1) (by decide) (by decide) ?_
        show Steps p.tables e below (T32.setTop (mkF m 99 #[.val (.int i0), .val (.int i1), .val (.int i2), .val (.int i3), .val (.int i4), .val (.int c0), .val (.int c1), .val (.int c2), .val (.int c3), .val (.int (own_vl c0)), .val (.int (own_vl c1)), .val (.int (own_vl c2)), .val (.int (own_vl c3)), .val (.int (1 : Int32)), .val (.ref b30), .unset] [])) _
        refine XS.iconst X32.here hx rfl (hb hby at_99) ?_
        show Steps p.tables e below (T32.setTop (mkF m 100 #[.val (.int i0), .val (.int i1), .val (.int i2), .val (.int i3), .val (.int i4), .val (.int c0), .val (.int c1), .val (.int c2), .val (.int c3), .val (.int (own_vl c0)), .val (.int (own_vl c1)), .val (.int (own_vl c2)), .val (.int (own_vl c3)), .val (.int (1 : Int32)), .val (.ref b30), .unset] [(.int (0 : Int32))])) _
        try simp only [if_pos hm36] at k0
        exact k0
      · skip
        refine XS.ifNo X32.here hx rfl (hb hby at_85) rfl ((if0 _ _).trans (feq hm36).1) ?_
        show Steps p.tables e below (T32.setTop (mkF m 88 #[.val (.int i0), .val (.int i1), .val (.int i2), .val (.int i3), .val (.int i4), .val (.int c0), .val (.int c1), .val (.int c2), .val (.int c3), .val (.int (own_vl c0)), .val (.int (own_vl c1)), .val (.int (own_vl c2)), .val (.int (own_vl c3)), .val (.int (1 : Int32)), .val (.ref b30), .unset] [])) _
        refine XS.iload X32.here hx rfl (hb hby at_88) rfl ?_
        show Steps p.tables e below (T32.setTop (mkF m 90 #[.val (.int i0), .val (.int i1), .val (.int i2), .val (.int i3), .val (.int i4), .val (.int c0), .val (.int c1), .val (.int c2), .val (.int c3), .val (.int (own_vl c0)), .val (.int (own_vl c1)), .val (.int (own_vl c2)), .val (.int (own_vl c3)), .val (.int (1 : Int32)), .val (.ref b30), .unset] [(.int c0)])) _
        refine XS.bipush X32.here hx rfl (hb hby at_90) ?_
        show Steps p.tables e below (T32.setTop (mkF m 92 #[.val (.int i0), .val (.int i1), .val (.int i2), .val (.int i3), .val (.int i4), .val (.int c0), .val (.int c1), .val (.int c2), .val (.int c3), .val (.int (own_vl c0)), .val (.int (own_vl c1)), .val (.int (own_vl c2)), .val (.int (own_vl c3)), .val (.int (1 : Int32)), .val (.ref b30), .unset] [(.int (46 : Int32)), (.int c0)])) _
        by_cases hm37 : c0 = (46 : Int32)
        · skip
          refine XS.icmpYes X32.here hx rfl (pc0 := 92) (pc' := 99) rfl (hb hby at_92) rfl (teq hm37).1 (by decide) (by decide) ?_
          show Steps p.tables e below (T32.setTop (mkF m 99 #[.val (.int i0), .val (.int i1), .val (.int i2), .val (.int i3), .val (.int i4), .val (.int c0), .val (.int c1), .val (.int c2), .val (.int c3), .val (.int (own_vl c0)), .val (.int (own_vl c1)), .val (.int (own_vl c2)), .val (.int (own_vl c3)), .val (.int (1 : Int32)), .val (.ref b30), .unset] [])) _
          refine XS.iconst X32.here hx rfl (hb hby at_99) ?_
          show Steps p.tables e below (T32.setTop (mkF m 100 #[.val (.int i0), .val (.int i1), .val (.int i2), .val (.int i3), .val (.int i4), .val (.int c0), .val (.int c1), .val (.int c2), .val (.int c3), .val (.int (own_vl c0)), .val (.int (own_vl c1)), .val (.int (own_vl c2)), .val (.int (own_vl c3)), .val (.int (1 : Int32)), .val (.ref b30), .unset] [(.int (0 : Int32))])) _
          try simp only [if_neg hm36, if_pos hm37] at k0
          exact k0
        · skip
          refine XS.icmpNo X32.here hx rfl (hb hby at_92) rfl (feq hm37).1 ?_
          show Steps p.tables e below (T32.setTop (mkF m 95 #[.val (.int i0), .val (.int i1), .val (.int i2), .val (.int i3), .val (.int i4), .val (.int c0), .val (.int c1), .val (.int c2), .val (.int c3), .val (.int (own_vl c0)), .val (.int (own_vl c1)), .val (.int (own_vl c2)), .val (.int (own_vl c3)), .val (.int (1 : Int32)), .val (.ref b30), .unset] [])) _
          refine XS.iconst X32.here hx rfl (hb hby at_95) ?_
          show Steps p.tables e below (T32.setTop (mkF m 96 #[.val (.int i0), .val (.int i1), .val (.int i2), .val (.int i3), .val (.int i4), .val (.int c0), .val (.int c1), .val (.int c2), .val (.int c3), .val (.int (own_vl c0)), .val (.int (own_vl c1)), .val (.int (own_vl c2)), .val (.int (own_vl c3)), .val (.int (1 : Int32)), .val (.ref b30), .unset] [(.int (1 : Int32))])) _
          refine XS.goto X32.here hx rfl (pc0 := 96) (pc' := 100) rfl (hb hby at_96) (by decide) (by decide) ?_
          show Steps p.tables e below (T32.setTop (mkF m 100 #[.val (.int i0), .val (.int i1), .val (.int i2), .val (.int i3), .val (.int i4), .val (.int c0), .val (.int c1), .val (.int c2), .val (.int c3), .val (.int (own_vl c0)), .val (.int (own_vl c1)), .val (.int (own_vl c2)), .val (.int (own_vl c3)), .val (.int (1 : Int32)), .val (.ref b30), .unset] [(.int (1 : Int32))])) _
          try simp only [if_neg hm36, if_neg hm37] at k0
          exact k0
    refine own_by mg38 ?_
    obtain ⟨ex, hex⟩ : ∃ z : Int32, z = (if (own_vl c0) = (0 : Int32) then (0 : Int32) else (if c0 = (46 : Int32) then (0 : Int32) else (1 : Int32))) := ⟨_, rfl⟩
    rw [← hex]
    show own_Go p e below _ T32 (mkF m 100 #[.val (.int i0), .val (.int i1), .val (.int i2), .val (.int i3), .val (.int i4), .val (.int c0), .val (.int c1), .val (.int c2), .val (.int c3), .val (.int (own_vl c0)), .val (.int (own_vl c1)), .val (.int (own_vl c2)), .val (.int (own_vl c3)), .val (.int (1 : Int32)), .val (.ref b30), .unset] [(.int ex)])
    refine own_by (T' := T32) (f' := (mkF m 102 #[.val (.int i0), .val (.int i1), .val (.int i2), .val (.int i3), .val (.int i4), .val (.int c0), .val (.int c1), .val (.int c2), .val (.int c3), .val (.int (own_vl c0)), .val (.int (own_vl c1)), .val (.int (own_vl c2)), .val (.int (own_vl c3)), .val (.int (1 : Int32)), .val (.ref b30), .val (.int ex)] [])) (fun t k => XS.istore X32.here hx rfl (hb hby at_100) rfl (l' := #[.val (.int i0), .val (.int i1), .val (.int i2), .val (.int i3), .val (.int i4), .val (.int c0), .val (.int c1), .val (.int c2), .val (.int c3), .val (.int (own_vl c0)), .val (.int (own_vl c1)), .val (.int (own_vl c2)), .val (.int (own_vl c3)), .val (.int (1 : Int32)), .val (.ref b30), .val (.int ex)]) rfl k) ?_
    refine own_by (T' := T32) (f' := (mkF m 282 #[.val (.int i0), .val (.int i1), .val (.int i2), .val (.int i3), .val (.int i4), .val (.int c0), .val (.int c1), .val (.int c2), .val (.int c3), .val (.int (own_vl c0)), .val (.int (own_vl c1)), .val (.int (own_vl c2)), .val (.int (own_vl c3)), .val (.int (1 : Int32)), .val (.ref b30), .val (.int ex)] [])) (fun t k => XS.goto X32.here hx rfl (pc0 := 102) (pc' := 282) rfl (hb hby at_102) (by decide) (by decide) k) ?_
    refine own_new X32 hx hZ hown e32 (hb hby at_282) (hw _ (List.mem_of_getElem? (i := 5) rfl)) (hw _ (List.mem_of_getElem? (i := 6) rfl)) (hw _ (List.mem_of_getElem? (i := 7) rfl)) (by decide) (by decide) ?_
    intro T39 h39 b39 X39 e39 g39 E39 A39 D39
    have ne39_b30 : b30 ≠ b39 := Nat.ne_of_lt (by rw [g39]; exact A35.lt)
    have gn39 : n0 ≤ b39 := by rw [g39]; exact sz33
    show own_Go p e below _ T39 (mkF m 285 #[.val (.int i0), .val (.int i1), .val (.int i2), .val (.int i3), .val (.int i4), .val (.int c0), .val (.int c1), .val (.int c2), .val (.int c3), .val (.int (own_vl c0)), .val (.int (own_vl c1)), .val (.int (own_vl c2)), .val (.int (own_vl c3)), .val (.int (1 : Int32)), .val (.ref b30), .val (.int ex)] [(.ref b39)])
    have S_b39 := Safe.ext E39 CH.1 (Safe.new (Nat.le_of_eq g39.symm))
    have hk := Nat.le_trans hk E39.1
    have CH := CH.trans (CHr.ext E39 CH.1)
    have F39_value : Fld Z h39 b39 "java/lang/String" "value" "[B" .null := D39 (Or.inr (hw _ (List.mem_of_getElem? (i := 20) rfl))) (ty := (.array .byte)) (by decide)
    have F39_coder : Fld Z h39 b39 "java/lang/String" "coder" "B" (.int (0 : Int32)) := D39 (Or.inr (hw _ (List.mem_of_getElem? (i := 21) rfl))) (ty := .byte) (by decide)
    have sz40 : n0 ≤ h39.size := Nat.le_trans sz33 E39.1
    refine own_by (T' := T39) (f' := (mkF m 286 #[.val (.int i0), .val (.int i1), .val (.int i2), .val (.int i3), .val (.int i4), .val (.int c0), .val (.int c1), .val (.int c2), .val (.int c3), .val (.int (own_vl c0)), .val (.int (own_vl c1)), .val (.int (own_vl c2)), .val (.int (own_vl c3)), .val (.int (1 : Int32)), .val (.ref b30), .val (.int ex)] [(.ref b39), (.ref b39)])) (fun t k => XS.dup X39.here hx rfl (hb hby at_285) rfl rfl k) ?_
    refine own_by (T' := T39) (f' := (mkF m 288 #[.val (.int i0), .val (.int i1), .val (.int i2), .val (.int i3), .val (.int i4), .val (.int c0), .val (.int c1), .val (.int c2), .val (.int c3), .val (.int (own_vl c0)), .val (.int (own_vl c1)), .val (.int (own_vl c2)), .val (.int (own_vl c3)), .val (.int (1 : Int32)), .val (.ref b30), .val (.int ex)] [(.ref b30), (.ref b39), (.ref b39)])) (fun t k => XS.aload X39.here hx rfl (hb hby at_286) rfl rfl k) ?_
    have q41 : ∀ x ∈ [b39], ∃ c : Cell, h39[x]? = some c ∧ c.vm.isStatics = false := (allS (own_ns A39) all0)
    have f42 := (A35.ext E39)
    have f43 := (((ST.ext E30).wr W32).ext E39)
    refine own_callN X39 hx hZ hown e39 (hb hby at_288) [(.ref b30)] [(.ref b39)] 1 (rmI1 l Z a0 hw [] b39 b30 (1 : Int32) 1 (fun i => List.getD [c0] i 0) _ _ cs fm h39 n0 sz40 gn39 (by decide) (by decide) (by decide) (fun i hi => by match i, hi with | 0, _ => exact hc0 | (q + 1), h => exact absurd h (by omega)) f42 ne39_b30 A39 F39_value F39_coder f43) (hw _ (List.mem_of_getElem? (i := 8) rfl)) (hw _ (List.mem_of_getElem? (i := 9) rfl)) (hw _ (List.mem_of_getElem? (i := 7) rfl)) (hw _ (List.mem_of_getElem? (i := 10) rfl)) rfl (by decide) pd___C_V (by rw [hml]; rfl) rfl rfl (Nat.le_of_eq rfl) (by decide) (by decide) (by decide) (by decide) ?_
    rintro T44 _ L44 X44 ⟨rfl, N44q, K44, Q44⟩
    show own_Go p e below _ T44 (mkF m 291 #[.val (.int i0), .val (.int i1), .val (.int i2), .val (.int i3), .val (.int i4), .val (.int c0), .val (.int c1), .val (.int c2), .val (.int c3), .val (.int (own_vl c0)), .val (.int (own_vl c1)), .val (.int (own_vl c2)), .val (.int (own_vl c3)), .val (.int (1 : Int32)), .val (.ref b30), .val (.int ex)] [(.ref b39)])
    have S_b39' := Safe.keep K44 (allS S_b39 all0) CH.1 S_b39
    have hk := Nat.le_trans hk K44.1
    have CH := CH.trans (CHr.keep K44 (allS S_b39 all0) CH.1)
    have S_b39 := S_b39'
    have N44 := Fr.app N32 N44q
    have sz45 : n0 ≤ T44.heap.size := Nat.le_trans sz40 K44.1
    have f46 := (f43.keep K44 q41)
    have lt47 := Q44.2.2.1.lt
    refine own_callSW X44 hx hZ hown rfl (hb hby at_291) hS hk hEL CH [(.ref b39)] [] 0 (rmID l Z a0 hw [] b39 (1 : Int32) 1 (fun i => List.getD [c0] i 0) cs fm T44.heap (by decide) (by decide) Q44 f46) (hw _ (List.mem_of_getElem? (i := 26) rfl)) (hw _ (List.mem_of_getElem? (i := 27) rfl)) (hw _ (List.mem_of_getElem? (i := 28) rfl)) (hw _ (List.mem_of_getElem? (i := 29) rfl)) (by decide) pd__Ljava_lang_String__Z (by rw [hml]; rfl) rfl rfl (Nat.le_of_eq rfl) (by decide) (by decide) (by decide) (by decide) ?_
    rintro T48 _ L48 X48 hS hk hZ hown hW48 CHs48 CH ⟨r48, rfl, hr48, rfl⟩
    show own_Go p e below _ T48 (mkF m 294 #[.val (.int i0), .val (.int i1), .val (.int i2), .val (.int i3), .val (.int i4), .val (.int c0), .val (.int c1), .val (.int c2), .val (.int c3), .val (.int (own_vl c0)), .val (.int (own_vl c1)), .val (.int (own_vl c2)), .val (.int (own_vl c3)), .val (.int (1 : Int32)), .val (.ref b30), .val (.int ex)] [(.int r48)])
    have S_b39 := CHr.safe CHs48 lt47 S_b39
    rw [List.append_nil] at X48
    refine own_by (T' := T48) (f' := (mkF m 296 #[.val (.int i0), .val (.int i1), .val (.int i2), .val (.int i3), .val (.int i4), .val (.int c0), .val (.int c1), .val (.int c2), .val (.int c3), .val (.int (own_vl c0)), .val (.int (own_vl c1)), .val (.int (own_vl c2)), .val (.int (own_vl c3)), .val (.int (1 : Int32)), .val (.ref b30), .val (.int ex)] [(.int ex), (.int r48)])) (fun t k => XS.iload X48.here hx rfl (hb hby at_294) rfl k) ?_
    have hc296_49 : r48 = ex := by rw [hex]; exact own_lw1 (f := (fun i => List.getD [c0] i 0)) hr48 (fun i hi => by match i, hi with | 0, _ => exact own_vc_vl c0 hc0 | (q + 1), h => exact absurd h (by omega))
    refine own_by (T' := T48) (f' := (mkF m 299 #[.val (.int i0), .val (.int i1), .val (.int i2), .val (.int i3), .val (.int i4), .val (.int c0), .val (.int c1), .val (.int c2), .val (.int c3), .val (.int (own_vl c0)), .val (.int (own_vl c1)), .val (.int (own_vl c2)), .val (.int (own_vl c3)), .val (.int (1 : Int32)), .val (.ref b30), .val (.int ex)] [])) (fun t k => XS.icmpNo X48.here hx rfl (hb hby at_296) rfl (teq hc296_49).2 k) ?_
    refine own_by (T' := T48) (f' := (mkF m 300 #[.val (.int i0), .val (.int i1), .val (.int i2), .val (.int i3), .val (.int i4), .val (.int c0), .val (.int c1), .val (.int c2), .val (.int c3), .val (.int (own_vl c0)), .val (.int (own_vl c1)), .val (.int (own_vl c2)), .val (.int (own_vl c3)), .val (.int (1 : Int32)), .val (.ref b30), .val (.int ex)] [(.int (1 : Int32))])) (fun t k => XS.iconst X48.here hx rfl (hb hby at_299) k) ?_
    refine own_by (T' := T48) (f' := (mkF m 304 #[.val (.int i0), .val (.int i1), .val (.int i2), .val (.int i3), .val (.int i4), .val (.int c0), .val (.int c1), .val (.int c2), .val (.int c3), .val (.int (own_vl c0)), .val (.int (own_vl c1)), .val (.int (own_vl c2)), .val (.int (own_vl c3)), .val (.int (1 : Int32)), .val (.ref b30), .val (.int ex)] [(.int (1 : Int32))])) (fun t k => XS.goto X48.here hx rfl (pc0 := 300) (pc' := 304) rfl (hb hby at_300) (by decide) (by decide) k) ?_
    refine own_retW X48 hx hret hlk hZ hEL hs0 rfl hS hk CH (hb hby at_304) rfl (Or.inl ⟨rfl, Or.inr (Or.inl rfl), _, rfl⟩) (by decide) (by decide) ?_
    exact ⟨rfl, N44⟩
  · rw [hl]
    show own_Go p e below _ T14 (mkF m 49 #[.val (.int i0), .val (.int i1), .val (.int i2), .val (.int i3), .val (.int i4), .val (.int c0), .val (.int c1), .val (.int c2), .val (.int c3), .val (.int (own_vl c0)), .val (.int (own_vl c1)), .val (.int (own_vl c2)), .val (.int (own_vl c3)), .unset, .unset, .unset] [(.int (2 : Int32))])
    refine own_by (T' := T14) (f' := (mkF m 51 #[.val (.int i0), .val (.int i1), .val (.int i2), .val (.int i3), .val (.int i4), .val (.int c0), .val (.int c1), .val (.int c2), .val (.int c3), .val (.int (own_vl c0)), .val (.int (own_vl c1)), .val (.int (own_vl c2)), .val (.int (own_vl c3)), .val (.int (2 : Int32)), .unset, .unset] [])) (fun t k => XS.istore X14.here hx rfl (hb hby at_49) rfl (l' := #[.val (.int i0), .val (.int i1), .val (.int i2), .val (.int i3), .val (.int i4), .val (.int c0), .val (.int c1), .val (.int c2), .val (.int c3), .val (.int (own_vl c0)), .val (.int (own_vl c1)), .val (.int (own_vl c2)), .val (.int (own_vl c3)), .val (.int (2 : Int32)), .unset, .unset]) rfl k) ?_
    refine own_by (T' := T14) (f' := (mkF m 53 #[.val (.int i0), .val (.int i1), .val (.int i2), .val (.int i3), .val (.int i4), .val (.int c0), .val (.int c1), .val (.int c2), .val (.int c3), .val (.int (own_vl c0)), .val (.int (own_vl c1)), .val (.int (own_vl c2)), .val (.int (own_vl c3)), .val (.int (2 : Int32)), .unset, .unset] [(.int (2 : Int32))])) (fun t k => XS.iload X14.here hx rfl (hb hby at_51) rfl k) ?_
    refine own_by (T' := T14) (f' := (mkF m 67 #[.val (.int i0), .val (.int i1), .val (.int i2), .val (.int i3), .val (.int i4), .val (.int c0), .val (.int c1), .val (.int c2), .val (.int c3), .val (.int (own_vl c0)), .val (.int (own_vl c1)), .val (.int (own_vl c2)), .val (.int (own_vl c3)), .val (.int (2 : Int32)), .unset, .unset] [])) (fun t k => XS.ifYes X14.here hx rfl (pc0 := 53) (pc' := 67) rfl (hb hby at_53) rfl ((if0 _ _).trans (feq (by decide)).2) (by decide) (by decide) k) ?_
    refine own_by (T' := T14) (f' := (mkF m 69 #[.val (.int i0), .val (.int i1), .val (.int i2), .val (.int i3), .val (.int i4), .val (.int c0), .val (.int c1), .val (.int c2), .val (.int c3), .val (.int (own_vl c0)), .val (.int (own_vl c1)), .val (.int (own_vl c2)), .val (.int (own_vl c3)), .val (.int (2 : Int32)), .unset, .unset] [(.int (2 : Int32))])) (fun t k => XS.iload X14.here hx rfl (hb hby at_67) rfl k) ?_
    refine own_by (T' := T14) (f' := (mkF m 70 #[.val (.int i0), .val (.int i1), .val (.int i2), .val (.int i3), .val (.int i4), .val (.int c0), .val (.int c1), .val (.int c2), .val (.int c3), .val (.int (own_vl c0)), .val (.int (own_vl c1)), .val (.int (own_vl c2)), .val (.int (own_vl c3)), .val (.int (2 : Int32)), .unset, .unset] [(.int (1 : Int32)), (.int (2 : Int32))])) (fun t k => XS.iconst X14.here hx rfl (hb hby at_69) k) ?_
    refine own_by (T' := T14) (f' := (mkF m 105 #[.val (.int i0), .val (.int i1), .val (.int i2), .val (.int i3), .val (.int i4), .val (.int c0), .val (.int c1), .val (.int c2), .val (.int c3), .val (.int (own_vl c0)), .val (.int (own_vl c1)), .val (.int (own_vl c2)), .val (.int (own_vl c3)), .val (.int (2 : Int32)), .unset, .unset] [])) (fun t k => XS.icmpYes X14.here hx rfl (pc0 := 70) (pc' := 105) rfl (hb hby at_70) rfl (feq (by decide)).2 (by decide) (by decide) k) ?_
    refine own_by (T' := T14) (f' := (mkF m 107 #[.val (.int i0), .val (.int i1), .val (.int i2), .val (.int i3), .val (.int i4), .val (.int c0), .val (.int c1), .val (.int c2), .val (.int c3), .val (.int (own_vl c0)), .val (.int (own_vl c1)), .val (.int (own_vl c2)), .val (.int (own_vl c3)), .val (.int (2 : Int32)), .unset, .unset] [(.int (2 : Int32))])) (fun t k => XS.iload X14.here hx rfl (hb hby at_105) rfl k) ?_
    refine own_by (T' := T14) (f' := (mkF m 108 #[.val (.int i0), .val (.int i1), .val (.int i2), .val (.int i3), .val (.int i4), .val (.int c0), .val (.int c1), .val (.int c2), .val (.int c3), .val (.int (own_vl c0)), .val (.int (own_vl c1)), .val (.int (own_vl c2)), .val (.int (own_vl c3)), .val (.int (2 : Int32)), .unset, .unset] [(.int (2 : Int32)), (.int (2 : Int32))])) (fun t k => XS.iconst X14.here hx rfl (hb hby at_107) k) ?_
    refine own_by (T' := T14) (f' := (mkF m 111 #[.val (.int i0), .val (.int i1), .val (.int i2), .val (.int i3), .val (.int i4), .val (.int c0), .val (.int c1), .val (.int c2), .val (.int c3), .val (.int (own_vl c0)), .val (.int (own_vl c1)), .val (.int (own_vl c2)), .val (.int (own_vl c3)), .val (.int (2 : Int32)), .unset, .unset] [])) (fun t k => XS.icmpNo X14.here hx rfl (hb hby at_108) rfl (teq rfl).2 k) ?_
    refine own_by (T' := T14) (f' := (mkF m 112 #[.val (.int i0), .val (.int i1), .val (.int i2), .val (.int i3), .val (.int i4), .val (.int c0), .val (.int c1), .val (.int c2), .val (.int c3), .val (.int (own_vl c0)), .val (.int (own_vl c1)), .val (.int (own_vl c2)), .val (.int (own_vl c3)), .val (.int (2 : Int32)), .unset, .unset] [(.int (2 : Int32))])) (fun t k => XS.iconst X14.here hx rfl (hb hby at_111) k) ?_
    refine own_mkA X14 hx hZ e14 (hb hby at_112) (hw _ (List.mem_of_getElem? (i := 4) rfl)) (v := 0) rfl (by decide) 2 (by decide) (by decide) (by decide) (by decide) ?_
    intro T50 h50 b50 X50 e50 g50 E50 A50r
    have gn50 : n0 ≤ b50 := by rw [g50]; exact Z0
    show own_Go p e below _ T50 (mkF m 114 #[.val (.int i0), .val (.int i1), .val (.int i2), .val (.int i3), .val (.int i4), .val (.int c0), .val (.int c1), .val (.int c2), .val (.int c3), .val (.int (own_vl c0)), .val (.int (own_vl c1)), .val (.int (own_vl c2)), .val (.int (own_vl c3)), .val (.int (2 : Int32)), .unset, .unset] [(.ref b50)])
    have A50 : own_A Z h50 b50 .char 2 (fun _ => 0) := A50r
    have hk := Nat.le_trans hk E50.1
    have CH := CH.trans (CHr.ext E50 CH.1)
    have sz51 : n0 ≤ h50.size := Nat.le_trans Z0 E50.1
    refine own_by (T' := T50) (f' := (mkF m 115 #[.val (.int i0), .val (.int i1), .val (.int i2), .val (.int i3), .val (.int i4), .val (.int c0), .val (.int c1), .val (.int c2), .val (.int c3), .val (.int (own_vl c0)), .val (.int (own_vl c1)), .val (.int (own_vl c2)), .val (.int (own_vl c3)), .val (.int (2 : Int32)), .unset, .unset] [(.ref b50), (.ref b50)])) (fun t k => XS.dup X50.here hx rfl (hb hby at_114) rfl rfl k) ?_
    refine own_by (T' := T50) (f' := (mkF m 116 #[.val (.int i0), .val (.int i1), .val (.int i2), .val (.int i3), .val (.int i4), .val (.int c0), .val (.int c1), .val (.int c2), .val (.int c3), .val (.int (own_vl c0)), .val (.int (own_vl c1)), .val (.int (own_vl c2)), .val (.int (own_vl c3)), .val (.int (2 : Int32)), .unset, .unset] [(.int (0 : Int32)), (.ref b50), (.ref b50)])) (fun t k => XS.iconst X50.here hx rfl (hb hby at_115) k) ?_
    refine own_by (T' := T50) (f' := (mkF m 118 #[.val (.int i0), .val (.int i1), .val (.int i2), .val (.int i3), .val (.int i4), .val (.int c0), .val (.int c1), .val (.int c2), .val (.int c3), .val (.int (own_vl c0)), .val (.int (own_vl c1)), .val (.int (own_vl c2)), .val (.int (own_vl c3)), .val (.int (2 : Int32)), .unset, .unset] [(.int c0), (.int (0 : Int32)), (.ref b50), (.ref b50)])) (fun t k => XS.iload X50.here hx rfl (hb hby at_116) rfl k) ?_
    have _ : (0 : Int32).toInt = 0 := by decide
    refine own_stC X50 hx hZ e50 (hb hby at_118) A50 (by first | decide | omega) (by first | decide | omega) ?_
    intro T52 h52 X52 e52 W52 A52
    show own_Go p e below _ T52 (mkF m 119 #[.val (.int i0), .val (.int i1), .val (.int i2), .val (.int i3), .val (.int i4), .val (.int c0), .val (.int c1), .val (.int c2), .val (.int c3), .val (.int (own_vl c0)), .val (.int (own_vl c1)), .val (.int (own_vl c2)), .val (.int (own_vl c3)), .val (.int (2 : Int32)), .unset, .unset] [(.ref b50)])
    have hk := Nat.le_trans hk (Nat.le_of_eq W52.size.symm)
    have CH := CH.trans (CHr.wr W52 (own_A.safe hZ.alike A50 (by decide)) CH.1)
    have sz53 : n0 ≤ h52.size := by rw [W52.size]; exact sz51
    have N52 := Fr.snoc X52 N0 gn50
    have A54 : own_A Z h52 b50 .char 2 (fun i => if i = 0 then c0 else 0) := A52.congr (fun i hi => by have q : (0 : Int32).toInt.toNat = 0 := (by decide); simp only [q, own_nc hc0])
    refine own_by (T' := T52) (f' := (mkF m 120 #[.val (.int i0), .val (.int i1), .val (.int i2), .val (.int i3), .val (.int i4), .val (.int c0), .val (.int c1), .val (.int c2), .val (.int c3), .val (.int (own_vl c0)), .val (.int (own_vl c1)), .val (.int (own_vl c2)), .val (.int (own_vl c3)), .val (.int (2 : Int32)), .unset, .unset] [(.ref b50), (.ref b50)])) (fun t k => XS.dup X52.here hx rfl (hb hby at_119) rfl rfl k) ?_
    refine own_by (T' := T52) (f' := (mkF m 121 #[.val (.int i0), .val (.int i1), .val (.int i2), .val (.int i3), .val (.int i4), .val (.int c0), .val (.int c1), .val (.int c2), .val (.int c3), .val (.int (own_vl c0)), .val (.int (own_vl c1)), .val (.int (own_vl c2)), .val (.int (own_vl c3)), .val (.int (2 : Int32)), .unset, .unset] [(.int (1 : Int32)), (.ref b50), (.ref b50)])) (fun t k => XS.iconst X52.here hx rfl (hb hby at_120) k) ?_
    refine own_by (T' := T52) (f' := (mkF m 123 #[.val (.int i0), .val (.int i1), .val (.int i2), .val (.int i3), .val (.int i4), .val (.int c0), .val (.int c1), .val (.int c2), .val (.int c3), .val (.int (own_vl c0)), .val (.int (own_vl c1)), .val (.int (own_vl c2)), .val (.int (own_vl c3)), .val (.int (2 : Int32)), .unset, .unset] [(.int c1), (.int (1 : Int32)), (.ref b50), (.ref b50)])) (fun t k => XS.iload X52.here hx rfl (hb hby at_121) rfl k) ?_
    have _ : (1 : Int32).toInt = 1 := by decide
    refine own_stC X52 hx hZ e52 (hb hby at_123) A54 (by first | decide | omega) (by first | decide | omega) ?_
    intro T55 h55 X55 e55 W55 A55
    show own_Go p e below _ T55 (mkF m 124 #[.val (.int i0), .val (.int i1), .val (.int i2), .val (.int i3), .val (.int i4), .val (.int c0), .val (.int c1), .val (.int c2), .val (.int c3), .val (.int (own_vl c0)), .val (.int (own_vl c1)), .val (.int (own_vl c2)), .val (.int (own_vl c3)), .val (.int (2 : Int32)), .unset, .unset] [(.ref b50)])
    have hk := Nat.le_trans hk (Nat.le_of_eq W55.size.symm)
    have CH := CH.trans (CHr.wr W55 (own_A.safe hZ.alike A54 (by decide)) CH.1)
    have sz56 : n0 ≤ h55.size := by rw [W55.size]; exact sz53
    have N55 := Fr.snoc X55 N52 gn50
    have A57 : own_A Z h55 b50 .char 2 (fun i => if i = 1 then c1 else if i = 0 then c0 else 0) := A55.congr (fun i hi => by have q : (1 : Int32).toInt.toNat = 1 := (by decide); simp only [q, own_nc hc1])
    have A58 : own_A Z h55 b50 .char 2 (fun i => List.getD [c0, c1] i 0) := A57.congr (fun i hi => by match i, hi with | 0, _ => rfl | 1, _ => rfl | (q + 2), h => exact absurd h (by omega))
    refine own_by (T' := T55) (f' := (mkF m 126 #[.val (.int i0), .val (.int i1), .val (.int i2), .val (.int i3), .val (.int i4), .val (.int c0), .val (.int c1), .val (.int c2), .val (.int c3), .val (.int (own_vl c0)), .val (.int (own_vl c1)), .val (.int (own_vl c2)), .val (.int (own_vl c3)), .val (.int (2 : Int32)), .val (.ref b50), .unset] [])) (fun t k => XS.astore X55.here hx rfl (hb hby at_124) rfl rfl (l' := #[.val (.int i0), .val (.int i1), .val (.int i2), .val (.int i3), .val (.int i4), .val (.int c0), .val (.int c1), .val (.int c2), .val (.int c3), .val (.int (own_vl c0)), .val (.int (own_vl c1)), .val (.int (own_vl c2)), .val (.int (own_vl c3)), .val (.int (2 : Int32)), .val (.ref b50), .unset]) rfl k) ?_
    refine own_by (T' := T55) (f' := (mkF m 128 #[.val (.int i0), .val (.int i1), .val (.int i2), .val (.int i3), .val (.int i4), .val (.int c0), .val (.int c1), .val (.int c2), .val (.int c3), .val (.int (own_vl c0)), .val (.int (own_vl c1)), .val (.int (own_vl c2)), .val (.int (own_vl c3)), .val (.int (2 : Int32)), .val (.ref b50), .unset] [(.int (own_vl c0))])) (fun t k => XS.iload X55.here hx rfl (hb hby at_126) rfl k) ?_
    have mg63 : ∀ t, Steps p.tables e below (T55.setTop (mkF m 155 #[.val (.int i0), .val (.int i1), .val (.int i2), .val (.int i3), .val (.int i4), .val (.int c0), .val (.int c1), .val (.int c2), .val (.int c3), .val (.int (own_vl c0)), .val (.int (own_vl c1)), .val (.int (own_vl c2)), .val (.int (own_vl c3)), .val (.int (2 : Int32)), .val (.ref b50), .unset] [(.int (if (own_vl c0) = (0 : Int32) then (0 : Int32) else (if (own_vl c1) = (0 : Int32) then (0 : Int32) else (if c0 = (46 : Int32) then (if c1 = (46 : Int32) then (0 : Int32) else (1 : Int32)) else (1 : Int32)))))])) t → Steps p.tables e below (T55.setTop (mkF m 128 #[.val (.int i0), .val (.int i1), .val (.int i2), .val (.int i3), .val (.int i4), .val (.int c0), .val (.int c1), .val (.int c2), .val (.int c3), .val (.int (own_vl c0)), .val (.int (own_vl c1)), .val (.int (own_vl c2)), .val (.int (own_vl c3)), .val (.int (2 : Int32)), .val (.ref b50), .unset] [(.int (own_vl c0))])) t := by
      intro t k0
      by_cases hm59 : (own_vl c0) = (0 : Int32)
      · skip
        refine XS.ifYes X55.here hx rfl (pc0 := 128) (pc' := 154) rfl (hb hby at_128) rfl ((if0 _ _).trans (teq hm59).1) (by decide) (by decide) ?_
        show Steps p.tables e below (T55.setTop (mkF m 154 #[.val (.int i0), .val (.int i1), .val (.int i2), .val (.int i3), .val (.int i4), .val (.int c0), .val (.int c1), .val (.int c2), .val (.int c3), .val (.int (own_vl c0)), .val (.int (own_vl c1)), .val (.int (own_vl c2)), .val (.int (own_vl c3)), .val (.int (2 : Int32)), .val (.ref b50), .unset] [])) _
        refine XS.iconst X55.here hx rfl (hb hby at_154) ?_
        show Steps p.tables e below (T55.setTop (mkF m 155 #[.val (.int i0), .val (.int i1), .val (.int i2), .val (.int i3), .val (.int i4), .val (.int c0), .val (.int c1), .val (.int c2), .val (.int c3), .val (.int (own_vl c0)), .val (.int (own_vl c1)), .val (.int (own_vl c2)), .val (.int (own_vl c3)), .val (.int (2 : Int32)), .val (.ref b50), .unset] [(.int (0 : Int32))])) _
        try simp only [if_pos hm59] at k0
        exact k0
      · skip
        refine XS.ifNo X55.here hx rfl (hb hby at_128) rfl ((if0 _ _).trans (feq hm59).1) ?_
        show Steps p.tables e below (T55.setTop (mkF m 131 #[.val (.int i0), .val (.int i1), .val (.int i2), .val (.int i3), .val (.int i4), .val (.int c0), .val (.int c1), .val (.int c2), .val (.int c3), .val (.int (own_vl c0)), .val (.int (own_vl c1)), .val (.int (own_vl c2)), .val (.int (own_vl c3)), .val (.int (2 : Int32)), .val (.ref b50), .unset] [])) _
        refine XS.iload X55.here hx rfl (hb hby at_131) rfl ?_
        show Steps p.tables e below (T55.setTop (mkF m 133 #[.val (.int i0), .val (.int i1), .val (.int i2), .val (.int i3), .val (.int i4), .val (.int c0), .val (.int c1), .val (.int c2), .val (.int c3), .val (.int (own_vl c0)), .val (.int (own_vl c1)), .val (.int (own_vl c2)), .val (.int (own_vl c3)), .val (.int (2 : Int32)), .val (.ref b50), .unset] [(.int (own_vl c1))])) _
        by_cases hm60 : (own_vl c1) = (0 : Int32)
        · skip
          refine XS.ifYes X55.here hx rfl (pc0 := 133) (pc' := 154) rfl (hb hby at_133) rfl ((if0 _ _).trans (teq hm60).1) (by decide) (by decide) ?_
          show Steps p.tables e below (T55.setTop (mkF m 154 #[.val (.int i0), .val (.int i1), .val (.int i2), .val (.int i3), .val (.int i4), .val (.int c0), .val (.int c1), .val (.int c2), .val (.int c3), .val (.int (own_vl c0)), .val (.int (own_vl c1)), .val (.int (own_vl c2)), .val (.int (own_vl c3)), .val (.int (2 : Int32)), .val (.ref b50), .unset] [])) _
          refine XS.iconst X55.here hx rfl (hb hby at_154) ?_
          show Steps p.tables e below (T55.setTop (mkF m 155 #[.val (.int i0), .val (.int i1), .val (.int i2), .val (.int i3), .val (.int i4), .val (.int c0), .val (.int c1), .val (.int c2), .val (.int c3), .val (.int (own_vl c0)), .val (.int (own_vl c1)), .val (.int (own_vl c2)), .val (.int (own_vl c3)), .val (.int (2 : Int32)), .val (.ref b50), .unset] [(.int (0 : Int32))])) _
          try simp only [if_neg hm59, if_pos hm60] at k0
          exact k0
        · skip
          refine XS.ifNo X55.here hx rfl (hb hby at_133) rfl ((if0 _ _).trans (feq hm60).1) ?_
          show Steps p.tables e below (T55.setTop (mkF m 136 #[.val (.int i0), .val (.int i1), .val (.int i2), .val (.int i3), .val (.int i4), .val (.int c0), .val (.int c1), .val (.int c2), .val (.int c3), .val (.int (own_vl c0)), .val (.int (own_vl c1)), .val (.int (own_vl c2)), .val (.int (own_vl c3)), .val (.int (2 : Int32)), .val (.ref b50), .unset] [])) _
          refine XS.iload X55.here hx rfl (hb hby at_136) rfl ?_
          show Steps p.tables e below (T55.setTop (mkF m 138 #[.val (.int i0), .val (.int i1), .val (.int i2), .val (.int i3), .val (.int i4), .val (.int c0), .val (.int c1), .val (.int c2), .val (.int c3), .val (.int (own_vl c0)), .val (.int (own_vl c1)), .val (.int (own_vl c2)), .val (.int (own_vl c3)), .val (.int (2 : Int32)), .val (.ref b50), .unset] [(.int c0)])) _
          refine XS.bipush X55.here hx rfl (hb hby at_138) ?_
          show Steps p.tables e below (T55.setTop (mkF m 140 #[.val (.int i0), .val (.int i1), .val (.int i2), .val (.int i3), .val (.int i4), .val (.int c0), .val (.int c1), .val (.int c2), .val (.int c3), .val (.int (own_vl c0)), .val (.int (own_vl c1)), .val (.int (own_vl c2)), .val (.int (own_vl c3)), .val (.int (2 : Int32)), .val (.ref b50), .unset] [(.int (46 : Int32)), (.int c0)])) _
          by_cases hm61 : c0 = (46 : Int32)
          · skip
            refine XS.icmpNo X55.here hx rfl (hb hby at_140) rfl (teq hm61).2 ?_
            show Steps p.tables e below (T55.setTop (mkF m 143 #[.val (.int i0), .val (.int i1), .val (.int i2), .val (.int i3), .val (.int i4), .val (.int c0), .val (.int c1), .val (.int c2), .val (.int c3), .val (.int (own_vl c0)), .val (.int (own_vl c1)), .val (.int (own_vl c2)), .val (.int (own_vl c3)), .val (.int (2 : Int32)), .val (.ref b50), .unset] [])) _
            refine XS.iload X55.here hx rfl (hb hby at_143) rfl ?_
            show Steps p.tables e below (T55.setTop (mkF m 145 #[.val (.int i0), .val (.int i1), .val (.int i2), .val (.int i3), .val (.int i4), .val (.int c0), .val (.int c1), .val (.int c2), .val (.int c3), .val (.int (own_vl c0)), .val (.int (own_vl c1)), .val (.int (own_vl c2)), .val (.int (own_vl c3)), .val (.int (2 : Int32)), .val (.ref b50), .unset] [(.int c1)])) _
            refine XS.bipush X55.here hx rfl (hb hby at_145) ?_
            show Steps p.tables e below (T55.setTop (mkF m 147 #[.val (.int i0), .val (.int i1), .val (.int i2), .val (.int i3), .val (.int i4), .val (.int c0), .val (.int c1), .val (.int c2), .val (.int c3), .val (.int (own_vl c0)), .val (.int (own_vl c1)), .val (.int (own_vl c2)), .val (.int (own_vl c3)), .val (.int (2 : Int32)), .val (.ref b50), .unset] [(.int (46 : Int32)), (.int c1)])) _
            by_cases hm62 : c1 = (46 : Int32)
            · skip
              refine XS.icmpYes X55.here hx rfl (pc0 := 147) (pc' := 154) rfl (hb hby at_147) rfl (teq hm62).1 (by decide) (by decide) ?_
              show Steps p.tables e below (T55.setTop (mkF m 154 #[.val (.int i0), .val (.int i1), .val (.int i2), .val (.int i3), .val (.int i4), .val (.int c0), .val (.int c1), .val (.int c2), .val (.int c3), .val (.int (own_vl c0)), .val (.int (own_vl c1)), .val (.int (own_vl c2)), .val (.int (own_vl c3)), .val (.int (2 : Int32)), .val (.ref b50), .unset] [])) _
              refine XS.iconst X55.here hx rfl (hb hby at_154) ?_
              show Steps p.tables e below (T55.setTop (mkF m 155 #[.val (.int i0), .val (.int i1), .val (.int i2), .val (.int i3), .val (.int i4), .val (.int c0), .val (.int c1), .val (.int c2), .val (.int c3), .val (.int (own_vl c0)), .val (.int (own_vl c1)), .val (.int (own_vl c2)), .val (.int (own_vl c3)), .val (.int (2 : Int32)), .val (.ref b50), .unset] [(.int (0 : Int32))])) _
              try simp only [if_neg hm59, if_neg hm60, if_pos hm61, if_pos hm62] at k0
              exact k0
            · skip
              refine XS.icmpNo X55.here hx rfl (hb hby at_147) rfl (feq hm62).1 ?_
              show Steps p.tables e below (T55.setTop (mkF m 150 #[.val (.int i0), .val (.int i1), .val (.int i2), .val (.int i3), .val (.int i4), .val (.int c0), .val (.int c1), .val (.int c2), .val (.int c3), .val (.int (own_vl c0)), .val (.int (own_vl c1)), .val (.int (own_vl c2)), .val (.int (own_vl c3)), .val (.int (2 : Int32)), .val (.ref b50), .unset] [])) _
              refine XS.iconst X55.here hx rfl (hb hby at_150) ?_
              show Steps p.tables e below (T55.setTop (mkF m 151 #[.val (.int i0), .val (.int i1), .val (.int i2), .val (.int i3), .val (.int i4), .val (.int c0), .val (.int c1), .val (.int c2), .val (.int c3), .val (.int (own_vl c0)), .val (.int (own_vl c1)), .val (.int (own_vl c2)), .val (.int (own_vl c3)), .val (.int (2 : Int32)), .val (.ref b50), .unset] [(.int (1 : Int32))])) _
              refine XS.goto X55.here hx rfl (pc0 := 151) (pc' := 155) rfl (hb hby at_151) (by decide) (by decide) ?_
              show Steps p.tables e below (T55.setTop (mkF m 155 #[.val (.int i0), .val (.int i1), .val (.int i2), .val (.int i3), .val (.int i4), .val (.int c0), .val (.int c1), .val (.int c2), .val (.int c3), .val (.int (own_vl c0)), .val (.int (own_vl c1)), .val (.int (own_vl c2)), .val (.int (own_vl c3)), .val (.int (2 : Int32)), .val (.ref b50), .unset] [(.int (1 : Int32))])) _
              try simp only [if_neg hm59, if_neg hm60, if_pos hm61, if_neg hm62] at k0
              exact k0
          · skip
            refine XS.icmpYes X55.here hx rfl (pc0 := 140) (pc' := 150) rfl (hb hby at_140) rfl (feq hm61).2 (by decide) (by decide) ?_
            show Steps p.tables e below (T55.setTop (mkF m 150 #[.val (.int i0), .val (.int i1), .val (.int i2), .val (.int i3), .val (.int i4), .val (.int c0), .val (.int c1), .val (.int c2), .val (.int c3), .val (.int (own_vl c0)), .val (.int (own_vl c1)), .val (.int (own_vl c2)), .val (.int (own_vl c3)), .val (.int (2 : Int32)), .val (.ref b50), .unset] [])) _
            refine XS.iconst X55.here hx rfl (hb hby at_150) ?_
            show Steps p.tables e below (T55.setTop (mkF m 151 #[.val (.int i0), .val (.int i1), .val (.int i2), .val (.int i3), .val (.int i4), .val (.int c0), .val (.int c1), .val (.int c2), .val (.int c3), .val (.int (own_vl c0)), .val (.int (own_vl c1)), .val (.int (own_vl c2)), .val (.int (own_vl c3)), .val (.int (2 : Int32)), .val (.ref b50), .unset] [(.int (1 : Int32))])) _
            refine XS.goto X55.here hx rfl (pc0 := 151) (pc' := 155) rfl (hb hby at_151) (by decide) (by decide) ?_
            show Steps p.tables e below (T55.setTop (mkF m 155 #[.val (.int i0), .val (.int i1), .val (.int i2), .val (.int i3), .val (.int i4), .val (.int c0), .val (.int c1), .val (.int c2), .val (.int c3), .val (.int (own_vl c0)), .val (.int (own_vl c1)), .val (.int (own_vl c2)), .val (.int (own_vl c3)), .val (.int (2 : Int32)), .val (.ref b50), .unset] [(.int (1 : Int32))])) _
            try simp only [if_neg hm59, if_neg hm60, if_neg hm61] at k0
            exact k0
    refine own_by mg63 ?_
    obtain ⟨ex, hex⟩ : ∃ z : Int32, z = (if (own_vl c0) = (0 : Int32) then (0 : Int32) else (if (own_vl c1) = (0 : Int32) then (0 : Int32) else (if c0 = (46 : Int32) then (if c1 = (46 : Int32) then (0 : Int32) else (1 : Int32)) else (1 : Int32)))) := ⟨_, rfl⟩
    rw [← hex]
    show own_Go p e below _ T55 (mkF m 155 #[.val (.int i0), .val (.int i1), .val (.int i2), .val (.int i3), .val (.int i4), .val (.int c0), .val (.int c1), .val (.int c2), .val (.int c3), .val (.int (own_vl c0)), .val (.int (own_vl c1)), .val (.int (own_vl c2)), .val (.int (own_vl c3)), .val (.int (2 : Int32)), .val (.ref b50), .unset] [(.int ex)])
    refine own_by (T' := T55) (f' := (mkF m 157 #[.val (.int i0), .val (.int i1), .val (.int i2), .val (.int i3), .val (.int i4), .val (.int c0), .val (.int c1), .val (.int c2), .val (.int c3), .val (.int (own_vl c0)), .val (.int (own_vl c1)), .val (.int (own_vl c2)), .val (.int (own_vl c3)), .val (.int (2 : Int32)), .val (.ref b50), .val (.int ex)] [])) (fun t k => XS.istore X55.here hx rfl (hb hby at_155) rfl (l' := #[.val (.int i0), .val (.int i1), .val (.int i2), .val (.int i3), .val (.int i4), .val (.int c0), .val (.int c1), .val (.int c2), .val (.int c3), .val (.int (own_vl c0)), .val (.int (own_vl c1)), .val (.int (own_vl c2)), .val (.int (own_vl c3)), .val (.int (2 : Int32)), .val (.ref b50), .val (.int ex)]) rfl k) ?_
    refine own_by (T' := T55) (f' := (mkF m 282 #[.val (.int i0), .val (.int i1), .val (.int i2), .val (.int i3), .val (.int i4), .val (.int c0), .val (.int c1), .val (.int c2), .val (.int c3), .val (.int (own_vl c0)), .val (.int (own_vl c1)), .val (.int (own_vl c2)), .val (.int (own_vl c3)), .val (.int (2 : Int32)), .val (.ref b50), .val (.int ex)] [])) (fun t k => XS.goto X55.here hx rfl (pc0 := 157) (pc' := 282) rfl (hb hby at_157) (by decide) (by decide) k) ?_
    refine own_new X55 hx hZ hown e55 (hb hby at_282) (hw _ (List.mem_of_getElem? (i := 5) rfl)) (hw _ (List.mem_of_getElem? (i := 6) rfl)) (hw _ (List.mem_of_getElem? (i := 7) rfl)) (by decide) (by decide) ?_
    intro T64 h64 b64 X64 e64 g64 E64 A64 D64
    have ne64_b50 : b50 ≠ b64 := Nat.ne_of_lt (by rw [g64]; exact A58.lt)
    have gn64 : n0 ≤ b64 := by rw [g64]; exact sz56
    show own_Go p e below _ T64 (mkF m 285 #[.val (.int i0), .val (.int i1), .val (.int i2), .val (.int i3), .val (.int i4), .val (.int c0), .val (.int c1), .val (.int c2), .val (.int c3), .val (.int (own_vl c0)), .val (.int (own_vl c1)), .val (.int (own_vl c2)), .val (.int (own_vl c3)), .val (.int (2 : Int32)), .val (.ref b50), .val (.int ex)] [(.ref b64)])
    have S_b64 := Safe.ext E64 CH.1 (Safe.new (Nat.le_of_eq g64.symm))
    have hk := Nat.le_trans hk E64.1
    have CH := CH.trans (CHr.ext E64 CH.1)
    have F64_value : Fld Z h64 b64 "java/lang/String" "value" "[B" .null := D64 (Or.inr (hw _ (List.mem_of_getElem? (i := 20) rfl))) (ty := (.array .byte)) (by decide)
    have F64_coder : Fld Z h64 b64 "java/lang/String" "coder" "B" (.int (0 : Int32)) := D64 (Or.inr (hw _ (List.mem_of_getElem? (i := 21) rfl))) (ty := .byte) (by decide)
    have sz65 : n0 ≤ h64.size := Nat.le_trans sz56 E64.1
    refine own_by (T' := T64) (f' := (mkF m 286 #[.val (.int i0), .val (.int i1), .val (.int i2), .val (.int i3), .val (.int i4), .val (.int c0), .val (.int c1), .val (.int c2), .val (.int c3), .val (.int (own_vl c0)), .val (.int (own_vl c1)), .val (.int (own_vl c2)), .val (.int (own_vl c3)), .val (.int (2 : Int32)), .val (.ref b50), .val (.int ex)] [(.ref b64), (.ref b64)])) (fun t k => XS.dup X64.here hx rfl (hb hby at_285) rfl rfl k) ?_
    refine own_by (T' := T64) (f' := (mkF m 288 #[.val (.int i0), .val (.int i1), .val (.int i2), .val (.int i3), .val (.int i4), .val (.int c0), .val (.int c1), .val (.int c2), .val (.int c3), .val (.int (own_vl c0)), .val (.int (own_vl c1)), .val (.int (own_vl c2)), .val (.int (own_vl c3)), .val (.int (2 : Int32)), .val (.ref b50), .val (.int ex)] [(.ref b50), (.ref b64), (.ref b64)])) (fun t k => XS.aload X64.here hx rfl (hb hby at_286) rfl rfl k) ?_
    have q66 : ∀ x ∈ [b64], ∃ c : Cell, h64[x]? = some c ∧ c.vm.isStatics = false := (allS (own_ns A64) all0)
    have f67 := (A58.ext E64)
    have f68 := ((((ST.ext E50).wr W52).wr W55).ext E64)
    refine own_callN X64 hx hZ hown e64 (hb hby at_288) [(.ref b50)] [(.ref b64)] 1 (rmI1 l Z a0 hw [] b64 b50 (2 : Int32) 2 (fun i => List.getD [c0, c1] i 0) _ _ cs fm h64 n0 sz65 gn64 (by decide) (by decide) (by decide) (fun i hi => by match i, hi with | 0, _ => exact hc0 | 1, _ => exact hc1 | (q + 2), h => exact absurd h (by omega)) f67 ne64_b50 A64 F64_value F64_coder f68) (hw _ (List.mem_of_getElem? (i := 8) rfl)) (hw _ (List.mem_of_getElem? (i := 9) rfl)) (hw _ (List.mem_of_getElem? (i := 7) rfl)) (hw _ (List.mem_of_getElem? (i := 10) rfl)) rfl (by decide) pd___C_V (by rw [hml]; rfl) rfl rfl (Nat.le_of_eq rfl) (by decide) (by decide) (by decide) (by decide) ?_
    rintro T69 _ L69 X69 ⟨rfl, N69q, K69, Q69⟩
    show own_Go p e below _ T69 (mkF m 291 #[.val (.int i0), .val (.int i1), .val (.int i2), .val (.int i3), .val (.int i4), .val (.int c0), .val (.int c1), .val (.int c2), .val (.int c3), .val (.int (own_vl c0)), .val (.int (own_vl c1)), .val (.int (own_vl c2)), .val (.int (own_vl c3)), .val (.int (2 : Int32)), .val (.ref b50), .val (.int ex)] [(.ref b64)])
    have S_b64' := Safe.keep K69 (allS S_b64 all0) CH.1 S_b64
    have hk := Nat.le_trans hk K69.1
    have CH := CH.trans (CHr.keep K69 (allS S_b64 all0) CH.1)
    have S_b64 := S_b64'
    have N69 := Fr.app N55 N69q
    have sz70 : n0 ≤ T69.heap.size := Nat.le_trans sz65 K69.1
    have f71 := (f68.keep K69 q66)
    have lt72 := Q69.2.2.1.lt
    refine own_callSW X69 hx hZ hown rfl (hb hby at_291) hS hk hEL CH [(.ref b64)] [] 0 (rmID l Z a0 hw [] b64 (2 : Int32) 2 (fun i => List.getD [c0, c1] i 0) cs fm T69.heap (by decide) (by decide) Q69 f71) (hw _ (List.mem_of_getElem? (i := 26) rfl)) (hw _ (List.mem_of_getElem? (i := 27) rfl)) (hw _ (List.mem_of_getElem? (i := 28) rfl)) (hw _ (List.mem_of_getElem? (i := 29) rfl)) (by decide) pd__Ljava_lang_String__Z (by rw [hml]; rfl) rfl rfl (Nat.le_of_eq rfl) (by decide) (by decide) (by decide) (by decide) ?_
    rintro T73 _ L73 X73 hS hk hZ hown hW73 CHs73 CH ⟨r73, rfl, hr73, rfl⟩
    show own_Go p e below _ T73 (mkF m 294 #[.val (.int i0), .val (.int i1), .val (.int i2), .val (.int i3), .val (.int i4), .val (.int c0), .val (.int c1), .val (.int c2), .val (.int c3), .val (.int (own_vl c0)), .val (.int (own_vl c1)), .val (.int (own_vl c2)), .val (.int (own_vl c3)), .val (.int (2 : Int32)), .val (.ref b50), .val (.int ex)] [(.int r73)])
    have S_b64 := CHr.safe CHs73 lt72 S_b64
    rw [List.append_nil] at X73
    refine own_by (T' := T73) (f' := (mkF m 296 #[.val (.int i0), .val (.int i1), .val (.int i2), .val (.int i3), .val (.int i4), .val (.int c0), .val (.int c1), .val (.int c2), .val (.int c3), .val (.int (own_vl c0)), .val (.int (own_vl c1)), .val (.int (own_vl c2)), .val (.int (own_vl c3)), .val (.int (2 : Int32)), .val (.ref b50), .val (.int ex)] [(.int ex), (.int r73)])) (fun t k => XS.iload X73.here hx rfl (hb hby at_294) rfl k) ?_
    have hc296_74 : r73 = ex := by rw [hex]; exact own_lw2 (f := (fun i => List.getD [c0, c1] i 0)) hr73 (fun i hi => by match i, hi with | 0, _ => exact own_vc_vl c0 hc0 | 1, _ => exact own_vc_vl c1 hc1 | (q + 2), h => exact absurd h (by omega))
    refine own_by (T' := T73) (f' := (mkF m 299 #[.val (.int i0), .val (.int i1), .val (.int i2), .val (.int i3), .val (.int i4), .val (.int c0), .val (.int c1), .val (.int c2), .val (.int c3), .val (.int (own_vl c0)), .val (.int (own_vl c1)), .val (.int (own_vl c2)), .val (.int (own_vl c3)), .val (.int (2 : Int32)), .val (.ref b50), .val (.int ex)] [])) (fun t k => XS.icmpNo X73.here hx rfl (hb hby at_296) rfl (teq hc296_74).2 k) ?_
    refine own_by (T' := T73) (f' := (mkF m 300 #[.val (.int i0), .val (.int i1), .val (.int i2), .val (.int i3), .val (.int i4), .val (.int c0), .val (.int c1), .val (.int c2), .val (.int c3), .val (.int (own_vl c0)), .val (.int (own_vl c1)), .val (.int (own_vl c2)), .val (.int (own_vl c3)), .val (.int (2 : Int32)), .val (.ref b50), .val (.int ex)] [(.int (1 : Int32))])) (fun t k => XS.iconst X73.here hx rfl (hb hby at_299) k) ?_
    refine own_by (T' := T73) (f' := (mkF m 304 #[.val (.int i0), .val (.int i1), .val (.int i2), .val (.int i3), .val (.int i4), .val (.int c0), .val (.int c1), .val (.int c2), .val (.int c3), .val (.int (own_vl c0)), .val (.int (own_vl c1)), .val (.int (own_vl c2)), .val (.int (own_vl c3)), .val (.int (2 : Int32)), .val (.ref b50), .val (.int ex)] [(.int (1 : Int32))])) (fun t k => XS.goto X73.here hx rfl (pc0 := 300) (pc' := 304) rfl (hb hby at_300) (by decide) (by decide) k) ?_
    refine own_retW X73 hx hret hlk hZ hEL hs0 rfl hS hk CH (hb hby at_304) rfl (Or.inl ⟨rfl, Or.inr (Or.inl rfl), _, rfl⟩) (by decide) (by decide) ?_
    exact ⟨rfl, N69⟩
  · rw [hl]
    show own_Go p e below _ T14 (mkF m 49 #[.val (.int i0), .val (.int i1), .val (.int i2), .val (.int i3), .val (.int i4), .val (.int c0), .val (.int c1), .val (.int c2), .val (.int c3), .val (.int (own_vl c0)), .val (.int (own_vl c1)), .val (.int (own_vl c2)), .val (.int (own_vl c3)), .unset, .unset, .unset] [(.int (3 : Int32))])
    refine own_by (T' := T14) (f' := (mkF m 51 #[.val (.int i0), .val (.int i1), .val (.int i2), .val (.int i3), .val (.int i4), .val (.int c0), .val (.int c1), .val (.int c2), .val (.int c3), .val (.int (own_vl c0)), .val (.int (own_vl c1)), .val (.int (own_vl c2)), .val (.int (own_vl c3)), .val (.int (3 : Int32)), .unset, .unset] [])) (fun t k => XS.istore X14.here hx rfl (hb hby at_49) rfl (l' := #[.val (.int i0), .val (.int i1), .val (.int i2), .val (.int i3), .val (.int i4), .val (.int c0), .val (.int c1), .val (.int c2), .val (.int c3), .val (.int (own_vl c0)), .val (.int (own_vl c1)), .val (.int (own_vl c2)), .val (.int (own_vl c3)), .val (.int (3 : Int32)), .unset, .unset]) rfl k) ?_
    refine own_by (T' := T14) (f' := (mkF m 53 #[.val (.int i0), .val (.int i1), .val (.int i2), .val (.int i3), .val (.int i4), .val (.int c0), .val (.int c1), .val (.int c2), .val (.int c3), .val (.int (own_vl c0)), .val (.int (own_vl c1)), .val (.int (own_vl c2)), .val (.int (own_vl c3)), .val (.int (3 : Int32)), .unset, .unset] [(.int (3 : Int32))])) (fun t k => XS.iload X14.here hx rfl (hb hby at_51) rfl k) ?_
    refine own_by (T' := T14) (f' := (mkF m 67 #[.val (.int i0), .val (.int i1), .val (.int i2), .val (.int i3), .val (.int i4), .val (.int c0), .val (.int c1), .val (.int c2), .val (.int c3), .val (.int (own_vl c0)), .val (.int (own_vl c1)), .val (.int (own_vl c2)), .val (.int (own_vl c3)), .val (.int (3 : Int32)), .unset, .unset] [])) (fun t k => XS.ifYes X14.here hx rfl (pc0 := 53) (pc' := 67) rfl (hb hby at_53) rfl ((if0 _ _).trans (feq (by decide)).2) (by decide) (by decide) k) ?_
    refine own_by (T' := T14) (f' := (mkF m 69 #[.val (.int i0), .val (.int i1), .val (.int i2), .val (.int i3), .val (.int i4), .val (.int c0), .val (.int c1), .val (.int c2), .val (.int c3), .val (.int (own_vl c0)), .val (.int (own_vl c1)), .val (.int (own_vl c2)), .val (.int (own_vl c3)), .val (.int (3 : Int32)), .unset, .unset] [(.int (3 : Int32))])) (fun t k => XS.iload X14.here hx rfl (hb hby at_67) rfl k) ?_
    refine own_by (T' := T14) (f' := (mkF m 70 #[.val (.int i0), .val (.int i1), .val (.int i2), .val (.int i3), .val (.int i4), .val (.int c0), .val (.int c1), .val (.int c2), .val (.int c3), .val (.int (own_vl c0)), .val (.int (own_vl c1)), .val (.int (own_vl c2)), .val (.int (own_vl c3)), .val (.int (3 : Int32)), .unset, .unset] [(.int (1 : Int32)), (.int (3 : Int32))])) (fun t k => XS.iconst X14.here hx rfl (hb hby at_69) k) ?_
    refine own_by (T' := T14) (f' := (mkF m 105 #[.val (.int i0), .val (.int i1), .val (.int i2), .val (.int i3), .val (.int i4), .val (.int c0), .val (.int c1), .val (.int c2), .val (.int c3), .val (.int (own_vl c0)), .val (.int (own_vl c1)), .val (.int (own_vl c2)), .val (.int (own_vl c3)), .val (.int (3 : Int32)), .unset, .unset] [])) (fun t k => XS.icmpYes X14.here hx rfl (pc0 := 70) (pc' := 105) rfl (hb hby at_70) rfl (feq (by decide)).2 (by decide) (by decide) k) ?_
    refine own_by (T' := T14) (f' := (mkF m 107 #[.val (.int i0), .val (.int i1), .val (.int i2), .val (.int i3), .val (.int i4), .val (.int c0), .val (.int c1), .val (.int c2), .val (.int c3), .val (.int (own_vl c0)), .val (.int (own_vl c1)), .val (.int (own_vl c2)), .val (.int (own_vl c3)), .val (.int (3 : Int32)), .unset, .unset] [(.int (3 : Int32))])) (fun t k => XS.iload X14.here hx rfl (hb hby at_105) rfl k) ?_
    refine own_by (T' := T14) (f' := (mkF m 108 #[.val (.int i0), .val (.int i1), .val (.int i2), .val (.int i3), .val (.int i4), .val (.int c0), .val (.int c1), .val (.int c2), .val (.int c3), .val (.int (own_vl c0)), .val (.int (own_vl c1)), .val (.int (own_vl c2)), .val (.int (own_vl c3)), .val (.int (3 : Int32)), .unset, .unset] [(.int (2 : Int32)), (.int (3 : Int32))])) (fun t k => XS.iconst X14.here hx rfl (hb hby at_107) k) ?_
    refine own_by (T' := T14) (f' := (mkF m 160 #[.val (.int i0), .val (.int i1), .val (.int i2), .val (.int i3), .val (.int i4), .val (.int c0), .val (.int c1), .val (.int c2), .val (.int c3), .val (.int (own_vl c0)), .val (.int (own_vl c1)), .val (.int (own_vl c2)), .val (.int (own_vl c3)), .val (.int (3 : Int32)), .unset, .unset] [])) (fun t k => XS.icmpYes X14.here hx rfl (pc0 := 108) (pc' := 160) rfl (hb hby at_108) rfl (feq (by decide)).2 (by decide) (by decide) k) ?_
    refine own_by (T' := T14) (f' := (mkF m 162 #[.val (.int i0), .val (.int i1), .val (.int i2), .val (.int i3), .val (.int i4), .val (.int c0), .val (.int c1), .val (.int c2), .val (.int c3), .val (.int (own_vl c0)), .val (.int (own_vl c1)), .val (.int (own_vl c2)), .val (.int (own_vl c3)), .val (.int (3 : Int32)), .unset, .unset] [(.int (3 : Int32))])) (fun t k => XS.iload X14.here hx rfl (hb hby at_160) rfl k) ?_
    refine own_by (T' := T14) (f' := (mkF m 163 #[.val (.int i0), .val (.int i1), .val (.int i2), .val (.int i3), .val (.int i4), .val (.int c0), .val (.int c1), .val (.int c2), .val (.int c3), .val (.int (own_vl c0)), .val (.int (own_vl c1)), .val (.int (own_vl c2)), .val (.int (own_vl c3)), .val (.int (3 : Int32)), .unset, .unset] [(.int (3 : Int32)), (.int (3 : Int32))])) (fun t k => XS.iconst X14.here hx rfl (hb hby at_162) k) ?_
    refine own_by (T' := T14) (f' := (mkF m 166 #[.val (.int i0), .val (.int i1), .val (.int i2), .val (.int i3), .val (.int i4), .val (.int c0), .val (.int c1), .val (.int c2), .val (.int c3), .val (.int (own_vl c0)), .val (.int (own_vl c1)), .val (.int (own_vl c2)), .val (.int (own_vl c3)), .val (.int (3 : Int32)), .unset, .unset] [])) (fun t k => XS.icmpNo X14.here hx rfl (hb hby at_163) rfl (teq rfl).2 k) ?_
    refine own_by (T' := T14) (f' := (mkF m 167 #[.val (.int i0), .val (.int i1), .val (.int i2), .val (.int i3), .val (.int i4), .val (.int c0), .val (.int c1), .val (.int c2), .val (.int c3), .val (.int (own_vl c0)), .val (.int (own_vl c1)), .val (.int (own_vl c2)), .val (.int (own_vl c3)), .val (.int (3 : Int32)), .unset, .unset] [(.int (3 : Int32))])) (fun t k => XS.iconst X14.here hx rfl (hb hby at_166) k) ?_
    refine own_mkA X14 hx hZ e14 (hb hby at_167) (hw _ (List.mem_of_getElem? (i := 4) rfl)) (v := 0) rfl (by decide) 3 (by decide) (by decide) (by decide) (by decide) ?_
    intro T75 h75 b75 X75 e75 g75 E75 A75r
    have gn75 : n0 ≤ b75 := by rw [g75]; exact Z0
    show own_Go p e below _ T75 (mkF m 169 #[.val (.int i0), .val (.int i1), .val (.int i2), .val (.int i3), .val (.int i4), .val (.int c0), .val (.int c1), .val (.int c2), .val (.int c3), .val (.int (own_vl c0)), .val (.int (own_vl c1)), .val (.int (own_vl c2)), .val (.int (own_vl c3)), .val (.int (3 : Int32)), .unset, .unset] [(.ref b75)])
    have A75 : own_A Z h75 b75 .char 3 (fun _ => 0) := A75r
    have hk := Nat.le_trans hk E75.1
    have CH := CH.trans (CHr.ext E75 CH.1)
    have sz76 : n0 ≤ h75.size := Nat.le_trans Z0 E75.1
    refine own_by (T' := T75) (f' := (mkF m 170 #[.val (.int i0), .val (.int i1), .val (.int i2), .val (.int i3), .val (.int i4), .val (.int c0), .val (.int c1), .val (.int c2), .val (.int c3), .val (.int (own_vl c0)), .val (.int (own_vl c1)), .val (.int (own_vl c2)), .val (.int (own_vl c3)), .val (.int (3 : Int32)), .unset, .unset] [(.ref b75), (.ref b75)])) (fun t k => XS.dup X75.here hx rfl (hb hby at_169) rfl rfl k) ?_
    refine own_by (T' := T75) (f' := (mkF m 171 #[.val (.int i0), .val (.int i1), .val (.int i2), .val (.int i3), .val (.int i4), .val (.int c0), .val (.int c1), .val (.int c2), .val (.int c3), .val (.int (own_vl c0)), .val (.int (own_vl c1)), .val (.int (own_vl c2)), .val (.int (own_vl c3)), .val (.int (3 : Int32)), .unset, .unset] [(.int (0 : Int32)), (.ref b75), (.ref b75)])) (fun t k => XS.iconst X75.here hx rfl (hb hby at_170) k) ?_
    refine own_by (T' := T75) (f' := (mkF m 173 #[.val (.int i0), .val (.int i1), .val (.int i2), .val (.int i3), .val (.int i4), .val (.int c0), .val (.int c1), .val (.int c2), .val (.int c3), .val (.int (own_vl c0)), .val (.int (own_vl c1)), .val (.int (own_vl c2)), .val (.int (own_vl c3)), .val (.int (3 : Int32)), .unset, .unset] [(.int c0), (.int (0 : Int32)), (.ref b75), (.ref b75)])) (fun t k => XS.iload X75.here hx rfl (hb hby at_171) rfl k) ?_
    have _ : (0 : Int32).toInt = 0 := by decide
    refine own_stC X75 hx hZ e75 (hb hby at_173) A75 (by first | decide | omega) (by first | decide | omega) ?_
    intro T77 h77 X77 e77 W77 A77
    show own_Go p e below _ T77 (mkF m 174 #[.val (.int i0), .val (.int i1), .val (.int i2), .val (.int i3), .val (.int i4), .val (.int c0), .val (.int c1), .val (.int c2), .val (.int c3), .val (.int (own_vl c0)), .val (.int (own_vl c1)), .val (.int (own_vl c2)), .val (.int (own_vl c3)), .val (.int (3 : Int32)), .unset, .unset] [(.ref b75)])
    have hk := Nat.le_trans hk (Nat.le_of_eq W77.size.symm)
    have CH := CH.trans (CHr.wr W77 (own_A.safe hZ.alike A75 (by decide)) CH.1)
    have sz78 : n0 ≤ h77.size := by rw [W77.size]; exact sz76
    have N77 := Fr.snoc X77 N0 gn75
    have A79 : own_A Z h77 b75 .char 3 (fun i => if i = 0 then c0 else 0) := A77.congr (fun i hi => by have q : (0 : Int32).toInt.toNat = 0 := (by decide); simp only [q, own_nc hc0])
    refine own_by (T' := T77) (f' := (mkF m 175 #[.val (.int i0), .val (.int i1), .val (.int i2), .val (.int i3), .val (.int i4), .val (.int c0), .val (.int c1), .val (.int c2), .val (.int c3), .val (.int (own_vl c0)), .val (.int (own_vl c1)), .val (.int (own_vl c2)), .val (.int (own_vl c3)), .val (.int (3 : Int32)), .unset, .unset] [(.ref b75), (.ref b75)])) (fun t k => XS.dup X77.here hx rfl (hb hby at_174) rfl rfl k) ?_
    refine own_by (T' := T77) (f' := (mkF m 176 #[.val (.int i0), .val (.int i1), .val (.int i2), .val (.int i3), .val (.int i4), .val (.int c0), .val (.int c1), .val (.int c2), .val (.int c3), .val (.int (own_vl c0)), .val (.int (own_vl c1)), .val (.int (own_vl c2)), .val (.int (own_vl c3)), .val (.int (3 : Int32)), .unset, .unset] [(.int (1 : Int32)), (.ref b75), (.ref b75)])) (fun t k => XS.iconst X77.here hx rfl (hb hby at_175) k) ?_
    refine own_by (T' := T77) (f' := (mkF m 178 #[.val (.int i0), .val (.int i1), .val (.int i2), .val (.int i3), .val (.int i4), .val (.int c0), .val (.int c1), .val (.int c2), .val (.int c3), .val (.int (own_vl c0)), .val (.int (own_vl c1)), .val (.int (own_vl c2)), .val (.int (own_vl c3)), .val (.int (3 : Int32)), .unset, .unset] [(.int c1), (.int (1 : Int32)), (.ref b75), (.ref b75)])) (fun t k => XS.iload X77.here hx rfl (hb hby at_176) rfl k) ?_
    have _ : (1 : Int32).toInt = 1 := by decide
    refine own_stC X77 hx hZ e77 (hb hby at_178) A79 (by first | decide | omega) (by first | decide | omega) ?_
    intro T80 h80 X80 e80 W80 A80
    show own_Go p e below _ T80 (mkF m 179 #[.val (.int i0), .val (.int i1), .val (.int i2), .val (.int i3), .val (.int i4), .val (.int c0), .val (.int c1), .val (.int c2), .val (.int c3), .val (.int (own_vl c0)), .val (.int (own_vl c1)), .val (.int (own_vl c2)), .val (.int (own_vl c3)), .val (.int (3 : Int32)), .unset, .unset] [(.ref b75)])
    have hk := Nat.le_trans hk (Nat.le_of_eq W80.size.symm)
    have CH := CH.trans (CHr.wr W80 (own_A.safe hZ.alike A79 (by decide)) CH.1)
    have sz81 : n0 ≤ h80.size := by rw [W80.size]; exact sz78
    have N80 := Fr.snoc X80 N77 gn75
    have A82 : own_A Z h80 b75 .char 3 (fun i => if i = 1 then c1 else if i = 0 then c0 else 0) := A80.congr (fun i hi => by have q : (1 : Int32).toInt.toNat = 1 := (by decide); simp only [q, own_nc hc1])
    refine own_by (T' := T80) (f' := (mkF m 180 #[.val (.int i0), .val (.int i1), .val (.int i2), .val (.int i3), .val (.int i4), .val (.int c0), .val (.int c1), .val (.int c2), .val (.int c3), .val (.int (own_vl c0)), .val (.int (own_vl c1)), .val (.int (own_vl c2)), .val (.int (own_vl c3)), .val (.int (3 : Int32)), .unset, .unset] [(.ref b75), (.ref b75)])) (fun t k => XS.dup X80.here hx rfl (hb hby at_179) rfl rfl k) ?_
    refine own_by (T' := T80) (f' := (mkF m 181 #[.val (.int i0), .val (.int i1), .val (.int i2), .val (.int i3), .val (.int i4), .val (.int c0), .val (.int c1), .val (.int c2), .val (.int c3), .val (.int (own_vl c0)), .val (.int (own_vl c1)), .val (.int (own_vl c2)), .val (.int (own_vl c3)), .val (.int (3 : Int32)), .unset, .unset] [(.int (2 : Int32)), (.ref b75), (.ref b75)])) (fun t k => XS.iconst X80.here hx rfl (hb hby at_180) k) ?_
    refine own_by (T' := T80) (f' := (mkF m 183 #[.val (.int i0), .val (.int i1), .val (.int i2), .val (.int i3), .val (.int i4), .val (.int c0), .val (.int c1), .val (.int c2), .val (.int c3), .val (.int (own_vl c0)), .val (.int (own_vl c1)), .val (.int (own_vl c2)), .val (.int (own_vl c3)), .val (.int (3 : Int32)), .unset, .unset] [(.int c2), (.int (2 : Int32)), (.ref b75), (.ref b75)])) (fun t k => XS.iload X80.here hx rfl (hb hby at_181) rfl k) ?_
    have _ : (2 : Int32).toInt = 2 := by decide
    refine own_stC X80 hx hZ e80 (hb hby at_183) A82 (by first | decide | omega) (by first | decide | omega) ?_
    intro T83 h83 X83 e83 W83 A83
    show own_Go p e below _ T83 (mkF m 184 #[.val (.int i0), .val (.int i1), .val (.int i2), .val (.int i3), .val (.int i4), .val (.int c0), .val (.int c1), .val (.int c2), .val (.int c3), .val (.int (own_vl c0)), .val (.int (own_vl c1)), .val (.int (own_vl c2)), .val (.int (own_vl c3)), .val (.int (3 : Int32)), .unset, .unset] [(.ref b75)])
    have hk := Nat.le_trans hk (Nat.le_of_eq W83.size.symm)
    have CH := CH.trans (CHr.wr W83 (own_A.safe hZ.alike A82 (by decide)) CH.1)
    have sz84 : n0 ≤ h83.size := by rw [W83.size]; exact sz81
    have N83 := Fr.snoc X83 N80 gn75
    have A85 : own_A Z h83 b75 .char 3 (fun i => if i = 2 then c2 else if i = 1 then c1 else if i = 0 then c0 else 0) := A83.congr (fun i hi => by have q : (2 : Int32).toInt.toNat = 2 := (by decide); simp only [q, own_nc hc2])
    have A86 : own_A Z h83 b75 .char 3 (fun i => List.getD [c0, c1, c2] i 0) := A85.congr (fun i hi => by match i, hi with | 0, _ => rfl | 1, _ => rfl | 2, _ => rfl | (q + 3), h => exact absurd h (by omega))
    refine own_by (T' := T83) (f' := (mkF m 186 #[.val (.int i0), .val (.int i1), .val (.int i2), .val (.int i3), .val (.int i4), .val (.int c0), .val (.int c1), .val (.int c2), .val (.int c3), .val (.int (own_vl c0)), .val (.int (own_vl c1)), .val (.int (own_vl c2)), .val (.int (own_vl c3)), .val (.int (3 : Int32)), .val (.ref b75), .unset] [])) (fun t k => XS.astore X83.here hx rfl (hb hby at_184) rfl rfl (l' := #[.val (.int i0), .val (.int i1), .val (.int i2), .val (.int i3), .val (.int i4), .val (.int c0), .val (.int c1), .val (.int c2), .val (.int c3), .val (.int (own_vl c0)), .val (.int (own_vl c1)), .val (.int (own_vl c2)), .val (.int (own_vl c3)), .val (.int (3 : Int32)), .val (.ref b75), .unset]) rfl k) ?_
    refine own_by (T' := T83) (f' := (mkF m 188 #[.val (.int i0), .val (.int i1), .val (.int i2), .val (.int i3), .val (.int i4), .val (.int c0), .val (.int c1), .val (.int c2), .val (.int c3), .val (.int (own_vl c0)), .val (.int (own_vl c1)), .val (.int (own_vl c2)), .val (.int (own_vl c3)), .val (.int (3 : Int32)), .val (.ref b75), .unset] [(.int (own_vl c0))])) (fun t k => XS.iload X83.here hx rfl (hb hby at_186) rfl k) ?_
    have mg90 : ∀ t, Steps p.tables e below (T83.setTop (mkF m 206 #[.val (.int i0), .val (.int i1), .val (.int i2), .val (.int i3), .val (.int i4), .val (.int c0), .val (.int c1), .val (.int c2), .val (.int c3), .val (.int (own_vl c0)), .val (.int (own_vl c1)), .val (.int (own_vl c2)), .val (.int (own_vl c3)), .val (.int (3 : Int32)), .val (.ref b75), .unset] [(.int (if (own_vl c0) = (0 : Int32) then (0 : Int32) else (if (own_vl c1) = (0 : Int32) then (0 : Int32) else (if (own_vl c2) = (0 : Int32) then (0 : Int32) else (1 : Int32)))))])) t → Steps p.tables e below (T83.setTop (mkF m 188 #[.val (.int i0), .val (.int i1), .val (.int i2), .val (.int i3), .val (.int i4), .val (.int c0), .val (.int c1), .val (.int c2), .val (.int c3), .val (.int (own_vl c0)), .val (.int (own_vl c1)), .val (.int (own_vl c2)), .val (.int (own_vl c3)), .val (.int (3 : Int32)), .val (.ref b75), .unset] [(.int (own_vl c0))])) t := by
      intro t k0
      by_cases hm87 : (own_vl c0) = (0 : Int32)
      · skip
        refine XS.ifYes X83.here hx rfl (pc0 := 188) (pc' := 205) rfl (hb hby at_188) rfl ((if0 _ _).trans (teq hm87).1) (by decide) (by decide) ?_
        show Steps p.tables e below (T83.setTop (mkF m 205 #[.val (.int i0), .val (.int i1), .val (.int i2), .val (.int i3), .val (.int i4), .val (.int c0), .val (.int c1), .val (.int c2), .val (.int c3), .val (.int (own_vl c0)), .val (.int (own_vl c1)), .val (.int (own_vl c2)), .val (.int (own_vl c3)), .val (.int (3 : Int32)), .val (.ref b75), .unset] [])) _
        refine XS.iconst X83.here hx rfl (hb hby at_205) ?_
        show Steps p.tables e below (T83.setTop (mkF m 206 #[.val (.int i0), .val (.int i1), .val (.int i2), .val (.int i3), .val (.int i4), .val (.int c0), .val (.int c1), .val (.int c2), .val (.int c3), .val (.int (own_vl c0)), .val (.int (own_vl c1)), .val (.int (own_vl c2)), .val (.int (own_vl c3)), .val (.int (3 : Int32)), .val (.ref b75), .unset] [(.int (0 : Int32))])) _
        try simp only [if_pos hm87] at k0
        exact k0
      · skip
        refine XS.ifNo X83.here hx rfl (hb hby at_188) rfl ((if0 _ _).trans (feq hm87).1) ?_
        show Steps p.tables e below (T83.setTop (mkF m 191 #[.val (.int i0), .val (.int i1), .val (.int i2), .val (.int i3), .val (.int i4), .val (.int c0), .val (.int c1), .val (.int c2), .val (.int c3), .val (.int (own_vl c0)), .val (.int (own_vl c1)), .val (.int (own_vl c2)), .val (.int (own_vl c3)), .val (.int (3 : Int32)), .val (.ref b75), .unset] [])) _
        refine XS.iload X83.here hx rfl (hb hby at_191) rfl ?_
        show Steps p.tables e below (T83.setTop (mkF m 193 #[.val (.int i0), .val (.int i1), .val (.int i2), .val (.int i3), .val (.int i4), .val (.int c0), .val (.int c1), .val (.int c2), .val (.int c3), .val (.int (own_vl c0)), .val (.int (own_vl c1)), .val (.int (own_vl c2)), .val (.int (own_vl c3)), .val (.int (3 : Int32)), .val (.ref b75), .unset] [(.int (own_vl c1))])) _
        by_cases hm88 : (own_vl c1) = (0 : Int32)
        · skip
          refine XS.ifYes X83.here hx rfl (pc0 := 193) (pc' := 205) rfl (hb hby at_193) rfl ((if0 _ _).trans (teq hm88).1) (by decide) (by decide) ?_
          show Steps p.tables e below (T83.setTop (mkF m 205 #[.val (.int i0), .val (.int i1), .val (.int i2), .val (.int i3), .val (.int i4), .val (.int c0), .val (.int c1), .val (.int c2), .val (.int c3), .val (.int (own_vl c0)), .val (.int (own_vl c1)), .val (.int (own_vl c2)), .val (.int (own_vl c3)), .val (.int (3 : Int32)), .val (.ref b75), .unset] [])) _
          refine XS.iconst X83.here hx rfl (hb hby at_205) ?_
          show Steps p.tables e below (T83.setTop (mkF m 206 #[.val (.int i0), .val (.int i1), .val (.int i2), .val (.int i3), .val (.int i4), .val (.int c0), .val (.int c1), .val (.int c2), .val (.int c3), .val (.int (own_vl c0)), .val (.int (own_vl c1)), .val (.int (own_vl c2)), .val (.int (own_vl c3)), .val (.int (3 : Int32)), .val (.ref b75), .unset] [(.int (0 : Int32))])) _
          try simp only [if_neg hm87, if_pos hm88] at k0
          exact k0
        · skip
          refine XS.ifNo X83.here hx rfl (hb hby at_193) rfl ((if0 _ _).trans (feq hm88).1) ?_
          show Steps p.tables e below (T83.setTop (mkF m 196 #[.val (.int i0), .val (.int i1), .val (.int i2), .val (.int i3), .val (.int i4), .val (.int c0), .val (.int c1), .val (.int c2), .val (.int c3), .val (.int (own_vl c0)), .val (.int (own_vl c1)), .val (.int (own_vl c2)), .val (.int (own_vl c3)), .val (.int (3 : Int32)), .val (.ref b75), .unset] [])) _
          refine XS.iload X83.here hx rfl (hb hby at_196) rfl ?_
          show Steps p.tables e below (T83.setTop (mkF m 198 #[.val (.int i0), .val (.int i1), .val (.int i2), .val (.int i3), .val (.int i4), .val (.int c0), .val (.int c1), .val (.int c2), .val (.int c3), .val (.int (own_vl c0)), .val (.int (own_vl c1)), .val (.int (own_vl c2)), .val (.int (own_vl c3)), .val (.int (3 : Int32)), .val (.ref b75), .unset] [(.int (own_vl c2))])) _
          by_cases hm89 : (own_vl c2) = (0 : Int32)
          · skip
            refine XS.ifYes X83.here hx rfl (pc0 := 198) (pc' := 205) rfl (hb hby at_198) rfl ((if0 _ _).trans (teq hm89).1) (by decide) (by decide) ?_
            show Steps p.tables e below (T83.setTop (mkF m 205 #[.val (.int i0), .val (.int i1), .val (.int i2), .val (.int i3), .val (.int i4), .val (.int c0), .val (.int c1), .val (.int c2), .val (.int c3), .val (.int (own_vl c0)), .val (.int (own_vl c1)), .val (.int (own_vl c2)), .val (.int (own_vl c3)), .val (.int (3 : Int32)), .val (.ref b75), .unset] [])) _
            refine XS.iconst X83.here hx rfl (hb hby at_205) ?_
            show Steps p.tables e below (T83.setTop (mkF m 206 #[.val (.int i0), .val (.int i1), .val (.int i2), .val (.int i3), .val (.int i4), .val (.int c0), .val (.int c1), .val (.int c2), .val (.int c3), .val (.int (own_vl c0)), .val (.int (own_vl c1)), .val (.int (own_vl c2)), .val (.int (own_vl c3)), .val (.int (3 : Int32)), .val (.ref b75), .unset] [(.int (0 : Int32))])) _
            try simp only [if_neg hm87, if_neg hm88, if_pos hm89] at k0
            exact k0
          · skip
            refine XS.ifNo X83.here hx rfl (hb hby at_198) rfl ((if0 _ _).trans (feq hm89).1) ?_
            show Steps p.tables e below (T83.setTop (mkF m 201 #[.val (.int i0), .val (.int i1), .val (.int i2), .val (.int i3), .val (.int i4), .val (.int c0), .val (.int c1), .val (.int c2), .val (.int c3), .val (.int (own_vl c0)), .val (.int (own_vl c1)), .val (.int (own_vl c2)), .val (.int (own_vl c3)), .val (.int (3 : Int32)), .val (.ref b75), .unset] [])) _
            refine XS.iconst X83.here hx rfl (hb hby at_201) ?_
            show Steps p.tables e below (T83.setTop (mkF m 202 #[.val (.int i0), .val (.int i1), .val (.int i2), .val (.int i3), .val (.int i4), .val (.int c0), .val (.int c1), .val (.int c2), .val (.int c3), .val (.int (own_vl c0)), .val (.int (own_vl c1)), .val (.int (own_vl c2)), .val (.int (own_vl c3)), .val (.int (3 : Int32)), .val (.ref b75), .unset] [(.int (1 : Int32))])) _
            refine XS.goto X83.here hx rfl (pc0 := 202) (pc' := 206) rfl (hb hby at_202) (by decide) (by decide) ?_
            show Steps p.tables e below (T83.setTop (mkF m 206 #[.val (.int i0), .val (.int i1), .val (.int i2), .val (.int i3), .val (.int i4), .val (.int c0), .val (.int c1), .val (.int c2), .val (.int c3), .val (.int (own_vl c0)), .val (.int (own_vl c1)), .val (.int (own_vl c2)), .val (.int (own_vl c3)), .val (.int (3 : Int32)), .val (.ref b75), .unset] [(.int (1 : Int32))])) _
            try simp only [if_neg hm87, if_neg hm88, if_neg hm89] at k0
            exact k0
    refine own_by mg90 ?_
    obtain ⟨ex, hex⟩ : ∃ z : Int32, z = (if (own_vl c0) = (0 : Int32) then (0 : Int32) else (if (own_vl c1) = (0 : Int32) then (0 : Int32) else (if (own_vl c2) = (0 : Int32) then (0 : Int32) else (1 : Int32)))) := ⟨_, rfl⟩
    rw [← hex]
    show own_Go p e below _ T83 (mkF m 206 #[.val (.int i0), .val (.int i1), .val (.int i2), .val (.int i3), .val (.int i4), .val (.int c0), .val (.int c1), .val (.int c2), .val (.int c3), .val (.int (own_vl c0)), .val (.int (own_vl c1)), .val (.int (own_vl c2)), .val (.int (own_vl c3)), .val (.int (3 : Int32)), .val (.ref b75), .unset] [(.int ex)])
    refine own_by (T' := T83) (f' := (mkF m 208 #[.val (.int i0), .val (.int i1), .val (.int i2), .val (.int i3), .val (.int i4), .val (.int c0), .val (.int c1), .val (.int c2), .val (.int c3), .val (.int (own_vl c0)), .val (.int (own_vl c1)), .val (.int (own_vl c2)), .val (.int (own_vl c3)), .val (.int (3 : Int32)), .val (.ref b75), .val (.int ex)] [])) (fun t k => XS.istore X83.here hx rfl (hb hby at_206) rfl (l' := #[.val (.int i0), .val (.int i1), .val (.int i2), .val (.int i3), .val (.int i4), .val (.int c0), .val (.int c1), .val (.int c2), .val (.int c3), .val (.int (own_vl c0)), .val (.int (own_vl c1)), .val (.int (own_vl c2)), .val (.int (own_vl c3)), .val (.int (3 : Int32)), .val (.ref b75), .val (.int ex)]) rfl k) ?_
    refine own_by (T' := T83) (f' := (mkF m 282 #[.val (.int i0), .val (.int i1), .val (.int i2), .val (.int i3), .val (.int i4), .val (.int c0), .val (.int c1), .val (.int c2), .val (.int c3), .val (.int (own_vl c0)), .val (.int (own_vl c1)), .val (.int (own_vl c2)), .val (.int (own_vl c3)), .val (.int (3 : Int32)), .val (.ref b75), .val (.int ex)] [])) (fun t k => XS.goto X83.here hx rfl (pc0 := 208) (pc' := 282) rfl (hb hby at_208) (by decide) (by decide) k) ?_
    refine own_new X83 hx hZ hown e83 (hb hby at_282) (hw _ (List.mem_of_getElem? (i := 5) rfl)) (hw _ (List.mem_of_getElem? (i := 6) rfl)) (hw _ (List.mem_of_getElem? (i := 7) rfl)) (by decide) (by decide) ?_
    intro T91 h91 b91 X91 e91 g91 E91 A91 D91
    have ne91_b75 : b75 ≠ b91 := Nat.ne_of_lt (by rw [g91]; exact A86.lt)
    have gn91 : n0 ≤ b91 := by rw [g91]; exact sz84
    show own_Go p e below _ T91 (mkF m 285 #[.val (.int i0), .val (.int i1), .val (.int i2), .val (.int i3), .val (.int i4), .val (.int c0), .val (.int c1), .val (.int c2), .val (.int c3), .val (.int (own_vl c0)), .val (.int (own_vl c1)), .val (.int (own_vl c2)), .val (.int (own_vl c3)), .val (.int (3 : Int32)), .val (.ref b75), .val (.int ex)] [(.ref b91)])
    have S_b91 := Safe.ext E91 CH.1 (Safe.new (Nat.le_of_eq g91.symm))
    have hk := Nat.le_trans hk E91.1
    have CH := CH.trans (CHr.ext E91 CH.1)
    have F91_value : Fld Z h91 b91 "java/lang/String" "value" "[B" .null := D91 (Or.inr (hw _ (List.mem_of_getElem? (i := 20) rfl))) (ty := (.array .byte)) (by decide)
    have F91_coder : Fld Z h91 b91 "java/lang/String" "coder" "B" (.int (0 : Int32)) := D91 (Or.inr (hw _ (List.mem_of_getElem? (i := 21) rfl))) (ty := .byte) (by decide)
    have sz92 : n0 ≤ h91.size := Nat.le_trans sz84 E91.1
    refine own_by (T' := T91) (f' := (mkF m 286 #[.val (.int i0), .val (.int i1), .val (.int i2), .val (.int i3), .val (.int i4), .val (.int c0), .val (.int c1), .val (.int c2), .val (.int c3), .val (.int (own_vl c0)), .val (.int (own_vl c1)), .val (.int (own_vl c2)), .val (.int (own_vl c3)), .val (.int (3 : Int32)), .val (.ref b75), .val (.int ex)] [(.ref b91), (.ref b91)])) (fun t k => XS.dup X91.here hx rfl (hb hby at_285) rfl rfl k) ?_
    refine own_by (T' := T91) (f' := (mkF m 288 #[.val (.int i0), .val (.int i1), .val (.int i2), .val (.int i3), .val (.int i4), .val (.int c0), .val (.int c1), .val (.int c2), .val (.int c3), .val (.int (own_vl c0)), .val (.int (own_vl c1)), .val (.int (own_vl c2)), .val (.int (own_vl c3)), .val (.int (3 : Int32)), .val (.ref b75), .val (.int ex)] [(.ref b75), (.ref b91), (.ref b91)])) (fun t k => XS.aload X91.here hx rfl (hb hby at_286) rfl rfl k) ?_
    have q93 : ∀ x ∈ [b91], ∃ c : Cell, h91[x]? = some c ∧ c.vm.isStatics = false := (allS (own_ns A91) all0)
    have f94 := (A86.ext E91)
    have f95 := (((((ST.ext E75).wr W77).wr W80).wr W83).ext E91)
    refine own_callN X91 hx hZ hown e91 (hb hby at_288) [(.ref b75)] [(.ref b91)] 1 (rmI1 l Z a0 hw [] b91 b75 (3 : Int32) 3 (fun i => List.getD [c0, c1, c2] i 0) _ _ cs fm h91 n0 sz92 gn91 (by decide) (by decide) (by decide) (fun i hi => by match i, hi with | 0, _ => exact hc0 | 1, _ => exact hc1 | 2, _ => exact hc2 | (q + 3), h => exact absurd h (by omega)) f94 ne91_b75 A91 F91_value F91_coder f95) (hw _ (List.mem_of_getElem? (i := 8) rfl)) (hw _ (List.mem_of_getElem? (i := 9) rfl)) (hw _ (List.mem_of_getElem? (i := 7) rfl)) (hw _ (List.mem_of_getElem? (i := 10) rfl)) rfl (by decide) pd___C_V (by rw [hml]; rfl) rfl rfl (Nat.le_of_eq rfl) (by decide) (by decide) (by decide) (by decide) ?_
    rintro T96 _ L96 X96 ⟨rfl, N96q, K96, Q96⟩
    show own_Go p e below _ T96 (mkF m 291 #[.val (.int i0), .val (.int i1), .val (.int i2), .val (.int i3), .val (.int i4), .val (.int c0), .val (.int c1), .val (.int c2), .val (.int c3), .val (.int (own_vl c0)), .val (.int (own_vl c1)), .val (.int (own_vl c2)), .val (.int (own_vl c3)), .val (.int (3 : Int32)), .val (.ref b75), .val (.int ex)] [(.ref b91)])
    have S_b91' := Safe.keep K96 (allS S_b91 all0) CH.1 S_b91
    have hk := Nat.le_trans hk K96.1
    have CH := CH.trans (CHr.keep K96 (allS S_b91 all0) CH.1)
    have S_b91 := S_b91'
    have N96 := Fr.app N83 N96q
    have sz97 : n0 ≤ T96.heap.size := Nat.le_trans sz92 K96.1
    have f98 := (f95.keep K96 q93)
    have lt99 := Q96.2.2.1.lt
    refine own_callSW X96 hx hZ hown rfl (hb hby at_291) hS hk hEL CH [(.ref b91)] [] 0 (rmID l Z a0 hw [] b91 (3 : Int32) 3 (fun i => List.getD [c0, c1, c2] i 0) cs fm T96.heap (by decide) (by decide) Q96 f98) (hw _ (List.mem_of_getElem? (i := 26) rfl)) (hw _ (List.mem_of_getElem? (i := 27) rfl)) (hw _ (List.mem_of_getElem? (i := 28) rfl)) (hw _ (List.mem_of_getElem? (i := 29) rfl)) (by decide) pd__Ljava_lang_String__Z (by rw [hml]; rfl) rfl rfl (Nat.le_of_eq rfl) (by decide) (by decide) (by decide) (by decide) ?_
    rintro T100 _ L100 X100 hS hk hZ hown hW100 CHs100 CH ⟨r100, rfl, hr100, rfl⟩
    show own_Go p e below _ T100 (mkF m 294 #[.val (.int i0), .val (.int i1), .val (.int i2), .val (.int i3), .val (.int i4), .val (.int c0), .val (.int c1), .val (.int c2), .val (.int c3), .val (.int (own_vl c0)), .val (.int (own_vl c1)), .val (.int (own_vl c2)), .val (.int (own_vl c3)), .val (.int (3 : Int32)), .val (.ref b75), .val (.int ex)] [(.int r100)])
    have S_b91 := CHr.safe CHs100 lt99 S_b91
    rw [List.append_nil] at X100
    refine own_by (T' := T100) (f' := (mkF m 296 #[.val (.int i0), .val (.int i1), .val (.int i2), .val (.int i3), .val (.int i4), .val (.int c0), .val (.int c1), .val (.int c2), .val (.int c3), .val (.int (own_vl c0)), .val (.int (own_vl c1)), .val (.int (own_vl c2)), .val (.int (own_vl c3)), .val (.int (3 : Int32)), .val (.ref b75), .val (.int ex)] [(.int ex), (.int r100)])) (fun t k => XS.iload X100.here hx rfl (hb hby at_294) rfl k) ?_
    have hc296_101 : r100 = ex := by rw [hex]; exact own_lw3 (f := (fun i => List.getD [c0, c1, c2] i 0)) hr100 (fun i hi => by match i, hi with | 0, _ => exact own_vc_vl c0 hc0 | 1, _ => exact own_vc_vl c1 hc1 | 2, _ => exact own_vc_vl c2 hc2 | (q + 3), h => exact absurd h (by omega))
    refine own_by (T' := T100) (f' := (mkF m 299 #[.val (.int i0), .val (.int i1), .val (.int i2), .val (.int i3), .val (.int i4), .val (.int c0), .val (.int c1), .val (.int c2), .val (.int c3), .val (.int (own_vl c0)), .val (.int (own_vl c1)), .val (.int (own_vl c2)), .val (.int (own_vl c3)), .val (.int (3 : Int32)), .val (.ref b75), .val (.int ex)] [])) (fun t k => XS.icmpNo X100.here hx rfl (hb hby at_296) rfl (teq hc296_101).2 k) ?_
    refine own_by (T' := T100) (f' := (mkF m 300 #[.val (.int i0), .val (.int i1), .val (.int i2), .val (.int i3), .val (.int i4), .val (.int c0), .val (.int c1), .val (.int c2), .val (.int c3), .val (.int (own_vl c0)), .val (.int (own_vl c1)), .val (.int (own_vl c2)), .val (.int (own_vl c3)), .val (.int (3 : Int32)), .val (.ref b75), .val (.int ex)] [(.int (1 : Int32))])) (fun t k => XS.iconst X100.here hx rfl (hb hby at_299) k) ?_
    refine own_by (T' := T100) (f' := (mkF m 304 #[.val (.int i0), .val (.int i1), .val (.int i2), .val (.int i3), .val (.int i4), .val (.int c0), .val (.int c1), .val (.int c2), .val (.int c3), .val (.int (own_vl c0)), .val (.int (own_vl c1)), .val (.int (own_vl c2)), .val (.int (own_vl c3)), .val (.int (3 : Int32)), .val (.ref b75), .val (.int ex)] [(.int (1 : Int32))])) (fun t k => XS.goto X100.here hx rfl (pc0 := 300) (pc' := 304) rfl (hb hby at_300) (by decide) (by decide) k) ?_
    refine own_retW X100 hx hret hlk hZ hEL hs0 rfl hS hk CH (hb hby at_304) rfl (Or.inl ⟨rfl, Or.inr (Or.inl rfl), _, rfl⟩) (by decide) (by decide) ?_
    exact ⟨rfl, N96⟩
  · rw [hl]
    show own_Go p e below _ T14 (mkF m 49 #[.val (.int i0), .val (.int i1), .val (.int i2), .val (.int i3), .val (.int i4), .val (.int c0), .val (.int c1), .val (.int c2), .val (.int c3), .val (.int (own_vl c0)), .val (.int (own_vl c1)), .val (.int (own_vl c2)), .val (.int (own_vl c3)), .unset, .unset, .unset] [(.int (4 : Int32))])
    refine own_by (T' := T14) (f' := (mkF m 51 #[.val (.int i0), .val (.int i1), .val (.int i2), .val (.int i3), .val (.int i4), .val (.int c0), .val (.int c1), .val (.int c2), .val (.int c3), .val (.int (own_vl c0)), .val (.int (own_vl c1)), .val (.int (own_vl c2)), .val (.int (own_vl c3)), .val (.int (4 : Int32)), .unset, .unset] [])) (fun t k => XS.istore X14.here hx rfl (hb hby at_49) rfl (l' := #[.val (.int i0), .val (.int i1), .val (.int i2), .val (.int i3), .val (.int i4), .val (.int c0), .val (.int c1), .val (.int c2), .val (.int c3), .val (.int (own_vl c0)), .val (.int (own_vl c1)), .val (.int (own_vl c2)), .val (.int (own_vl c3)), .val (.int (4 : Int32)), .unset, .unset]) rfl k) ?_
    refine own_by (T' := T14) (f' := (mkF m 53 #[.val (.int i0), .val (.int i1), .val (.int i2), .val (.int i3), .val (.int i4), .val (.int c0), .val (.int c1), .val (.int c2), .val (.int c3), .val (.int (own_vl c0)), .val (.int (own_vl c1)), .val (.int (own_vl c2)), .val (.int (own_vl c3)), .val (.int (4 : Int32)), .unset, .unset] [(.int (4 : Int32))])) (fun t k => XS.iload X14.here hx rfl (hb hby at_51) rfl k) ?_
    refine own_by (T' := T14) (f' := (mkF m 67 #[.val (.int i0), .val (.int i1), .val (.int i2), .val (.int i3), .val (.int i4), .val (.int c0), .val (.int c1), .val (.int c2), .val (.int c3), .val (.int (own_vl c0)), .val (.int (own_vl c1)), .val (.int (own_vl c2)), .val (.int (own_vl c3)), .val (.int (4 : Int32)), .unset, .unset] [])) (fun t k => XS.ifYes X14.here hx rfl (pc0 := 53) (pc' := 67) rfl (hb hby at_53) rfl ((if0 _ _).trans (feq (by decide)).2) (by decide) (by decide) k) ?_
    refine own_by (T' := T14) (f' := (mkF m 69 #[.val (.int i0), .val (.int i1), .val (.int i2), .val (.int i3), .val (.int i4), .val (.int c0), .val (.int c1), .val (.int c2), .val (.int c3), .val (.int (own_vl c0)), .val (.int (own_vl c1)), .val (.int (own_vl c2)), .val (.int (own_vl c3)), .val (.int (4 : Int32)), .unset, .unset] [(.int (4 : Int32))])) (fun t k => XS.iload X14.here hx rfl (hb hby at_67) rfl k) ?_
    refine own_by (T' := T14) (f' := (mkF m 70 #[.val (.int i0), .val (.int i1), .val (.int i2), .val (.int i3), .val (.int i4), .val (.int c0), .val (.int c1), .val (.int c2), .val (.int c3), .val (.int (own_vl c0)), .val (.int (own_vl c1)), .val (.int (own_vl c2)), .val (.int (own_vl c3)), .val (.int (4 : Int32)), .unset, .unset] [(.int (1 : Int32)), (.int (4 : Int32))])) (fun t k => XS.iconst X14.here hx rfl (hb hby at_69) k) ?_
    refine own_by (T' := T14) (f' := (mkF m 105 #[.val (.int i0), .val (.int i1), .val (.int i2), .val (.int i3), .val (.int i4), .val (.int c0), .val (.int c1), .val (.int c2), .val (.int c3), .val (.int (own_vl c0)), .val (.int (own_vl c1)), .val (.int (own_vl c2)), .val (.int (own_vl c3)), .val (.int (4 : Int32)), .unset, .unset] [])) (fun t k => XS.icmpYes X14.here hx rfl (pc0 := 70) (pc' := 105) rfl (hb hby at_70) rfl (feq (by decide)).2 (by decide) (by decide) k) ?_
    refine own_by (T' := T14) (f' := (mkF m 107 #[.val (.int i0), .val (.int i1), .val (.int i2), .val (.int i3), .val (.int i4), .val (.int c0), .val (.int c1), .val (.int c2), .val (.int c3), .val (.int (own_vl c0)), .val (.int (own_vl c1)), .val (.int (own_vl c2)), .val (.int (own_vl c3)), .val (.int (4 : Int32)), .unset, .unset] [(.int (4 : Int32))])) (fun t k => XS.iload X14.here hx rfl (hb hby at_105) rfl k) ?_
    refine own_by (T' := T14) (f' := (mkF m 108 #[.val (.int i0), .val (.int i1), .val (.int i2), .val (.int i3), .val (.int i4), .val (.int c0), .val (.int c1), .val (.int c2), .val (.int c3), .val (.int (own_vl c0)), .val (.int (own_vl c1)), .val (.int (own_vl c2)), .val (.int (own_vl c3)), .val (.int (4 : Int32)), .unset, .unset] [(.int (2 : Int32)), (.int (4 : Int32))])) (fun t k => XS.iconst X14.here hx rfl (hb hby at_107) k) ?_
    refine own_by (T' := T14) (f' := (mkF m 160 #[.val (.int i0), .val (.int i1), .val (.int i2), .val (.int i3), .val (.int i4), .val (.int c0), .val (.int c1), .val (.int c2), .val (.int c3), .val (.int (own_vl c0)), .val (.int (own_vl c1)), .val (.int (own_vl c2)), .val (.int (own_vl c3)), .val (.int (4 : Int32)), .unset, .unset] [])) (fun t k => XS.icmpYes X14.here hx rfl (pc0 := 108) (pc' := 160) rfl (hb hby at_108) rfl (feq (by decide)).2 (by decide) (by decide) k) ?_
    refine own_by (T' := T14) (f' := (mkF m 162 #[.val (.int i0), .val (.int i1), .val (.int i2), .val (.int i3), .val (.int i4), .val (.int c0), .val (.int c1), .val (.int c2), .val (.int c3), .val (.int (own_vl c0)), .val (.int (own_vl c1)), .val (.int (own_vl c2)), .val (.int (own_vl c3)), .val (.int (4 : Int32)), .unset, .unset] [(.int (4 : Int32))])) (fun t k => XS.iload X14.here hx rfl (hb hby at_160) rfl k) ?_
    refine own_by (T' := T14) (f' := (mkF m 163 #[.val (.int i0), .val (.int i1), .val (.int i2), .val (.int i3), .val (.int i4), .val (.int c0), .val (.int c1), .val (.int c2), .val (.int c3), .val (.int (own_vl c0)), .val (.int (own_vl c1)), .val (.int (own_vl c2)), .val (.int (own_vl c3)), .val (.int (4 : Int32)), .unset, .unset] [(.int (3 : Int32)), (.int (4 : Int32))])) (fun t k => XS.iconst X14.here hx rfl (hb hby at_162) k) ?_
    refine own_by (T' := T14) (f' := (mkF m 211 #[.val (.int i0), .val (.int i1), .val (.int i2), .val (.int i3), .val (.int i4), .val (.int c0), .val (.int c1), .val (.int c2), .val (.int c3), .val (.int (own_vl c0)), .val (.int (own_vl c1)), .val (.int (own_vl c2)), .val (.int (own_vl c3)), .val (.int (4 : Int32)), .unset, .unset] [])) (fun t k => XS.icmpYes X14.here hx rfl (pc0 := 163) (pc' := 211) rfl (hb hby at_163) rfl (feq (by decide)).2 (by decide) (by decide) k) ?_
    refine own_by (T' := T14) (f' := (mkF m 213 #[.val (.int i0), .val (.int i1), .val (.int i2), .val (.int i3), .val (.int i4), .val (.int c0), .val (.int c1), .val (.int c2), .val (.int c3), .val (.int (own_vl c0)), .val (.int (own_vl c1)), .val (.int (own_vl c2)), .val (.int (own_vl c3)), .val (.int (4 : Int32)), .unset, .unset] [(.int (4 : Int32))])) (fun t k => XS.iload X14.here hx rfl (hb hby at_211) rfl k) ?_
    refine own_by (T' := T14) (f' := (mkF m 214 #[.val (.int i0), .val (.int i1), .val (.int i2), .val (.int i3), .val (.int i4), .val (.int c0), .val (.int c1), .val (.int c2), .val (.int c3), .val (.int (own_vl c0)), .val (.int (own_vl c1)), .val (.int (own_vl c2)), .val (.int (own_vl c3)), .val (.int (4 : Int32)), .unset, .unset] [(.int (4 : Int32)), (.int (4 : Int32))])) (fun t k => XS.iconst X14.here hx rfl (hb hby at_213) k) ?_
    refine own_by (T' := T14) (f' := (mkF m 223 #[.val (.int i0), .val (.int i1), .val (.int i2), .val (.int i3), .val (.int i4), .val (.int c0), .val (.int c1), .val (.int c2), .val (.int c3), .val (.int (own_vl c0)), .val (.int (own_vl c1)), .val (.int (own_vl c2)), .val (.int (own_vl c3)), .val (.int (4 : Int32)), .unset, .unset] [])) (fun t k => XS.icmpYes X14.here hx rfl (pc0 := 214) (pc' := 223) rfl (hb hby at_214) rfl (teq rfl).1 (by decide) (by decide) k) ?_
    refine own_by (T' := T14) (f' := (mkF m 225 #[.val (.int i0), .val (.int i1), .val (.int i2), .val (.int i3), .val (.int i4), .val (.int c0), .val (.int c1), .val (.int c2), .val (.int c3), .val (.int (own_vl c0)), .val (.int (own_vl c1)), .val (.int (own_vl c2)), .val (.int (own_vl c3)), .val (.int (4 : Int32)), .unset, .unset] [(.int c0)])) (fun t k => XS.iload X14.here hx rfl (hb hby at_223) rfl k) ?_
    refine own_by (T' := T14) (f' := (mkF m 227 #[.val (.int i0), .val (.int i1), .val (.int i2), .val (.int i3), .val (.int i4), .val (.int c0), .val (.int c1), .val (.int c2), .val (.int c3), .val (.int (own_vl c0)), .val (.int (own_vl c1)), .val (.int (own_vl c2)), .val (.int (own_vl c3)), .val (.int (4 : Int32)), .unset, .unset] [(.int c1), (.int c0)])) (fun t k => XS.iload X14.here hx rfl (hb hby at_225) rfl k) ?_
    refine own_by (T' := T14) (f' := (mkF m 229 #[.val (.int i0), .val (.int i1), .val (.int i2), .val (.int i3), .val (.int i4), .val (.int c0), .val (.int c1), .val (.int c2), .val (.int c3), .val (.int (own_vl c0)), .val (.int (own_vl c1)), .val (.int (own_vl c2)), .val (.int (own_vl c3)), .val (.int (4 : Int32)), .unset, .unset] [(.int c2), (.int c1), (.int c0)])) (fun t k => XS.iload X14.here hx rfl (hb hby at_227) rfl k) ?_
    refine own_by (T' := T14) (f' := (mkF m 231 #[.val (.int i0), .val (.int i1), .val (.int i2), .val (.int i3), .val (.int i4), .val (.int c0), .val (.int c1), .val (.int c2), .val (.int c3), .val (.int (own_vl c0)), .val (.int (own_vl c1)), .val (.int (own_vl c2)), .val (.int (own_vl c3)), .val (.int (4 : Int32)), .unset, .unset] [(.int c3), (.int c2), (.int c1), (.int c0)])) (fun t k => XS.iload X14.here hx rfl (hb hby at_229) rfl k) ?_
    refine own_callS X14 hx hZ hown e14 (hb hby at_231) [(.int c0), (.int c1), (.int c2), (.int c3)] [] 0 (rm64 l Z a0 hw [] c0 c1 c2 c3 h0 n0 Z0 hc0 hc1 hc2 hc3) (hw _ (List.mem_of_getElem? (i := 121) rfl)) (hw _ (List.mem_of_getElem? (i := 122) rfl)) (hw _ (List.mem_of_getElem? (i := 2) rfl)) (hw _ (List.mem_of_getElem? (i := 123) rfl)) (by decide) pd__CCCC__C (by rw [hml]; rfl) rfl rfl (Nat.le_of_eq rfl) (by decide) (by decide) (by decide) (by decide) ?_
    rintro T102 _ L102 X102 ⟨b102, rfl, N102q, K102, gb102, B102⟩
    show own_Go p e below _ T102 (mkF m 234 #[.val (.int i0), .val (.int i1), .val (.int i2), .val (.int i3), .val (.int i4), .val (.int c0), .val (.int c1), .val (.int c2), .val (.int c3), .val (.int (own_vl c0)), .val (.int (own_vl c1)), .val (.int (own_vl c2)), .val (.int (own_vl c3)), .val (.int (4 : Int32)), .unset, .unset] [(.ref b102)])
    have N102 := Fr.app N0 N102q
    have hk := Nat.le_trans hk K102.1
    have CH := CH.trans (CHr.keep K102 all0 CH.1)
    have sz103 : n0 ≤ T102.heap.size := Nat.le_trans Z0 K102.1
    refine own_by (T' := T102) (f' := (mkF m 236 #[.val (.int i0), .val (.int i1), .val (.int i2), .val (.int i3), .val (.int i4), .val (.int c0), .val (.int c1), .val (.int c2), .val (.int c3), .val (.int (own_vl c0)), .val (.int (own_vl c1)), .val (.int (own_vl c2)), .val (.int (own_vl c3)), .val (.int (4 : Int32)), .val (.ref b102), .unset] [])) (fun t k => XS.astore X102.here hx rfl (hb hby at_234) rfl rfl (l' := #[.val (.int i0), .val (.int i1), .val (.int i2), .val (.int i3), .val (.int i4), .val (.int c0), .val (.int c1), .val (.int c2), .val (.int c3), .val (.int (own_vl c0)), .val (.int (own_vl c1)), .val (.int (own_vl c2)), .val (.int (own_vl c3)), .val (.int (4 : Int32)), .val (.ref b102), .unset]) rfl k) ?_
    refine own_by (T' := T102) (f' := (mkF m 238 #[.val (.int i0), .val (.int i1), .val (.int i2), .val (.int i3), .val (.int i4), .val (.int c0), .val (.int c1), .val (.int c2), .val (.int c3), .val (.int (own_vl c0)), .val (.int (own_vl c1)), .val (.int (own_vl c2)), .val (.int (own_vl c3)), .val (.int (4 : Int32)), .val (.ref b102), .unset] [(.int (own_vl c0))])) (fun t k => XS.iload X102.here hx rfl (hb hby at_236) rfl k) ?_
    have mg108 : ∀ t, Steps p.tables e below (T102.setTop (mkF m 261 #[.val (.int i0), .val (.int i1), .val (.int i2), .val (.int i3), .val (.int i4), .val (.int c0), .val (.int c1), .val (.int c2), .val (.int c3), .val (.int (own_vl c0)), .val (.int (own_vl c1)), .val (.int (own_vl c2)), .val (.int (own_vl c3)), .val (.int (4 : Int32)), .val (.ref b102), .unset] [(.int (if (own_vl c0) = (0 : Int32) then (0 : Int32) else (if (own_vl c1) = (0 : Int32) then (0 : Int32) else (if (own_vl c2) = (0 : Int32) then (0 : Int32) else (if (own_vl c3) = (0 : Int32) then (0 : Int32) else (1 : Int32))))))])) t → Steps p.tables e below (T102.setTop (mkF m 238 #[.val (.int i0), .val (.int i1), .val (.int i2), .val (.int i3), .val (.int i4), .val (.int c0), .val (.int c1), .val (.int c2), .val (.int c3), .val (.int (own_vl c0)), .val (.int (own_vl c1)), .val (.int (own_vl c2)), .val (.int (own_vl c3)), .val (.int (4 : Int32)), .val (.ref b102), .unset] [(.int (own_vl c0))])) t := by
      intro t k0
      by_cases hm104 : (own_vl c0) = (0 : Int32)
      · skip
        refine XS.ifYes X102.here hx rfl (pc0 := 238) (pc' := 260) rfl (hb hby at_238) rfl ((if0 _ _).trans (teq hm104).1) (by decide) (by decide) ?_
        show Steps p.tables e below (T102.setTop (mkF m 260 #[.val (.int i0), .val (.int i1), .val (.int i2), .val (.int i3), .val (.int i4), .val (.int c0), .val (.int c1), .val (.int c2), .val (.int c3), .val (.int (own_vl c0)), .val (.int (own_vl c1)), .val (.int (own_vl c2)), .val (.int (own_vl c3)), .val (.int (4 : Int32)), .val (.ref b102), .unset] [])) _
        refine XS.iconst X102.here hx rfl (hb hby at_260) ?_
        show Steps p.tables e below (T102.setTop (mkF m 261 #[.val (.int i0), .val (.int i1), .val (.int i2), .val (.int i3), .val (.int i4), .val (.int c0), .val (.int c1), .val (.int c2), .val (.int c3), .val (.int (own_vl c0)), .val (.int (own_vl c1)), .val (.int (own_vl c2)), .val (.int (own_vl c3)), .val (.int (4 : Int32)), .val (.ref b102), .unset] [(.int (0 : Int32))])) _
        try simp only [if_pos hm104] at k0
        exact k0
      · skip
        refine XS.ifNo X102.here hx rfl (hb hby at_238) rfl ((if0 _ _).trans (feq hm104).1) ?_
        show Steps p.tables e below (T102.setTop (mkF m 241 #[.val (.int i0), .val (.int i1), .val (.int i2), .val (.int i3), .val (.int i4), .val (.int c0), .val (.int c1), .val (.int c2), .val (.int c3), .val (.int (own_vl c0)), .val (.int (own_vl c1)), .val (.int (own_vl c2)), .val (.int (own_vl c3)), .val (.int (4 : Int32)), .val (.ref b102), .unset] [])) _
        refine XS.iload X102.here hx rfl (hb hby at_241) rfl ?_
        show Steps p.tables e below (T102.setTop (mkF m 243 #[.val (.int i0), .val (.int i1), .val (.int i2), .val (.int i3), .val (.int i4), .val (.int c0), .val (.int c1), .val (.int c2), .val (.int c3), .val (.int (own_vl c0)), .val (.int (own_vl c1)), .val (.int (own_vl c2)), .val (.int (own_vl c3)), .val (.int (4 : Int32)), .val (.ref b102), .unset] [(.int (own_vl c1))])) _
        by_cases hm105 : (own_vl c1) = (0 : Int32)
        · skip
          refine XS.ifYes X102.here hx rfl (pc0 := 243) (pc' := 260) rfl (hb hby at_243) rfl ((if0 _ _).trans (teq hm105).1) (by decide) (by decide) ?_
          show Steps p.tables e below (T102.setTop (mkF m 260 #[.val (.int i0), .val (.int i1), .val (.int i2), .val (.int i3), .val (.int i4), .val (.int c0), .val (.int c1), .val (.int c2), .val (.int c3), .val (.int (own_vl c0)), .val (.int (own_vl c1)), .val (.int (own_vl c2)), .val (.int (own_vl c3)), .val (.int (4 : Int32)), .val (.ref b102), .unset] [])) _
          refine XS.iconst X102.here hx rfl (hb hby at_260) ?_
          show Steps p.tables e below (T102.setTop (mkF m 261 #[.val (.int i0), .val (.int i1), .val (.int i2), .val (.int i3), .val (.int i4), .val (.int c0), .val (.int c1), .val (.int c2), .val (.int c3), .val (.int (own_vl c0)), .val (.int (own_vl c1)), .val (.int (own_vl c2)), .val (.int (own_vl c3)), .val (.int (4 : Int32)), .val (.ref b102), .unset] [(.int (0 : Int32))])) _
          try simp only [if_neg hm104, if_pos hm105] at k0
          exact k0
        · skip
          refine XS.ifNo X102.here hx rfl (hb hby at_243) rfl ((if0 _ _).trans (feq hm105).1) ?_
          show Steps p.tables e below (T102.setTop (mkF m 246 #[.val (.int i0), .val (.int i1), .val (.int i2), .val (.int i3), .val (.int i4), .val (.int c0), .val (.int c1), .val (.int c2), .val (.int c3), .val (.int (own_vl c0)), .val (.int (own_vl c1)), .val (.int (own_vl c2)), .val (.int (own_vl c3)), .val (.int (4 : Int32)), .val (.ref b102), .unset] [])) _
          refine XS.iload X102.here hx rfl (hb hby at_246) rfl ?_
          show Steps p.tables e below (T102.setTop (mkF m 248 #[.val (.int i0), .val (.int i1), .val (.int i2), .val (.int i3), .val (.int i4), .val (.int c0), .val (.int c1), .val (.int c2), .val (.int c3), .val (.int (own_vl c0)), .val (.int (own_vl c1)), .val (.int (own_vl c2)), .val (.int (own_vl c3)), .val (.int (4 : Int32)), .val (.ref b102), .unset] [(.int (own_vl c2))])) _
          by_cases hm106 : (own_vl c2) = (0 : Int32)
          · skip
            refine XS.ifYes X102.here hx rfl (pc0 := 248) (pc' := 260) rfl (hb hby at_248) rfl ((if0 _ _).trans (teq hm106).1) (by decide) (by decide) ?_
            show Steps p.tables e below (T102.setTop (mkF m 260 #[.val (.int i0), .val (.int i1), .val (.int i2), .val (.int i3), .val (.int i4), .val (.int c0), .val (.int c1), .val (.int c2), .val (.int c3), .val (.int (own_vl c0)), .val (.int (own_vl c1)), .val (.int (own_vl c2)), .val (.int (own_vl c3)), .val (.int (4 : Int32)), .val (.ref b102), .unset] [])) _
            refine XS.iconst X102.here hx rfl (hb hby at_260) ?_
            show Steps p.tables e below (T102.setTop (mkF m 261 #[.val (.int i0), .val (.int i1), .val (.int i2), .val (.int i3), .val (.int i4), .val (.int c0), .val (.int c1), .val (.int c2), .val (.int c3), .val (.int (own_vl c0)), .val (.int (own_vl c1)), .val (.int (own_vl c2)), .val (.int (own_vl c3)), .val (.int (4 : Int32)), .val (.ref b102), .unset] [(.int (0 : Int32))])) _
            try simp only [if_neg hm104, if_neg hm105, if_pos hm106] at k0
            exact k0
          · skip
            refine XS.ifNo X102.here hx rfl (hb hby at_248) rfl ((if0 _ _).trans (feq hm106).1) ?_
            show Steps p.tables e below (T102.setTop (mkF m 251 #[.val (.int i0), .val (.int i1), .val (.int i2), .val (.int i3), .val (.int i4), .val (.int c0), .val (.int c1), .val (.int c2), .val (.int c3), .val (.int (own_vl c0)), .val (.int (own_vl c1)), .val (.int (own_vl c2)), .val (.int (own_vl c3)), .val (.int (4 : Int32)), .val (.ref b102), .unset] [])) _
            refine XS.iload X102.here hx rfl (hb hby at_251) rfl ?_
            show Steps p.tables e below (T102.setTop (mkF m 253 #[.val (.int i0), .val (.int i1), .val (.int i2), .val (.int i3), .val (.int i4), .val (.int c0), .val (.int c1), .val (.int c2), .val (.int c3), .val (.int (own_vl c0)), .val (.int (own_vl c1)), .val (.int (own_vl c2)), .val (.int (own_vl c3)), .val (.int (4 : Int32)), .val (.ref b102), .unset] [(.int (own_vl c3))])) _
            by_cases hm107 : (own_vl c3) = (0 : Int32)
            · skip
              refine XS.ifYes X102.here hx rfl (pc0 := 253) (pc' := 260) rfl (hb hby at_253) rfl ((if0 _ _).trans (teq hm107).1) (by decide) (by decide) ?_
              show Steps p.tables e below (T102.setTop (mkF m 260 #[.val (.int i0), .val (.int i1), .val (.int i2), .val (.int i3), .val (.int i4), .val (.int c0), .val (.int c1), .val (.int c2), .val (.int c3), .val (.int (own_vl c0)), .val (.int (own_vl c1)), .val (.int (own_vl c2)), .val (.int (own_vl c3)), .val (.int (4 : Int32)), .val (.ref b102), .unset] [])) _
              refine XS.iconst X102.here hx rfl (hb hby at_260) ?_
              show Steps p.tables e below (T102.setTop (mkF m 261 #[.val (.int i0), .val (.int i1), .val (.int i2), .val (.int i3), .val (.int i4), .val (.int c0), .val (.int c1), .val (.int c2), .val (.int c3), .val (.int (own_vl c0)), .val (.int (own_vl c1)), .val (.int (own_vl c2)), .val (.int (own_vl c3)), .val (.int (4 : Int32)), .val (.ref b102), .unset] [(.int (0 : Int32))])) _
              try simp only [if_neg hm104, if_neg hm105, if_neg hm106, if_pos hm107] at k0
              exact k0
            · skip
              refine XS.ifNo X102.here hx rfl (hb hby at_253) rfl ((if0 _ _).trans (feq hm107).1) ?_
              show Steps p.tables e below (T102.setTop (mkF m 256 #[.val (.int i0), .val (.int i1), .val (.int i2), .val (.int i3), .val (.int i4), .val (.int c0), .val (.int c1), .val (.int c2), .val (.int c3), .val (.int (own_vl c0)), .val (.int (own_vl c1)), .val (.int (own_vl c2)), .val (.int (own_vl c3)), .val (.int (4 : Int32)), .val (.ref b102), .unset] [])) _
              refine XS.iconst X102.here hx rfl (hb hby at_256) ?_
              show Steps p.tables e below (T102.setTop (mkF m 257 #[.val (.int i0), .val (.int i1), .val (.int i2), .val (.int i3), .val (.int i4), .val (.int c0), .val (.int c1), .val (.int c2), .val (.int c3), .val (.int (own_vl c0)), .val (.int (own_vl c1)), .val (.int (own_vl c2)), .val (.int (own_vl c3)), .val (.int (4 : Int32)), .val (.ref b102), .unset] [(.int (1 : Int32))])) _
              refine XS.goto X102.here hx rfl (pc0 := 257) (pc' := 261) rfl (hb hby at_257) (by decide) (by decide) ?_
              show Steps p.tables e below (T102.setTop (mkF m 261 #[.val (.int i0), .val (.int i1), .val (.int i2), .val (.int i3), .val (.int i4), .val (.int c0), .val (.int c1), .val (.int c2), .val (.int c3), .val (.int (own_vl c0)), .val (.int (own_vl c1)), .val (.int (own_vl c2)), .val (.int (own_vl c3)), .val (.int (4 : Int32)), .val (.ref b102), .unset] [(.int (1 : Int32))])) _
              try simp only [if_neg hm104, if_neg hm105, if_neg hm106, if_neg hm107] at k0
              exact k0
    refine own_by mg108 ?_
    obtain ⟨ex, hex⟩ : ∃ z : Int32, z = (if (own_vl c0) = (0 : Int32) then (0 : Int32) else (if (own_vl c1) = (0 : Int32) then (0 : Int32) else (if (own_vl c2) = (0 : Int32) then (0 : Int32) else (if (own_vl c3) = (0 : Int32) then (0 : Int32) else (1 : Int32))))) := ⟨_, rfl⟩
    rw [← hex]
    show own_Go p e below _ T102 (mkF m 261 #[.val (.int i0), .val (.int i1), .val (.int i2), .val (.int i3), .val (.int i4), .val (.int c0), .val (.int c1), .val (.int c2), .val (.int c3), .val (.int (own_vl c0)), .val (.int (own_vl c1)), .val (.int (own_vl c2)), .val (.int (own_vl c3)), .val (.int (4 : Int32)), .val (.ref b102), .unset] [(.int ex)])
    refine own_by (T' := T102) (f' := (mkF m 263 #[.val (.int i0), .val (.int i1), .val (.int i2), .val (.int i3), .val (.int i4), .val (.int c0), .val (.int c1), .val (.int c2), .val (.int c3), .val (.int (own_vl c0)), .val (.int (own_vl c1)), .val (.int (own_vl c2)), .val (.int (own_vl c3)), .val (.int (4 : Int32)), .val (.ref b102), .val (.int ex)] [])) (fun t k => XS.istore X102.here hx rfl (hb hby at_261) rfl (l' := #[.val (.int i0), .val (.int i1), .val (.int i2), .val (.int i3), .val (.int i4), .val (.int c0), .val (.int c1), .val (.int c2), .val (.int c3), .val (.int (own_vl c0)), .val (.int (own_vl c1)), .val (.int (own_vl c2)), .val (.int (own_vl c3)), .val (.int (4 : Int32)), .val (.ref b102), .val (.int ex)]) rfl k) ?_
    refine own_by (T' := T102) (f' := (mkF m 282 #[.val (.int i0), .val (.int i1), .val (.int i2), .val (.int i3), .val (.int i4), .val (.int c0), .val (.int c1), .val (.int c2), .val (.int c3), .val (.int (own_vl c0)), .val (.int (own_vl c1)), .val (.int (own_vl c2)), .val (.int (own_vl c3)), .val (.int (4 : Int32)), .val (.ref b102), .val (.int ex)] [])) (fun t k => XS.goto X102.here hx rfl (pc0 := 263) (pc' := 282) rfl (hb hby at_263) (by decide) (by decide) k) ?_
    refine own_new X102 hx hZ hown rfl (hb hby at_282) (hw _ (List.mem_of_getElem? (i := 5) rfl)) (hw _ (List.mem_of_getElem? (i := 6) rfl)) (hw _ (List.mem_of_getElem? (i := 7) rfl)) (by decide) (by decide) ?_
    intro T109 h109 b109 X109 e109 g109 E109 A109 D109
    have ne109_b102 : b102 ≠ b109 := Nat.ne_of_lt (by rw [g109]; exact B102.lt)
    have gn109 : n0 ≤ b109 := by rw [g109]; exact sz103
    show own_Go p e below _ T109 (mkF m 285 #[.val (.int i0), .val (.int i1), .val (.int i2), .val (.int i3), .val (.int i4), .val (.int c0), .val (.int c1), .val (.int c2), .val (.int c3), .val (.int (own_vl c0)), .val (.int (own_vl c1)), .val (.int (own_vl c2)), .val (.int (own_vl c3)), .val (.int (4 : Int32)), .val (.ref b102), .val (.int ex)] [(.ref b109)])
    have S_b109 := Safe.ext E109 CH.1 (Safe.new (Nat.le_of_eq g109.symm))
    have hk := Nat.le_trans hk E109.1
    have CH := CH.trans (CHr.ext E109 CH.1)
    have F109_value : Fld Z h109 b109 "java/lang/String" "value" "[B" .null := D109 (Or.inr (hw _ (List.mem_of_getElem? (i := 20) rfl))) (ty := (.array .byte)) (by decide)
    have F109_coder : Fld Z h109 b109 "java/lang/String" "coder" "B" (.int (0 : Int32)) := D109 (Or.inr (hw _ (List.mem_of_getElem? (i := 21) rfl))) (ty := .byte) (by decide)
    have sz110 : n0 ≤ h109.size := Nat.le_trans sz103 E109.1
    refine own_by (T' := T109) (f' := (mkF m 286 #[.val (.int i0), .val (.int i1), .val (.int i2), .val (.int i3), .val (.int i4), .val (.int c0), .val (.int c1), .val (.int c2), .val (.int c3), .val (.int (own_vl c0)), .val (.int (own_vl c1)), .val (.int (own_vl c2)), .val (.int (own_vl c3)), .val (.int (4 : Int32)), .val (.ref b102), .val (.int ex)] [(.ref b109), (.ref b109)])) (fun t k => XS.dup X109.here hx rfl (hb hby at_285) rfl rfl k) ?_
    refine own_by (T' := T109) (f' := (mkF m 288 #[.val (.int i0), .val (.int i1), .val (.int i2), .val (.int i3), .val (.int i4), .val (.int c0), .val (.int c1), .val (.int c2), .val (.int c3), .val (.int (own_vl c0)), .val (.int (own_vl c1)), .val (.int (own_vl c2)), .val (.int (own_vl c3)), .val (.int (4 : Int32)), .val (.ref b102), .val (.int ex)] [(.ref b102), (.ref b109), (.ref b109)])) (fun t k => XS.aload X109.here hx rfl (hb hby at_286) rfl rfl k) ?_
    have q111 : ∀ x ∈ [b109], ∃ c : Cell, h109[x]? = some c ∧ c.vm.isStatics = false := (allS (own_ns A109) all0)
    have f112 := (B102.ext E109)
    have f113 := ((ST.keep K102 all0).ext E109)
    refine own_callN X109 hx hZ hown e109 (hb hby at_288) [(.ref b102)] [(.ref b109)] 1 (rmI1 l Z a0 hw [] b109 b102 (64 : Int32) 64 (own_pt 63 c0 c1 c2 c3) _ _ cs fm h109 n0 sz110 gn109 (by decide) (by decide) (by decide) (fun i _ => own_pt_rng hc0 hc1 hc2 hc3 i) f112 ne109_b102 A109 F109_value F109_coder f113) (hw _ (List.mem_of_getElem? (i := 8) rfl)) (hw _ (List.mem_of_getElem? (i := 9) rfl)) (hw _ (List.mem_of_getElem? (i := 7) rfl)) (hw _ (List.mem_of_getElem? (i := 10) rfl)) rfl (by decide) pd___C_V (by rw [hml]; rfl) rfl rfl (Nat.le_of_eq rfl) (by decide) (by decide) (by decide) (by decide) ?_
    rintro T114 _ L114 X114 ⟨rfl, N114q, K114, Q114⟩
    show own_Go p e below _ T114 (mkF m 291 #[.val (.int i0), .val (.int i1), .val (.int i2), .val (.int i3), .val (.int i4), .val (.int c0), .val (.int c1), .val (.int c2), .val (.int c3), .val (.int (own_vl c0)), .val (.int (own_vl c1)), .val (.int (own_vl c2)), .val (.int (own_vl c3)), .val (.int (4 : Int32)), .val (.ref b102), .val (.int ex)] [(.ref b109)])
    have S_b109' := Safe.keep K114 (allS S_b109 all0) CH.1 S_b109
    have hk := Nat.le_trans hk K114.1
    have CH := CH.trans (CHr.keep K114 (allS S_b109 all0) CH.1)
    have S_b109 := S_b109'
    have N114 := Fr.app N102 N114q
    have sz115 : n0 ≤ T114.heap.size := Nat.le_trans sz110 K114.1
    have f116 := (f113.keep K114 q111)
    have lt117 := Q114.2.2.1.lt
    refine own_callSW X114 hx hZ hown rfl (hb hby at_291) hS hk hEL CH [(.ref b109)] [] 0 (rmID l Z a0 hw [] b109 (64 : Int32) 64 (own_pt 63 c0 c1 c2 c3) cs fm T114.heap (by decide) (by decide) Q114 f116) (hw _ (List.mem_of_getElem? (i := 26) rfl)) (hw _ (List.mem_of_getElem? (i := 27) rfl)) (hw _ (List.mem_of_getElem? (i := 28) rfl)) (hw _ (List.mem_of_getElem? (i := 29) rfl)) (by decide) pd__Ljava_lang_String__Z (by rw [hml]; rfl) rfl rfl (Nat.le_of_eq rfl) (by decide) (by decide) (by decide) (by decide) ?_
    rintro T118 _ L118 X118 hS hk hZ hown hW118 CHs118 CH ⟨r118, rfl, hr118, rfl⟩
    show own_Go p e below _ T118 (mkF m 294 #[.val (.int i0), .val (.int i1), .val (.int i2), .val (.int i3), .val (.int i4), .val (.int c0), .val (.int c1), .val (.int c2), .val (.int c3), .val (.int (own_vl c0)), .val (.int (own_vl c1)), .val (.int (own_vl c2)), .val (.int (own_vl c3)), .val (.int (4 : Int32)), .val (.ref b102), .val (.int ex)] [(.int r118)])
    have S_b109 := CHr.safe CHs118 lt117 S_b109
    rw [List.append_nil] at X118
    refine own_by (T' := T118) (f' := (mkF m 296 #[.val (.int i0), .val (.int i1), .val (.int i2), .val (.int i3), .val (.int i4), .val (.int c0), .val (.int c1), .val (.int c2), .val (.int c3), .val (.int (own_vl c0)), .val (.int (own_vl c1)), .val (.int (own_vl c2)), .val (.int (own_vl c3)), .val (.int (4 : Int32)), .val (.ref b102), .val (.int ex)] [(.int ex), (.int r118)])) (fun t k => XS.iload X118.here hx rfl (hb hby at_294) rfl k) ?_
    have hc296_119 : r118 = ex := by rw [hex]; exact own_lw64 (a := c0) (b := c1) (c := c2) (g := c3) hr118 (own_vc_vl _ hc0) (own_vc_vl _ hc1) (own_vc_vl _ hc2) (own_vc_vl _ hc3)
    refine own_by (T' := T118) (f' := (mkF m 299 #[.val (.int i0), .val (.int i1), .val (.int i2), .val (.int i3), .val (.int i4), .val (.int c0), .val (.int c1), .val (.int c2), .val (.int c3), .val (.int (own_vl c0)), .val (.int (own_vl c1)), .val (.int (own_vl c2)), .val (.int (own_vl c3)), .val (.int (4 : Int32)), .val (.ref b102), .val (.int ex)] [])) (fun t k => XS.icmpNo X118.here hx rfl (hb hby at_296) rfl (teq hc296_119).2 k) ?_
    refine own_by (T' := T118) (f' := (mkF m 300 #[.val (.int i0), .val (.int i1), .val (.int i2), .val (.int i3), .val (.int i4), .val (.int c0), .val (.int c1), .val (.int c2), .val (.int c3), .val (.int (own_vl c0)), .val (.int (own_vl c1)), .val (.int (own_vl c2)), .val (.int (own_vl c3)), .val (.int (4 : Int32)), .val (.ref b102), .val (.int ex)] [(.int (1 : Int32))])) (fun t k => XS.iconst X118.here hx rfl (hb hby at_299) k) ?_
    refine own_by (T' := T118) (f' := (mkF m 304 #[.val (.int i0), .val (.int i1), .val (.int i2), .val (.int i3), .val (.int i4), .val (.int c0), .val (.int c1), .val (.int c2), .val (.int c3), .val (.int (own_vl c0)), .val (.int (own_vl c1)), .val (.int (own_vl c2)), .val (.int (own_vl c3)), .val (.int (4 : Int32)), .val (.ref b102), .val (.int ex)] [(.int (1 : Int32))])) (fun t k => XS.goto X118.here hx rfl (pc0 := 300) (pc' := 304) rfl (hb hby at_300) (by decide) (by decide) k) ?_
    refine own_retW X118 hx hret hlk hZ hEL hs0 rfl hS hk CH (hb hby at_304) rfl (Or.inl ⟨rfl, Or.inr (Or.inl rfl), _, rfl⟩) (by decide) (by decide) ?_
    exact ⟨rfl, N114⟩
  · rw [hl]
    show own_Go p e below _ T14 (mkF m 49 #[.val (.int i0), .val (.int i1), .val (.int i2), .val (.int i3), .val (.int i4), .val (.int c0), .val (.int c1), .val (.int c2), .val (.int c3), .val (.int (own_vl c0)), .val (.int (own_vl c1)), .val (.int (own_vl c2)), .val (.int (own_vl c3)), .unset, .unset, .unset] [(.int (5 : Int32))])
    refine own_by (T' := T14) (f' := (mkF m 51 #[.val (.int i0), .val (.int i1), .val (.int i2), .val (.int i3), .val (.int i4), .val (.int c0), .val (.int c1), .val (.int c2), .val (.int c3), .val (.int (own_vl c0)), .val (.int (own_vl c1)), .val (.int (own_vl c2)), .val (.int (own_vl c3)), .val (.int (5 : Int32)), .unset, .unset] [])) (fun t k => XS.istore X14.here hx rfl (hb hby at_49) rfl (l' := #[.val (.int i0), .val (.int i1), .val (.int i2), .val (.int i3), .val (.int i4), .val (.int c0), .val (.int c1), .val (.int c2), .val (.int c3), .val (.int (own_vl c0)), .val (.int (own_vl c1)), .val (.int (own_vl c2)), .val (.int (own_vl c3)), .val (.int (5 : Int32)), .unset, .unset]) rfl k) ?_
    refine own_by (T' := T14) (f' := (mkF m 53 #[.val (.int i0), .val (.int i1), .val (.int i2), .val (.int i3), .val (.int i4), .val (.int c0), .val (.int c1), .val (.int c2), .val (.int c3), .val (.int (own_vl c0)), .val (.int (own_vl c1)), .val (.int (own_vl c2)), .val (.int (own_vl c3)), .val (.int (5 : Int32)), .unset, .unset] [(.int (5 : Int32))])) (fun t k => XS.iload X14.here hx rfl (hb hby at_51) rfl k) ?_
    refine own_by (T' := T14) (f' := (mkF m 67 #[.val (.int i0), .val (.int i1), .val (.int i2), .val (.int i3), .val (.int i4), .val (.int c0), .val (.int c1), .val (.int c2), .val (.int c3), .val (.int (own_vl c0)), .val (.int (own_vl c1)), .val (.int (own_vl c2)), .val (.int (own_vl c3)), .val (.int (5 : Int32)), .unset, .unset] [])) (fun t k => XS.ifYes X14.here hx rfl (pc0 := 53) (pc' := 67) rfl (hb hby at_53) rfl ((if0 _ _).trans (feq (by decide)).2) (by decide) (by decide) k) ?_
    refine own_by (T' := T14) (f' := (mkF m 69 #[.val (.int i0), .val (.int i1), .val (.int i2), .val (.int i3), .val (.int i4), .val (.int c0), .val (.int c1), .val (.int c2), .val (.int c3), .val (.int (own_vl c0)), .val (.int (own_vl c1)), .val (.int (own_vl c2)), .val (.int (own_vl c3)), .val (.int (5 : Int32)), .unset, .unset] [(.int (5 : Int32))])) (fun t k => XS.iload X14.here hx rfl (hb hby at_67) rfl k) ?_
    refine own_by (T' := T14) (f' := (mkF m 70 #[.val (.int i0), .val (.int i1), .val (.int i2), .val (.int i3), .val (.int i4), .val (.int c0), .val (.int c1), .val (.int c2), .val (.int c3), .val (.int (own_vl c0)), .val (.int (own_vl c1)), .val (.int (own_vl c2)), .val (.int (own_vl c3)), .val (.int (5 : Int32)), .unset, .unset] [(.int (1 : Int32)), (.int (5 : Int32))])) (fun t k => XS.iconst X14.here hx rfl (hb hby at_69) k) ?_
    refine own_by (T' := T14) (f' := (mkF m 105 #[.val (.int i0), .val (.int i1), .val (.int i2), .val (.int i3), .val (.int i4), .val (.int c0), .val (.int c1), .val (.int c2), .val (.int c3), .val (.int (own_vl c0)), .val (.int (own_vl c1)), .val (.int (own_vl c2)), .val (.int (own_vl c3)), .val (.int (5 : Int32)), .unset, .unset] [])) (fun t k => XS.icmpYes X14.here hx rfl (pc0 := 70) (pc' := 105) rfl (hb hby at_70) rfl (feq (by decide)).2 (by decide) (by decide) k) ?_
    refine own_by (T' := T14) (f' := (mkF m 107 #[.val (.int i0), .val (.int i1), .val (.int i2), .val (.int i3), .val (.int i4), .val (.int c0), .val (.int c1), .val (.int c2), .val (.int c3), .val (.int (own_vl c0)), .val (.int (own_vl c1)), .val (.int (own_vl c2)), .val (.int (own_vl c3)), .val (.int (5 : Int32)), .unset, .unset] [(.int (5 : Int32))])) (fun t k => XS.iload X14.here hx rfl (hb hby at_105) rfl k) ?_
    refine own_by (T' := T14) (f' := (mkF m 108 #[.val (.int i0), .val (.int i1), .val (.int i2), .val (.int i3), .val (.int i4), .val (.int c0), .val (.int c1), .val (.int c2), .val (.int c3), .val (.int (own_vl c0)), .val (.int (own_vl c1)), .val (.int (own_vl c2)), .val (.int (own_vl c3)), .val (.int (5 : Int32)), .unset, .unset] [(.int (2 : Int32)), (.int (5 : Int32))])) (fun t k => XS.iconst X14.here hx rfl (hb hby at_107) k) ?_
    refine own_by (T' := T14) (f' := (mkF m 160 #[.val (.int i0), .val (.int i1), .val (.int i2), .val (.int i3), .val (.int i4), .val (.int c0), .val (.int c1), .val (.int c2), .val (.int c3), .val (.int (own_vl c0)), .val (.int (own_vl c1)), .val (.int (own_vl c2)), .val (.int (own_vl c3)), .val (.int (5 : Int32)), .unset, .unset] [])) (fun t k => XS.icmpYes X14.here hx rfl (pc0 := 108) (pc' := 160) rfl (hb hby at_108) rfl (feq (by decide)).2 (by decide) (by decide) k) ?_
    refine own_by (T' := T14) (f' := (mkF m 162 #[.val (.int i0), .val (.int i1), .val (.int i2), .val (.int i3), .val (.int i4), .val (.int c0), .val (.int c1), .val (.int c2), .val (.int c3), .val (.int (own_vl c0)), .val (.int (own_vl c1)), .val (.int (own_vl c2)), .val (.int (own_vl c3)), .val (.int (5 : Int32)), .unset, .unset] [(.int (5 : Int32))])) (fun t k => XS.iload X14.here hx rfl (hb hby at_160) rfl k) ?_
    refine own_by (T' := T14) (f' := (mkF m 163 #[.val (.int i0), .val (.int i1), .val (.int i2), .val (.int i3), .val (.int i4), .val (.int c0), .val (.int c1), .val (.int c2), .val (.int c3), .val (.int (own_vl c0)), .val (.int (own_vl c1)), .val (.int (own_vl c2)), .val (.int (own_vl c3)), .val (.int (5 : Int32)), .unset, .unset] [(.int (3 : Int32)), (.int (5 : Int32))])) (fun t k => XS.iconst X14.here hx rfl (hb hby at_162) k) ?_
    refine own_by (T' := T14) (f' := (mkF m 211 #[.val (.int i0), .val (.int i1), .val (.int i2), .val (.int i3), .val (.int i4), .val (.int c0), .val (.int c1), .val (.int c2), .val (.int c3), .val (.int (own_vl c0)), .val (.int (own_vl c1)), .val (.int (own_vl c2)), .val (.int (own_vl c3)), .val (.int (5 : Int32)), .unset, .unset] [])) (fun t k => XS.icmpYes X14.here hx rfl (pc0 := 163) (pc' := 211) rfl (hb hby at_163) rfl (feq (by decide)).2 (by decide) (by decide) k) ?_
    refine own_by (T' := T14) (f' := (mkF m 213 #[.val (.int i0), .val (.int i1), .val (.int i2), .val (.int i3), .val (.int i4), .val (.int c0), .val (.int c1), .val (.int c2), .val (.int c3), .val (.int (own_vl c0)), .val (.int (own_vl c1)), .val (.int (own_vl c2)), .val (.int (own_vl c3)), .val (.int (5 : Int32)), .unset, .unset] [(.int (5 : Int32))])) (fun t k => XS.iload X14.here hx rfl (hb hby at_211) rfl k) ?_
    refine own_by (T' := T14) (f' := (mkF m 214 #[.val (.int i0), .val (.int i1), .val (.int i2), .val (.int i3), .val (.int i4), .val (.int c0), .val (.int c1), .val (.int c2), .val (.int c3), .val (.int (own_vl c0)), .val (.int (own_vl c1)), .val (.int (own_vl c2)), .val (.int (own_vl c3)), .val (.int (5 : Int32)), .unset, .unset] [(.int (4 : Int32)), (.int (5 : Int32))])) (fun t k => XS.iconst X14.here hx rfl (hb hby at_213) k) ?_
    refine own_by (T' := T14) (f' := (mkF m 217 #[.val (.int i0), .val (.int i1), .val (.int i2), .val (.int i3), .val (.int i4), .val (.int c0), .val (.int c1), .val (.int c2), .val (.int c3), .val (.int (own_vl c0)), .val (.int (own_vl c1)), .val (.int (own_vl c2)), .val (.int (own_vl c3)), .val (.int (5 : Int32)), .unset, .unset] [])) (fun t k => XS.icmpNo X14.here hx rfl (hb hby at_214) rfl (feq (by decide)).1 k) ?_
    refine own_by (T' := T14) (f' := (mkF m 219 #[.val (.int i0), .val (.int i1), .val (.int i2), .val (.int i3), .val (.int i4), .val (.int c0), .val (.int c1), .val (.int c2), .val (.int c3), .val (.int (own_vl c0)), .val (.int (own_vl c1)), .val (.int (own_vl c2)), .val (.int (own_vl c3)), .val (.int (5 : Int32)), .unset, .unset] [(.int (5 : Int32))])) (fun t k => XS.iload X14.here hx rfl (hb hby at_217) rfl k) ?_
    refine own_by (T' := T14) (f' := (mkF m 220 #[.val (.int i0), .val (.int i1), .val (.int i2), .val (.int i3), .val (.int i4), .val (.int c0), .val (.int c1), .val (.int c2), .val (.int c3), .val (.int (own_vl c0)), .val (.int (own_vl c1)), .val (.int (own_vl c2)), .val (.int (own_vl c3)), .val (.int (5 : Int32)), .unset, .unset] [(.int (5 : Int32)), (.int (5 : Int32))])) (fun t k => XS.iconst X14.here hx rfl (hb hby at_219) k) ?_
    refine own_by (T' := T14) (f' := (mkF m 223 #[.val (.int i0), .val (.int i1), .val (.int i2), .val (.int i3), .val (.int i4), .val (.int c0), .val (.int c1), .val (.int c2), .val (.int c3), .val (.int (own_vl c0)), .val (.int (own_vl c1)), .val (.int (own_vl c2)), .val (.int (own_vl c3)), .val (.int (5 : Int32)), .unset, .unset] [])) (fun t k => XS.icmpNo X14.here hx rfl (hb hby at_220) rfl (teq rfl).2 k) ?_
    refine own_by (T' := T14) (f' := (mkF m 225 #[.val (.int i0), .val (.int i1), .val (.int i2), .val (.int i3), .val (.int i4), .val (.int c0), .val (.int c1), .val (.int c2), .val (.int c3), .val (.int (own_vl c0)), .val (.int (own_vl c1)), .val (.int (own_vl c2)), .val (.int (own_vl c3)), .val (.int (5 : Int32)), .unset, .unset] [(.int c0)])) (fun t k => XS.iload X14.here hx rfl (hb hby at_223) rfl k) ?_
    refine own_by (T' := T14) (f' := (mkF m 227 #[.val (.int i0), .val (.int i1), .val (.int i2), .val (.int i3), .val (.int i4), .val (.int c0), .val (.int c1), .val (.int c2), .val (.int c3), .val (.int (own_vl c0)), .val (.int (own_vl c1)), .val (.int (own_vl c2)), .val (.int (own_vl c3)), .val (.int (5 : Int32)), .unset, .unset] [(.int c1), (.int c0)])) (fun t k => XS.iload X14.here hx rfl (hb hby at_225) rfl k) ?_
    refine own_by (T' := T14) (f' := (mkF m 229 #[.val (.int i0), .val (.int i1), .val (.int i2), .val (.int i3), .val (.int i4), .val (.int c0), .val (.int c1), .val (.int c2), .val (.int c3), .val (.int (own_vl c0)), .val (.int (own_vl c1)), .val (.int (own_vl c2)), .val (.int (own_vl c3)), .val (.int (5 : Int32)), .unset, .unset] [(.int c2), (.int c1), (.int c0)])) (fun t k => XS.iload X14.here hx rfl (hb hby at_227) rfl k) ?_
    refine own_by (T' := T14) (f' := (mkF m 231 #[.val (.int i0), .val (.int i1), .val (.int i2), .val (.int i3), .val (.int i4), .val (.int c0), .val (.int c1), .val (.int c2), .val (.int c3), .val (.int (own_vl c0)), .val (.int (own_vl c1)), .val (.int (own_vl c2)), .val (.int (own_vl c3)), .val (.int (5 : Int32)), .unset, .unset] [(.int c3), (.int c2), (.int c1), (.int c0)])) (fun t k => XS.iload X14.here hx rfl (hb hby at_229) rfl k) ?_
    refine own_callS X14 hx hZ hown e14 (hb hby at_231) [(.int c0), (.int c1), (.int c2), (.int c3)] [] 0 (rm64 l Z a0 hw [] c0 c1 c2 c3 h0 n0 Z0 hc0 hc1 hc2 hc3) (hw _ (List.mem_of_getElem? (i := 121) rfl)) (hw _ (List.mem_of_getElem? (i := 122) rfl)) (hw _ (List.mem_of_getElem? (i := 2) rfl)) (hw _ (List.mem_of_getElem? (i := 123) rfl)) (by decide) pd__CCCC__C (by rw [hml]; rfl) rfl rfl (Nat.le_of_eq rfl) (by decide) (by decide) (by decide) (by decide) ?_
    rintro T120 _ L120 X120 ⟨b120, rfl, N120q, K120, gb120, B120⟩
    show own_Go p e below _ T120 (mkF m 234 #[.val (.int i0), .val (.int i1), .val (.int i2), .val (.int i3), .val (.int i4), .val (.int c0), .val (.int c1), .val (.int c2), .val (.int c3), .val (.int (own_vl c0)), .val (.int (own_vl c1)), .val (.int (own_vl c2)), .val (.int (own_vl c3)), .val (.int (5 : Int32)), .unset, .unset] [(.ref b120)])
    have N120 := Fr.app N0 N120q
    have hk := Nat.le_trans hk K120.1
    have CH := CH.trans (CHr.keep K120 all0 CH.1)
    have sz121 : n0 ≤ T120.heap.size := Nat.le_trans Z0 K120.1
    refine own_by (T' := T120) (f' := (mkF m 236 #[.val (.int i0), .val (.int i1), .val (.int i2), .val (.int i3), .val (.int i4), .val (.int c0), .val (.int c1), .val (.int c2), .val (.int c3), .val (.int (own_vl c0)), .val (.int (own_vl c1)), .val (.int (own_vl c2)), .val (.int (own_vl c3)), .val (.int (5 : Int32)), .val (.ref b120), .unset] [])) (fun t k => XS.astore X120.here hx rfl (hb hby at_234) rfl rfl (l' := #[.val (.int i0), .val (.int i1), .val (.int i2), .val (.int i3), .val (.int i4), .val (.int c0), .val (.int c1), .val (.int c2), .val (.int c3), .val (.int (own_vl c0)), .val (.int (own_vl c1)), .val (.int (own_vl c2)), .val (.int (own_vl c3)), .val (.int (5 : Int32)), .val (.ref b120), .unset]) rfl k) ?_
    refine own_by (T' := T120) (f' := (mkF m 238 #[.val (.int i0), .val (.int i1), .val (.int i2), .val (.int i3), .val (.int i4), .val (.int c0), .val (.int c1), .val (.int c2), .val (.int c3), .val (.int (own_vl c0)), .val (.int (own_vl c1)), .val (.int (own_vl c2)), .val (.int (own_vl c3)), .val (.int (5 : Int32)), .val (.ref b120), .unset] [(.int (own_vl c0))])) (fun t k => XS.iload X120.here hx rfl (hb hby at_236) rfl k) ?_
    have mg126 : ∀ t, Steps p.tables e below (T120.setTop (mkF m 261 #[.val (.int i0), .val (.int i1), .val (.int i2), .val (.int i3), .val (.int i4), .val (.int c0), .val (.int c1), .val (.int c2), .val (.int c3), .val (.int (own_vl c0)), .val (.int (own_vl c1)), .val (.int (own_vl c2)), .val (.int (own_vl c3)), .val (.int (5 : Int32)), .val (.ref b120), .unset] [(.int (if (own_vl c0) = (0 : Int32) then (0 : Int32) else (if (own_vl c1) = (0 : Int32) then (0 : Int32) else (if (own_vl c2) = (0 : Int32) then (0 : Int32) else (if (own_vl c3) = (0 : Int32) then (0 : Int32) else (1 : Int32))))))])) t → Steps p.tables e below (T120.setTop (mkF m 238 #[.val (.int i0), .val (.int i1), .val (.int i2), .val (.int i3), .val (.int i4), .val (.int c0), .val (.int c1), .val (.int c2), .val (.int c3), .val (.int (own_vl c0)), .val (.int (own_vl c1)), .val (.int (own_vl c2)), .val (.int (own_vl c3)), .val (.int (5 : Int32)), .val (.ref b120), .unset] [(.int (own_vl c0))])) t := by
      intro t k0
      by_cases hm122 : (own_vl c0) = (0 : Int32)
      · skip
        refine XS.ifYes X120.here hx rfl (pc0 := 238) (pc' := 260) rfl (hb hby at_238) rfl ((if0 _ _).trans (teq hm122).1) (by decide) (by decide) ?_
        show Steps p.tables e below (T120.setTop (mkF m 260 #[.val (.int i0), .val (.int i1), .val (.int i2), .val (.int i3), .val (.int i4), .val (.int c0), .val (.int c1), .val (.int c2), .val (.int c3), .val (.int (own_vl c0)), .val (.int (own_vl c1)), .val (.int (own_vl c2)), .val (.int (own_vl c3)), .val (.int (5 : Int32)), .val (.ref b120), .unset] [])) _
        refine XS.iconst X120.here hx rfl (hb hby at_260) ?_
        show Steps p.tables e below (T120.setTop (mkF m 261 #[.val (.int i0), .val (.int i1), .val (.int i2), .val (.int i3), .val (.int i4), .val (.int c0), .val (.int c1), .val (.int c2), .val (.int c3), .val (.int (own_vl c0)), .val (.int (own_vl c1)), .val (.int (own_vl c2)), .val (.int (own_vl c3)), .val (.int (5 : Int32)), .val (.ref b120), .unset] [(.int (0 : Int32))])) _
        try simp only [if_pos hm122] at k0
        exact k0
      · skip
        refine XS.ifNo X120.here hx rfl (hb hby at_238) rfl ((if0 _ _).trans (feq hm122).1) ?_
        show Steps p.tables e below (T120.setTop (mkF m 241 #[.val (.int i0), .val (.int i1), .val (.int i2), .val (.int i3), .val (.int i4), .val (.int c0), .val (.int c1), .val (.int c2), .val (.int c3), .val (.int (own_vl c0)), .val (.int (own_vl c1)), .val (.int (own_vl c2)), .val (.int (own_vl c3)), .val (.int (5 : Int32)), .val (.ref b120), .unset] [])) _
        refine XS.iload X120.here hx rfl (hb hby at_241) rfl ?_
        show Steps p.tables e below (T120.setTop (mkF m 243 #[.val (.int i0), .val (.int i1), .val (.int i2), .val (.int i3), .val (.int i4), .val (.int c0), .val (.int c1), .val (.int c2), .val (.int c3), .val (.int (own_vl c0)), .val (.int (own_vl c1)), .val (.int (own_vl c2)), .val (.int (own_vl c3)), .val (.int (5 : Int32)), .val (.ref b120), .unset] [(.int (own_vl c1))])) _
        by_cases hm123 : (own_vl c1) = (0 : Int32)
        · skip
          refine XS.ifYes X120.here hx rfl (pc0 := 243) (pc' := 260) rfl (hb hby at_243) rfl ((if0 _ _).trans (teq hm123).1) (by decide) (by decide) ?_
          show Steps p.tables e below (T120.setTop (mkF m 260 #[.val (.int i0), .val (.int i1), .val (.int i2), .val (.int i3), .val (.int i4), .val (.int c0), .val (.int c1), .val (.int c2), .val (.int c3), .val (.int (own_vl c0)), .val (.int (own_vl c1)), .val (.int (own_vl c2)), .val (.int (own_vl c3)), .val (.int (5 : Int32)), .val (.ref b120), .unset] [])) _
          refine XS.iconst X120.here hx rfl (hb hby at_260) ?_
          show Steps p.tables e below (T120.setTop (mkF m 261 #[.val (.int i0), .val (.int i1), .val (.int i2), .val (.int i3), .val (.int i4), .val (.int c0), .val (.int c1), .val (.int c2), .val (.int c3), .val (.int (own_vl c0)), .val (.int (own_vl c1)), .val (.int (own_vl c2)), .val (.int (own_vl c3)), .val (.int (5 : Int32)), .val (.ref b120), .unset] [(.int (0 : Int32))])) _
          try simp only [if_neg hm122, if_pos hm123] at k0
          exact k0
        · skip
          refine XS.ifNo X120.here hx rfl (hb hby at_243) rfl ((if0 _ _).trans (feq hm123).1) ?_
          show Steps p.tables e below (T120.setTop (mkF m 246 #[.val (.int i0), .val (.int i1), .val (.int i2), .val (.int i3), .val (.int i4), .val (.int c0), .val (.int c1), .val (.int c2), .val (.int c3), .val (.int (own_vl c0)), .val (.int (own_vl c1)), .val (.int (own_vl c2)), .val (.int (own_vl c3)), .val (.int (5 : Int32)), .val (.ref b120), .unset] [])) _
          refine XS.iload X120.here hx rfl (hb hby at_246) rfl ?_
          show Steps p.tables e below (T120.setTop (mkF m 248 #[.val (.int i0), .val (.int i1), .val (.int i2), .val (.int i3), .val (.int i4), .val (.int c0), .val (.int c1), .val (.int c2), .val (.int c3), .val (.int (own_vl c0)), .val (.int (own_vl c1)), .val (.int (own_vl c2)), .val (.int (own_vl c3)), .val (.int (5 : Int32)), .val (.ref b120), .unset] [(.int (own_vl c2))])) _
          by_cases hm124 : (own_vl c2) = (0 : Int32)
          · skip
            refine XS.ifYes X120.here hx rfl (pc0 := 248) (pc' := 260) rfl (hb hby at_248) rfl ((if0 _ _).trans (teq hm124).1) (by decide) (by decide) ?_
            show Steps p.tables e below (T120.setTop (mkF m 260 #[.val (.int i0), .val (.int i1), .val (.int i2), .val (.int i3), .val (.int i4), .val (.int c0), .val (.int c1), .val (.int c2), .val (.int c3), .val (.int (own_vl c0)), .val (.int (own_vl c1)), .val (.int (own_vl c2)), .val (.int (own_vl c3)), .val (.int (5 : Int32)), .val (.ref b120), .unset] [])) _
            refine XS.iconst X120.here hx rfl (hb hby at_260) ?_
            show Steps p.tables e below (T120.setTop (mkF m 261 #[.val (.int i0), .val (.int i1), .val (.int i2), .val (.int i3), .val (.int i4), .val (.int c0), .val (.int c1), .val (.int c2), .val (.int c3), .val (.int (own_vl c0)), .val (.int (own_vl c1)), .val (.int (own_vl c2)), .val (.int (own_vl c3)), .val (.int (5 : Int32)), .val (.ref b120), .unset] [(.int (0 : Int32))])) _
            try simp only [if_neg hm122, if_neg hm123, if_pos hm124] at k0
            exact k0
          · skip
            refine XS.ifNo X120.here hx rfl (hb hby at_248) rfl ((if0 _ _).trans (feq hm124).1) ?_
            show Steps p.tables e below (T120.setTop (mkF m 251 #[.val (.int i0), .val (.int i1), .val (.int i2), .val (.int i3), .val (.int i4), .val (.int c0), .val (.int c1), .val (.int c2), .val (.int c3), .val (.int (own_vl c0)), .val (.int (own_vl c1)), .val (.int (own_vl c2)), .val (.int (own_vl c3)), .val (.int (5 : Int32)), .val (.ref b120), .unset] [])) _
            refine XS.iload X120.here hx rfl (hb hby at_251) rfl ?_
            show Steps p.tables e below (T120.setTop (mkF m 253 #[.val (.int i0), .val (.int i1), .val (.int i2), .val (.int i3), .val (.int i4), .val (.int c0), .val (.int c1), .val (.int c2), .val (.int c3), .val (.int (own_vl c0)), .val (.int (own_vl c1)), .val (.int (own_vl c2)), .val (.int (own_vl c3)), .val (.int (5 : Int32)), .val (.ref b120), .unset] [(.int (own_vl c3))])) _
            by_cases hm125 : (own_vl c3) = (0 : Int32)
            · skip
              refine XS.ifYes X120.here hx rfl (pc0 := 253) (pc' := 260) rfl (hb hby at_253) rfl ((if0 _ _).trans (teq hm125).1) (by decide) (by decide) ?_
              show Steps p.tables e below (T120.setTop (mkF m 260 #[.val (.int i0), .val (.int i1), .val (.int i2), .val (.int i3), .val (.int i4), .val (.int c0), .val (.int c1), .val (.int c2), .val (.int c3), .val (.int (own_vl c0)), .val (.int (own_vl c1)), .val (.int (own_vl c2)), .val (.int (own_vl c3)), .val (.int (5 : Int32)), .val (.ref b120), .unset] [])) _
              refine XS.iconst X120.here hx rfl (hb hby at_260) ?_
              show Steps p.tables e below (T120.setTop (mkF m 261 #[.val (.int i0), .val (.int i1), .val (.int i2), .val (.int i3), .val (.int i4), .val (.int c0), .val (.int c1), .val (.int c2), .val (.int c3), .val (.int (own_vl c0)), .val (.int (own_vl c1)), .val (.int (own_vl c2)), .val (.int (own_vl c3)), .val (.int (5 : Int32)), .val (.ref b120), .unset] [(.int (0 : Int32))])) _
              try simp only [if_neg hm122, if_neg hm123, if_neg hm124, if_pos hm125] at k0
              exact k0
            · skip
              refine XS.ifNo X120.here hx rfl (hb hby at_253) rfl ((if0 _ _).trans (feq hm125).1) ?_
              show Steps p.tables e below (T120.setTop (mkF m 256 #[.val (.int i0), .val (.int i1), .val (.int i2), .val (.int i3), .val (.int i4), .val (.int c0), .val (.int c1), .val (.int c2), .val (.int c3), .val (.int (own_vl c0)), .val (.int (own_vl c1)), .val (.int (own_vl c2)), .val (.int (own_vl c3)), .val (.int (5 : Int32)), .val (.ref b120), .unset] [])) _
              refine XS.iconst X120.here hx rfl (hb hby at_256) ?_
              show Steps p.tables e below (T120.setTop (mkF m 257 #[.val (.int i0), .val (.int i1), .val (.int i2), .val (.int i3), .val (.int i4), .val (.int c0), .val (.int c1), .val (.int c2), .val (.int c3), .val (.int (own_vl c0)), .val (.int (own_vl c1)), .val (.int (own_vl c2)), .val (.int (own_vl c3)), .val (.int (5 : Int32)), .val (.ref b120), .unset] [(.int (1 : Int32))])) _
              refine XS.goto X120.here hx rfl (pc0 := 257) (pc' := 261) rfl (hb hby at_257) (by decide) (by decide) ?_
              show Steps p.tables e below (T120.setTop (mkF m 261 #[.val (.int i0), .val (.int i1), .val (.int i2), .val (.int i3), .val (.int i4), .val (.int c0), .val (.int c1), .val (.int c2), .val (.int c3), .val (.int (own_vl c0)), .val (.int (own_vl c1)), .val (.int (own_vl c2)), .val (.int (own_vl c3)), .val (.int (5 : Int32)), .val (.ref b120), .unset] [(.int (1 : Int32))])) _
              try simp only [if_neg hm122, if_neg hm123, if_neg hm124, if_neg hm125] at k0
              exact k0
    refine own_by mg126 ?_
    obtain ⟨ex, hex⟩ : ∃ z : Int32, z = (if (own_vl c0) = (0 : Int32) then (0 : Int32) else (if (own_vl c1) = (0 : Int32) then (0 : Int32) else (if (own_vl c2) = (0 : Int32) then (0 : Int32) else (if (own_vl c3) = (0 : Int32) then (0 : Int32) else (1 : Int32))))) := ⟨_, rfl⟩
    rw [← hex]
    show own_Go p e below _ T120 (mkF m 261 #[.val (.int i0), .val (.int i1), .val (.int i2), .val (.int i3), .val (.int i4), .val (.int c0), .val (.int c1), .val (.int c2), .val (.int c3), .val (.int (own_vl c0)), .val (.int (own_vl c1)), .val (.int (own_vl c2)), .val (.int (own_vl c3)), .val (.int (5 : Int32)), .val (.ref b120), .unset] [(.int ex)])
    refine own_by (T' := T120) (f' := (mkF m 263 #[.val (.int i0), .val (.int i1), .val (.int i2), .val (.int i3), .val (.int i4), .val (.int c0), .val (.int c1), .val (.int c2), .val (.int c3), .val (.int (own_vl c0)), .val (.int (own_vl c1)), .val (.int (own_vl c2)), .val (.int (own_vl c3)), .val (.int (5 : Int32)), .val (.ref b120), .val (.int ex)] [])) (fun t k => XS.istore X120.here hx rfl (hb hby at_261) rfl (l' := #[.val (.int i0), .val (.int i1), .val (.int i2), .val (.int i3), .val (.int i4), .val (.int c0), .val (.int c1), .val (.int c2), .val (.int c3), .val (.int (own_vl c0)), .val (.int (own_vl c1)), .val (.int (own_vl c2)), .val (.int (own_vl c3)), .val (.int (5 : Int32)), .val (.ref b120), .val (.int ex)]) rfl k) ?_
    refine own_by (T' := T120) (f' := (mkF m 282 #[.val (.int i0), .val (.int i1), .val (.int i2), .val (.int i3), .val (.int i4), .val (.int c0), .val (.int c1), .val (.int c2), .val (.int c3), .val (.int (own_vl c0)), .val (.int (own_vl c1)), .val (.int (own_vl c2)), .val (.int (own_vl c3)), .val (.int (5 : Int32)), .val (.ref b120), .val (.int ex)] [])) (fun t k => XS.goto X120.here hx rfl (pc0 := 263) (pc' := 282) rfl (hb hby at_263) (by decide) (by decide) k) ?_
    refine own_new X120 hx hZ hown rfl (hb hby at_282) (hw _ (List.mem_of_getElem? (i := 5) rfl)) (hw _ (List.mem_of_getElem? (i := 6) rfl)) (hw _ (List.mem_of_getElem? (i := 7) rfl)) (by decide) (by decide) ?_
    intro T127 h127 b127 X127 e127 g127 E127 A127 D127
    have ne127_b120 : b120 ≠ b127 := Nat.ne_of_lt (by rw [g127]; exact B120.lt)
    have gn127 : n0 ≤ b127 := by rw [g127]; exact sz121
    show own_Go p e below _ T127 (mkF m 285 #[.val (.int i0), .val (.int i1), .val (.int i2), .val (.int i3), .val (.int i4), .val (.int c0), .val (.int c1), .val (.int c2), .val (.int c3), .val (.int (own_vl c0)), .val (.int (own_vl c1)), .val (.int (own_vl c2)), .val (.int (own_vl c3)), .val (.int (5 : Int32)), .val (.ref b120), .val (.int ex)] [(.ref b127)])
    have S_b127 := Safe.ext E127 CH.1 (Safe.new (Nat.le_of_eq g127.symm))
    have hk := Nat.le_trans hk E127.1
    have CH := CH.trans (CHr.ext E127 CH.1)
    have F127_value : Fld Z h127 b127 "java/lang/String" "value" "[B" .null := D127 (Or.inr (hw _ (List.mem_of_getElem? (i := 20) rfl))) (ty := (.array .byte)) (by decide)
    have F127_coder : Fld Z h127 b127 "java/lang/String" "coder" "B" (.int (0 : Int32)) := D127 (Or.inr (hw _ (List.mem_of_getElem? (i := 21) rfl))) (ty := .byte) (by decide)
    have sz128 : n0 ≤ h127.size := Nat.le_trans sz121 E127.1
    refine own_by (T' := T127) (f' := (mkF m 286 #[.val (.int i0), .val (.int i1), .val (.int i2), .val (.int i3), .val (.int i4), .val (.int c0), .val (.int c1), .val (.int c2), .val (.int c3), .val (.int (own_vl c0)), .val (.int (own_vl c1)), .val (.int (own_vl c2)), .val (.int (own_vl c3)), .val (.int (5 : Int32)), .val (.ref b120), .val (.int ex)] [(.ref b127), (.ref b127)])) (fun t k => XS.dup X127.here hx rfl (hb hby at_285) rfl rfl k) ?_
    refine own_by (T' := T127) (f' := (mkF m 288 #[.val (.int i0), .val (.int i1), .val (.int i2), .val (.int i3), .val (.int i4), .val (.int c0), .val (.int c1), .val (.int c2), .val (.int c3), .val (.int (own_vl c0)), .val (.int (own_vl c1)), .val (.int (own_vl c2)), .val (.int (own_vl c3)), .val (.int (5 : Int32)), .val (.ref b120), .val (.int ex)] [(.ref b120), (.ref b127), (.ref b127)])) (fun t k => XS.aload X127.here hx rfl (hb hby at_286) rfl rfl k) ?_
    have q129 : ∀ x ∈ [b127], ∃ c : Cell, h127[x]? = some c ∧ c.vm.isStatics = false := (allS (own_ns A127) all0)
    have f130 := (B120.ext E127)
    have f131 := ((ST.keep K120 all0).ext E127)
    refine own_callN X127 hx hZ hown e127 (hb hby at_288) [(.ref b120)] [(.ref b127)] 1 (rmI1 l Z a0 hw [] b127 b120 (64 : Int32) 64 (own_pt 63 c0 c1 c2 c3) _ _ cs fm h127 n0 sz128 gn127 (by decide) (by decide) (by decide) (fun i _ => own_pt_rng hc0 hc1 hc2 hc3 i) f130 ne127_b120 A127 F127_value F127_coder f131) (hw _ (List.mem_of_getElem? (i := 8) rfl)) (hw _ (List.mem_of_getElem? (i := 9) rfl)) (hw _ (List.mem_of_getElem? (i := 7) rfl)) (hw _ (List.mem_of_getElem? (i := 10) rfl)) rfl (by decide) pd___C_V (by rw [hml]; rfl) rfl rfl (Nat.le_of_eq rfl) (by decide) (by decide) (by decide) (by decide) ?_
    rintro T132 _ L132 X132 ⟨rfl, N132q, K132, Q132⟩
    show own_Go p e below _ T132 (mkF m 291 #[.val (.int i0), .val (.int i1), .val (.int i2), .val (.int i3), .val (.int i4), .val (.int c0), .val (.int c1), .val (.int c2), .val (.int c3), .val (.int (own_vl c0)), .val (.int (own_vl c1)), .val (.int (own_vl c2)), .val (.int (own_vl c3)), .val (.int (5 : Int32)), .val (.ref b120), .val (.int ex)] [(.ref b127)])
    have S_b127' := Safe.keep K132 (allS S_b127 all0) CH.1 S_b127
    have hk := Nat.le_trans hk K132.1
    have CH := CH.trans (CHr.keep K132 (allS S_b127 all0) CH.1)
    have S_b127 := S_b127'
    have N132 := Fr.app N120 N132q
    have sz133 : n0 ≤ T132.heap.size := Nat.le_trans sz128 K132.1
    have f134 := (f131.keep K132 q129)
    have lt135 := Q132.2.2.1.lt
    refine own_callSW X132 hx hZ hown rfl (hb hby at_291) hS hk hEL CH [(.ref b127)] [] 0 (rmID l Z a0 hw [] b127 (64 : Int32) 64 (own_pt 63 c0 c1 c2 c3) cs fm T132.heap (by decide) (by decide) Q132 f134) (hw _ (List.mem_of_getElem? (i := 26) rfl)) (hw _ (List.mem_of_getElem? (i := 27) rfl)) (hw _ (List.mem_of_getElem? (i := 28) rfl)) (hw _ (List.mem_of_getElem? (i := 29) rfl)) (by decide) pd__Ljava_lang_String__Z (by rw [hml]; rfl) rfl rfl (Nat.le_of_eq rfl) (by decide) (by decide) (by decide) (by decide) ?_
    rintro T136 _ L136 X136 hS hk hZ hown hW136 CHs136 CH ⟨r136, rfl, hr136, rfl⟩
    show own_Go p e below _ T136 (mkF m 294 #[.val (.int i0), .val (.int i1), .val (.int i2), .val (.int i3), .val (.int i4), .val (.int c0), .val (.int c1), .val (.int c2), .val (.int c3), .val (.int (own_vl c0)), .val (.int (own_vl c1)), .val (.int (own_vl c2)), .val (.int (own_vl c3)), .val (.int (5 : Int32)), .val (.ref b120), .val (.int ex)] [(.int r136)])
    have S_b127 := CHr.safe CHs136 lt135 S_b127
    rw [List.append_nil] at X136
    refine own_by (T' := T136) (f' := (mkF m 296 #[.val (.int i0), .val (.int i1), .val (.int i2), .val (.int i3), .val (.int i4), .val (.int c0), .val (.int c1), .val (.int c2), .val (.int c3), .val (.int (own_vl c0)), .val (.int (own_vl c1)), .val (.int (own_vl c2)), .val (.int (own_vl c3)), .val (.int (5 : Int32)), .val (.ref b120), .val (.int ex)] [(.int ex), (.int r136)])) (fun t k => XS.iload X136.here hx rfl (hb hby at_294) rfl k) ?_
    have hc296_137 : r136 = ex := by rw [hex]; exact own_lw64 (a := c0) (b := c1) (c := c2) (g := c3) hr136 (own_vc_vl _ hc0) (own_vc_vl _ hc1) (own_vc_vl _ hc2) (own_vc_vl _ hc3)
    refine own_by (T' := T136) (f' := (mkF m 299 #[.val (.int i0), .val (.int i1), .val (.int i2), .val (.int i3), .val (.int i4), .val (.int c0), .val (.int c1), .val (.int c2), .val (.int c3), .val (.int (own_vl c0)), .val (.int (own_vl c1)), .val (.int (own_vl c2)), .val (.int (own_vl c3)), .val (.int (5 : Int32)), .val (.ref b120), .val (.int ex)] [])) (fun t k => XS.icmpNo X136.here hx rfl (hb hby at_296) rfl (teq hc296_137).2 k) ?_
    refine own_by (T' := T136) (f' := (mkF m 300 #[.val (.int i0), .val (.int i1), .val (.int i2), .val (.int i3), .val (.int i4), .val (.int c0), .val (.int c1), .val (.int c2), .val (.int c3), .val (.int (own_vl c0)), .val (.int (own_vl c1)), .val (.int (own_vl c2)), .val (.int (own_vl c3)), .val (.int (5 : Int32)), .val (.ref b120), .val (.int ex)] [(.int (1 : Int32))])) (fun t k => XS.iconst X136.here hx rfl (hb hby at_299) k) ?_
    refine own_by (T' := T136) (f' := (mkF m 304 #[.val (.int i0), .val (.int i1), .val (.int i2), .val (.int i3), .val (.int i4), .val (.int c0), .val (.int c1), .val (.int c2), .val (.int c3), .val (.int (own_vl c0)), .val (.int (own_vl c1)), .val (.int (own_vl c2)), .val (.int (own_vl c3)), .val (.int (5 : Int32)), .val (.ref b120), .val (.int ex)] [(.int (1 : Int32))])) (fun t k => XS.goto X136.here hx rfl (pc0 := 300) (pc' := 304) rfl (hb hby at_300) (by decide) (by decide) k) ?_
    refine own_retW X136 hx hret hlk hZ hEL hs0 rfl hS hk CH (hb hby at_304) rfl (Or.inl ⟨rfl, Or.inr (Or.inl rfl), _, rfl⟩) (by decide) (by decide) ?_
    exact ⟨rfl, N132⟩
  · rw [hl]
    show own_Go p e below _ T14 (mkF m 49 #[.val (.int i0), .val (.int i1), .val (.int i2), .val (.int i3), .val (.int i4), .val (.int c0), .val (.int c1), .val (.int c2), .val (.int c3), .val (.int (own_vl c0)), .val (.int (own_vl c1)), .val (.int (own_vl c2)), .val (.int (own_vl c3)), .unset, .unset, .unset] [(.int (6 : Int32))])
    refine own_by (T' := T14) (f' := (mkF m 51 #[.val (.int i0), .val (.int i1), .val (.int i2), .val (.int i3), .val (.int i4), .val (.int c0), .val (.int c1), .val (.int c2), .val (.int c3), .val (.int (own_vl c0)), .val (.int (own_vl c1)), .val (.int (own_vl c2)), .val (.int (own_vl c3)), .val (.int (6 : Int32)), .unset, .unset] [])) (fun t k => XS.istore X14.here hx rfl (hb hby at_49) rfl (l' := #[.val (.int i0), .val (.int i1), .val (.int i2), .val (.int i3), .val (.int i4), .val (.int c0), .val (.int c1), .val (.int c2), .val (.int c3), .val (.int (own_vl c0)), .val (.int (own_vl c1)), .val (.int (own_vl c2)), .val (.int (own_vl c3)), .val (.int (6 : Int32)), .unset, .unset]) rfl k) ?_
    refine own_by (T' := T14) (f' := (mkF m 53 #[.val (.int i0), .val (.int i1), .val (.int i2), .val (.int i3), .val (.int i4), .val (.int c0), .val (.int c1), .val (.int c2), .val (.int c3), .val (.int (own_vl c0)), .val (.int (own_vl c1)), .val (.int (own_vl c2)), .val (.int (own_vl c3)), .val (.int (6 : Int32)), .unset, .unset] [(.int (6 : Int32))])) (fun t k => XS.iload X14.here hx rfl (hb hby at_51) rfl k) ?_
    refine own_by (T' := T14) (f' := (mkF m 67 #[.val (.int i0), .val (.int i1), .val (.int i2), .val (.int i3), .val (.int i4), .val (.int c0), .val (.int c1), .val (.int c2), .val (.int c3), .val (.int (own_vl c0)), .val (.int (own_vl c1)), .val (.int (own_vl c2)), .val (.int (own_vl c3)), .val (.int (6 : Int32)), .unset, .unset] [])) (fun t k => XS.ifYes X14.here hx rfl (pc0 := 53) (pc' := 67) rfl (hb hby at_53) rfl ((if0 _ _).trans (feq (by decide)).2) (by decide) (by decide) k) ?_
    refine own_by (T' := T14) (f' := (mkF m 69 #[.val (.int i0), .val (.int i1), .val (.int i2), .val (.int i3), .val (.int i4), .val (.int c0), .val (.int c1), .val (.int c2), .val (.int c3), .val (.int (own_vl c0)), .val (.int (own_vl c1)), .val (.int (own_vl c2)), .val (.int (own_vl c3)), .val (.int (6 : Int32)), .unset, .unset] [(.int (6 : Int32))])) (fun t k => XS.iload X14.here hx rfl (hb hby at_67) rfl k) ?_
    refine own_by (T' := T14) (f' := (mkF m 70 #[.val (.int i0), .val (.int i1), .val (.int i2), .val (.int i3), .val (.int i4), .val (.int c0), .val (.int c1), .val (.int c2), .val (.int c3), .val (.int (own_vl c0)), .val (.int (own_vl c1)), .val (.int (own_vl c2)), .val (.int (own_vl c3)), .val (.int (6 : Int32)), .unset, .unset] [(.int (1 : Int32)), (.int (6 : Int32))])) (fun t k => XS.iconst X14.here hx rfl (hb hby at_69) k) ?_
    refine own_by (T' := T14) (f' := (mkF m 105 #[.val (.int i0), .val (.int i1), .val (.int i2), .val (.int i3), .val (.int i4), .val (.int c0), .val (.int c1), .val (.int c2), .val (.int c3), .val (.int (own_vl c0)), .val (.int (own_vl c1)), .val (.int (own_vl c2)), .val (.int (own_vl c3)), .val (.int (6 : Int32)), .unset, .unset] [])) (fun t k => XS.icmpYes X14.here hx rfl (pc0 := 70) (pc' := 105) rfl (hb hby at_70) rfl (feq (by decide)).2 (by decide) (by decide) k) ?_
    refine own_by (T' := T14) (f' := (mkF m 107 #[.val (.int i0), .val (.int i1), .val (.int i2), .val (.int i3), .val (.int i4), .val (.int c0), .val (.int c1), .val (.int c2), .val (.int c3), .val (.int (own_vl c0)), .val (.int (own_vl c1)), .val (.int (own_vl c2)), .val (.int (own_vl c3)), .val (.int (6 : Int32)), .unset, .unset] [(.int (6 : Int32))])) (fun t k => XS.iload X14.here hx rfl (hb hby at_105) rfl k) ?_
    refine own_by (T' := T14) (f' := (mkF m 108 #[.val (.int i0), .val (.int i1), .val (.int i2), .val (.int i3), .val (.int i4), .val (.int c0), .val (.int c1), .val (.int c2), .val (.int c3), .val (.int (own_vl c0)), .val (.int (own_vl c1)), .val (.int (own_vl c2)), .val (.int (own_vl c3)), .val (.int (6 : Int32)), .unset, .unset] [(.int (2 : Int32)), (.int (6 : Int32))])) (fun t k => XS.iconst X14.here hx rfl (hb hby at_107) k) ?_
    refine own_by (T' := T14) (f' := (mkF m 160 #[.val (.int i0), .val (.int i1), .val (.int i2), .val (.int i3), .val (.int i4), .val (.int c0), .val (.int c1), .val (.int c2), .val (.int c3), .val (.int (own_vl c0)), .val (.int (own_vl c1)), .val (.int (own_vl c2)), .val (.int (own_vl c3)), .val (.int (6 : Int32)), .unset, .unset] [])) (fun t k => XS.icmpYes X14.here hx rfl (pc0 := 108) (pc' := 160) rfl (hb hby at_108) rfl (feq (by decide)).2 (by decide) (by decide) k) ?_
    refine own_by (T' := T14) (f' := (mkF m 162 #[.val (.int i0), .val (.int i1), .val (.int i2), .val (.int i3), .val (.int i4), .val (.int c0), .val (.int c1), .val (.int c2), .val (.int c3), .val (.int (own_vl c0)), .val (.int (own_vl c1)), .val (.int (own_vl c2)), .val (.int (own_vl c3)), .val (.int (6 : Int32)), .unset, .unset] [(.int (6 : Int32))])) (fun t k => XS.iload X14.here hx rfl (hb hby at_160) rfl k) ?_
    refine own_by (T' := T14) (f' := (mkF m 163 #[.val (.int i0), .val (.int i1), .val (.int i2), .val (.int i3), .val (.int i4), .val (.int c0), .val (.int c1), .val (.int c2), .val (.int c3), .val (.int (own_vl c0)), .val (.int (own_vl c1)), .val (.int (own_vl c2)), .val (.int (own_vl c3)), .val (.int (6 : Int32)), .unset, .unset] [(.int (3 : Int32)), (.int (6 : Int32))])) (fun t k => XS.iconst X14.here hx rfl (hb hby at_162) k) ?_
    refine own_by (T' := T14) (f' := (mkF m 211 #[.val (.int i0), .val (.int i1), .val (.int i2), .val (.int i3), .val (.int i4), .val (.int c0), .val (.int c1), .val (.int c2), .val (.int c3), .val (.int (own_vl c0)), .val (.int (own_vl c1)), .val (.int (own_vl c2)), .val (.int (own_vl c3)), .val (.int (6 : Int32)), .unset, .unset] [])) (fun t k => XS.icmpYes X14.here hx rfl (pc0 := 163) (pc' := 211) rfl (hb hby at_163) rfl (feq (by decide)).2 (by decide) (by decide) k) ?_
    refine own_by (T' := T14) (f' := (mkF m 213 #[.val (.int i0), .val (.int i1), .val (.int i2), .val (.int i3), .val (.int i4), .val (.int c0), .val (.int c1), .val (.int c2), .val (.int c3), .val (.int (own_vl c0)), .val (.int (own_vl c1)), .val (.int (own_vl c2)), .val (.int (own_vl c3)), .val (.int (6 : Int32)), .unset, .unset] [(.int (6 : Int32))])) (fun t k => XS.iload X14.here hx rfl (hb hby at_211) rfl k) ?_
    refine own_by (T' := T14) (f' := (mkF m 214 #[.val (.int i0), .val (.int i1), .val (.int i2), .val (.int i3), .val (.int i4), .val (.int c0), .val (.int c1), .val (.int c2), .val (.int c3), .val (.int (own_vl c0)), .val (.int (own_vl c1)), .val (.int (own_vl c2)), .val (.int (own_vl c3)), .val (.int (6 : Int32)), .unset, .unset] [(.int (4 : Int32)), (.int (6 : Int32))])) (fun t k => XS.iconst X14.here hx rfl (hb hby at_213) k) ?_
    refine own_by (T' := T14) (f' := (mkF m 217 #[.val (.int i0), .val (.int i1), .val (.int i2), .val (.int i3), .val (.int i4), .val (.int c0), .val (.int c1), .val (.int c2), .val (.int c3), .val (.int (own_vl c0)), .val (.int (own_vl c1)), .val (.int (own_vl c2)), .val (.int (own_vl c3)), .val (.int (6 : Int32)), .unset, .unset] [])) (fun t k => XS.icmpNo X14.here hx rfl (hb hby at_214) rfl (feq (by decide)).1 k) ?_
    refine own_by (T' := T14) (f' := (mkF m 219 #[.val (.int i0), .val (.int i1), .val (.int i2), .val (.int i3), .val (.int i4), .val (.int c0), .val (.int c1), .val (.int c2), .val (.int c3), .val (.int (own_vl c0)), .val (.int (own_vl c1)), .val (.int (own_vl c2)), .val (.int (own_vl c3)), .val (.int (6 : Int32)), .unset, .unset] [(.int (6 : Int32))])) (fun t k => XS.iload X14.here hx rfl (hb hby at_217) rfl k) ?_
    refine own_by (T' := T14) (f' := (mkF m 220 #[.val (.int i0), .val (.int i1), .val (.int i2), .val (.int i3), .val (.int i4), .val (.int c0), .val (.int c1), .val (.int c2), .val (.int c3), .val (.int (own_vl c0)), .val (.int (own_vl c1)), .val (.int (own_vl c2)), .val (.int (own_vl c3)), .val (.int (6 : Int32)), .unset, .unset] [(.int (5 : Int32)), (.int (6 : Int32))])) (fun t k => XS.iconst X14.here hx rfl (hb hby at_219) k) ?_
    refine own_by (T' := T14) (f' := (mkF m 266 #[.val (.int i0), .val (.int i1), .val (.int i2), .val (.int i3), .val (.int i4), .val (.int c0), .val (.int c1), .val (.int c2), .val (.int c3), .val (.int (own_vl c0)), .val (.int (own_vl c1)), .val (.int (own_vl c2)), .val (.int (own_vl c3)), .val (.int (6 : Int32)), .unset, .unset] [])) (fun t k => XS.icmpYes X14.here hx rfl (pc0 := 220) (pc' := 266) rfl (hb hby at_220) rfl (feq (by decide)).2 (by decide) (by decide) k) ?_
    refine own_by (T' := T14) (f' := (mkF m 268 #[.val (.int i0), .val (.int i1), .val (.int i2), .val (.int i3), .val (.int i4), .val (.int c0), .val (.int c1), .val (.int c2), .val (.int c3), .val (.int (own_vl c0)), .val (.int (own_vl c1)), .val (.int (own_vl c2)), .val (.int (own_vl c3)), .val (.int (6 : Int32)), .unset, .unset] [(.int c0)])) (fun t k => XS.iload X14.here hx rfl (hb hby at_266) rfl k) ?_
    refine own_by (T' := T14) (f' := (mkF m 270 #[.val (.int i0), .val (.int i1), .val (.int i2), .val (.int i3), .val (.int i4), .val (.int c0), .val (.int c1), .val (.int c2), .val (.int c3), .val (.int (own_vl c0)), .val (.int (own_vl c1)), .val (.int (own_vl c2)), .val (.int (own_vl c3)), .val (.int (6 : Int32)), .unset, .unset] [(.int c1), (.int c0)])) (fun t k => XS.iload X14.here hx rfl (hb hby at_268) rfl k) ?_
    refine own_by (T' := T14) (f' := (mkF m 272 #[.val (.int i0), .val (.int i1), .val (.int i2), .val (.int i3), .val (.int i4), .val (.int c0), .val (.int c1), .val (.int c2), .val (.int c3), .val (.int (own_vl c0)), .val (.int (own_vl c1)), .val (.int (own_vl c2)), .val (.int (own_vl c3)), .val (.int (6 : Int32)), .unset, .unset] [(.int c2), (.int c1), (.int c0)])) (fun t k => XS.iload X14.here hx rfl (hb hby at_270) rfl k) ?_
    refine own_by (T' := T14) (f' := (mkF m 274 #[.val (.int i0), .val (.int i1), .val (.int i2), .val (.int i3), .val (.int i4), .val (.int c0), .val (.int c1), .val (.int c2), .val (.int c3), .val (.int (own_vl c0)), .val (.int (own_vl c1)), .val (.int (own_vl c2)), .val (.int (own_vl c3)), .val (.int (6 : Int32)), .unset, .unset] [(.int c3), (.int c2), (.int c1), (.int c0)])) (fun t k => XS.iload X14.here hx rfl (hb hby at_272) rfl k) ?_
    refine own_callS X14 hx hZ hown e14 (hb hby at_274) [(.int c0), (.int c1), (.int c2), (.int c3)] [] 0 (rm65 l Z a0 hw [] c0 c1 c2 c3 h0 n0 Z0 hc0 hc1 hc2 hc3) (hw _ (List.mem_of_getElem? (i := 89) rfl)) (hw _ (List.mem_of_getElem? (i := 90) rfl)) (hw _ (List.mem_of_getElem? (i := 2) rfl)) (hw _ (List.mem_of_getElem? (i := 91) rfl)) (by decide) pd__CCCC__C (by rw [hml]; rfl) rfl rfl (Nat.le_of_eq rfl) (by decide) (by decide) (by decide) (by decide) ?_
    rintro T138 _ L138 X138 ⟨b138, rfl, N138q, K138, gb138, B138⟩
    show own_Go p e below _ T138 (mkF m 277 #[.val (.int i0), .val (.int i1), .val (.int i2), .val (.int i3), .val (.int i4), .val (.int c0), .val (.int c1), .val (.int c2), .val (.int c3), .val (.int (own_vl c0)), .val (.int (own_vl c1)), .val (.int (own_vl c2)), .val (.int (own_vl c3)), .val (.int (6 : Int32)), .unset, .unset] [(.ref b138)])
    have N138 := Fr.app N0 N138q
    have hk := Nat.le_trans hk K138.1
    have CH := CH.trans (CHr.keep K138 all0 CH.1)
    have sz139 : n0 ≤ T138.heap.size := Nat.le_trans Z0 K138.1
    refine own_by (T' := T138) (f' := (mkF m 279 #[.val (.int i0), .val (.int i1), .val (.int i2), .val (.int i3), .val (.int i4), .val (.int c0), .val (.int c1), .val (.int c2), .val (.int c3), .val (.int (own_vl c0)), .val (.int (own_vl c1)), .val (.int (own_vl c2)), .val (.int (own_vl c3)), .val (.int (6 : Int32)), .val (.ref b138), .unset] [])) (fun t k => XS.astore X138.here hx rfl (hb hby at_277) rfl rfl (l' := #[.val (.int i0), .val (.int i1), .val (.int i2), .val (.int i3), .val (.int i4), .val (.int c0), .val (.int c1), .val (.int c2), .val (.int c3), .val (.int (own_vl c0)), .val (.int (own_vl c1)), .val (.int (own_vl c2)), .val (.int (own_vl c3)), .val (.int (6 : Int32)), .val (.ref b138), .unset]) rfl k) ?_
    refine own_by (T' := T138) (f' := (mkF m 280 #[.val (.int i0), .val (.int i1), .val (.int i2), .val (.int i3), .val (.int i4), .val (.int c0), .val (.int c1), .val (.int c2), .val (.int c3), .val (.int (own_vl c0)), .val (.int (own_vl c1)), .val (.int (own_vl c2)), .val (.int (own_vl c3)), .val (.int (6 : Int32)), .val (.ref b138), .unset] [(.int (0 : Int32))])) (fun t k => XS.iconst X138.here hx rfl (hb hby at_279) k) ?_
    refine own_by (T' := T138) (f' := (mkF m 282 #[.val (.int i0), .val (.int i1), .val (.int i2), .val (.int i3), .val (.int i4), .val (.int c0), .val (.int c1), .val (.int c2), .val (.int c3), .val (.int (own_vl c0)), .val (.int (own_vl c1)), .val (.int (own_vl c2)), .val (.int (own_vl c3)), .val (.int (6 : Int32)), .val (.ref b138), .val (.int (0 : Int32))] [])) (fun t k => XS.istore X138.here hx rfl (hb hby at_280) rfl (l' := #[.val (.int i0), .val (.int i1), .val (.int i2), .val (.int i3), .val (.int i4), .val (.int c0), .val (.int c1), .val (.int c2), .val (.int c3), .val (.int (own_vl c0)), .val (.int (own_vl c1)), .val (.int (own_vl c2)), .val (.int (own_vl c3)), .val (.int (6 : Int32)), .val (.ref b138), .val (.int (0 : Int32))]) rfl k) ?_
    refine own_new X138 hx hZ hown rfl (hb hby at_282) (hw _ (List.mem_of_getElem? (i := 5) rfl)) (hw _ (List.mem_of_getElem? (i := 6) rfl)) (hw _ (List.mem_of_getElem? (i := 7) rfl)) (by decide) (by decide) ?_
    intro T140 h140 b140 X140 e140 g140 E140 A140 D140
    have ne140_b138 : b138 ≠ b140 := Nat.ne_of_lt (by rw [g140]; exact B138.lt)
    have gn140 : n0 ≤ b140 := by rw [g140]; exact sz139
    show own_Go p e below _ T140 (mkF m 285 #[.val (.int i0), .val (.int i1), .val (.int i2), .val (.int i3), .val (.int i4), .val (.int c0), .val (.int c1), .val (.int c2), .val (.int c3), .val (.int (own_vl c0)), .val (.int (own_vl c1)), .val (.int (own_vl c2)), .val (.int (own_vl c3)), .val (.int (6 : Int32)), .val (.ref b138), .val (.int (0 : Int32))] [(.ref b140)])
    have S_b140 := Safe.ext E140 CH.1 (Safe.new (Nat.le_of_eq g140.symm))
    have hk := Nat.le_trans hk E140.1
    have CH := CH.trans (CHr.ext E140 CH.1)
    have F140_value : Fld Z h140 b140 "java/lang/String" "value" "[B" .null := D140 (Or.inr (hw _ (List.mem_of_getElem? (i := 20) rfl))) (ty := (.array .byte)) (by decide)
    have F140_coder : Fld Z h140 b140 "java/lang/String" "coder" "B" (.int (0 : Int32)) := D140 (Or.inr (hw _ (List.mem_of_getElem? (i := 21) rfl))) (ty := .byte) (by decide)
    have sz141 : n0 ≤ h140.size := Nat.le_trans sz139 E140.1
    refine own_by (T' := T140) (f' := (mkF m 286 #[.val (.int i0), .val (.int i1), .val (.int i2), .val (.int i3), .val (.int i4), .val (.int c0), .val (.int c1), .val (.int c2), .val (.int c3), .val (.int (own_vl c0)), .val (.int (own_vl c1)), .val (.int (own_vl c2)), .val (.int (own_vl c3)), .val (.int (6 : Int32)), .val (.ref b138), .val (.int (0 : Int32))] [(.ref b140), (.ref b140)])) (fun t k => XS.dup X140.here hx rfl (hb hby at_285) rfl rfl k) ?_
    refine own_by (T' := T140) (f' := (mkF m 288 #[.val (.int i0), .val (.int i1), .val (.int i2), .val (.int i3), .val (.int i4), .val (.int c0), .val (.int c1), .val (.int c2), .val (.int c3), .val (.int (own_vl c0)), .val (.int (own_vl c1)), .val (.int (own_vl c2)), .val (.int (own_vl c3)), .val (.int (6 : Int32)), .val (.ref b138), .val (.int (0 : Int32))] [(.ref b138), (.ref b140), (.ref b140)])) (fun t k => XS.aload X140.here hx rfl (hb hby at_286) rfl rfl k) ?_
    have q142 : ∀ x ∈ [b140], ∃ c : Cell, h140[x]? = some c ∧ c.vm.isStatics = false := (allS (own_ns A140) all0)
    have f143 := (B138.ext E140)
    have f144 := ((ST.keep K138 all0).ext E140)
    refine own_callN X140 hx hZ hown e140 (hb hby at_288) [(.ref b138)] [(.ref b140)] 1 (rmI1 l Z a0 hw [] b140 b138 (65 : Int32) 65 (own_pt 64 c0 c1 c2 c3) _ _ cs fm h140 n0 sz141 gn140 (by decide) (by decide) (by decide) (fun i _ => own_pt_rng hc0 hc1 hc2 hc3 i) f143 ne140_b138 A140 F140_value F140_coder f144) (hw _ (List.mem_of_getElem? (i := 8) rfl)) (hw _ (List.mem_of_getElem? (i := 9) rfl)) (hw _ (List.mem_of_getElem? (i := 7) rfl)) (hw _ (List.mem_of_getElem? (i := 10) rfl)) rfl (by decide) pd___C_V (by rw [hml]; rfl) rfl rfl (Nat.le_of_eq rfl) (by decide) (by decide) (by decide) (by decide) ?_
    rintro T145 _ L145 X145 ⟨rfl, N145q, K145, Q145⟩
    show own_Go p e below _ T145 (mkF m 291 #[.val (.int i0), .val (.int i1), .val (.int i2), .val (.int i3), .val (.int i4), .val (.int c0), .val (.int c1), .val (.int c2), .val (.int c3), .val (.int (own_vl c0)), .val (.int (own_vl c1)), .val (.int (own_vl c2)), .val (.int (own_vl c3)), .val (.int (6 : Int32)), .val (.ref b138), .val (.int (0 : Int32))] [(.ref b140)])
    have S_b140' := Safe.keep K145 (allS S_b140 all0) CH.1 S_b140
    have hk := Nat.le_trans hk K145.1
    have CH := CH.trans (CHr.keep K145 (allS S_b140 all0) CH.1)
    have S_b140 := S_b140'
    have N145 := Fr.app N138 N145q
    have sz146 : n0 ≤ T145.heap.size := Nat.le_trans sz141 K145.1
    have f147 := (f144.keep K145 q142)
    have lt148 := Q145.2.2.1.lt
    refine own_callSW X145 hx hZ hown rfl (hb hby at_291) hS hk hEL CH [(.ref b140)] [] 0 (rmID l Z a0 hw [] b140 (65 : Int32) 65 (own_pt 64 c0 c1 c2 c3) cs fm T145.heap (by decide) (by decide) Q145 f147) (hw _ (List.mem_of_getElem? (i := 26) rfl)) (hw _ (List.mem_of_getElem? (i := 27) rfl)) (hw _ (List.mem_of_getElem? (i := 28) rfl)) (hw _ (List.mem_of_getElem? (i := 29) rfl)) (by decide) pd__Ljava_lang_String__Z (by rw [hml]; rfl) rfl rfl (Nat.le_of_eq rfl) (by decide) (by decide) (by decide) (by decide) ?_
    rintro T149 _ L149 X149 hS hk hZ hown hW149 CHs149 CH ⟨r149, rfl, hr149, rfl⟩
    show own_Go p e below _ T149 (mkF m 294 #[.val (.int i0), .val (.int i1), .val (.int i2), .val (.int i3), .val (.int i4), .val (.int c0), .val (.int c1), .val (.int c2), .val (.int c3), .val (.int (own_vl c0)), .val (.int (own_vl c1)), .val (.int (own_vl c2)), .val (.int (own_vl c3)), .val (.int (6 : Int32)), .val (.ref b138), .val (.int (0 : Int32))] [(.int r149)])
    have S_b140 := CHr.safe CHs149 lt148 S_b140
    rw [List.append_nil] at X149
    refine own_by (T' := T149) (f' := (mkF m 296 #[.val (.int i0), .val (.int i1), .val (.int i2), .val (.int i3), .val (.int i4), .val (.int c0), .val (.int c1), .val (.int c2), .val (.int c3), .val (.int (own_vl c0)), .val (.int (own_vl c1)), .val (.int (own_vl c2)), .val (.int (own_vl c3)), .val (.int (6 : Int32)), .val (.ref b138), .val (.int (0 : Int32))] [(.int (0 : Int32)), (.int r149)])) (fun t k => XS.iload X149.here hx rfl (hb hby at_294) rfl k) ?_
    have hc296_150 : r149 = (0 : Int32) := own_lw65 hr149
    refine own_by (T' := T149) (f' := (mkF m 299 #[.val (.int i0), .val (.int i1), .val (.int i2), .val (.int i3), .val (.int i4), .val (.int c0), .val (.int c1), .val (.int c2), .val (.int c3), .val (.int (own_vl c0)), .val (.int (own_vl c1)), .val (.int (own_vl c2)), .val (.int (own_vl c3)), .val (.int (6 : Int32)), .val (.ref b138), .val (.int (0 : Int32))] [])) (fun t k => XS.icmpNo X149.here hx rfl (hb hby at_296) rfl (teq hc296_150).2 k) ?_
    refine own_by (T' := T149) (f' := (mkF m 300 #[.val (.int i0), .val (.int i1), .val (.int i2), .val (.int i3), .val (.int i4), .val (.int c0), .val (.int c1), .val (.int c2), .val (.int c3), .val (.int (own_vl c0)), .val (.int (own_vl c1)), .val (.int (own_vl c2)), .val (.int (own_vl c3)), .val (.int (6 : Int32)), .val (.ref b138), .val (.int (0 : Int32))] [(.int (1 : Int32))])) (fun t k => XS.iconst X149.here hx rfl (hb hby at_299) k) ?_
    refine own_by (T' := T149) (f' := (mkF m 304 #[.val (.int i0), .val (.int i1), .val (.int i2), .val (.int i3), .val (.int i4), .val (.int c0), .val (.int c1), .val (.int c2), .val (.int c3), .val (.int (own_vl c0)), .val (.int (own_vl c1)), .val (.int (own_vl c2)), .val (.int (own_vl c3)), .val (.int (6 : Int32)), .val (.ref b138), .val (.int (0 : Int32))] [(.int (1 : Int32))])) (fun t k => XS.goto X149.here hx rfl (pc0 := 300) (pc' := 304) rfl (hb hby at_300) (by decide) (by decide) k) ?_
    refine own_retW X149 hx hret hlk hZ hEL hs0 rfl hS hk CH (hb hby at_304) rfl (Or.inl ⟨rfl, Or.inr (Or.inl rfl), _, rfl⟩) (by decide) (by decide) ?_
    exact ⟨rfl, N145⟩
  · rw [hl]
    show own_Go p e below _ T14 (mkF m 49 #[.val (.int i0), .val (.int i1), .val (.int i2), .val (.int i3), .val (.int i4), .val (.int c0), .val (.int c1), .val (.int c2), .val (.int c3), .val (.int (own_vl c0)), .val (.int (own_vl c1)), .val (.int (own_vl c2)), .val (.int (own_vl c3)), .unset, .unset, .unset] [(.int (7 : Int32))])
    refine own_by (T' := T14) (f' := (mkF m 51 #[.val (.int i0), .val (.int i1), .val (.int i2), .val (.int i3), .val (.int i4), .val (.int c0), .val (.int c1), .val (.int c2), .val (.int c3), .val (.int (own_vl c0)), .val (.int (own_vl c1)), .val (.int (own_vl c2)), .val (.int (own_vl c3)), .val (.int (7 : Int32)), .unset, .unset] [])) (fun t k => XS.istore X14.here hx rfl (hb hby at_49) rfl (l' := #[.val (.int i0), .val (.int i1), .val (.int i2), .val (.int i3), .val (.int i4), .val (.int c0), .val (.int c1), .val (.int c2), .val (.int c3), .val (.int (own_vl c0)), .val (.int (own_vl c1)), .val (.int (own_vl c2)), .val (.int (own_vl c3)), .val (.int (7 : Int32)), .unset, .unset]) rfl k) ?_
    refine own_by (T' := T14) (f' := (mkF m 53 #[.val (.int i0), .val (.int i1), .val (.int i2), .val (.int i3), .val (.int i4), .val (.int c0), .val (.int c1), .val (.int c2), .val (.int c3), .val (.int (own_vl c0)), .val (.int (own_vl c1)), .val (.int (own_vl c2)), .val (.int (own_vl c3)), .val (.int (7 : Int32)), .unset, .unset] [(.int (7 : Int32))])) (fun t k => XS.iload X14.here hx rfl (hb hby at_51) rfl k) ?_
    refine own_by (T' := T14) (f' := (mkF m 67 #[.val (.int i0), .val (.int i1), .val (.int i2), .val (.int i3), .val (.int i4), .val (.int c0), .val (.int c1), .val (.int c2), .val (.int c3), .val (.int (own_vl c0)), .val (.int (own_vl c1)), .val (.int (own_vl c2)), .val (.int (own_vl c3)), .val (.int (7 : Int32)), .unset, .unset] [])) (fun t k => XS.ifYes X14.here hx rfl (pc0 := 53) (pc' := 67) rfl (hb hby at_53) rfl ((if0 _ _).trans (feq (by decide)).2) (by decide) (by decide) k) ?_
    refine own_by (T' := T14) (f' := (mkF m 69 #[.val (.int i0), .val (.int i1), .val (.int i2), .val (.int i3), .val (.int i4), .val (.int c0), .val (.int c1), .val (.int c2), .val (.int c3), .val (.int (own_vl c0)), .val (.int (own_vl c1)), .val (.int (own_vl c2)), .val (.int (own_vl c3)), .val (.int (7 : Int32)), .unset, .unset] [(.int (7 : Int32))])) (fun t k => XS.iload X14.here hx rfl (hb hby at_67) rfl k) ?_
    refine own_by (T' := T14) (f' := (mkF m 70 #[.val (.int i0), .val (.int i1), .val (.int i2), .val (.int i3), .val (.int i4), .val (.int c0), .val (.int c1), .val (.int c2), .val (.int c3), .val (.int (own_vl c0)), .val (.int (own_vl c1)), .val (.int (own_vl c2)), .val (.int (own_vl c3)), .val (.int (7 : Int32)), .unset, .unset] [(.int (1 : Int32)), (.int (7 : Int32))])) (fun t k => XS.iconst X14.here hx rfl (hb hby at_69) k) ?_
    refine own_by (T' := T14) (f' := (mkF m 105 #[.val (.int i0), .val (.int i1), .val (.int i2), .val (.int i3), .val (.int i4), .val (.int c0), .val (.int c1), .val (.int c2), .val (.int c3), .val (.int (own_vl c0)), .val (.int (own_vl c1)), .val (.int (own_vl c2)), .val (.int (own_vl c3)), .val (.int (7 : Int32)), .unset, .unset] [])) (fun t k => XS.icmpYes X14.here hx rfl (pc0 := 70) (pc' := 105) rfl (hb hby at_70) rfl (feq (by decide)).2 (by decide) (by decide) k) ?_
    refine own_by (T' := T14) (f' := (mkF m 107 #[.val (.int i0), .val (.int i1), .val (.int i2), .val (.int i3), .val (.int i4), .val (.int c0), .val (.int c1), .val (.int c2), .val (.int c3), .val (.int (own_vl c0)), .val (.int (own_vl c1)), .val (.int (own_vl c2)), .val (.int (own_vl c3)), .val (.int (7 : Int32)), .unset, .unset] [(.int (7 : Int32))])) (fun t k => XS.iload X14.here hx rfl (hb hby at_105) rfl k) ?_
    refine own_by (T' := T14) (f' := (mkF m 108 #[.val (.int i0), .val (.int i1), .val (.int i2), .val (.int i3), .val (.int i4), .val (.int c0), .val (.int c1), .val (.int c2), .val (.int c3), .val (.int (own_vl c0)), .val (.int (own_vl c1)), .val (.int (own_vl c2)), .val (.int (own_vl c3)), .val (.int (7 : Int32)), .unset, .unset] [(.int (2 : Int32)), (.int (7 : Int32))])) (fun t k => XS.iconst X14.here hx rfl (hb hby at_107) k) ?_
    refine own_by (T' := T14) (f' := (mkF m 160 #[.val (.int i0), .val (.int i1), .val (.int i2), .val (.int i3), .val (.int i4), .val (.int c0), .val (.int c1), .val (.int c2), .val (.int c3), .val (.int (own_vl c0)), .val (.int (own_vl c1)), .val (.int (own_vl c2)), .val (.int (own_vl c3)), .val (.int (7 : Int32)), .unset, .unset] [])) (fun t k => XS.icmpYes X14.here hx rfl (pc0 := 108) (pc' := 160) rfl (hb hby at_108) rfl (feq (by decide)).2 (by decide) (by decide) k) ?_
    refine own_by (T' := T14) (f' := (mkF m 162 #[.val (.int i0), .val (.int i1), .val (.int i2), .val (.int i3), .val (.int i4), .val (.int c0), .val (.int c1), .val (.int c2), .val (.int c3), .val (.int (own_vl c0)), .val (.int (own_vl c1)), .val (.int (own_vl c2)), .val (.int (own_vl c3)), .val (.int (7 : Int32)), .unset, .unset] [(.int (7 : Int32))])) (fun t k => XS.iload X14.here hx rfl (hb hby at_160) rfl k) ?_
    refine own_by (T' := T14) (f' := (mkF m 163 #[.val (.int i0), .val (.int i1), .val (.int i2), .val (.int i3), .val (.int i4), .val (.int c0), .val (.int c1), .val (.int c2), .val (.int c3), .val (.int (own_vl c0)), .val (.int (own_vl c1)), .val (.int (own_vl c2)), .val (.int (own_vl c3)), .val (.int (7 : Int32)), .unset, .unset] [(.int (3 : Int32)), (.int (7 : Int32))])) (fun t k => XS.iconst X14.here hx rfl (hb hby at_162) k) ?_
    refine own_by (T' := T14) (f' := (mkF m 211 #[.val (.int i0), .val (.int i1), .val (.int i2), .val (.int i3), .val (.int i4), .val (.int c0), .val (.int c1), .val (.int c2), .val (.int c3), .val (.int (own_vl c0)), .val (.int (own_vl c1)), .val (.int (own_vl c2)), .val (.int (own_vl c3)), .val (.int (7 : Int32)), .unset, .unset] [])) (fun t k => XS.icmpYes X14.here hx rfl (pc0 := 163) (pc' := 211) rfl (hb hby at_163) rfl (feq (by decide)).2 (by decide) (by decide) k) ?_
    refine own_by (T' := T14) (f' := (mkF m 213 #[.val (.int i0), .val (.int i1), .val (.int i2), .val (.int i3), .val (.int i4), .val (.int c0), .val (.int c1), .val (.int c2), .val (.int c3), .val (.int (own_vl c0)), .val (.int (own_vl c1)), .val (.int (own_vl c2)), .val (.int (own_vl c3)), .val (.int (7 : Int32)), .unset, .unset] [(.int (7 : Int32))])) (fun t k => XS.iload X14.here hx rfl (hb hby at_211) rfl k) ?_
    refine own_by (T' := T14) (f' := (mkF m 214 #[.val (.int i0), .val (.int i1), .val (.int i2), .val (.int i3), .val (.int i4), .val (.int c0), .val (.int c1), .val (.int c2), .val (.int c3), .val (.int (own_vl c0)), .val (.int (own_vl c1)), .val (.int (own_vl c2)), .val (.int (own_vl c3)), .val (.int (7 : Int32)), .unset, .unset] [(.int (4 : Int32)), (.int (7 : Int32))])) (fun t k => XS.iconst X14.here hx rfl (hb hby at_213) k) ?_
    refine own_by (T' := T14) (f' := (mkF m 217 #[.val (.int i0), .val (.int i1), .val (.int i2), .val (.int i3), .val (.int i4), .val (.int c0), .val (.int c1), .val (.int c2), .val (.int c3), .val (.int (own_vl c0)), .val (.int (own_vl c1)), .val (.int (own_vl c2)), .val (.int (own_vl c3)), .val (.int (7 : Int32)), .unset, .unset] [])) (fun t k => XS.icmpNo X14.here hx rfl (hb hby at_214) rfl (feq (by decide)).1 k) ?_
    refine own_by (T' := T14) (f' := (mkF m 219 #[.val (.int i0), .val (.int i1), .val (.int i2), .val (.int i3), .val (.int i4), .val (.int c0), .val (.int c1), .val (.int c2), .val (.int c3), .val (.int (own_vl c0)), .val (.int (own_vl c1)), .val (.int (own_vl c2)), .val (.int (own_vl c3)), .val (.int (7 : Int32)), .unset, .unset] [(.int (7 : Int32))])) (fun t k => XS.iload X14.here hx rfl (hb hby at_217) rfl k) ?_
    refine own_by (T' := T14) (f' := (mkF m 220 #[.val (.int i0), .val (.int i1), .val (.int i2), .val (.int i3), .val (.int i4), .val (.int c0), .val (.int c1), .val (.int c2), .val (.int c3), .val (.int (own_vl c0)), .val (.int (own_vl c1)), .val (.int (own_vl c2)), .val (.int (own_vl c3)), .val (.int (7 : Int32)), .unset, .unset] [(.int (5 : Int32)), (.int (7 : Int32))])) (fun t k => XS.iconst X14.here hx rfl (hb hby at_219) k) ?_
    refine own_by (T' := T14) (f' := (mkF m 266 #[.val (.int i0), .val (.int i1), .val (.int i2), .val (.int i3), .val (.int i4), .val (.int c0), .val (.int c1), .val (.int c2), .val (.int c3), .val (.int (own_vl c0)), .val (.int (own_vl c1)), .val (.int (own_vl c2)), .val (.int (own_vl c3)), .val (.int (7 : Int32)), .unset, .unset] [])) (fun t k => XS.icmpYes X14.here hx rfl (pc0 := 220) (pc' := 266) rfl (hb hby at_220) rfl (feq (by decide)).2 (by decide) (by decide) k) ?_
    refine own_by (T' := T14) (f' := (mkF m 268 #[.val (.int i0), .val (.int i1), .val (.int i2), .val (.int i3), .val (.int i4), .val (.int c0), .val (.int c1), .val (.int c2), .val (.int c3), .val (.int (own_vl c0)), .val (.int (own_vl c1)), .val (.int (own_vl c2)), .val (.int (own_vl c3)), .val (.int (7 : Int32)), .unset, .unset] [(.int c0)])) (fun t k => XS.iload X14.here hx rfl (hb hby at_266) rfl k) ?_
    refine own_by (T' := T14) (f' := (mkF m 270 #[.val (.int i0), .val (.int i1), .val (.int i2), .val (.int i3), .val (.int i4), .val (.int c0), .val (.int c1), .val (.int c2), .val (.int c3), .val (.int (own_vl c0)), .val (.int (own_vl c1)), .val (.int (own_vl c2)), .val (.int (own_vl c3)), .val (.int (7 : Int32)), .unset, .unset] [(.int c1), (.int c0)])) (fun t k => XS.iload X14.here hx rfl (hb hby at_268) rfl k) ?_
    refine own_by (T' := T14) (f' := (mkF m 272 #[.val (.int i0), .val (.int i1), .val (.int i2), .val (.int i3), .val (.int i4), .val (.int c0), .val (.int c1), .val (.int c2), .val (.int c3), .val (.int (own_vl c0)), .val (.int (own_vl c1)), .val (.int (own_vl c2)), .val (.int (own_vl c3)), .val (.int (7 : Int32)), .unset, .unset] [(.int c2), (.int c1), (.int c0)])) (fun t k => XS.iload X14.here hx rfl (hb hby at_270) rfl k) ?_
    refine own_by (T' := T14) (f' := (mkF m 274 #[.val (.int i0), .val (.int i1), .val (.int i2), .val (.int i3), .val (.int i4), .val (.int c0), .val (.int c1), .val (.int c2), .val (.int c3), .val (.int (own_vl c0)), .val (.int (own_vl c1)), .val (.int (own_vl c2)), .val (.int (own_vl c3)), .val (.int (7 : Int32)), .unset, .unset] [(.int c3), (.int c2), (.int c1), (.int c0)])) (fun t k => XS.iload X14.here hx rfl (hb hby at_272) rfl k) ?_
    refine own_callS X14 hx hZ hown e14 (hb hby at_274) [(.int c0), (.int c1), (.int c2), (.int c3)] [] 0 (rm65 l Z a0 hw [] c0 c1 c2 c3 h0 n0 Z0 hc0 hc1 hc2 hc3) (hw _ (List.mem_of_getElem? (i := 89) rfl)) (hw _ (List.mem_of_getElem? (i := 90) rfl)) (hw _ (List.mem_of_getElem? (i := 2) rfl)) (hw _ (List.mem_of_getElem? (i := 91) rfl)) (by decide) pd__CCCC__C (by rw [hml]; rfl) rfl rfl (Nat.le_of_eq rfl) (by decide) (by decide) (by decide) (by decide) ?_
    rintro T151 _ L151 X151 ⟨b151, rfl, N151q, K151, gb151, B151⟩
    show own_Go p e below _ T151 (mkF m 277 #[.val (.int i0), .val (.int i1), .val (.int i2), .val (.int i3), .val (.int i4), .val (.int c0), .val (.int c1), .val (.int c2), .val (.int c3), .val (.int (own_vl c0)), .val (.int (own_vl c1)), .val (.int (own_vl c2)), .val (.int (own_vl c3)), .val (.int (7 : Int32)), .unset, .unset] [(.ref b151)])
    have N151 := Fr.app N0 N151q
    have hk := Nat.le_trans hk K151.1
    have CH := CH.trans (CHr.keep K151 all0 CH.1)
    have sz152 : n0 ≤ T151.heap.size := Nat.le_trans Z0 K151.1
    refine own_by (T' := T151) (f' := (mkF m 279 #[.val (.int i0), .val (.int i1), .val (.int i2), .val (.int i3), .val (.int i4), .val (.int c0), .val (.int c1), .val (.int c2), .val (.int c3), .val (.int (own_vl c0)), .val (.int (own_vl c1)), .val (.int (own_vl c2)), .val (.int (own_vl c3)), .val (.int (7 : Int32)), .val (.ref b151), .unset] [])) (fun t k => XS.astore X151.here hx rfl (hb hby at_277) rfl rfl (l' := #[.val (.int i0), .val (.int i1), .val (.int i2), .val (.int i3), .val (.int i4), .val (.int c0), .val (.int c1), .val (.int c2), .val (.int c3), .val (.int (own_vl c0)), .val (.int (own_vl c1)), .val (.int (own_vl c2)), .val (.int (own_vl c3)), .val (.int (7 : Int32)), .val (.ref b151), .unset]) rfl k) ?_
    refine own_by (T' := T151) (f' := (mkF m 280 #[.val (.int i0), .val (.int i1), .val (.int i2), .val (.int i3), .val (.int i4), .val (.int c0), .val (.int c1), .val (.int c2), .val (.int c3), .val (.int (own_vl c0)), .val (.int (own_vl c1)), .val (.int (own_vl c2)), .val (.int (own_vl c3)), .val (.int (7 : Int32)), .val (.ref b151), .unset] [(.int (0 : Int32))])) (fun t k => XS.iconst X151.here hx rfl (hb hby at_279) k) ?_
    refine own_by (T' := T151) (f' := (mkF m 282 #[.val (.int i0), .val (.int i1), .val (.int i2), .val (.int i3), .val (.int i4), .val (.int c0), .val (.int c1), .val (.int c2), .val (.int c3), .val (.int (own_vl c0)), .val (.int (own_vl c1)), .val (.int (own_vl c2)), .val (.int (own_vl c3)), .val (.int (7 : Int32)), .val (.ref b151), .val (.int (0 : Int32))] [])) (fun t k => XS.istore X151.here hx rfl (hb hby at_280) rfl (l' := #[.val (.int i0), .val (.int i1), .val (.int i2), .val (.int i3), .val (.int i4), .val (.int c0), .val (.int c1), .val (.int c2), .val (.int c3), .val (.int (own_vl c0)), .val (.int (own_vl c1)), .val (.int (own_vl c2)), .val (.int (own_vl c3)), .val (.int (7 : Int32)), .val (.ref b151), .val (.int (0 : Int32))]) rfl k) ?_
    refine own_new X151 hx hZ hown rfl (hb hby at_282) (hw _ (List.mem_of_getElem? (i := 5) rfl)) (hw _ (List.mem_of_getElem? (i := 6) rfl)) (hw _ (List.mem_of_getElem? (i := 7) rfl)) (by decide) (by decide) ?_
    intro T153 h153 b153 X153 e153 g153 E153 A153 D153
    have ne153_b151 : b151 ≠ b153 := Nat.ne_of_lt (by rw [g153]; exact B151.lt)
    have gn153 : n0 ≤ b153 := by rw [g153]; exact sz152
    show own_Go p e below _ T153 (mkF m 285 #[.val (.int i0), .val (.int i1), .val (.int i2), .val (.int i3), .val (.int i4), .val (.int c0), .val (.int c1), .val (.int c2), .val (.int c3), .val (.int (own_vl c0)), .val (.int (own_vl c1)), .val (.int (own_vl c2)), .val (.int (own_vl c3)), .val (.int (7 : Int32)), .val (.ref b151), .val (.int (0 : Int32))] [(.ref b153)])
    have S_b153 := Safe.ext E153 CH.1 (Safe.new (Nat.le_of_eq g153.symm))
    have hk := Nat.le_trans hk E153.1
    have CH := CH.trans (CHr.ext E153 CH.1)
    have F153_value : Fld Z h153 b153 "java/lang/String" "value" "[B" .null := D153 (Or.inr (hw _ (List.mem_of_getElem? (i := 20) rfl))) (ty := (.array .byte)) (by decide)
    have F153_coder : Fld Z h153 b153 "java/lang/String" "coder" "B" (.int (0 : Int32)) := D153 (Or.inr (hw _ (List.mem_of_getElem? (i := 21) rfl))) (ty := .byte) (by decide)
    have sz154 : n0 ≤ h153.size := Nat.le_trans sz152 E153.1
    refine own_by (T' := T153) (f' := (mkF m 286 #[.val (.int i0), .val (.int i1), .val (.int i2), .val (.int i3), .val (.int i4), .val (.int c0), .val (.int c1), .val (.int c2), .val (.int c3), .val (.int (own_vl c0)), .val (.int (own_vl c1)), .val (.int (own_vl c2)), .val (.int (own_vl c3)), .val (.int (7 : Int32)), .val (.ref b151), .val (.int (0 : Int32))] [(.ref b153), (.ref b153)])) (fun t k => XS.dup X153.here hx rfl (hb hby at_285) rfl rfl k) ?_
    refine own_by (T' := T153) (f' := (mkF m 288 #[.val (.int i0), .val (.int i1), .val (.int i2), .val (.int i3), .val (.int i4), .val (.int c0), .val (.int c1), .val (.int c2), .val (.int c3), .val (.int (own_vl c0)), .val (.int (own_vl c1)), .val (.int (own_vl c2)), .val (.int (own_vl c3)), .val (.int (7 : Int32)), .val (.ref b151), .val (.int (0 : Int32))] [(.ref b151), (.ref b153), (.ref b153)])) (fun t k => XS.aload X153.here hx rfl (hb hby at_286) rfl rfl k) ?_
    have q155 : ∀ x ∈ [b153], ∃ c : Cell, h153[x]? = some c ∧ c.vm.isStatics = false := (allS (own_ns A153) all0)
    have f156 := (B151.ext E153)
    have f157 := ((ST.keep K151 all0).ext E153)
    refine own_callN X153 hx hZ hown e153 (hb hby at_288) [(.ref b151)] [(.ref b153)] 1 (rmI1 l Z a0 hw [] b153 b151 (65 : Int32) 65 (own_pt 64 c0 c1 c2 c3) _ _ cs fm h153 n0 sz154 gn153 (by decide) (by decide) (by decide) (fun i _ => own_pt_rng hc0 hc1 hc2 hc3 i) f156 ne153_b151 A153 F153_value F153_coder f157) (hw _ (List.mem_of_getElem? (i := 8) rfl)) (hw _ (List.mem_of_getElem? (i := 9) rfl)) (hw _ (List.mem_of_getElem? (i := 7) rfl)) (hw _ (List.mem_of_getElem? (i := 10) rfl)) rfl (by decide) pd___C_V (by rw [hml]; rfl) rfl rfl (Nat.le_of_eq rfl) (by decide) (by decide) (by decide) (by decide) ?_
    rintro T158 _ L158 X158 ⟨rfl, N158q, K158, Q158⟩
    show own_Go p e below _ T158 (mkF m 291 #[.val (.int i0), .val (.int i1), .val (.int i2), .val (.int i3), .val (.int i4), .val (.int c0), .val (.int c1), .val (.int c2), .val (.int c3), .val (.int (own_vl c0)), .val (.int (own_vl c1)), .val (.int (own_vl c2)), .val (.int (own_vl c3)), .val (.int (7 : Int32)), .val (.ref b151), .val (.int (0 : Int32))] [(.ref b153)])
    have S_b153' := Safe.keep K158 (allS S_b153 all0) CH.1 S_b153
    have hk := Nat.le_trans hk K158.1
    have CH := CH.trans (CHr.keep K158 (allS S_b153 all0) CH.1)
    have S_b153 := S_b153'
    have N158 := Fr.app N151 N158q
    have sz159 : n0 ≤ T158.heap.size := Nat.le_trans sz154 K158.1
    have f160 := (f157.keep K158 q155)
    have lt161 := Q158.2.2.1.lt
    refine own_callSW X158 hx hZ hown rfl (hb hby at_291) hS hk hEL CH [(.ref b153)] [] 0 (rmID l Z a0 hw [] b153 (65 : Int32) 65 (own_pt 64 c0 c1 c2 c3) cs fm T158.heap (by decide) (by decide) Q158 f160) (hw _ (List.mem_of_getElem? (i := 26) rfl)) (hw _ (List.mem_of_getElem? (i := 27) rfl)) (hw _ (List.mem_of_getElem? (i := 28) rfl)) (hw _ (List.mem_of_getElem? (i := 29) rfl)) (by decide) pd__Ljava_lang_String__Z (by rw [hml]; rfl) rfl rfl (Nat.le_of_eq rfl) (by decide) (by decide) (by decide) (by decide) ?_
    rintro T162 _ L162 X162 hS hk hZ hown hW162 CHs162 CH ⟨r162, rfl, hr162, rfl⟩
    show own_Go p e below _ T162 (mkF m 294 #[.val (.int i0), .val (.int i1), .val (.int i2), .val (.int i3), .val (.int i4), .val (.int c0), .val (.int c1), .val (.int c2), .val (.int c3), .val (.int (own_vl c0)), .val (.int (own_vl c1)), .val (.int (own_vl c2)), .val (.int (own_vl c3)), .val (.int (7 : Int32)), .val (.ref b151), .val (.int (0 : Int32))] [(.int r162)])
    have S_b153 := CHr.safe CHs162 lt161 S_b153
    rw [List.append_nil] at X162
    refine own_by (T' := T162) (f' := (mkF m 296 #[.val (.int i0), .val (.int i1), .val (.int i2), .val (.int i3), .val (.int i4), .val (.int c0), .val (.int c1), .val (.int c2), .val (.int c3), .val (.int (own_vl c0)), .val (.int (own_vl c1)), .val (.int (own_vl c2)), .val (.int (own_vl c3)), .val (.int (7 : Int32)), .val (.ref b151), .val (.int (0 : Int32))] [(.int (0 : Int32)), (.int r162)])) (fun t k => XS.iload X162.here hx rfl (hb hby at_294) rfl k) ?_
    have hc296_163 : r162 = (0 : Int32) := own_lw65 hr162
    refine own_by (T' := T162) (f' := (mkF m 299 #[.val (.int i0), .val (.int i1), .val (.int i2), .val (.int i3), .val (.int i4), .val (.int c0), .val (.int c1), .val (.int c2), .val (.int c3), .val (.int (own_vl c0)), .val (.int (own_vl c1)), .val (.int (own_vl c2)), .val (.int (own_vl c3)), .val (.int (7 : Int32)), .val (.ref b151), .val (.int (0 : Int32))] [])) (fun t k => XS.icmpNo X162.here hx rfl (hb hby at_296) rfl (teq hc296_163).2 k) ?_
    refine own_by (T' := T162) (f' := (mkF m 300 #[.val (.int i0), .val (.int i1), .val (.int i2), .val (.int i3), .val (.int i4), .val (.int c0), .val (.int c1), .val (.int c2), .val (.int c3), .val (.int (own_vl c0)), .val (.int (own_vl c1)), .val (.int (own_vl c2)), .val (.int (own_vl c3)), .val (.int (7 : Int32)), .val (.ref b151), .val (.int (0 : Int32))] [(.int (1 : Int32))])) (fun t k => XS.iconst X162.here hx rfl (hb hby at_299) k) ?_
    refine own_by (T' := T162) (f' := (mkF m 304 #[.val (.int i0), .val (.int i1), .val (.int i2), .val (.int i3), .val (.int i4), .val (.int c0), .val (.int c1), .val (.int c2), .val (.int c3), .val (.int (own_vl c0)), .val (.int (own_vl c1)), .val (.int (own_vl c2)), .val (.int (own_vl c3)), .val (.int (7 : Int32)), .val (.ref b151), .val (.int (0 : Int32))] [(.int (1 : Int32))])) (fun t k => XS.goto X162.here hx rfl (pc0 := 300) (pc' := 304) rfl (hb hby at_300) (by decide) (by decide) k) ?_
    refine own_retW X162 hx hret hlk hZ hEL hs0 rfl hS hk CH (hb hby at_304) rfl (Or.inl ⟨rfl, Or.inr (Or.inl rfl), _, rfl⟩) (by decide) (by decide) ?_
    exact ⟨rfl, N158⟩
theorem own_eqv {args : Array Value} {first s : State} {o : Option Outcome} {idx : List Nat} {a b : Term} {k : Int32} (h : (Jvm.Cond.eq a b).value args first o s idx = some true) (hb : b.eval args first o idx s = some (.int k)) : a.eval args first o idx s = some (.int k) := by
  cases ha : a.eval args first o idx s with
  | none => simp [Cond.value, ha] at h
  | some x => cases x <;> simp [Cond.value, ha, hb] at h ⊢; exact h
theorem own_ncs {args : Array Value} {s : State} {t : Term} {cs : Int32} (ev : t.eval args s none [] s = some (.int cs)) (h5 : (Jvm.Cond.not (Jvm.Cond.eq t (Jvm.Term.int (0 : Int32)))).value args s none s [] = some true) : ¬ (cs = (0 : Int32)) := fun q => by
  have h6 := not_v h5
  rw [eq_i ev (Term.int_eval 0) (by rw [q])] at h6
  simp at h6
set_option maxRecDepth 65536 in
set_option maxHeartbeats 40000000 in
theorem comes_1 {Post : Tables → Env → Array Value → State → Outcome → State → Prop} (hpost : ∀ tb e args s v u, (limb_1_1.after args s (.returned v) u = true ∧ limb_1_2.after args s (.returned v) u = true ∧ True) → ReturnedEndW s (.returned v) u (Jvm.fieldLocs frame_1_writes args s ++ Jvm.arrayLocs frame_1_arrays args s ++ Jvm.staticLocs frame_1_statics s) 24 3712 → Post tb e args s (.returned v) u) :
    ArmFor flags0 classFile x code maxLocals ret World_1 tables_1 room_1 Calls_1 rest_1 Pre_1 Post := by
  intro l hfl _ _ p e ha hc hk s m args below hf hA hF happ hP
  obtain ⟨hcalls, hrest, hpre⟩ := hP
  obtain ⟨-, -, -, hnamed, -, -, -, hat⟩ := (Spec.applies_iff hf).mp happ
  obtain ⟨hg, hn⟩ := and_e (Cond.before_iff.mp (show (Jvm.Cond.and given_1 narrow_1).before args s = true from hpre))
  obtain ⟨gc, gr0⟩ := and_e hg
  obtain ⟨ga0, gr1⟩ := and_e gr0
  obtain ⟨ga1, gr2⟩ := and_e gr1
  obtain ⟨ga2, gr3⟩ := and_e gr2
  obtain ⟨ga3, gr4⟩ := and_e gr3
  obtain ⟨w0, w1, w2, w3, w4, rfl⟩ : ∃ w0 w1 w2 w3 w4 : Value, args = #[w0, w1, w2, w3, w4] := by
    have hs : args.size = 5 := by simpa [Cond.value, given_1] using gc
    obtain ⟨L⟩ := args
    match L, hs with
    | [w0, w1, w2, w3, w4], _ => exact ⟨w0, w1, w2, w3, w4, rfl⟩
  have hw := fun d (hd : d ∈ tables_1) => atoms_spec (ws := Jvm.Cond.code x code maxLocals ret :: tables_1) hat d (List.mem_cons_of_mem _ hd)
  have hfit : Fit s := fun {y c} hc i hi => by
    obtain ⟨ha, rfl⟩ := Array.getElem?_eq_some_iff.mp hc
    have q := List.all_eq_true.mp ((Array.all_eq_true_iff_forall_mem.mp hF) _ (Array.getElem_mem ha)) i (List.mem_range.mpr hi)
    simpa [Array.getElem?_eq_getElem hi] using q
  obtain ⟨i0, ei0⟩ := is_v ga0
  obtain rfl : w0 = (.int i0) := Option.some.inj ei0
  obtain ⟨i1, ei1⟩ := is_v ga1
  obtain rfl : w1 = (.int i1) := Option.some.inj ei1
  obtain ⟨i2, ei2⟩ := is_v ga2
  obtain rfl : w2 = (.int i2) := Option.some.inj ei2
  obtain ⟨i3, ei3⟩ := is_v ga3
  obtain rfl : w3 = (.int i3) := Option.some.inj ei3
  obtain ⟨i4, ei4⟩ := is_v gr4
  obtain rfl : w4 = (.int i4) := Option.some.inj ei4
  have hrc := Cond.before_iff.mp (show rest_1_c.before _ s = true from hrest)
  rw [rest_1_c_eq] at hrc
  obtain ⟨sq0, sr0⟩ := and_e hrc
  obtain ⟨sq1, sr1⟩ := and_e sr0
  obtain ⟨sq2, sr2⟩ := and_e sr1
  obtain ⟨sq3, sr3⟩ := and_e sr2
  obtain ⟨sq4, sr4⟩ := and_e sr3
  obtain ⟨sq5, sr5⟩ := and_e sr4
  obtain ⟨sq6, sr6⟩ := and_e sr5
  obtain ⟨sq7, sr7⟩ := and_e sr6
  obtain ⟨sq8, sr8⟩ := and_e sr7
  obtain ⟨sq9, sr9⟩ := and_e sr8
  obtain ⟨sq10, sr10⟩ := and_e sr9
  obtain ⟨sq11, sr11⟩ := and_e sr10
  obtain ⟨sq12, sr12⟩ := and_e sr11
  obtain ⟨sq13, sr13⟩ := and_e sr12
  obtain ⟨sq14, sr14⟩ := and_e sr13
  obtain ⟨sq15, sr15⟩ := and_e sr14
  obtain ⟨sq16, sr16⟩ := and_e sr15
  obtain ⟨sq17, sr17⟩ := and_e sr16
  obtain ⟨sq18, sr18⟩ := and_e sr17
  obtain ⟨cs, ev0⟩ := is_v sq1
  have st0 := Sta.start ev0 (Or.inl (Cond.before_iff.mpr sq0))
  have hcs := own_ncs ev0 sq2
  have hcw := Cond.before_iff.mpr sq2
  have st1 := Sta.start (own_eqv sq12 (Term.int_eval 1)) (Or.inl (Cond.before_iff.mpr sq11))
  have st2 := Sta.start (own_eqv sq15 (Term.int_eval 0)) (Or.inl (Cond.before_iff.mpr sq14))
  have st3 := Sta.start (own_eqv sq18 (Term.int_eval 8)) (Or.inl (Cond.before_iff.mpr sq17))
  obtain ⟨fm, ev4, hfm⟩ := isR_v sq8
  have st4 := Sta.start ev4 (Or.inl (Cond.before_iff.mpr sq7))
  have STT : own_St s s.heap cs fm := ⟨st0, st1, st2, st3, st4, hcs, hfm⟩
  have hCH : CHv s consts_1 s.vm s.heap := CHv.start (own_EW hw) (fun p hp => hcalls.1 p hp) hcw (hw _ (List.mem_of_getElem? (i := 19) rfl)) (hw _ (List.mem_of_getElem? (i := 6) rfl))
  obtain ⟨n, o, h1, h2, h3, _, L, rfl, ⟨rfl, N⟩, -, hq⟩ := rm0 l s _ hw tables_1 i0 i1 i2 i3 i4 cs fm s.heap s.heap.size (Nat.le_refl _) STT p e ha hc hk s m _ below hf ((Spec.applies_iff_loose hf).mp happ).1 ⟨rfl, State.Warmed39.refl s, rfl, hCH⟩ trivial
  refine ⟨n, _, h1, h2, h3, hpost _ _ _ _ _ _ ⟨Cond.after_iff.mpr rfl, Cond.after_iff.mpr (eq_i res_at (Term.int_eval (1)) rfl), trivial⟩ ⟨hq.1, hq.2.1, hq.2.2.1, (hq.2.2.2.sift fun y hy => Or.inr (N y hy)).mono (by decide) (by decide)⟩⟩
theorem main_1_1 : Claimed_1_1 := comes_1 fun _ _ _ _ _ _ h hF => ⟨h.1, hF⟩
theorem main_1_2 : Claimed_1_2 := comes_1 fun _ _ _ _ _ _ h hF => ⟨h.2.1, hF⟩
end Jvm.Pilot.@@N@@
namespace Jvm.Pilot.@@N@@
open Jvm Jvm.ClassFile Sem Op Lib Jvm.Free Jvm.Stand Jvm.Pilot.@@N@@.Jvm.D
/-! MADE BY PROGRAM (witnessworld.py) out of the Statement's table words and the real class files: 21 classes; the members and pool entries that the words name. The judged class is class 1, her method 4. -/
namespace start1
open Jvm.ClassFile
def u (s : String) : CpInfo := .utf8 (stringToUtf16 s)
/-- a pool by its gaps: so many unusable entries, then the entry; so many at the end -/
def gap : Nat → List CpInfo → List CpInfo
  | 0, r => r
  | n + 1, r => .unusable :: gap n r
def poolList (es : List (Nat × CpInfo)) (last : Nat) : List CpInfo := es.foldr (fun e r => gap e.1 (e.2 :: r)) (gap last [])
def pool (es : List (Nat × CpInfo)) (last : Nat) : Array CpInfo := ⟨poolList es last⟩
def fileOf (pool : Array CpInfo) (this : Nat) (attrs : Array Attribute := #[]) (ms : Array MethodInfo := #[]) (fl : Nat := 33) (sup : Nat := 0) (ifs : Array Nat := #[]) (fds : Array FieldInfo := #[]) : ClassFile where
  minorVersion := 0
  majorVersion := 65
  constantPool := pool
  accessFlags := fl
  thisClass := this
  superClass := sup
  interfaces := ifs
  fields := fds
  methods := ms
  attributes := attrs
def plain (name : String) (sup : Option ClassId) : Class where
  name := name
  kind := .ordinary
  loader := none
  accessFlags := 33
  super := sup
  interfaces := #[]
  cf := none
  fields := #[]
  methods := #[]
  instanceTypes := #[]
  staticTypes := #[]
  resolved := #[]
  callSites := []
  init := .initialized
  statics := none
  mirror := none

def pool0 : Array CpInfo := pool [(5, u "<init>"), (0, u "()V"), (1, .class_ 10), (1, u "java/lang/Object")] 113

def k0c0 : Code := { maxStack := 0, maxLocals := 1, code := object_method_1_code, exceptionTable := #[], attributes := #[] }
def k0m0 : Method := { name := "<init>", desc := "()V", sig := { parameters := [], returnType := none }, accessFlags := 1, code := some k0c0 }
/-- java/lang/Object -/
def k0 : Class := { plain "java/lang/Object" none with
  accessFlags := 33
  interfaces := #[]
  cf := some (fileOf pool0 8 #[] #[{ accessFlags := 1, nameIndex := 5, descriptorIndex := 6, attributes := #[] }] 33 0 #[] #[])
  fields := #[]
  methods := #[k0m0]
  instanceTypes := #[]
  staticTypes := #[]
  resolved := Array.replicate 124 none
  statics := none }

def pool1 : Array CpInfo := pool [(2, .class_ 4), (1, u "java/lang/Object"), (0, u "<init>"), (0, u "()V"), (0, .methodref 8 9), (0, .class_ 10), (0, .nameAndType 11 12), (0, u "com/example/bewaker/bewaker/fhir/InteractionIsIdPinLaw"), (0, u "valid"), (0, u "(C)Z"), (0, .methodref 8 14), (0, .nameAndType 15 16), (0, u "long64"), (0, u "(CCCC)[C"), (0, .methodref 8 18), (0, .nameAndType 19 16), (0, u "long65"), (0, .class_ 21), (0, u "java/lang/String"), (0, .methodref 20 23), (0, .nameAndType 5 24), (0, u "([C)V"), (0, .methodref 26 27), (0, .class_ 28), (0, .nameAndType 29 30), (0, u "com/example/bewaker/bewaker/fhir/Interaction"), (0, u "isId"), (0, u "(Ljava/lang/String;)Z"), (3, u "law"), (0, u "(IIIII)Z")] 4

def k1m0 : Method := { name := "<init>", desc := "()V", sig := { parameters := [], returnType := none }, accessFlags := 2, code := none }
def k1c1 : Code := { maxStack := 2, maxLocals := 2, code := method_2_code, exceptionTable := #[], attributes := #[] }
def k1m1 : Method := { name := "valid", desc := "(C)Z", sig := { parameters := [.char], returnType := some .boolean }, accessFlags := 10, code := some k1c1 }
def k1c2 : Code := { maxStack := 4, maxLocals := 4, code := method_3_code, exceptionTable := #[], attributes := #[] }
def k1m2 : Method := { name := "long64", desc := "(CCCC)[C", sig := { parameters := [.char, .char, .char, .char], returnType := some (.array .char) }, accessFlags := 10, code := some k1c2 }
def k1c3 : Code := { maxStack := 4, maxLocals := 4, code := method_4_code, exceptionTable := #[], attributes := #[] }
def k1m3 : Method := { name := "long65", desc := "(CCCC)[C", sig := { parameters := [.char, .char, .char, .char], returnType := some (.array .char) }, accessFlags := 10, code := some k1c3 }
def k1c4 : Code := { maxStack := 4, maxLocals := 16, code := code, exceptionTable := #[], attributes := #[] }
def k1m4 : Method := { name := "law", desc := "(IIIII)Z", sig := { parameters := [.int, .int, .int, .int, .int], returnType := some .boolean }, accessFlags := 9, code := some k1c4 }
/-- com/example/bewaker/bewaker/fhir/InteractionIsIdPinLaw -/
def k1 : Class := { plain "com/example/bewaker/bewaker/fhir/InteractionIsIdPinLaw" (some 0) with
  accessFlags := 49
  interfaces := #[]
  cf := some (fileOf pool1 8 #[] #[{ accessFlags := 2, nameIndex := 5, descriptorIndex := 6, attributes := #[] }, { accessFlags := 10, nameIndex := 11, descriptorIndex := 12, attributes := #[] }, { accessFlags := 10, nameIndex := 15, descriptorIndex := 16, attributes := #[] }, { accessFlags := 10, nameIndex := 19, descriptorIndex := 16, attributes := #[] }, { accessFlags := 9, nameIndex := 34, descriptorIndex := 35, attributes := #[] }] 49 2 #[] #[])
  fields := #[]
  methods := #[k1m0, k1m1, k1m2, k1m3, k1m4]
  instanceTypes := #[]
  staticTypes := #[]
  resolved := Array.replicate 40 none
  statics := none }

def pool2 : Array CpInfo := pool [(1, .class_ 2), (0, u "java/io/Serializable"), (0, .class_ 4), (0, u "java/lang/Object")] 2

/-- java/io/Serializable -/
def k2 : Class := { plain "java/io/Serializable" (some 0) with
  accessFlags := 1537
  interfaces := #[]
  cf := some (fileOf pool2 1 #[] #[] 1537 3 #[] #[])
  fields := #[]
  methods := #[]
  instanceTypes := #[]
  staticTypes := #[]
  resolved := Array.replicate 7 none
  statics := none }

def pool3 : Array CpInfo := pool [(1, .class_ 2), (0, u "java/lang/Comparable"), (0, .class_ 4), (0, u "java/lang/Object")] 7

/-- java/lang/Comparable -/
def k3 : Class := { plain "java/lang/Comparable" (some 0) with
  accessFlags := 1537
  interfaces := #[]
  cf := some (fileOf pool3 1 #[] #[] 1537 3 #[] #[])
  fields := #[]
  methods := #[]
  instanceTypes := #[]
  staticTypes := #[]
  resolved := Array.replicate 12 none
  statics := none }

def pool4 : Array CpInfo := pool [(2, .class_ 4), (1, u "java/lang/CharSequence"), (42, .class_ 48), (0, u "java/lang/CharSequence$1CodePointIterator"), (10, .class_ 60), (0, u "java/lang/CharSequence$1CharIterator"), (5, .class_ 67), (0, u "java/lang/Object")] 63

/-- java/lang/CharSequence -/
def k4 : Class := { plain "java/lang/CharSequence" (some 0) with
  accessFlags := 1537
  interfaces := #[]
  cf := some (fileOf pool4 2 #[.nestMembers #[47, 59]] #[] 1537 66 #[] #[])
  fields := #[]
  methods := #[]
  instanceTypes := #[]
  staticTypes := #[]
  resolved := Array.replicate 131 none
  statics := none }

def pool5 : Array CpInfo := pool [(1, .class_ 2), (0, u "java/lang/constant/Constable"), (0, .class_ 4), (0, u "java/lang/Object")] 6

/-- java/lang/constant/Constable -/
def k5 : Class := { plain "java/lang/constant/Constable" (some 0) with
  accessFlags := 1537
  interfaces := #[]
  cf := some (fileOf pool5 1 #[] #[] 1537 3 #[] #[])
  fields := #[]
  methods := #[]
  instanceTypes := #[]
  staticTypes := #[]
  resolved := Array.replicate 11 none
  statics := none }

def pool6 : Array CpInfo := pool [(1, .class_ 2), (0, u "java/lang/constant/ConstantDesc"), (0, .class_ 4), (0, u "java/lang/Object")] 32

/-- java/lang/constant/ConstantDesc -/
def k6 : Class := { plain "java/lang/constant/ConstantDesc" (some 0) with
  accessFlags := 1537
  interfaces := #[]
  cf := some (fileOf pool6 1 #[] #[] 1537 3 #[] #[])
  fields := #[]
  methods := #[]
  instanceTypes := #[]
  staticTypes := #[]
  resolved := Array.replicate 37 none
  statics := none }

def pool7 : Array CpInfo := pool [(1, .methodref 2 3), (0, .class_ 4), (0, .nameAndType 5 6), (0, u "java/lang/Object"), (0, u "<init>"), (0, u "()V"), (0, .string 8), (0, u ""), (0, .fieldref 10 11), (0, .class_ 12), (0, .nameAndType 13 14), (0, u "java/lang/String"), (0, u "value"), (0, u "[B"), (0, .fieldref 10 16), (0, .nameAndType 17 18), (0, u "coder"), (0, u "B"), (2, u "hash"), (0, u "I"), (2, u "hashIsZero"), (0, u "Z"), (0, .methodref 10 28), (0, .nameAndType 5 29), (0, u "([CIILjava/lang/Void;)V"), (8, .fieldref 10 39), (0, .nameAndType 40 26), (0, u "COMPACT_STRINGS"), (1, .class_ 44), (1, u "java/lang/StringUTF16"), (0, u "compress"), (1, .methodref 42 48), (0, .nameAndType 49 50), (0, u "coderFromArrayLen"), (0, u "([BI)B"), (56, .class_ 109), (1, u "java/lang/StringLatin1"), (32, u "()Z"), (34, .methodref 42 178), (0, .nameAndType 45 179), (0, u "([CII)[B"), (154, u "()I"), (0, .methodref 10 336), (0, .nameAndType 17 337), (0, u "()B"), (25, u "([BI)C"), (27, u "(II)V"), (35, u "(I)C"), (64, .methodref 10 493), (0, .nameAndType 494 142), (0, u "isLatin1"), (0, .methodref 107 496), (0, .nameAndType 497 363), (0, u "charAt"), (0, .methodref 42 496), (2, u "checkIndex"), (5, u "length"), (33, .methodref 107 542), (0, .nameAndType 543 544), (0, u "equals"), (0, u "([B[B)Z"), (28, u "(Ljava/lang/Object;)Z"), (1, .class_ 576), (0, u "java/lang/CharSequence"), (22, u "CASE_INSENSITIVE_ORDER"), (0, u "Ljava/util/Comparator;"), (91, u "isEmpty"), (317, u "([C)V"), (42, .fieldref 1054 1055), (0, .class_ 1056), (0, .nameAndType 1057 1058), (0, u "jdk/internal/util/Preconditions"), (0, u "SIOOBE_FORMATTER"), (0, u "Ljava/util/function/BiFunction;"), (0, .methodref 1054 1060), (0, .nameAndType 501 1061), (0, u "(IILjava/util/function/BiFunction;)I"), (39, u "serialPersistentFields"), (0, u "[Ljava/io/ObjectStreamField;"), (0, .class_ 1104), (0, u "java/lang/String$CaseInsensitiveComparator"), (1, .class_ 1107), (0, u "java/io/Serializable"), (0, .class_ 1109), (0, u "java/lang/Comparable"), (0, .class_ 1111), (0, u "java/lang/constant/Constable"), (0, .class_ 1113), (0, u "java/lang/constant/ConstantDesc"), (2, u "serialVersionUID"), (0, u "J"), (3, u "REPL"), (0, u "C"), (2, u "LATIN1"), (1, u "UTF16")] 323

def k7m0 : Method := { name := "<init>", desc := "()V", sig := { parameters := [], returnType := none }, accessFlags := 1, code := none }
def k7c1 : Code := { maxStack := 5, maxLocals := 2, code := jdk_42_method_3_code, exceptionTable := #[], attributes := #[] }
def k7m1 : Method := { name := "<init>", desc := "([C)V", sig := { parameters := [(.array .char)], returnType := none }, accessFlags := 1, code := some k7c1 }
def k7c2 : Code := { maxStack := 2, maxLocals := 1, code := jdk_42_method_54_code, exceptionTable := #[], attributes := #[] }
def k7m2 : Method := { name := "length", desc := "()I", sig := { parameters := [], returnType := some .int }, accessFlags := 1, code := some k7c2 }
def k7c3 : Code := { maxStack := 1, maxLocals := 1, code := jdk_42_method_55_code, exceptionTable := #[], attributes := #[] }
def k7m3 : Method := { name := "isEmpty", desc := "()Z", sig := { parameters := [], returnType := some .boolean }, accessFlags := 1, code := some k7c3 }
def k7c4 : Code := { maxStack := 2, maxLocals := 2, code := jdk_42_method_56_code, exceptionTable := #[], attributes := #[] }
def k7m4 : Method := { name := "charAt", desc := "(I)C", sig := { parameters := [.int], returnType := some .char }, accessFlags := 1, code := some k7c4 }
def k7c5 : Code := { maxStack := 2, maxLocals := 3, code := jdk_42_method_66_code, exceptionTable := #[], attributes := #[] }
def k7m5 : Method := { name := "equals", desc := "(Ljava/lang/Object;)Z", sig := { parameters := [(.object "java/lang/Object")], returnType := some .boolean }, accessFlags := 1, code := some k7c5 }
def k7c6 : Code := { maxStack := 4, maxLocals := 6, code := jdk_42_method_149_code, exceptionTable := #[], attributes := #[] }
def k7m6 : Method := { name := "<init>", desc := "([CIILjava/lang/Void;)V", sig := { parameters := [(.array .char), .int, .int, (.object "java/lang/Void")], returnType := none }, accessFlags := 2, code := some k7c6 }
def k7c7 : Code := { maxStack := 1, maxLocals := 1, code := jdk_42_method_152_code, exceptionTable := #[], attributes := #[] }
def k7m7 : Method := { name := "coder", desc := "()B", sig := { parameters := [], returnType := some .byte }, accessFlags := 0, code := some k7c7 }
def k7c8 : Code := { maxStack := 1, maxLocals := 1, code := jdk_42_method_154_code, exceptionTable := #[], attributes := #[] }
def k7m8 : Method := { name := "isLatin1", desc := "()Z", sig := { parameters := [], returnType := some .boolean }, accessFlags := 0, code := some k7c8 }
def k7c9 : Code := { maxStack := 3, maxLocals := 2, code := jdk_42_method_155_code, exceptionTable := #[], attributes := #[] }
def k7m9 : Method := { name := "checkIndex", desc := "(II)V", sig := { parameters := [.int, .int], returnType := none }, accessFlags := 8, code := some k7c9 }
/-- java/lang/String -/
def k7 : Class := { plain "java/lang/String" (some 0) with
  accessFlags := 49
  interfaces := #[2, 3, 4, 5, 6]
  cf := some (fileOf pool7 10 #[.nestMembers #[1103]] #[{ accessFlags := 1, nameIndex := 5, descriptorIndex := 6, attributes := #[] }, { accessFlags := 1, nameIndex := 5, descriptorIndex := 1010, attributes := #[] }, { accessFlags := 1, nameIndex := 507, descriptorIndex := 334, attributes := #[] }, { accessFlags := 1, nameIndex := 692, descriptorIndex := 142, attributes := #[] }, { accessFlags := 1, nameIndex := 497, descriptorIndex := 427, attributes := #[] }, { accessFlags := 1, nameIndex := 543, descriptorIndex := 573, attributes := #[] }, { accessFlags := 2, nameIndex := 5, descriptorIndex := 29, attributes := #[] }, { accessFlags := 0, nameIndex := 17, descriptorIndex := 337, attributes := #[] }, { accessFlags := 0, nameIndex := 494, descriptorIndex := 142, attributes := #[] }, { accessFlags := 8, nameIndex := 501, descriptorIndex := 391, attributes := #[] }] 49 2 #[1106, 1108, 575, 1110, 1112] #[{ accessFlags := 18, nameIndex := 13, descriptorIndex := 14, attributes := #[] }, { accessFlags := 18, nameIndex := 17, descriptorIndex := 18, attributes := #[] }, { accessFlags := 2, nameIndex := 21, descriptorIndex := 22, attributes := #[] }, { accessFlags := 2, nameIndex := 25, descriptorIndex := 26, attributes := #[] }, { accessFlags := 26, nameIndex := 1116, descriptorIndex := 1117, attributes := #[] }, { accessFlags := 24, nameIndex := 40, descriptorIndex := 26, attributes := #[] }, { accessFlags := 26, nameIndex := 1101, descriptorIndex := 1102, attributes := #[] }, { accessFlags := 26, nameIndex := 1121, descriptorIndex := 1122, attributes := #[] }, { accessFlags := 25, nameIndex := 599, descriptorIndex := 600, attributes := #[] }, { accessFlags := 24, nameIndex := 1125, descriptorIndex := 18, attributes := #[] }, { accessFlags := 24, nameIndex := 1127, descriptorIndex := 18, attributes := #[] }])
  fields := #[{ name := "value", type := (.array .byte), accessFlags := 18, slot := 0, constantValue := 0 }, { name := "coder", type := .byte, accessFlags := 18, slot := 1, constantValue := 0 }, { name := "hash", type := .int, accessFlags := 2, slot := 2, constantValue := 0 }, { name := "hashIsZero", type := .boolean, accessFlags := 2, slot := 3, constantValue := 0 }, { name := "serialVersionUID", type := .long, accessFlags := 26, slot := 0, constantValue := 0 }, { name := "COMPACT_STRINGS", type := .boolean, accessFlags := 24, slot := 1, constantValue := 0 }, { name := "serialPersistentFields", type := (.array (.object "java/io/ObjectStreamField")), accessFlags := 26, slot := 2, constantValue := 0 }, { name := "REPL", type := .char, accessFlags := 26, slot := 3, constantValue := 0 }, { name := "CASE_INSENSITIVE_ORDER", type := (.object "java/util/Comparator"), accessFlags := 25, slot := 4, constantValue := 0 }, { name := "LATIN1", type := .byte, accessFlags := 24, slot := 5, constantValue := 0 }, { name := "UTF16", type := .byte, accessFlags := 24, slot := 6, constantValue := 0 }]
  methods := #[k7m0, k7m1, k7m2, k7m3, k7m4, k7m5, k7m6, k7m7, k7m8, k7m9]
  instanceTypes := #[(.array .byte), .byte, .int, .boolean]
  staticTypes := #[.long, .boolean, (.array (.object "java/io/ObjectStreamField")), .char, (.object "java/util/Comparator"), .byte, .byte]
  resolved := Array.replicate 1451 none
  statics := some 0 }

def pool8 : Array CpInfo := pool [(2, .class_ 4), (1, u "java/lang/Enum"), (0, u "name"), (0, u "Ljava/lang/String;"), (2, u "ordinal"), (0, u "I"), (1, .class_ 14), (1, u "java/lang/Object"), (4, u "hash"), (86, .class_ 108), (1, u "java/lang/Enum$EnumDesc"), (2, .class_ 112), (0, u "java/lang/constant/Constable"), (0, .class_ 114), (0, u "java/lang/Comparable"), (0, .class_ 116), (0, u "java/io/Serializable")] 87

/-- java/lang/Enum -/
def k8 : Class := { plain "java/lang/Enum" (some 0) with
  accessFlags := 1057
  interfaces := #[5, 3, 2]
  cf := some (fileOf pool8 2 #[.nestMembers #[106]] #[] 1057 12 #[111, 113, 115] #[{ accessFlags := 18, nameIndex := 5, descriptorIndex := 6, attributes := #[] }, { accessFlags := 18, nameIndex := 9, descriptorIndex := 10, attributes := #[] }, { accessFlags := 2, nameIndex := 19, descriptorIndex := 10, attributes := #[] }])
  fields := #[{ name := "name", type := (.object "java/lang/String"), accessFlags := 18, slot := 0, constantValue := 0 }, { name := "ordinal", type := .int, accessFlags := 18, slot := 1, constantValue := 0 }, { name := "hash", type := .int, accessFlags := 2, slot := 2, constantValue := 0 }]
  methods := #[]
  instanceTypes := #[(.object "java/lang/String"), .int, .int]
  staticTypes := #[]
  resolved := Array.replicate 204 none
  statics := none }

def pool9 : Array CpInfo := pool [(1, .class_ 2), (0, u "com/example/bewaker/bewaker/fhir/Interaction"), (2, u "CAPABILITIES"), (0, u "Lcom/example/bewaker/bewaker/fhir/Interaction;"), (2, u "READ"), (2, u "VREAD"), (2, u "SEARCH_TYPE"), (2, u "SEARCH_SYSTEM"), (2, u "HISTORY_INSTANCE"), (2, u "HISTORY_TYPE"), (2, u "HISTORY_SYSTEM"), (2, u "CREATE"), (2, u "UPDATE"), (2, u "PATCH"), (2, u "DELETE"), (2, u "EXPUNGE"), (2, u "BATCH"), (2, u "OTHER"), (2, u "$VALUES"), (0, u "[Lcom/example/bewaker/bewaker/fhir/Interaction;"), (6, .class_ 61), (1, u "java/lang/Enum"), (17, .methodref 80 81), (0, .class_ 82), (0, .nameAndType 83 84), (0, u "java/lang/String"), (0, u "isEmpty"), (0, u "()Z"), (2, .methodref 80 88), (0, .nameAndType 89 90), (0, u "equals"), (0, u "(Ljava/lang/Object;)Z"), (9, u "(Ljava/lang/String;)Z"), (0, .methodref 80 102), (0, .nameAndType 103 104), (0, u "length"), (0, u "()I"), (16, u "ROUTES"), (0, u "Ljava/util/Map;"), (12, u "WRITES"), (0, u "Ljava/util/Set;"), (28, u "isId"), (4, u "KEYWORDS"), (9, .methodref 80 181), (0, .nameAndType 182 183), (0, u "charAt"), (0, u "(I)C"), (0, .string 185), (0, u "."), (0, .string 187), (0, u ".."), (11, u "WRITE_PARAMETERS"), (89, u "BASE_PATH"), (0, u "Ljava/lang/String;"), (3, u "BASE"), (0, u "SYSTEM_QUERY"), (0, u "TYPE_SEGMENT"), (0, u "ID_SEGMENT")] 32

def k9c0 : Code := { maxStack := 2, maxLocals := 4, code := prog_6_method_6_code, exceptionTable := #[], attributes := #[] }
def k9m0 : Method := { name := "isId", desc := "(Ljava/lang/String;)Z", sig := { parameters := [(.object "java/lang/String")], returnType := some .boolean }, accessFlags := 8, code := some k9c0 }
/-- com/example/bewaker/bewaker/fhir/Interaction -/
def k9 : Class := { plain "com/example/bewaker/bewaker/fhir/Interaction" (some 8) with
  accessFlags := 16433
  interfaces := #[]
  cf := some (fileOf pool9 1 #[] #[{ accessFlags := 8, nameIndex := 165, descriptorIndex := 100, attributes := #[] }] 16433 59 #[] #[{ accessFlags := 16409, nameIndex := 5, descriptorIndex := 6, attributes := #[] }, { accessFlags := 16409, nameIndex := 9, descriptorIndex := 6, attributes := #[] }, { accessFlags := 16409, nameIndex := 12, descriptorIndex := 6, attributes := #[] }, { accessFlags := 16409, nameIndex := 15, descriptorIndex := 6, attributes := #[] }, { accessFlags := 16409, nameIndex := 18, descriptorIndex := 6, attributes := #[] }, { accessFlags := 16409, nameIndex := 21, descriptorIndex := 6, attributes := #[] }, { accessFlags := 16409, nameIndex := 24, descriptorIndex := 6, attributes := #[] }, { accessFlags := 16409, nameIndex := 27, descriptorIndex := 6, attributes := #[] }, { accessFlags := 16409, nameIndex := 30, descriptorIndex := 6, attributes := #[] }, { accessFlags := 16409, nameIndex := 33, descriptorIndex := 6, attributes := #[] }, { accessFlags := 16409, nameIndex := 36, descriptorIndex := 6, attributes := #[] }, { accessFlags := 16409, nameIndex := 39, descriptorIndex := 6, attributes := #[] }, { accessFlags := 16409, nameIndex := 42, descriptorIndex := 6, attributes := #[] }, { accessFlags := 16409, nameIndex := 45, descriptorIndex := 6, attributes := #[] }, { accessFlags := 16409, nameIndex := 48, descriptorIndex := 6, attributes := #[] }, { accessFlags := 25, nameIndex := 289, descriptorIndex := 290, attributes := #[] }, { accessFlags := 26, nameIndex := 170, descriptorIndex := 136, attributes := #[] }, { accessFlags := 26, nameIndex := 294, descriptorIndex := 290, attributes := #[] }, { accessFlags := 26, nameIndex := 295, descriptorIndex := 290, attributes := #[] }, { accessFlags := 26, nameIndex := 296, descriptorIndex := 290, attributes := #[] }, { accessFlags := 26, nameIndex := 297, descriptorIndex := 290, attributes := #[] }, { accessFlags := 26, nameIndex := 121, descriptorIndex := 122, attributes := #[] }, { accessFlags := 26, nameIndex := 135, descriptorIndex := 136, attributes := #[] }, { accessFlags := 26, nameIndex := 199, descriptorIndex := 136, attributes := #[] }, { accessFlags := 4122, nameIndex := 51, descriptorIndex := 52, attributes := #[] }])
  fields := #[{ name := "CAPABILITIES", type := (.object "com/example/bewaker/bewaker/fhir/Interaction"), accessFlags := 16409, slot := 0, constantValue := 0 }, { name := "READ", type := (.object "com/example/bewaker/bewaker/fhir/Interaction"), accessFlags := 16409, slot := 1, constantValue := 0 }, { name := "VREAD", type := (.object "com/example/bewaker/bewaker/fhir/Interaction"), accessFlags := 16409, slot := 2, constantValue := 0 }, { name := "SEARCH_TYPE", type := (.object "com/example/bewaker/bewaker/fhir/Interaction"), accessFlags := 16409, slot := 3, constantValue := 0 }, { name := "SEARCH_SYSTEM", type := (.object "com/example/bewaker/bewaker/fhir/Interaction"), accessFlags := 16409, slot := 4, constantValue := 0 }, { name := "HISTORY_INSTANCE", type := (.object "com/example/bewaker/bewaker/fhir/Interaction"), accessFlags := 16409, slot := 5, constantValue := 0 }, { name := "HISTORY_TYPE", type := (.object "com/example/bewaker/bewaker/fhir/Interaction"), accessFlags := 16409, slot := 6, constantValue := 0 }, { name := "HISTORY_SYSTEM", type := (.object "com/example/bewaker/bewaker/fhir/Interaction"), accessFlags := 16409, slot := 7, constantValue := 0 }, { name := "CREATE", type := (.object "com/example/bewaker/bewaker/fhir/Interaction"), accessFlags := 16409, slot := 8, constantValue := 0 }, { name := "UPDATE", type := (.object "com/example/bewaker/bewaker/fhir/Interaction"), accessFlags := 16409, slot := 9, constantValue := 0 }, { name := "PATCH", type := (.object "com/example/bewaker/bewaker/fhir/Interaction"), accessFlags := 16409, slot := 10, constantValue := 0 }, { name := "DELETE", type := (.object "com/example/bewaker/bewaker/fhir/Interaction"), accessFlags := 16409, slot := 11, constantValue := 0 }, { name := "EXPUNGE", type := (.object "com/example/bewaker/bewaker/fhir/Interaction"), accessFlags := 16409, slot := 12, constantValue := 0 }, { name := "BATCH", type := (.object "com/example/bewaker/bewaker/fhir/Interaction"), accessFlags := 16409, slot := 13, constantValue := 0 }, { name := "OTHER", type := (.object "com/example/bewaker/bewaker/fhir/Interaction"), accessFlags := 16409, slot := 14, constantValue := 0 }, { name := "BASE_PATH", type := (.object "java/lang/String"), accessFlags := 25, slot := 15, constantValue := 0 }, { name := "KEYWORDS", type := (.object "java/util/Set"), accessFlags := 26, slot := 16, constantValue := 0 }, { name := "BASE", type := (.object "java/lang/String"), accessFlags := 26, slot := 17, constantValue := 0 }, { name := "SYSTEM_QUERY", type := (.object "java/lang/String"), accessFlags := 26, slot := 18, constantValue := 0 }, { name := "TYPE_SEGMENT", type := (.object "java/lang/String"), accessFlags := 26, slot := 19, constantValue := 0 }, { name := "ID_SEGMENT", type := (.object "java/lang/String"), accessFlags := 26, slot := 20, constantValue := 0 }, { name := "ROUTES", type := (.object "java/util/Map"), accessFlags := 26, slot := 21, constantValue := 0 }, { name := "WRITES", type := (.object "java/util/Set"), accessFlags := 26, slot := 22, constantValue := 0 }, { name := "WRITE_PARAMETERS", type := (.object "java/util/Set"), accessFlags := 26, slot := 23, constantValue := 0 }, { name := "$VALUES", type := (.array (.object "com/example/bewaker/bewaker/fhir/Interaction")), accessFlags := 4122, slot := 24, constantValue := 0 }]
  methods := #[k9m0]
  instanceTypes := #[(.object "java/lang/String"), .int, .int]
  staticTypes := #[(.object "com/example/bewaker/bewaker/fhir/Interaction"), (.object "com/example/bewaker/bewaker/fhir/Interaction"), (.object "com/example/bewaker/bewaker/fhir/Interaction"), (.object "com/example/bewaker/bewaker/fhir/Interaction"), (.object "com/example/bewaker/bewaker/fhir/Interaction"), (.object "com/example/bewaker/bewaker/fhir/Interaction"), (.object "com/example/bewaker/bewaker/fhir/Interaction"), (.object "com/example/bewaker/bewaker/fhir/Interaction"), (.object "com/example/bewaker/bewaker/fhir/Interaction"), (.object "com/example/bewaker/bewaker/fhir/Interaction"), (.object "com/example/bewaker/bewaker/fhir/Interaction"), (.object "com/example/bewaker/bewaker/fhir/Interaction"), (.object "com/example/bewaker/bewaker/fhir/Interaction"), (.object "com/example/bewaker/bewaker/fhir/Interaction"), (.object "com/example/bewaker/bewaker/fhir/Interaction"), (.object "java/lang/String"), (.object "java/util/Set"), (.object "java/lang/String"), (.object "java/lang/String"), (.object "java/lang/String"), (.object "java/lang/String"), (.object "java/util/Map"), (.object "java/util/Set"), (.object "java/util/Set"), (.array (.object "com/example/bewaker/bewaker/fhir/Interaction"))]
  resolved := Array.replicate 330 none
  statics := none }

def pool10 : Array CpInfo := pool [(1, .class_ 2), (0, u "java/lang/String"), (1, .class_ 6), (1, u "java/lang/Object"), (0, u "<init>"), (0, u "()V"), (0, .methodref 1 10), (0, .nameAndType 11 12), (0, u "checkIndex"), (0, u "(II)V"), (1, .class_ 16), (1, u "java/lang/StringLatin1"), (36, u "([BI)C"), (67, u "$assertionsDisabled"), (0, u "Z"), (98, .class_ 223), (1, u "java/lang/StringLatin1$LinesSpliterator"), (28, u "charAt"), (28, u "equals"), (0, u "([B[B)Z"), (107, .class_ 391), (0, u "java/lang/StringLatin1$CharsSpliterator")] 3

def k10m0 : Method := { name := "<init>", desc := "()V", sig := { parameters := [], returnType := none }, accessFlags := 0, code := none }
def k10c1 : Code := { maxStack := 2, maxLocals := 2, code := jdk_43_method_2_code, exceptionTable := #[], attributes := #[] }
def k10m1 : Method := { name := "charAt", desc := "([BI)C", sig := { parameters := [(.array .byte), .int], returnType := some .char }, accessFlags := 9, code := some k10c1 }
def k10c2 : Code := { maxStack := 3, maxLocals := 3, code := jdk_43_method_13_code, exceptionTable := #[], attributes := #[] }
def k10m2 : Method := { name := "equals", desc := "([B[B)Z", sig := { parameters := [(.array .byte), (.array .byte)], returnType := some .boolean }, accessFlags := 9, code := some k10c2 }
/-- java/lang/StringLatin1 -/
def k10 : Class := { plain "java/lang/StringLatin1" (some 0) with
  accessFlags := 48
  interfaces := #[]
  cf := some (fileOf pool10 14 #[.nestMembers #[390, 221]] #[{ accessFlags := 0, nameIndex := 7, descriptorIndex := 8, attributes := #[] }, { accessFlags := 9, nameIndex := 252, descriptorIndex := 53, attributes := #[] }, { accessFlags := 9, nameIndex := 281, descriptorIndex := 282, attributes := #[] }] 48 4 #[] #[{ accessFlags := 4120, nameIndex := 121, descriptorIndex := 122, attributes := #[] }])
  fields := #[{ name := "$assertionsDisabled", type := .boolean, accessFlags := 4120, slot := 0, constantValue := 0 }]
  methods := #[k10m0, k10m1, k10m2]
  instanceTypes := #[]
  staticTypes := #[.boolean]
  resolved := Array.replicate 395 none
  statics := none }

def pool11 : Array CpInfo := pool [(3, .class_ 4), (0, u "java/lang/String"), (1, .class_ 8), (1, u "java/lang/Object"), (0, u "<init>"), (0, u "()V"), (0, .methodref 12 13), (0, .class_ 14), (0, .nameAndType 15 16), (0, u "java/lang/StringUTF16"), (0, u "newBytesLength"), (0, u "(I)I"), (3, .integer 1073741823), (23, .fieldref 12 45), (0, .nameAndType 46 47), (0, u "$assertionsDisabled"), (0, u "Z"), (0, .methodref 12 49), (0, .nameAndType 50 51), (0, u "length"), (0, u "([B)I"), (7, .fieldref 12 60), (0, .nameAndType 61 62), (0, u "HI_BYTE_SHIFT"), (0, u "I"), (0, .fieldref 12 64), (0, .nameAndType 65 62), (0, u "LO_BYTE_SHIFT"), (1, .methodref 12 68), (0, .nameAndType 69 70), (0, u "checkIndex"), (0, u "(I[B)V"), (0, .methodref 12 72), (0, .nameAndType 73 74), (0, u "getChar"), (0, u "([BI)C"), (32, .methodref 12 108), (0, .nameAndType 109 110), (0, u "newBytesFor"), (0, u "(I)[B"), (0, .methodref 12 112), (0, .nameAndType 113 114), (0, u "putChar"), (0, u "([BII)V"), (0, .methodref 12 116), (0, .nameAndType 117 118), (0, u "compress"), (0, u "([CI[BII)I"), (0, .methodref 12 120), (0, .nameAndType 121 122), (0, u "toBytes"), (0, u "([CII)[B"), (138, u "coderFromArrayLen"), (0, u "([BI)B"), (106, .class_ 371), (1, u "java/lang/StringUTF16$LinesSpliterator"), (20, u "charAt"), (21, .methodref 3 415), (0, .nameAndType 69 416), (0, u "(II)V"), (13, u "MAX_LENGTH"), (196, .class_ 628), (0, u "java/lang/StringUTF16$CodePointsSpliterator"), (0, .class_ 630), (0, u "java/lang/StringUTF16$CharsSpliterator")] 4

def k11m0 : Method := { name := "<init>", desc := "()V", sig := { parameters := [], returnType := none }, accessFlags := 0, code := none }
def k11c1 : Code := { maxStack := 1, maxLocals := 1, code := jdk_52_method_2_code, exceptionTable := #[], attributes := #[] }
def k11m1 : Method := { name := "newBytesFor", desc := "(I)[B", sig := { parameters := [.int], returnType := some (.array .byte) }, accessFlags := 9, code := some k11c1 }
def k11c2 : Code := { maxStack := 4, maxLocals := 1, code := jdk_52_method_3_code, exceptionTable := #[], attributes := #[] }
def k11m2 : Method := { name := "newBytesLength", desc := "(I)I", sig := { parameters := [.int], returnType := some .int }, accessFlags := 9, code := some k11c2 }
def k11c3 : Code := { maxStack := 4, maxLocals := 3, code := jdk_52_method_4_code, exceptionTable := #[], attributes := #[] }
def k11m3 : Method := { name := "putChar", desc := "([BII)V", sig := { parameters := [(.array .byte), .int, .int], returnType := none }, accessFlags := 8, code := some k11c3 }
def k11c4 : Code := { maxStack := 3, maxLocals := 2, code := jdk_52_method_5_code, exceptionTable := #[], attributes := #[] }
def k11m4 : Method := { name := "getChar", desc := "([BI)C", sig := { parameters := [(.array .byte), .int], returnType := some .char }, accessFlags := 8, code := some k11c4 }
def k11c5 : Code := { maxStack := 2, maxLocals := 1, code := jdk_52_method_6_code, exceptionTable := #[], attributes := #[] }
def k11m5 : Method := { name := "length", desc := "([B)I", sig := { parameters := [(.array .byte)], returnType := some .int }, accessFlags := 9, code := some k11c5 }
def k11c6 : Code := { maxStack := 4, maxLocals := 5, code := jdk_52_method_14_code, exceptionTable := #[], attributes := #[] }
def k11m6 : Method := { name := "toBytes", desc := "([CII)[B", sig := { parameters := [(.array .char), .int, .int], returnType := some (.array .byte) }, accessFlags := 9, code := some k11c6 }
def k11c7 : Code := { maxStack := 2, maxLocals := 2, code := jdk_52_method_15_code, exceptionTable := #[], attributes := #[] }
def k11m7 : Method := { name := "coderFromArrayLen", desc := "([BI)B", sig := { parameters := [(.array .byte), .int], returnType := some .byte }, accessFlags := 8, code := some k11c7 }
def k11c8 : Code := { maxStack := 5, maxLocals := 6, code := jdk_52_method_16_code, exceptionTable := #[], attributes := #[] }
def k11m8 : Method := { name := "compress", desc := "([CII)[B", sig := { parameters := [(.array .char), .int, .int], returnType := some (.array .byte) }, accessFlags := 9, code := some k11c8 }
def k11c9 : Code := { maxStack := 3, maxLocals := 7, code := jdk_52_method_21_code, exceptionTable := #[], attributes := #[] }
def k11m9 : Method := { name := "compress", desc := "([CI[BII)I", sig := { parameters := [(.array .char), .int, (.array .byte), .int, .int], returnType := some .int }, accessFlags := 9, code := some k11c9 }
def k11c10 : Code := { maxStack := 2, maxLocals := 2, code := jdk_52_method_83_code, exceptionTable := #[], attributes := #[] }
def k11m10 : Method := { name := "charAt", desc := "([BI)C", sig := { parameters := [(.array .byte), .int], returnType := some .char }, accessFlags := 9, code := some k11c10 }
def k11c11 : Code := { maxStack := 2, maxLocals := 2, code := jdk_52_method_91_code, exceptionTable := #[], attributes := #[] }
def k11m11 : Method := { name := "checkIndex", desc := "(I[B)V", sig := { parameters := [.int, (.array .byte)], returnType := none }, accessFlags := 9, code := some k11c11 }
/-- java/lang/StringUTF16 -/
def k11 : Class := { plain "java/lang/StringUTF16" (some 0) with
  accessFlags := 48
  interfaces := #[]
  cf := some (fileOf pool11 12 #[.nestMembers #[627, 629, 369]] #[{ accessFlags := 0, nameIndex := 9, descriptorIndex := 10, attributes := #[] }, { accessFlags := 9, nameIndex := 109, descriptorIndex := 110, attributes := #[] }, { accessFlags := 9, nameIndex := 15, descriptorIndex := 16, attributes := #[] }, { accessFlags := 8, nameIndex := 113, descriptorIndex := 114, attributes := #[] }, { accessFlags := 8, nameIndex := 73, descriptorIndex := 74, attributes := #[] }, { accessFlags := 9, nameIndex := 50, descriptorIndex := 51, attributes := #[] }, { accessFlags := 9, nameIndex := 121, descriptorIndex := 122, attributes := #[] }, { accessFlags := 8, nameIndex := 261, descriptorIndex := 262, attributes := #[] }, { accessFlags := 9, nameIndex := 117, descriptorIndex := 122, attributes := #[] }, { accessFlags := 9, nameIndex := 117, descriptorIndex := 118, attributes := #[] }, { accessFlags := 9, nameIndex := 392, descriptorIndex := 74, attributes := #[] }, { accessFlags := 9, nameIndex := 69, descriptorIndex := 70, attributes := #[] }] 48 6 #[] #[{ accessFlags := 26, nameIndex := 61, descriptorIndex := 62, attributes := #[] }, { accessFlags := 26, nameIndex := 65, descriptorIndex := 62, attributes := #[] }, { accessFlags := 24, nameIndex := 430, descriptorIndex := 62, attributes := #[] }, { accessFlags := 4120, nameIndex := 46, descriptorIndex := 47, attributes := #[] }])
  fields := #[{ name := "HI_BYTE_SHIFT", type := .int, accessFlags := 26, slot := 0, constantValue := 0 }, { name := "LO_BYTE_SHIFT", type := .int, accessFlags := 26, slot := 1, constantValue := 0 }, { name := "MAX_LENGTH", type := .int, accessFlags := 24, slot := 2, constantValue := 0 }, { name := "$assertionsDisabled", type := .boolean, accessFlags := 4120, slot := 3, constantValue := 0 }]
  methods := #[k11m0, k11m1, k11m2, k11m3, k11m4, k11m5, k11m6, k11m7, k11m8, k11m9, k11m10, k11m11]
  instanceTypes := #[]
  staticTypes := #[.int, .int, .int, .boolean]
  resolved := Array.replicate 635 none
  statics := some 1 }

def pool12 : Array CpInfo := pool [(2, .class_ 4), (1, u "java/lang/Object"), (0, u "<init>"), (0, u "()V"), (17, .class_ 26), (1, u "jdk/internal/util/Preconditions"), (6, u "checkIndex"), (21, .class_ 56), (0, u "jdk/internal/util/Preconditions$4"), (57, .class_ 115), (0, u "jdk/internal/util/Preconditions$1"), (7, u "SIOOBE_FORMATTER"), (0, u "Ljava/util/function/BiFunction;"), (0, .class_ 126), (0, u "jdk/internal/util/Preconditions$2"), (3, u "AIOOBE_FORMATTER"), (0, .class_ 132), (0, u "jdk/internal/util/Preconditions$3"), (3, u "IOOBE_FORMATTER"), (41, u "(IILjava/util/function/BiFunction;)I")] 15

def k12m0 : Method := { name := "<init>", desc := "()V", sig := { parameters := [], returnType := none }, accessFlags := 1, code := none }
def k12c1 : Code := { maxStack := 3, maxLocals := 3, code := jdk_41_method_11_code, exceptionTable := #[], attributes := #[] }
def k12m1 : Method := { name := "checkIndex", desc := "(IILjava/util/function/BiFunction;)I", sig := { parameters := [.int, .int, (.object "java/util/function/BiFunction")], returnType := some .int }, accessFlags := 9, code := some k12c1 }
/-- jdk/internal/util/Preconditions -/
def k12 : Class := { plain "jdk/internal/util/Preconditions" (some 0) with
  accessFlags := 33
  interfaces := #[]
  cf := some (fileOf pool12 24 #[.nestMembers #[55, 131, 125, 114]] #[{ accessFlags := 1, nameIndex := 5, descriptorIndex := 6, attributes := #[] }, { accessFlags := 9, nameIndex := 33, descriptorIndex := 178, attributes := #[] }] 33 2 #[] #[{ accessFlags := 25, nameIndex := 123, descriptorIndex := 124, attributes := #[] }, { accessFlags := 25, nameIndex := 130, descriptorIndex := 124, attributes := #[] }, { accessFlags := 25, nameIndex := 136, descriptorIndex := 124, attributes := #[] }])
  fields := #[{ name := "SIOOBE_FORMATTER", type := (.object "java/util/function/BiFunction"), accessFlags := 25, slot := 0, constantValue := 0 }, { name := "AIOOBE_FORMATTER", type := (.object "java/util/function/BiFunction"), accessFlags := 25, slot := 1, constantValue := 0 }, { name := "IOOBE_FORMATTER", type := (.object "java/util/function/BiFunction"), accessFlags := 25, slot := 2, constantValue := 0 }]
  methods := #[k12m0, k12m1]
  instanceTypes := #[]
  staticTypes := #[(.object "java/util/function/BiFunction"), (.object "java/util/function/BiFunction"), (.object "java/util/function/BiFunction")]
  resolved := Array.replicate 194 none
  statics := some 2 }

def pool13 : Array CpInfo := pool [(9, u "<init>"), (6, .class_ 18), (1, u "java/lang/Object"), (0, u "()V"), (1, .class_ 23), (1, u "jdk/internal/util/ArraysSupport"), (0, u "LOG2_ARRAY_LONG_INDEX_SCALE"), (0, u "I"), (2, u "U"), (0, u "Ljdk/internal/misc/Unsafe;"), (8, u "BIG_ENDIAN"), (0, u "Z"), (8, u "LOG2_BYTE_BIT_SIZE"), (4, u "LOG2_ARRAY_INT_INDEX_SCALE"), (54, u "JLA"), (0, u "Ljdk/internal/access/JavaLangAccess;"), (11, u "LOG2_ARRAY_BOOLEAN_INDEX_SCALE"), (9, u "LOG2_ARRAY_BYTE_INDEX_SCALE"), (5, u "LOG2_ARRAY_CHAR_INDEX_SCALE"), (5, u "LOG2_ARRAY_SHORT_INDEX_SCALE"), (18, u "LOG2_ARRAY_FLOAT_INDEX_SCALE"), (24, u "LOG2_ARRAY_DOUBLE_INDEX_SCALE"), (89, u "T_BOOLEAN"), (2, u "T_CHAR"), (1, u "T_FLOAT"), (1, u "T_DOUBLE"), (1, u "T_BYTE"), (1, u "T_SHORT"), (1, u "T_INT"), (1, u "T_LONG"), (1, u "SOFT_MAX_ARRAY_LENGTH")] 83

def k13m0 : Method := { name := "<init>", desc := "()V", sig := { parameters := [], returnType := none }, accessFlags := 2, code := none }
/-- jdk/internal/util/ArraysSupport -/
def k13 : Class := { plain "jdk/internal/util/ArraysSupport" (some 0) with
  accessFlags := 33
  interfaces := #[]
  cf := some (fileOf pool13 21 #[] #[{ accessFlags := 2, nameIndex := 9, descriptorIndex := 19, attributes := #[] }] 33 16 #[] #[{ accessFlags := 24, nameIndex := 28, descriptorIndex := 29, attributes := #[] }, { accessFlags := 26, nameIndex := 38, descriptorIndex := 39, attributes := #[] }, { accessFlags := 25, nameIndex := 121, descriptorIndex := 25, attributes := #[] }, { accessFlags := 25, nameIndex := 131, descriptorIndex := 25, attributes := #[] }, { accessFlags := 25, nameIndex := 137, descriptorIndex := 25, attributes := #[] }, { accessFlags := 25, nameIndex := 143, descriptorIndex := 25, attributes := #[] }, { accessFlags := 25, nameIndex := 53, descriptorIndex := 25, attributes := #[] }, { accessFlags := 25, nameIndex := 24, descriptorIndex := 25, attributes := #[] }, { accessFlags := 25, nameIndex := 162, descriptorIndex := 25, attributes := #[] }, { accessFlags := 25, nameIndex := 187, descriptorIndex := 25, attributes := #[] }, { accessFlags := 26, nameIndex := 48, descriptorIndex := 25, attributes := #[] }, { accessFlags := 25, nameIndex := 277, descriptorIndex := 25, attributes := #[] }, { accessFlags := 25, nameIndex := 280, descriptorIndex := 25, attributes := #[] }, { accessFlags := 25, nameIndex := 282, descriptorIndex := 25, attributes := #[] }, { accessFlags := 25, nameIndex := 284, descriptorIndex := 25, attributes := #[] }, { accessFlags := 25, nameIndex := 286, descriptorIndex := 25, attributes := #[] }, { accessFlags := 25, nameIndex := 288, descriptorIndex := 25, attributes := #[] }, { accessFlags := 25, nameIndex := 290, descriptorIndex := 25, attributes := #[] }, { accessFlags := 25, nameIndex := 292, descriptorIndex := 25, attributes := #[] }, { accessFlags := 26, nameIndex := 108, descriptorIndex := 109, attributes := #[] }, { accessFlags := 25, nameIndex := 294, descriptorIndex := 25, attributes := #[] }])
  fields := #[{ name := "U", type := (.object "jdk/internal/misc/Unsafe"), accessFlags := 24, slot := 0, constantValue := 0 }, { name := "BIG_ENDIAN", type := .boolean, accessFlags := 26, slot := 1, constantValue := 0 }, { name := "LOG2_ARRAY_BOOLEAN_INDEX_SCALE", type := .int, accessFlags := 25, slot := 2, constantValue := 0 }, { name := "LOG2_ARRAY_BYTE_INDEX_SCALE", type := .int, accessFlags := 25, slot := 3, constantValue := 0 }, { name := "LOG2_ARRAY_CHAR_INDEX_SCALE", type := .int, accessFlags := 25, slot := 4, constantValue := 0 }, { name := "LOG2_ARRAY_SHORT_INDEX_SCALE", type := .int, accessFlags := 25, slot := 5, constantValue := 0 }, { name := "LOG2_ARRAY_INT_INDEX_SCALE", type := .int, accessFlags := 25, slot := 6, constantValue := 0 }, { name := "LOG2_ARRAY_LONG_INDEX_SCALE", type := .int, accessFlags := 25, slot := 7, constantValue := 0 }, { name := "LOG2_ARRAY_FLOAT_INDEX_SCALE", type := .int, accessFlags := 25, slot := 8, constantValue := 0 }, { name := "LOG2_ARRAY_DOUBLE_INDEX_SCALE", type := .int, accessFlags := 25, slot := 9, constantValue := 0 }, { name := "LOG2_BYTE_BIT_SIZE", type := .int, accessFlags := 26, slot := 10, constantValue := 0 }, { name := "T_BOOLEAN", type := .int, accessFlags := 25, slot := 11, constantValue := 0 }, { name := "T_CHAR", type := .int, accessFlags := 25, slot := 12, constantValue := 0 }, { name := "T_FLOAT", type := .int, accessFlags := 25, slot := 13, constantValue := 0 }, { name := "T_DOUBLE", type := .int, accessFlags := 25, slot := 14, constantValue := 0 }, { name := "T_BYTE", type := .int, accessFlags := 25, slot := 15, constantValue := 0 }, { name := "T_SHORT", type := .int, accessFlags := 25, slot := 16, constantValue := 0 }, { name := "T_INT", type := .int, accessFlags := 25, slot := 17, constantValue := 0 }, { name := "T_LONG", type := .int, accessFlags := 25, slot := 18, constantValue := 0 }, { name := "JLA", type := (.object "jdk/internal/access/JavaLangAccess"), accessFlags := 26, slot := 19, constantValue := 0 }, { name := "SOFT_MAX_ARRAY_LENGTH", type := .int, accessFlags := 25, slot := 20, constantValue := 0 }]
  methods := #[k13m0]
  instanceTypes := #[]
  staticTypes := #[(.object "jdk/internal/misc/Unsafe"), .boolean, .int, .int, .int, .int, .int, .int, .int, .int, .int, .int, .int, .int, .int, .int, .int, .int, .int, (.object "jdk/internal/access/JavaLangAccess"), .int]
  resolved := Array.replicate 378 none
  statics := none }

def pool14 : Array CpInfo := pool [(1, u "java/lang/Cloneable"), (0, .class_ 1), (0, u "java/lang/Object"), (0, .class_ 3)] 3

/-- java/lang/Cloneable -/
def k14 : Class := { plain "java/lang/Cloneable" (some 0) with
  accessFlags := 1537
  interfaces := #[]
  cf := some (fileOf pool14 2 #[] #[] 1537 4 #[] #[])
  fields := #[]
  methods := #[]
  instanceTypes := #[]
  staticTypes := #[]
  resolved := Array.replicate 8 none
  statics := none }

/-- the primitive byte -/
def k15 : Class := { plain "byte" none with kind := .primitive 'B', accessFlags := 0x411 }
/-- [B -/
def k16 : Class := { plain "[B" (some 0) with kind := .array 15 .byte, interfaces := #[14, 2], accessFlags := 1041 }

/-- the primitive char -/
def k17 : Class := { plain "char" none with kind := .primitive 'C', accessFlags := 0x411 }
/-- [C -/
def k18 : Class := { plain "[C" (some 0) with kind := .array 17 .char, interfaces := #[14, 2], accessFlags := 1041 }

/-- the primitive int -/
def k19 : Class := { plain "int" none with kind := .primitive 'I', accessFlags := 0x411 }
/-- [I -/
def k20 : Class := { plain "[I" (some 0) with kind := .array 19 .int, interfaces := #[14, 2], accessFlags := 1041 }

def heap : Heap := #[{ cls := 7, slots := #[.long 0, .int 1, .null, .int 0, .null, .int 0, .int 0], vm := .statics 7 },
  { cls := 11, slots := #[.int 0, .int 8, .int 0, .int 1], vm := .statics 11 },
  { cls := 12, slots := #[.null, .null, .null], vm := .statics 12 }]
def classes : Array Class := #[k0, k1, k2, k3, k4, k5, k6, k7, k8, k9, k10, k11, k12, k13, k14, k15, k16, k17, k18, k19, k20]
def interned : List (Array UInt16 × Addr) := []
def slotsUsed : Nat := 14
def theMethod : MethodId := ⟨1, 4⟩
def args0 : Array Value := #[.int 5, .int 5, .int 5, .int 5, .int 5]
def aboutOver (below : List Frame) : State where
  vm := { classes := classes, interned := interned.toArray }
  heap := heap
  slotsUsed := slotsUsed
  threads := #[{ frames := .invoking theMethod args0 :: below }]
def below0 : List Frame := [.native { method := ⟨0, 0⟩, args := #[] }]
def about1 : State := aboutOver below0
def p0 : Program := .bare "" "" ""
def e0 : Env := launch0.env 0 0 0
theorem w_frames : about1.frames = Frame.invoking theMethod args0 :: below0 := rfl
set_option maxRecDepth 65536 in
theorem w_args : argsFit about1.vm theMethod args0 = true := by decide +kernel
set_option maxRecDepth 65536 in
theorem w_heap : heapFits about1 = true := by decide +kernel
set_option maxRecDepth 65536 in
theorem w_runnable : about1.curStatus? = some .runnable := by decide +kernel
set_option maxRecDepth 65536 in
theorem w_alone : about1.alone = true := by decide +kernel
set_option maxRecDepth 65536 in
theorem w_named : about1.methodNamed? x = some theMethod := by decide +kernel
set_option maxRecDepth 65536 in
theorem w_hears : about1.hears theMethod below0 = true := by decide +kernel
set_option maxRecDepth 65536 in
theorem w_ripe : about1.ripe theMethod args0 below0 = true := by decide +kernel
theorem w_running : about1.status = .running := rfl
set_option maxRecDepth 65536 in
theorem w_room : about1.hasRoom e0.platform room_1 = true :=
  launch0.hasRoom_least _ room_1 (by decide +kernel) (by decide +kernel) (by decide +kernel) (by decide +kernel) (by decide +kernel) (by decide +kernel)
theorem allAtoms_all (ts : List Jvm.Cond) (a : Array Jvm.Value) (st : Jvm.State) : (allAtoms ts).before a st = ts.all (fun c => c.before a st) := by
  induction ts with
  | nil => rfl
  | cons c t ih =>
    show (Jvm.Cond.and c (allAtoms t)).before a st = _
    rw [Jvm.Cond.before_and, ih, List.all_cons]
def words1 : List Jvm.Cond := Jvm.Cond.code x code maxLocals ret :: tables_1
/-- a 'code' word, met by the world's own term for the bytes: nothing is compared byte by byte -/
theorem code_word {y : MethodName} {bytes : ByteArray} {mx : Nat} {rt : Option FieldType} {a : Array Value} {s : State} {m : MethodId} {meth : Method} {c : Code} (h1 : s.methodNamed? y = some m) (h2 : s.vm.method? m = some meth) (h3 : meth.code = some c) (h4 : c.code = bytes)
    (h5 : (c.maxLocals == mx && c.exceptionTable.isEmpty && decide (c.maxStack ≤ mostOperands) && decide (meth.sig.returnType = rt) && !meth.locks && decide (parseMethodDescriptor y.desc = some meth.sig)) = true) : (Jvm.Cond.code y bytes mx rt).before a s = true := by
  simp only [Bool.and_eq_true, beq_iff_eq, Bool.not_eq_true', decide_eq_true_eq] at h5
  obtain ⟨⟨⟨⟨⟨g1, g2⟩, g3⟩, g4⟩, g5⟩, g6⟩ := h5
  simp [Cond.before, Cond.holds, Cond.value, h1, h2, h3, h4, g1, g2, g3, g4, g5, g6]
def isCode : Jvm.Cond → Bool
  | .code _ _ _ _ => true
  | _ => false
theorem all_split {L : List Jvm.Cond} {P : Jvm.Cond → Bool} (h1 : L.all (fun c => isCode c || P c) = true) (h2 : ∀ c ∈ L.filter isCode, P c = true) : L.all P = true := by
  refine List.all_eq_true.mpr fun c hc => ?_
  have h := List.all_eq_true.mp h1 c hc
  rcases Bool.eq_false_or_eq_true (isCode c) with hi | hi
  · exact h2 c (List.mem_filter.mpr ⟨hc, hi⟩)
  · simpa [hi] using h
set_option maxRecDepth 65536 in
theorem w_c0 : (Jvm.Cond.code x code maxLocals ret).before args0 about1 = true := code_word (m := ⟨1, 4⟩) (meth := k1m4) (c := k1c4) (by decide +kernel) rfl rfl rfl (by decide +kernel)
set_option maxRecDepth 65536 in
theorem w_c1 : (Jvm.Cond.code ({ cls := "com/example/bewaker/bewaker/fhir/InteractionIsIdPinLaw", name := "valid", desc := "(C)Z" } : Jvm.MethodName) method_2_code (2 : Nat) (Option.some Jvm.ClassFile.FieldType.boolean)).before args0 about1 = true := code_word (m := ⟨1, 1⟩) (meth := k1m1) (c := k1c1) (by decide +kernel) rfl rfl rfl (by decide +kernel)
set_option maxRecDepth 65536 in
theorem w_c2 : (Jvm.Cond.code ({ cls := "java/lang/String", name := "<init>", desc := "([C)V" } : Jvm.MethodName) jdk_42_method_3_code (2 : Nat) (Option.none : Option Jvm.ClassFile.FieldType)).before args0 about1 = true := code_word (m := ⟨7, 1⟩) (meth := k7m1) (c := k7c1) (by decide +kernel) rfl rfl rfl (by decide +kernel)
set_option maxRecDepth 65536 in
theorem w_c3 : (Jvm.Cond.code ({ cls := "java/lang/String", name := "<init>", desc := "([CIILjava/lang/Void;)V" } : Jvm.MethodName) jdk_42_method_149_code (6 : Nat) (Option.none : Option Jvm.ClassFile.FieldType)).before args0 about1 = true := code_word (m := ⟨7, 6⟩) (meth := k7m6) (c := k7c6) (by decide +kernel) rfl rfl rfl (by decide +kernel)
set_option maxRecDepth 65536 in
theorem w_c4 : (Jvm.Cond.code ({ cls := "java/lang/Object", name := "<init>", desc := "()V" } : Jvm.MethodName) object_method_1_code (1 : Nat) (Option.none : Option Jvm.ClassFile.FieldType)).before args0 about1 = true := code_word (m := ⟨0, 0⟩) (meth := k0m0) (c := k0c0) (by decide +kernel) rfl rfl rfl (by decide +kernel)
set_option maxRecDepth 65536 in
theorem w_c5 : (Jvm.Cond.code ({ cls := "com/example/bewaker/bewaker/fhir/Interaction", name := "isId", desc := "(Ljava/lang/String;)Z" } : Jvm.MethodName) prog_6_method_6_code (4 : Nat) (Option.some Jvm.ClassFile.FieldType.boolean)).before args0 about1 = true := code_word (m := ⟨9, 0⟩) (meth := k9m0) (c := k9c0) (by decide +kernel) rfl rfl rfl (by decide +kernel)
set_option maxRecDepth 65536 in
theorem w_c6 : (Jvm.Cond.code ({ cls := "java/lang/String", name := "isEmpty", desc := "()Z" } : Jvm.MethodName) jdk_42_method_55_code (1 : Nat) (Option.some Jvm.ClassFile.FieldType.boolean)).before args0 about1 = true := code_word (m := ⟨7, 3⟩) (meth := k7m3) (c := k7c3) (by decide +kernel) rfl rfl rfl (by decide +kernel)
set_option maxRecDepth 65536 in
theorem w_c7 : (Jvm.Cond.code ({ cls := "java/lang/String", name := "length", desc := "()I" } : Jvm.MethodName) jdk_42_method_54_code (1 : Nat) (Option.some Jvm.ClassFile.FieldType.int)).before args0 about1 = true := code_word (m := ⟨7, 2⟩) (meth := k7m2) (c := k7c2) (by decide +kernel) rfl rfl rfl (by decide +kernel)
set_option maxRecDepth 65536 in
theorem w_c8 : (Jvm.Cond.code ({ cls := "java/lang/String", name := "coder", desc := "()B" } : Jvm.MethodName) jdk_42_method_152_code (1 : Nat) (Option.some Jvm.ClassFile.FieldType.byte)).before args0 about1 = true := code_word (m := ⟨7, 7⟩) (meth := k7m7) (c := k7c7) (by decide +kernel) rfl rfl rfl (by decide +kernel)
set_option maxRecDepth 65536 in
theorem w_c9 : (Jvm.Cond.code ({ cls := "java/lang/String", name := "equals", desc := "(Ljava/lang/Object;)Z" } : Jvm.MethodName) jdk_42_method_66_code (3 : Nat) (Option.some Jvm.ClassFile.FieldType.boolean)).before args0 about1 = true := code_word (m := ⟨7, 5⟩) (meth := k7m5) (c := k7c5) (by decide +kernel) rfl rfl rfl (by decide +kernel)
set_option maxRecDepth 65536 in
theorem w_c10 : (Jvm.Cond.code ({ cls := "java/lang/StringLatin1", name := "equals", desc := "([B[B)Z" } : Jvm.MethodName) jdk_43_method_13_code (3 : Nat) (Option.some Jvm.ClassFile.FieldType.boolean)).before args0 about1 = true := code_word (m := ⟨10, 2⟩) (meth := k10m2) (c := k10c2) (by decide +kernel) rfl rfl rfl (by decide +kernel)
set_option maxRecDepth 65536 in
theorem w_c11 : (Jvm.Cond.code ({ cls := "java/lang/StringUTF16", name := "compress", desc := "([CII)[B" } : Jvm.MethodName) jdk_52_method_16_code (6 : Nat) (Option.some (Jvm.ClassFile.FieldType.array Jvm.ClassFile.FieldType.byte))).before args0 about1 = true := code_word (m := ⟨11, 8⟩) (meth := k11m8) (c := k11c8) (by decide +kernel) rfl rfl rfl (by decide +kernel)
set_option maxRecDepth 65536 in
theorem w_c12 : (Jvm.Cond.code ({ cls := "java/lang/StringUTF16", name := "compress", desc := "([CI[BII)I" } : Jvm.MethodName) jdk_52_method_21_code (7 : Nat) (Option.some Jvm.ClassFile.FieldType.int)).before args0 about1 = true := code_word (m := ⟨11, 9⟩) (meth := k11m9) (c := k11c9) (by decide +kernel) rfl rfl rfl (by decide +kernel)
set_option maxRecDepth 65536 in
theorem w_c13 : (Jvm.Cond.code ({ cls := "java/lang/StringUTF16", name := "coderFromArrayLen", desc := "([BI)B" } : Jvm.MethodName) jdk_52_method_15_code (2 : Nat) (Option.some Jvm.ClassFile.FieldType.byte)).before args0 about1 = true := code_word (m := ⟨11, 7⟩) (meth := k11m7) (c := k11c7) (by decide +kernel) rfl rfl rfl (by decide +kernel)
set_option maxRecDepth 65536 in
theorem w_c14 : (Jvm.Cond.code ({ cls := "java/lang/String", name := "charAt", desc := "(I)C" } : Jvm.MethodName) jdk_42_method_56_code (2 : Nat) (Option.some Jvm.ClassFile.FieldType.char)).before args0 about1 = true := code_word (m := ⟨7, 4⟩) (meth := k7m4) (c := k7c4) (by decide +kernel) rfl rfl rfl (by decide +kernel)
set_option maxRecDepth 65536 in
theorem w_c15 : (Jvm.Cond.code ({ cls := "java/lang/String", name := "isLatin1", desc := "()Z" } : Jvm.MethodName) jdk_42_method_154_code (1 : Nat) (Option.some Jvm.ClassFile.FieldType.boolean)).before args0 about1 = true := code_word (m := ⟨7, 8⟩) (meth := k7m8) (c := k7c8) (by decide +kernel) rfl rfl rfl (by decide +kernel)
set_option maxRecDepth 65536 in
theorem w_c16 : (Jvm.Cond.code ({ cls := "java/lang/StringLatin1", name := "charAt", desc := "([BI)C" } : Jvm.MethodName) jdk_43_method_2_code (2 : Nat) (Option.some Jvm.ClassFile.FieldType.char)).before args0 about1 = true := code_word (m := ⟨10, 1⟩) (meth := k10m1) (c := k10c1) (by decide +kernel) rfl rfl rfl (by decide +kernel)
set_option maxRecDepth 65536 in
theorem w_c17 : (Jvm.Cond.code ({ cls := "java/lang/String", name := "checkIndex", desc := "(II)V" } : Jvm.MethodName) jdk_42_method_155_code (2 : Nat) (Option.none : Option Jvm.ClassFile.FieldType)).before args0 about1 = true := code_word (m := ⟨7, 9⟩) (meth := k7m9) (c := k7c9) (by decide +kernel) rfl rfl rfl (by decide +kernel)
set_option maxRecDepth 65536 in
theorem w_c18 : (Jvm.Cond.code ({ cls := "jdk/internal/util/Preconditions", name := "checkIndex", desc := "(IILjava/util/function/BiFunction;)I" } : Jvm.MethodName) jdk_41_method_11_code (3 : Nat) (Option.some Jvm.ClassFile.FieldType.int)).before args0 about1 = true := code_word (m := ⟨12, 1⟩) (meth := k12m1) (c := k12c1) (by decide +kernel) rfl rfl rfl (by decide +kernel)
set_option maxRecDepth 65536 in
theorem w_c19 : (Jvm.Cond.code ({ cls := "com/example/bewaker/bewaker/fhir/InteractionIsIdPinLaw", name := "long65", desc := "(CCCC)[C" } : Jvm.MethodName) method_4_code (4 : Nat) (Option.some (Jvm.ClassFile.FieldType.array Jvm.ClassFile.FieldType.char))).before args0 about1 = true := code_word (m := ⟨1, 3⟩) (meth := k1m3) (c := k1c3) (by decide +kernel) rfl rfl rfl (by decide +kernel)
set_option maxRecDepth 65536 in
theorem w_c20 : (Jvm.Cond.code ({ cls := "java/lang/StringUTF16", name := "toBytes", desc := "([CII)[B" } : Jvm.MethodName) jdk_52_method_14_code (5 : Nat) (Option.some (Jvm.ClassFile.FieldType.array Jvm.ClassFile.FieldType.byte))).before args0 about1 = true := code_word (m := ⟨11, 6⟩) (meth := k11m6) (c := k11c6) (by decide +kernel) rfl rfl rfl (by decide +kernel)
set_option maxRecDepth 65536 in
theorem w_c21 : (Jvm.Cond.code ({ cls := "java/lang/StringUTF16", name := "newBytesFor", desc := "(I)[B" } : Jvm.MethodName) jdk_52_method_2_code (1 : Nat) (Option.some (Jvm.ClassFile.FieldType.array Jvm.ClassFile.FieldType.byte))).before args0 about1 = true := code_word (m := ⟨11, 1⟩) (meth := k11m1) (c := k11c1) (by decide +kernel) rfl rfl rfl (by decide +kernel)
set_option maxRecDepth 65536 in
theorem w_c22 : (Jvm.Cond.code ({ cls := "java/lang/StringUTF16", name := "newBytesLength", desc := "(I)I" } : Jvm.MethodName) jdk_52_method_3_code (1 : Nat) (Option.some Jvm.ClassFile.FieldType.int)).before args0 about1 = true := code_word (m := ⟨11, 2⟩) (meth := k11m2) (c := k11c2) (by decide +kernel) rfl rfl rfl (by decide +kernel)
set_option maxRecDepth 65536 in
theorem w_c23 : (Jvm.Cond.code ({ cls := "java/lang/StringUTF16", name := "putChar", desc := "([BII)V" } : Jvm.MethodName) jdk_52_method_4_code (3 : Nat) (Option.none : Option Jvm.ClassFile.FieldType)).before args0 about1 = true := code_word (m := ⟨11, 3⟩) (meth := k11m3) (c := k11c3) (by decide +kernel) rfl rfl rfl (by decide +kernel)
set_option maxRecDepth 65536 in
theorem w_c24 : (Jvm.Cond.code ({ cls := "java/lang/StringUTF16", name := "getChar", desc := "([BI)C" } : Jvm.MethodName) jdk_52_method_5_code (2 : Nat) (Option.some Jvm.ClassFile.FieldType.char)).before args0 about1 = true := code_word (m := ⟨11, 4⟩) (meth := k11m4) (c := k11c4) (by decide +kernel) rfl rfl rfl (by decide +kernel)
set_option maxRecDepth 65536 in
theorem w_c25 : (Jvm.Cond.code ({ cls := "java/lang/StringUTF16", name := "charAt", desc := "([BI)C" } : Jvm.MethodName) jdk_52_method_83_code (2 : Nat) (Option.some Jvm.ClassFile.FieldType.char)).before args0 about1 = true := code_word (m := ⟨11, 10⟩) (meth := k11m10) (c := k11c10) (by decide +kernel) rfl rfl rfl (by decide +kernel)
set_option maxRecDepth 65536 in
theorem w_c26 : (Jvm.Cond.code ({ cls := "java/lang/StringUTF16", name := "checkIndex", desc := "(I[B)V" } : Jvm.MethodName) jdk_52_method_91_code (2 : Nat) (Option.none : Option Jvm.ClassFile.FieldType)).before args0 about1 = true := code_word (m := ⟨11, 11⟩) (meth := k11m11) (c := k11c11) (by decide +kernel) rfl rfl rfl (by decide +kernel)
set_option maxRecDepth 65536 in
theorem w_c27 : (Jvm.Cond.code ({ cls := "java/lang/StringUTF16", name := "length", desc := "([B)I" } : Jvm.MethodName) jdk_52_method_6_code (1 : Nat) (Option.some Jvm.ClassFile.FieldType.int)).before args0 about1 = true := code_word (m := ⟨11, 5⟩) (meth := k11m5) (c := k11c5) (by decide +kernel) rfl rfl rfl (by decide +kernel)
set_option maxRecDepth 65536 in
theorem w_c28 : (Jvm.Cond.code ({ cls := "com/example/bewaker/bewaker/fhir/InteractionIsIdPinLaw", name := "long64", desc := "(CCCC)[C" } : Jvm.MethodName) method_3_code (4 : Nat) (Option.some (Jvm.ClassFile.FieldType.array Jvm.ClassFile.FieldType.char))).before args0 about1 = true := code_word (m := ⟨1, 2⟩) (meth := k1m2) (c := k1c2) (by decide +kernel) rfl rfl rfl (by decide +kernel)
def codes1 : List Jvm.Cond := [Jvm.Cond.code x code maxLocals ret, Jvm.Cond.code ({ cls := "com/example/bewaker/bewaker/fhir/InteractionIsIdPinLaw", name := "valid", desc := "(C)Z" } : Jvm.MethodName) method_2_code (2 : Nat) (Option.some Jvm.ClassFile.FieldType.boolean), Jvm.Cond.code ({ cls := "java/lang/String", name := "<init>", desc := "([C)V" } : Jvm.MethodName) jdk_42_method_3_code (2 : Nat) (Option.none : Option Jvm.ClassFile.FieldType), Jvm.Cond.code ({ cls := "java/lang/String", name := "<init>", desc := "([CIILjava/lang/Void;)V" } : Jvm.MethodName) jdk_42_method_149_code (6 : Nat) (Option.none : Option Jvm.ClassFile.FieldType), Jvm.Cond.code ({ cls := "java/lang/Object", name := "<init>", desc := "()V" } : Jvm.MethodName) object_method_1_code (1 : Nat) (Option.none : Option Jvm.ClassFile.FieldType), Jvm.Cond.code ({ cls := "com/example/bewaker/bewaker/fhir/Interaction", name := "isId", desc := "(Ljava/lang/String;)Z" } : Jvm.MethodName) prog_6_method_6_code (4 : Nat) (Option.some Jvm.ClassFile.FieldType.boolean), Jvm.Cond.code ({ cls := "java/lang/String", name := "isEmpty", desc := "()Z" } : Jvm.MethodName) jdk_42_method_55_code (1 : Nat) (Option.some Jvm.ClassFile.FieldType.boolean), Jvm.Cond.code ({ cls := "java/lang/String", name := "length", desc := "()I" } : Jvm.MethodName) jdk_42_method_54_code (1 : Nat) (Option.some Jvm.ClassFile.FieldType.int), Jvm.Cond.code ({ cls := "java/lang/String", name := "coder", desc := "()B" } : Jvm.MethodName) jdk_42_method_152_code (1 : Nat) (Option.some Jvm.ClassFile.FieldType.byte), Jvm.Cond.code ({ cls := "java/lang/String", name := "equals", desc := "(Ljava/lang/Object;)Z" } : Jvm.MethodName) jdk_42_method_66_code (3 : Nat) (Option.some Jvm.ClassFile.FieldType.boolean), Jvm.Cond.code ({ cls := "java/lang/StringLatin1", name := "equals", desc := "([B[B)Z" } : Jvm.MethodName) jdk_43_method_13_code (3 : Nat) (Option.some Jvm.ClassFile.FieldType.boolean), Jvm.Cond.code ({ cls := "java/lang/StringUTF16", name := "compress", desc := "([CII)[B" } : Jvm.MethodName) jdk_52_method_16_code (6 : Nat) (Option.some (Jvm.ClassFile.FieldType.array Jvm.ClassFile.FieldType.byte)), Jvm.Cond.code ({ cls := "java/lang/StringUTF16", name := "compress", desc := "([CI[BII)I" } : Jvm.MethodName) jdk_52_method_21_code (7 : Nat) (Option.some Jvm.ClassFile.FieldType.int), Jvm.Cond.code ({ cls := "java/lang/StringUTF16", name := "coderFromArrayLen", desc := "([BI)B" } : Jvm.MethodName) jdk_52_method_15_code (2 : Nat) (Option.some Jvm.ClassFile.FieldType.byte), Jvm.Cond.code ({ cls := "java/lang/String", name := "charAt", desc := "(I)C" } : Jvm.MethodName) jdk_42_method_56_code (2 : Nat) (Option.some Jvm.ClassFile.FieldType.char), Jvm.Cond.code ({ cls := "java/lang/String", name := "isLatin1", desc := "()Z" } : Jvm.MethodName) jdk_42_method_154_code (1 : Nat) (Option.some Jvm.ClassFile.FieldType.boolean), Jvm.Cond.code ({ cls := "java/lang/StringLatin1", name := "charAt", desc := "([BI)C" } : Jvm.MethodName) jdk_43_method_2_code (2 : Nat) (Option.some Jvm.ClassFile.FieldType.char), Jvm.Cond.code ({ cls := "java/lang/String", name := "checkIndex", desc := "(II)V" } : Jvm.MethodName) jdk_42_method_155_code (2 : Nat) (Option.none : Option Jvm.ClassFile.FieldType), Jvm.Cond.code ({ cls := "jdk/internal/util/Preconditions", name := "checkIndex", desc := "(IILjava/util/function/BiFunction;)I" } : Jvm.MethodName) jdk_41_method_11_code (3 : Nat) (Option.some Jvm.ClassFile.FieldType.int), Jvm.Cond.code ({ cls := "com/example/bewaker/bewaker/fhir/InteractionIsIdPinLaw", name := "long65", desc := "(CCCC)[C" } : Jvm.MethodName) method_4_code (4 : Nat) (Option.some (Jvm.ClassFile.FieldType.array Jvm.ClassFile.FieldType.char)), Jvm.Cond.code ({ cls := "java/lang/StringUTF16", name := "toBytes", desc := "([CII)[B" } : Jvm.MethodName) jdk_52_method_14_code (5 : Nat) (Option.some (Jvm.ClassFile.FieldType.array Jvm.ClassFile.FieldType.byte)), Jvm.Cond.code ({ cls := "java/lang/StringUTF16", name := "newBytesFor", desc := "(I)[B" } : Jvm.MethodName) jdk_52_method_2_code (1 : Nat) (Option.some (Jvm.ClassFile.FieldType.array Jvm.ClassFile.FieldType.byte)), Jvm.Cond.code ({ cls := "java/lang/StringUTF16", name := "newBytesLength", desc := "(I)I" } : Jvm.MethodName) jdk_52_method_3_code (1 : Nat) (Option.some Jvm.ClassFile.FieldType.int), Jvm.Cond.code ({ cls := "java/lang/StringUTF16", name := "putChar", desc := "([BII)V" } : Jvm.MethodName) jdk_52_method_4_code (3 : Nat) (Option.none : Option Jvm.ClassFile.FieldType), Jvm.Cond.code ({ cls := "java/lang/StringUTF16", name := "getChar", desc := "([BI)C" } : Jvm.MethodName) jdk_52_method_5_code (2 : Nat) (Option.some Jvm.ClassFile.FieldType.char), Jvm.Cond.code ({ cls := "java/lang/StringUTF16", name := "charAt", desc := "([BI)C" } : Jvm.MethodName) jdk_52_method_83_code (2 : Nat) (Option.some Jvm.ClassFile.FieldType.char), Jvm.Cond.code ({ cls := "java/lang/StringUTF16", name := "checkIndex", desc := "(I[B)V" } : Jvm.MethodName) jdk_52_method_91_code (2 : Nat) (Option.none : Option Jvm.ClassFile.FieldType), Jvm.Cond.code ({ cls := "java/lang/StringUTF16", name := "length", desc := "([B)I" } : Jvm.MethodName) jdk_52_method_6_code (1 : Nat) (Option.some Jvm.ClassFile.FieldType.int), Jvm.Cond.code ({ cls := "com/example/bewaker/bewaker/fhir/InteractionIsIdPinLaw", name := "long64", desc := "(CCCC)[C" } : Jvm.MethodName) method_3_code (4 : Nat) (Option.some (Jvm.ClassFile.FieldType.array Jvm.ClassFile.FieldType.char))]
set_option maxRecDepth 65536 in
theorem codes_eq : words1.filter isCode = codes1 := rfl
theorem w_codes : ∀ c ∈ words1.filter isCode, c.before args0 about1 = true := by
  rw [codes_eq]
  intro c hc
  simp only [codes1, List.mem_cons, List.not_mem_nil, or_false] at hc
  rcases hc with rfl | rfl | rfl | rfl | rfl | rfl | rfl | rfl | rfl | rfl | rfl | rfl | rfl | rfl | rfl | rfl | rfl | rfl | rfl | rfl | rfl | rfl | rfl | rfl | rfl | rfl | rfl | rfl | rfl
  · exact w_c0
  · exact w_c1
  · exact w_c2
  · exact w_c3
  · exact w_c4
  · exact w_c5
  · exact w_c6
  · exact w_c7
  · exact w_c8
  · exact w_c9
  · exact w_c10
  · exact w_c11
  · exact w_c12
  · exact w_c13
  · exact w_c14
  · exact w_c15
  · exact w_c16
  · exact w_c17
  · exact w_c18
  · exact w_c19
  · exact w_c20
  · exact w_c21
  · exact w_c22
  · exact w_c23
  · exact w_c24
  · exact w_c25
  · exact w_c26
  · exact w_c27
  · exact w_c28
set_option maxRecDepth 65536 in
theorem w_t1 : (words1.take 24).all (fun c => isCode c || c.before args0 about1) = true := by decide +kernel
set_option maxRecDepth 65536 in
theorem w_t2 : ((words1.drop 24).take 24).all (fun c => isCode c || c.before args0 about1) = true := by decide +kernel
set_option maxRecDepth 65536 in
theorem w_t3 : (((words1.drop 24).drop 24).take 24).all (fun c => isCode c || c.before args0 about1) = true := by decide +kernel
set_option maxRecDepth 65536 in
theorem w_t4 : ((((words1.drop 24).drop 24).drop 24).take 24).all (fun c => isCode c || c.before args0 about1) = true := by decide +kernel
set_option maxRecDepth 65536 in
theorem w_t5 : (((((words1.drop 24).drop 24).drop 24).drop 24).take 24).all (fun c => isCode c || c.before args0 about1) = true := by decide +kernel
set_option maxRecDepth 65536 in
theorem w_t6 : (((((words1.drop 24).drop 24).drop 24).drop 24).drop 24).all (fun c => isCode c || c.before args0 about1) = true := by decide +kernel
theorem w_tables : (allAtoms (Jvm.Cond.code x code maxLocals ret :: tables_1)).before args0 about1 = true := by
  rw [allAtoms_all]
  show words1.all (fun c => c.before args0 about1) = true
  refine all_split ?_ w_codes
  rw [← List.take_append_drop 24 words1, List.all_append, w_t1, ← List.take_append_drop 24 (words1.drop 24), List.all_append, w_t2, ← List.take_append_drop 24 ((words1.drop 24).drop 24), List.all_append, w_t3, ← List.take_append_drop 24 (((words1.drop 24).drop 24).drop 24), List.all_append, w_t4, ← List.take_append_drop 24 ((((words1.drop 24).drop 24).drop 24).drop 24), List.all_append, w_t5, w_t6]
  rfl
set_option maxRecDepth 65536 in
theorem w_rest : rest_1_c.before args0 about1 = true := by decide +kernel
set_option maxRecDepth 65536 in
theorem w_case : (Jvm.Cond.and given_1 narrow_1).before args0 about1 = true := by decide +kernel
set_option maxRecDepth 65536 in
theorem w_consts : constsHeld consts_1 about1 := Jvm.Lit.constsHeldB_iff.mp (by decide +kernel)
theorem w_applies : (headSpec (Jvm.Cond.code x code maxLocals ret :: tables_1) room_1).applies x e0.platform about1 = true :=
  (Spec.applies_iff w_frames).mpr ⟨w_running, w_runnable, w_alone, w_named, w_hears, w_ripe, w_room, w_tables⟩
theorem atStart : AtStart classFile x code maxLocals ret World_1 tables_1 room_1 Calls_1 rest_1 Pre_1 launch0 p0 e0 about1 theMethod args0 below0 :=
  ⟨lists_1, trivial, launch0.admits_env _ _ _, launch0.least_env, fairChoices_fair.cas, fairChoices_fair.clock, w_frames, w_args, w_heap, w_applies, ⟨w_consts, trivial⟩, w_rest, w_case⟩
end start1
theorem witness_1 : WitnessClaimed_1 := ⟨start1.p0, start1.e0, start1.about1, start1.theMethod, start1.args0, start1.below0, start1.atStart⟩
end Jvm.Pilot.@@N@@
