import JvmDerived
import JvmDerived.Pilot.@@N@@Statement
import JvmDerived.Pilot.@@N@@Code
set_option linter.unusedVariables false
set_option linter.unusedSimpArgs false
namespace Jvm.Pilot.@@N@@
open Jvm Jvm.ClassFile Sem Op Lib Jvm.Free Jvm.Stand Jvm.LawKit Jvm.RoadKit Bundle Jvm.Pilot.@@N@@.Jvm.D
section Own
variable {p : Program} {l : Launch} {e : Env} {R : Room} {s : State} {m : MethodId} {args : Array Value} {below : List Frame} {meth : Method} {c : Code} {T : State} {locs : List Loc} {cells slots : Nat} {Z : State} {a0 : Array Value} {h : Heap} {P : State → Outcome → Prop} {pc : Nat} {Ls : Array Slot} {rest st : List Value}
/-- from T, with f on top, the run comes to an end of which P holds -/
def own_Go (p : Program) (e : Env) (below : List Frame) (P : State → Outcome → Prop) (T : State) (f : JFrame) : Prop :=
  ∃ t o, Steps p.tables e below (T.setTop f) t ∧ t.status = .running ∧ Ended t below o ∧ P t o
theorem own_by {T' : State} {f f' : JFrame} (st : ∀ t, Steps p.tables e below (T'.setTop f') t → Steps p.tables e below (T.setTop f) t) (k : own_Go p e below P T' f') : own_Go p e below P T f := by
  obtain ⟨t, o, h1, h2⟩ := k
  exact ⟨t, o, st _ h1, h2⟩
/-- a method's end: what it returns, the heap, what it wrote -/
def own_Ends (s : State) (rm : Room) (Q : Option Value → Heap → List Loc → Prop) (t : State) (o : Outcome) : Prop := ∃ v L, o = .returned v ∧ Q v t.heap L ∧ FrameEnd s o t L rm.cells rm.slots
/-- a body's contract, at one list of arguments and one heap -/
def own_Ct (l : Launch) (Z : State) (y : MethodName) (bytes : ByteArray) (mx : Nat) (rt : Option FieldType) (ws : List Jvm.Cond) (rm : Room) (as' : Array Value) (h0 : Heap) (Q : Option Value → Heap → List Loc → Prop) : Prop :=
  MetFree l y (head1 (Jvm.Cond.code y bytes mx rt :: ws) rm) (fun a U => a = as' ∧ Z.Warmed39 U.vm ∧ U.heap = h0) (fun _ _ _ _ _ => True) (fun _ U o U' => own_Ends U rm Q U' o)
theorem own_of {y : MethodName} {bytes : ByteArray} {mx : Nat} {rt : Option FieldType} {ws : List Jvm.Cond} {rm : Room} {as' : Array Value} {h0 : Heap} {Q : Option Value → Heap → List Loc → Prop} (hpl : plainFor y = true)
    (body : ∀ (p : Program) (e : Env) (s : State) (m : MethodId) (below : List Frame) (meth : Method) (c : Code) (s₁ : State), p.tables.exec = Jvm.exec → c.code = bytes → c.maxLocals = mx → s.vm.findClass y.cls = some m.cls → meth.name = y.name → meth.sig.returnType = rt → meth.locks = false → Z.Warmed39 s.vm →
      Stand p l e rm s m as' below meth c s₁ [] 0 0 → s₁.heap = h0 → own_Go p e below (own_Ends s rm Q) s₁ (entryFrame m as' mx)) : own_Ct l Z y bytes mx rt ws rm as' h0 Q := by
  refine MetFree.of_bodySF hpl hisR ?_
  intro p e s m args below meth c s₁ Bd hml hP hK
  obtain ⟨rfl, hZ, hh⟩ := hP
  exact body p e s m below meth c s₁ Bd.exec Bd.bytes hml (findClass_of_methodNamed Bd.named) (name_of_methodNamed Bd.named Bd.method).1 Bd.returns Bd.notSynchronized hZ (Stand.of_body Bd) (by rw [← hh, Bd.state]; rfl)
theorem own_ret {rm : Room} {Q : Option Value → Heap → List Loc → Prop} {t : FieldType} {w : Value} {i : Instr} (X : Stand p l e R s m args below meth c T locs cells slots) (hx : p.tables.exec = Jvm.exec) (hret : meth.sig.returnType = some t) (hlk : meth.locks = false) (hd : decode c.code pc = .ok (i, 1)) (hn : narrow t w = w)
    (hi : (i = .ireturn ∧ (t = .int ∨ t = .boolean ∨ t = .byte ∨ t = .char ∨ t = .short) ∧ ∃ z, w = .int z) ∨ (i = .lreturn ∧ t = .long ∧ ∃ z, w = .long z) ∨ (i = .dreturn ∧ t = .double ∧ ∃ z, w = .double z) ∨ (i = .freturn ∧ t = .float ∧ ∃ z, w = .float z) ∨ (i = .areturn ∧ t.isReference = true ∧ w.isRef = true))
    (hc : cells ≤ rm.cells) (hs : slots ≤ rm.slots) (hq : Q (some w) T.heap locs) : own_Go p e below (own_Ends s rm Q) T (mkF m pc Ls (w :: rest)) := by
  obtain ⟨fs, hr, hrun, hended, hW, hsame⟩ := X.leave (v := some w) (fun h => by rw [hret] at h; cases h) hlk
  exact ⟨_, _, retOut X hx hret hn hi hd hr, hrun, hended, _, _, rfl, hq, ⟨_, rfl⟩, hW, hsame.mono hc hs⟩
theorem own_retI {rm : Room} {Q : Option Value → Heap → List Loc → Prop} {w : Int32} (X : Stand p l e R s m args below meth c T locs cells slots) (hx : p.tables.exec = Jvm.exec) (hret : meth.sig.returnType = some .int) (hlk : meth.locks = false) (hd : decode c.code pc = .ok (.ireturn, 1)) 
    (hc : cells ≤ rm.cells) (hs : slots ≤ rm.slots) (hq : Q (some (.int w)) T.heap locs) : own_Go p e below (own_Ends s rm Q) T (mkF m pc Ls (.int w :: rest)) :=
  own_ret X hx hret hlk hd rfl (Or.inl ⟨rfl, Or.inl rfl, _, rfl⟩) hc hs hq
theorem own_retZ {rm : Room} {Q : Option Value → Heap → List Loc → Prop} {w : Int32} (X : Stand p l e R s m args below meth c T locs cells slots) (hx : p.tables.exec = Jvm.exec) (hret : meth.sig.returnType = some .boolean) (hlk : meth.locks = false) (hd : decode c.code pc = .ok (.ireturn, 1)) (hw : w = 0 ∨ w = 1)
    (hc : cells ≤ rm.cells) (hs : slots ≤ rm.slots) (hq : Q (some (.int w)) T.heap locs) : own_Go p e below (own_Ends s rm Q) T (mkF m pc Ls (.int w :: rest)) :=
  own_ret X hx hret hlk hd (by rcases hw with rfl | rfl <;> rfl) (Or.inl ⟨rfl, Or.inr (Or.inl rfl), _, rfl⟩) hc hs hq
theorem own_retJ {rm : Room} {Q : Option Value → Heap → List Loc → Prop} {w : Int64} (X : Stand p l e R s m args below meth c T locs cells slots) (hx : p.tables.exec = Jvm.exec) (hret : meth.sig.returnType = some .long) (hlk : meth.locks = false) (hd : decode c.code pc = .ok (.lreturn, 1)) 
    (hc : cells ≤ rm.cells) (hs : slots ≤ rm.slots) (hq : Q (some (.long w)) T.heap locs) : own_Go p e below (own_Ends s rm Q) T (mkF m pc Ls (.long w :: rest)) :=
  own_ret X hx hret hlk hd rfl (Or.inr (Or.inl ⟨rfl, rfl, _, rfl⟩)) hc hs hq
theorem own_retA {rm : Room} {Q : Option Value → Heap → List Loc → Prop} {w : Value} {t : FieldType} (X : Stand p l e R s m args below meth c T locs cells slots) (hx : p.tables.exec = Jvm.exec) (hret : meth.sig.returnType = some t) (hlk : meth.locks = false) (hd : decode c.code pc = .ok (.areturn, 1)) (ht : t.isReference = true) (hn : narrow t w = w) (hw : w.isRef = true)
    (hc : cells ≤ rm.cells) (hs : slots ≤ rm.slots) (hq : Q (some w) T.heap locs) : own_Go p e below (own_Ends s rm Q) T (mkF m pc Ls (w :: rest)) :=
  own_ret X hx hret hlk hd hn (Or.inr (Or.inr (Or.inr (Or.inr ⟨rfl, ht, hw⟩)))) hc hs hq
theorem own_retV {rm : Room} {Q : Option Value → Heap → List Loc → Prop} (X : Stand p l e R s m args below meth c T locs cells slots) (hx : p.tables.exec = Jvm.exec) (hret : meth.sig.returnType = none) (hlk : meth.locks = false) (hd : decode c.code pc = .ok (.return_, 1))
    (hc : cells ≤ rm.cells) (hs : slots ≤ rm.slots) (hq : Q none T.heap locs) : own_Go p e below (own_Ends s rm Q) T (mkF m pc Ls []) := by
  obtain ⟨fs, hr, hrun, hended, hW, hsame⟩ := X.leave (v := none) (fun _ => rfl) hlk
  exact ⟨_, _, X.returnOut hx hret hd hr, hrun, hended, _, _, rfl, hq, ⟨_, rfl⟩, hW, hsame.mono hc hs⟩
abbrev own_K (p : Program) (l : Launch) (e : Env) (R : Room) (s : State) (m : MethodId) (args : Array Value) (below : List Frame) (meth : Method) (c : Code) (P : State → Outcome → Prop) (locs : List Loc) (cells slots : Nat) (rm : Room) (Q : Option Value → Heap → List Loc → Prop) (pc : Nat) (Ls : Array Slot) (rest : List Value) : Prop :=
  ∀ (T' : State) (v : Option Value) (L : List Loc), Stand p l e R s m args below meth c T' (locs ++ L) (cells + rm.cells) (slots + rm.slots) → Q v T'.heap L → own_Go p e below P T' (mkF m pc Ls (v.toList ++ rest))
theorem own_callS {own : String} {index : Nat} {y : MethodName} {bytes : ByteArray} {maxL : Nat} {ret : Option FieldType} {rm : Room} {Q : Option Value → Heap → List Loc → Prop} {ps : List FieldType} {r : Option FieldType} (X : Stand p l e R s m args below meth c T locs cells slots) (hx : p.tables.exec = Jvm.exec) (hZ : Z.Warmed39 s.vm) (hown : s.vm.findClass own = some m.cls) (eT : T.heap = h) (hd : decode c.code pc = .ok (.invokestatic index, 3))
    (argsL rest : List Value) (W : Nat) (C : own_Ct l Z y bytes maxL ret [] rm argsL.toArray h Q) (w1 : (Cond.methodLink own index y).before a0 Z = true) (w2 : (Cond.static y).before a0 Z = true) (w3 : (Cond.initialized y.cls).before a0 Z = true) (w4 : (Cond.code y bytes maxL ret).before a0 Z = true)
    (hy : y.cls ≠ "java/lang/invoke/MethodHandle" ∧ y.cls ≠ "java/lang/invoke/VarHandle") (hpd : parseMethodDescriptor y.desc = some ⟨ps, r⟩) (hsize : Ls.size = c.maxLocals) (hlen : argsL.length = ps.length) (hst : st = argsL.reverse ++ rest)
    (hW : (rest.map fun v => v.category).sum ≤ W) (hf : rm.frames + 1 ≤ R.frames) (hl : W + (maxL + 11) + rm.locals ≤ R.locals) (hc : cells + rm.cells ≤ R.cells) (hs : slots + rm.slots ≤ R.slots)
    (k : own_K p l e R s m args below meth c P locs cells slots rm Q (pc + 3) Ls rest) : own_Go p e below P T (mkF m pc Ls st) := by
  obtain ⟨v, _, ⟨T', L', k', n'⟩, -, X', ⟨Lc, hQ, l', y', z'⟩, stp⟩ := Jvm.LawKit.callS X hx (y := y) hown (mvT hZ w1) (mvT hZ w2) (mvT hZ w3) (mvT hZ w4) hy (backOf (W := W) (Q := Q) C hZ w4 w3 hf hl) (g := mkF m pc Ls st) rfl hsize (argsL := argsL) (rest := rest) (lenOf hpd hlen) hst (by show 2 * 0 + _ ≤ _; omega) hd (fun _ _ => ⟨rfl, eT, hc, hs⟩)
  dsimp only [Pt.U, Pt.locs, Pt.cells, Pt.slots] at X' l' y' z' stp hQ
  subst l' y' z'
  exact own_by stp (k T' v Lc X' hQ)
theorem own_callN {own : String} {index : Nat} {y : MethodName} {bytes : ByteArray} {maxL : Nat} {rm : Room} {Q : Option Value → Heap → List Loc → Prop} {ps : List FieldType} {r : Option FieldType} {a : Addr} (X : Stand p l e R s m args below meth c T locs cells slots) (hx : p.tables.exec = Jvm.exec) (hZ : Z.Warmed39 s.vm) (hown : s.vm.findClass own = some m.cls) (eT : T.heap = h) (hd : decode c.code pc = .ok (.invokespecial index, 3))
    (argsL rest : List Value) (W : Nat) (C : own_Ct l Z y bytes maxL none [] rm (.ref a :: argsL).toArray h Q) (w1 : (Cond.methodLink own index y).before a0 Z = true) (w2 : (Cond.instanceMethod y).before a0 Z = true) (w3 : (Cond.initialized y.cls).before a0 Z = true) (w4 : (Cond.code y bytes maxL none).before a0 Z = true)
    (hyi : y.name = "<init>") (hy : y.cls ≠ "java/lang/invoke/MethodHandle" ∧ y.cls ≠ "java/lang/invoke/VarHandle") (hpd : parseMethodDescriptor y.desc = some ⟨ps, r⟩) (hsize : Ls.size = c.maxLocals) (hlen : argsL.length = ps.length) (hst : st = argsL.reverse ++ .ref a :: rest)
    (hW : (rest.map fun v => v.category).sum ≤ W) (hf : rm.frames + 1 ≤ R.frames) (hl : W + (maxL + 11) + rm.locals ≤ R.locals) (hc : cells + rm.cells ≤ R.cells) (hs : slots + rm.slots ≤ R.slots)
    (k : own_K p l e R s m args below meth c P locs cells slots rm Q (pc + 3) Ls rest) : own_Go p e below P T (mkF m pc Ls st) := by
  obtain ⟨v, _, ⟨T', L', k', n'⟩, -, X', ⟨Lc, hQ, l', y', z'⟩, stp⟩ := X.specialBack hx (y := y) hyi hown (mvT hZ w1) (mvT hZ w2) (mvT hZ w4) hy (backOf (W := W) (Q := Q) C hZ w4 w3 hf hl) (g := mkF m pc Ls st) rfl hsize (Steps.refl _) (a := a) (argsL := argsL) (rest := rest) (lenOf hpd hlen) hst (by show 2 * 0 + _ ≤ _; omega) hd (fun _ _ => ⟨rfl, eT, hc, hs⟩)
  dsimp only [Pt.U, Pt.locs, Pt.cells, Pt.slots] at X' l' y' z' stp hQ
  subst l' y' z'
  exact own_by (fun _ k => stp.trans k) (k T' v Lc X' hQ)
theorem own_callV {own : String} {index : Nat} {C0 : String} {y z : MethodName} {bytes : ByteArray} {maxL : Nat} {ret : Option FieldType} {rm : Room} {Q : Option Value → Heap → List Loc → Prop} {ps : List FieldType} {r : Option FieldType} {a : Addr} (X : Stand p l e R s m args below meth c T locs cells slots) (hx : p.tables.exec = Jvm.exec) (hZ : Z.Warmed39 s.vm) (hown : s.vm.findClass own = some m.cls) (eT : T.heap = h) (hd : decode c.code pc = .ok (.invokevirtual index, 3))
    (argsL rest : List Value) (W : Nat) (C : own_Ct l Z z bytes maxL ret [] rm (.ref a :: argsL).toArray h Q) (E : Exa Z h a C0) (w1 : (Cond.methodLink own index y).before a0 Z = true) (w0 : (Cond.declares y).before a0 Z = true) (nf : NotFace s y) (ws : (Cond.selects C0 y z).before a0 Z = true) (w2 : (Cond.instanceMethod z).before a0 Z = true) (w3 : (Cond.initialized z.cls).before a0 Z = true) (w4 : (Cond.code z bytes maxL ret).before a0 Z = true)
    (hy : y.cls ≠ "java/lang/invoke/MethodHandle" ∧ y.cls ≠ "java/lang/invoke/VarHandle") (hpd : parseMethodDescriptor y.desc = some ⟨ps, r⟩) (hsize : Ls.size = c.maxLocals) (hlen : argsL.length = ps.length) (hst : st = argsL.reverse ++ .ref a :: rest)
    (hW : (rest.map fun v => v.category).sum ≤ W) (hf : rm.frames + 1 ≤ R.frames) (hl : W + (maxL + 11) + rm.locals ≤ R.locals) (hc : cells + rm.cells ≤ R.cells) (hs : slots + rm.slots ≤ R.slots)
    (k : own_K p l e R s m args below meth c P locs cells slots rm Q (pc + 3) Ls rest) : own_Go p e below P T (mkF m pc Ls st) := by
  obtain ⟨cq, kq, qa, qb, qc⟩ := isOf hZ eT E
  obtain ⟨v, _, ⟨T', L', k', n'⟩, -, X', ⟨Lc, hQ, l', y', z'⟩, stp⟩ := X.virtualBack hx (y := y) (z := z) hown (mvT hZ w1) (mvT hZ w0) nf (mvT hZ ws) (mvT hZ w2) hy (backOf (W := W) (Q := Q) C hZ w4 w3 hf hl) qa qc (g := mkF m pc Ls st) rfl hsize (Steps.refl _) (argsL := argsL) (rest := rest) (lenOf hpd hlen) hst (by show 2 * 0 + _ ≤ _; omega) hd (fun _ _ => ⟨rfl, eT, hc, hs⟩)
  dsimp only [Pt.U, Pt.locs, Pt.cells, Pt.slots] at X' l' y' z' stp hQ
  subst l' y' z'
  exact own_by (fun _ k => stp.trans k) (k T' v Lc X' hQ)
theorem own_callP {own : String} {index : Nat} {C0 : String} {y : MethodName} {bytes : ByteArray} {maxL : Nat} {ret : Option FieldType} {rm : Room} {Q : Option Value → Heap → List Loc → Prop} {ps : List FieldType} {r : Option FieldType} {a : Addr} (X : Stand p l e R s m args below meth c T locs cells slots) (hx : p.tables.exec = Jvm.exec) (hZ : Z.Warmed39 s.vm) (hown : s.vm.findClass own = some m.cls) (eT : T.heap = h) (hd : decode c.code pc = .ok (.invokevirtual index, 3))
    (argsL rest : List Value) (W : Nat) (C : own_Ct l Z y bytes maxL ret [] rm (.ref a :: argsL).toArray h Q) (E : Exa Z h a C0) (w1 : (Cond.methodLink own index y).before a0 Z = true) (w2 : (Cond.instanceMethod y).before a0 Z = true) (ws : (Cond.selects y.cls y y).before a0 Z = true) (wp : (Cond.privateMethod y).before a0 Z = true) (w3 : (Cond.initialized y.cls).before a0 Z = true) (w4 : (Cond.code y bytes maxL ret).before a0 Z = true)
    (hy : y.cls ≠ "java/lang/invoke/MethodHandle" ∧ y.cls ≠ "java/lang/invoke/VarHandle") (hpd : parseMethodDescriptor y.desc = some ⟨ps, r⟩) (hsize : Ls.size = c.maxLocals) (hlen : argsL.length = ps.length) (hst : st = argsL.reverse ++ .ref a :: rest)
    (hW : (rest.map fun v => v.category).sum ≤ W) (hf : rm.frames + 1 ≤ R.frames) (hl : W + (maxL + 11) + rm.locals ≤ R.locals) (hc : cells + rm.cells ≤ R.cells) (hs : slots + rm.slots ≤ R.slots)
    (k : own_K p l e R s m args below meth c P locs cells slots rm Q (pc + 3) Ls rest) : own_Go p e below P T (mkF m pc Ls st) := by
  obtain ⟨cq, q1, q2⟩ := E.cell
  obtain ⟨v, _, ⟨T', L', k', n'⟩, -, X', ⟨Lc, hQ, l', y', z'⟩, stp⟩ := X.privateBack hx (y := y) hown (mvT hZ w1) (mvT hZ w2) (mvT hZ ws) (Cond.privateMethod_at (mvP hZ wp (args := #[]))) (mvT hZ w4) hy (backOf (W := W) (Q := Q) C hZ w4 w3 hf hl) (g := mkF m pc Ls st) rfl hsize (Steps.refl _) (a := a) (by rw [eT]; exact q1) q2 (argsL := argsL) (rest := rest) (lenOf hpd hlen) hst (by show 2 * 0 + _ ≤ _; omega) hd (fun _ _ => ⟨rfl, eT, hc, hs⟩)
  dsimp only [Pt.U, Pt.locs, Pt.cells, Pt.slots] at X' l' y' z' stp hQ
  subst l' y' z'
  exact own_by (fun _ k => stp.trans k) (k T' v Lc X' hQ)
abbrev own_K0 (p : Program) (l : Launch) (e : Env) (R : Room) (s : State) (m : MethodId) (args : Array Value) (below : List Frame) (meth : Method) (c : Code) (P : State → Outcome → Prop) (locs : List Loc) (cells slots : Nat) (h : Heap) (pc : Nat) (Ls : Array Slot) (st : List Value) : Prop :=
  ∀ (T' : State), Stand p l e R s m args below meth c T' locs cells slots → T'.heap = h → own_Go p e below P T' (mkF m pc Ls st)
theorem own_init {own : String} {index : Nat} {a : Addr} (X : Stand p l e R s m args below meth c T locs cells slots) (hx : p.tables.exec = Jvm.exec) (hZ : Z.Warmed39 s.vm) (hown : s.vm.findClass own = some m.cls) (eT : T.heap = h) (hd : decode c.code pc = .ok (.invokespecial index, 3)) (W : Nat)
    (w1 : (Cond.methodLink own index Lib.objectInit).before a0 Z = true) (w2 : (Cond.instanceMethod Lib.objectInit).before a0 Z = true) (w3 : (Cond.code Lib.objectInit ⟨#[0xb1]⟩ 1 none).before a0 Z = true) (hsize : Ls.size = c.maxLocals) (hW : (rest.map fun v => v.category).sum ≤ W) (hf : 1 ≤ R.frames) (hl : W + 12 ≤ R.locals)
    (k : own_K0 p l e R s m args below meth c P locs cells slots h (pc + 3) Ls rest) : own_Go p e below P T (mkF m pc Ls (.ref a :: rest)) := by
  obtain ⟨T', X', e', st⟩ := initO X hx hZ hown w1 w2 w3 eT (g := mkF m pc Ls (.ref a :: rest)) rfl hsize rfl hd hf (W := W) (by show 2 * 0 + _ ≤ _; omega) hl
  exact own_by st (k T' X' e')
theorem own_getF {own R0 O n d host : String} {index : Nat} {a : Addr} {v : Value} (X : Stand p l e R s m args below meth c T locs cells slots) (hx : p.tables.exec = Jvm.exec) (hZ : Z.Warmed39 s.vm) (hown : s.vm.findClass own = some m.cls) (eT : T.heap = h) (hd : decode c.code pc = .ok (.getfield index, 3))
    (w : (Cond.fieldLink own index R0 n d).before a0 Z = true ∨ (Cond.fieldLinkNest own index R0 n d host).before a0 Z = true) (via : Via Z R0 O n d) (F : Fld Z h a O n d v)
    (k : own_K0 p l e R s m args below meth c P locs cells slots h (pc + 3) Ls (v :: rest)) : own_Go p e below P T (mkF m pc Ls (.ref a :: rest)) := by
  obtain ⟨T', X', e', st⟩ := getF X hx hZ hown w via eT F (g := mkF m pc Ls (.ref a :: rest)) rfl rfl hd
  exact own_by st (k T' X' e')
theorem own_getS {own R0 O n d host : String} {index : Nat} {v : Value} (X : Stand p l e R s m args below meth c T locs cells slots) (hx : p.tables.exec = Jvm.exec) (hZ : Z.Warmed39 s.vm) (hown : s.vm.findClass own = some m.cls) (eT : T.heap = h) (hd : decode c.code pc = .ok (.getstatic index, 3))
    (w : (Cond.fieldLink own index R0 n d).before a0 Z = true ∨ (Cond.fieldLinkNest own index R0 n d host).before a0 Z = true) (via : Via Z R0 O n d) (F : Sta Z h O n d v)
    (k : own_K0 p l e R s m args below meth c P locs cells slots h (pc + 3) Ls (v :: st)) : own_Go p e below P T (mkF m pc Ls st) := by
  obtain ⟨T', X', e', stp⟩ := getS2 X hx hZ hown w via eT F (g := mkF m pc Ls st) rfl hd
  exact own_by stp (k T' X' e')
theorem own_new {own C : String} {index n : Nat} (X : Stand p l e R s m args below meth c T locs cells slots) (hx : p.tables.exec = Jvm.exec) (hZ : Z.Warmed39 s.vm) (hown : s.vm.findClass own = some m.cls) (eT : T.heap = h) (hd : decode c.code pc = .ok (.new index, 3))
    (w : (Cond.classLink own index C).before a0 Z = true) (wi : (Cond.instantiable C n).before a0 Z = true) (wz : (Cond.initialized C).before a0 Z = true) (hc : cells + 1 ≤ R.cells) (hl : slots + n ≤ R.slots)
    (k : ∀ (T' : State) (h' : Heap) (b : Addr), Stand p l e R s m args below meth c T' locs (cells + 1) (slots + n) → T'.heap = h' → b = h.size → Ext h h' → Exa Z h' b C → (∀ {O nm d : String} {ty : FieldType}, Laid Z a0 C O nm d → parseFieldDescriptor d = some ty → Fld Z h' b O nm d (defaultValue ty)) → own_Go p e below P T' (mkF m (pc + 3) Ls (.ref b :: st))) :
    own_Go p e below P T (mkF m pc Ls st) := by
  obtain ⟨T', h', X', e', E, A, D, -, stp⟩ := newO X hx hZ hown w wi wz eT (g := mkF m pc Ls st) rfl hd hc hl
  exact own_by stp (k T' h' _ X' e' rfl E A D)
theorem own_putF {own R0 O n d host C : String} {index kk : Nat} {ty : FieldType} {a : Addr} {v old : Value} (X : Stand p l e R s m args below meth c T locs cells slots) (hx : p.tables.exec = Jvm.exec) (hZ : Z.Warmed39 s.vm) (hown : s.vm.findClass own = some m.cls) (eT : T.heap = h) (hd : decode c.code pc = .ok (.putfield index, 3))
    (w : (Cond.fieldLink own index R0 n d).before a0 Z = true ∨ (Cond.fieldLinkNest own index R0 n d host).before a0 Z = true) (via : Via Z R0 O n d) (F : Fld Z h a O n d old) (E : Exa Z h a C) (L : (Cond.lays C O n d).before a0 Z = true ∨ ((Cond.laysFinal C O n d).before a0 Z = true ∧ own = O ∧ meth.name = "<init>")) (wi : (Cond.instantiable C kk).before a0 Z = true)
    (hty : parseFieldDescriptor d = some ty) (hn : narrow ty v = v) (hf : fits ty v = true)
    (k : ∀ (T' : State) (h' : Heap), Stand p l e R s m args below meth c T' (locs ++ [⟨a, Jvm.RoadKit.slotOf Z O n d⟩]) cells slots → T'.heap = h' → Wr h h' a (Jvm.RoadKit.slotOf Z O n d) v → own_Go p e below P T' (mkF m (pc + 3) Ls rest)) :
    own_Go p e below P T (mkF m pc Ls (v :: .ref a :: rest)) := by
  obtain ⟨T', h', X', e', W, st⟩ := putF X hx hZ hown w via eT F E L wi hty hn hf (g := mkF m pc Ls (v :: .ref a :: rest)) rfl rfl hd
  exact own_by st (k T' h' X' e' W)
theorem own_newA {aty : ArrayType} {n : Int32} (X : Stand p l e R s m args below meth c T locs cells slots) (hx : p.tables.exec = Jvm.exec) (hZ : Z.Warmed39 s.vm) (eT : T.heap = h) (hd : decode c.code pc = .ok (.newarray aty, 2))
    (w : (Cond.arrayClass (newarray.typeOf aty)).before a0 Z = true) (hn : ¬ n < 0) (cap : Nat) (hcap : n.toNatClampNeg ≤ cap) (hb : cap * 8 ≤ 536870912) (hc : cells + 1 ≤ R.cells) (hl : slots + cap ≤ R.slots)
    (k : ∀ (T' : State) (h' : Heap) (b : Addr) (cA : ClassId), Stand p l e R s m args below meth c T' locs (cells + 1) (slots + cap) → T'.heap = h' → b = h.size → Ext h h' → Arv Z h' b cA (newarray.typeOf aty) n [] (defaultValue (newarray.typeOf aty)) → own_Go p e below P T' (mkF m (pc + 2) Ls (.ref b :: rest))) :
    own_Go p e below P T (mkF m pc Ls (.int n :: rest)) := by
  obtain ⟨T', h', cA, X', e', E, A, stp⟩ := newP X hx hZ w eT (g := mkF m pc Ls (.int n :: rest)) rfl hd rfl hn hcap hb hc hl
  exact own_by stp (k T' h' _ cA X' e' rfl E (Arv.new A hn))
theorem own_ldcI {own : String} {index : Nat} {i : Int32} (X : Stand p l e R s m args below meth c T locs cells slots) (hx : p.tables.exec = Jvm.exec) (hZ : Z.Warmed39 s.vm) (hown : s.vm.findClass own = some m.cls) (hd : decode c.code pc = .ok (.ldc index, 2)) (w : (Cond.constant own index i).before a0 Z = true)
    (k : own_Go p e below P T (mkF m (pc + 2) Ls (.int i :: st))) : own_Go p e below P T (mkF m pc Ls st) :=
  own_by (fun t k => X.ldcInt hx hown (mvT hZ w) (g := mkF m pc Ls st) rfl hd t k) k
theorem own_ldcJ {own : String} {index : Nat} {i : Int64} (X : Stand p l e R s m args below meth c T locs cells slots) (hx : p.tables.exec = Jvm.exec) (hZ : Z.Warmed39 s.vm) (hown : s.vm.findClass own = some m.cls) (hd : decode c.code pc = .ok (.ldc2_w index, 3)) (w : (Cond.constantLong own index i).before a0 Z = true)
    (k : own_Go p e below P T (mkF m (pc + 3) Ls (.long i :: st))) : own_Go p e below P T (mkF m pc Ls st) :=
  own_by (fun t k => X.ldc2Long hx hown (mvT hZ w) (g := mkF m pc Ls st) rfl hd t k) k
theorem own_ns {a : Addr} {C : String} (F : Exa Z h a C) : ∃ c : Cell, h[a]? = some c ∧ c.vm.isStatics = false := by obtain ⟨c, _, h1, -, -, h4, -⟩ := F; exact ⟨c, h1, h4⟩
theorem own_sta_keep {h' : Heap} {C n d : String} {v : Value} {ws : List Addr} (F : Sta Z h C n d v) (K : Keep h h' ws) (q : ∀ x ∈ ws, ∃ c : Cell, h[x]? = some c ∧ c.vm.isStatics = false) : Sta Z h' C n d v := by
  obtain ⟨cf, i, k, f, st, cell, h1, h2, h3, h4, h5, h6, h7⟩ := F
  refine ⟨cf, i, k, f, st, cell, h1, h2, h3, h4, K.2.1 st cell h5 fun z => ?_, h6, h7⟩
  obtain ⟨c, c1, c2⟩ := q st z
  cases h5.symm.trans c1
  rw [h6] at c2; cases c2
end Own
section OwnArr
variable {p : Program} {l : Launch} {e : Env} {R : Room} {s : State} {m : MethodId} {args : Array Value} {below : List Frame} {meth : Method} {c : Code} {T : State} {locs : List Loc} {cells slots : Nat} {Z : State} {a0 : Array Value} {h h' : Heap} {P : State → Outcome → Prop} {pc : Nat} {Ls : Array Slot} {rest st : List Value} {a b : Addr} {ty : FieldType} {n : Nat} {f g : Nat → Int32}
/-- an array of ints (chars, bytes ..): its length, its elements -/
def own_A (Z : State) (h : Heap) (a : Addr) (ty : FieldType) (n : Nat) (f : Nat → Int32) : Prop := ∃ cl : Cell, Arr Z h a cl ty ∧ cl.slots.size = n ∧ n < 2147483648 ∧ ∀ i, i < n → cl.slots[i]? = some (.int (f i))
theorem own_A.lt (F : own_A Z h a ty n f) : a < h.size := by obtain ⟨_, A, -⟩ := F; exact A.lt
theorem own_A.ext (F : own_A Z h a ty n f) (E : Ext h h') : own_A Z h' a ty n f := by obtain ⟨cl, A, r⟩ := F; exact ⟨cl, A.ext E, r⟩
theorem own_A.other {sl : Nat} {v : Value} (F : own_A Z h b ty n f) (W : Wr h h' a sl v) (q : b ≠ a) : own_A Z h' b ty n f := by obtain ⟨cl, A, r⟩ := F; exact ⟨cl, A.other W q, r⟩
theorem own_A.keep {ws : List Addr} (F : own_A Z h a ty n f) (K : Keep h h' ws) (q : a ∉ ws) : own_A Z h' a ty n f := by obtain ⟨cl, A, r⟩ := F; exact ⟨cl, ⟨K.2.1 a cl A.1 q, A.2⟩, r⟩
theorem own_A.small (F : own_A Z h a ty n f) : n < 2147483648 := by obtain ⟨_, _, _, q, _⟩ := F; exact q
theorem own_A.congr (F : own_A Z h a ty n f) (q : ∀ i, i < n → f i = g i) : own_A Z h a ty n g := by
  obtain ⟨cl, A, h1, h2, h3⟩ := F
  exact ⟨cl, A, h1, h2, fun i hi => by rw [h3 i hi, q i hi]⟩
theorem own_A.set {j : Nat} {v : Int32} (F : own_A Z h a ty n f) (W : Wr h h' a j (.int v)) : own_A Z h' a ty n (fun i => if i = j then v else f i) := by
  obtain ⟨cl, A, h1, h2, h3⟩ := F
  have hw : j < cl.slots.size := by obtain ⟨c', q1, -, q3, -⟩ := W; cases q1.symm.trans A.1; exact q3
  refine ⟨_, A.same W, by rw [sz_set]; exact h1, h2, fun i hi => ?_⟩
  by_cases q : i = j
  · subst q; simp [Cell.setSlot, hw]
  · show _ = some (Value.int (if i = j then v else f i))
    rw [if_neg q, ← h3 i hi]; exact Array.getElem?_setIfInBounds_ne (Ne.symm q)
theorem own_nsA (F : own_A Z h a ty n f) : ∃ c : Cell, h[a]? = some c ∧ c.vm.isStatics = false := by obtain ⟨cl, A, -⟩ := F; exact ⟨cl, A.1, A.plain⟩
theorem own_clamp {j : Int32} (h0 : 0 ≤ j.toInt) : j.toNatClampNeg = j.toInt.toNat := rfl
theorem own_inb {j : Int32} {k : Nat} (h0 : 0 ≤ j.toInt) (h1 : j.toInt < k) : ¬ (j < 0 ∨ k ≤ j.toNatClampNeg) := by
  rintro (q | q)
  · have := Int32.lt_iff_toInt_lt.mp q
    have e : (0 : Int32).toInt = 0 := by decide
    omega
  · rw [own_clamp h0] at q; omega
theorem own_A.new {k : ClassId} {z : Int32} {v : Int32} (F : Arv Z h a k ty z [] (.int v)) : own_A Z h a ty z.toInt.toNat (fun _ => v) := by
  obtain ⟨cl, A, -, h2, h3, H, -⟩ := F
  have e : z.toNatClampNeg = z.toInt.toNat := rfl
  refine ⟨cl, A, h2.trans e, ?_, fun i hi => ?_⟩
  · have := rng32 z; omega
  · rw [H i (by rw [h2, e]; exact hi)]; rfl
theorem own_alen {j : Int32} (X : Stand p l e R s m args below meth c T locs cells slots) (hx : p.tables.exec = Jvm.exec) (hZ : Z.Warmed39 s.vm) (eT : T.heap = h) (hd : decode c.code pc = .ok (.arraylength, 1)) (F : own_A Z h a ty n f) (hj : j.toInt = n)
    (k : own_Go p e below P T (mkF m (pc + 1) Ls (.int j :: rest))) : own_Go p e below P T (mkF m pc Ls (.ref a :: rest)) := by
  obtain ⟨cl, A, h1, h2, -⟩ := F
  have e1 : cl.slots.size.toInt32 = j := by
    apply Int32.toInt_inj.mp
    rw [hj, h1]; exact Int32.toInt_ofNat_of_lt h2
  refine own_by (fun t k => X.arraylength hx (by rw [eT]; exact A.1) (State.isArrayOf_alike hZ.alike A.2.1) (g := mkF m pc Ls (.ref a :: rest)) rfl rfl hd t k) ?_
  rw [e1]; exact k
theorem own_ldI {j : Int32} (X : Stand p l e R s m args below meth c T locs cells slots) (hx : p.tables.exec = Jvm.exec) (hZ : Z.Warmed39 s.vm) (eT : T.heap = h) (hd : decode c.code pc = .ok (.iaload, 1)) (F : own_A Z h a .int n f) (h0 : 0 ≤ j.toInt) (h1 : j.toInt < n)
    (k : own_Go p e below P T (mkF m (pc + 1) Ls (.int (f j.toInt.toNat) :: rest))) : own_Go p e below P T (mkF m pc Ls (.int j :: .ref a :: rest)) := by
  obtain ⟨cl, A, e1, e2, e3⟩ := F
  exact own_by (fun t k => X.iaload hx (j := j) (v := .int (f j.toInt.toNat)) (by rw [eT]; exact A.1) (State.isArrayOf_alike hZ.alike A.2.1) A.2.2 (by rw [e1]; exact own_inb h0 h1) (e3 j.toInt.toNat (by omega)) (g := mkF m pc Ls (.int j :: .ref a :: rest)) rfl rfl hd t k) k
theorem own_ldC {j : Int32} (X : Stand p l e R s m args below meth c T locs cells slots) (hx : p.tables.exec = Jvm.exec) (hZ : Z.Warmed39 s.vm) (eT : T.heap = h) (hd : decode c.code pc = .ok (.caload, 1)) (F : own_A Z h a .char n f) (h0 : 0 ≤ j.toInt) (h1 : j.toInt < n)
    (k : own_Go p e below P T (mkF m (pc + 1) Ls (.int (f j.toInt.toNat) :: rest))) : own_Go p e below P T (mkF m pc Ls (.int j :: .ref a :: rest)) := by
  obtain ⟨cl, A, e1, e2, e3⟩ := F
  exact own_by (fun t k => X.caload hx (j := j) (v := .int (f j.toInt.toNat)) (by rw [eT]; exact A.1) (State.isArrayOf_alike hZ.alike A.2.1) A.2.2 (by rw [e1]; exact own_inb h0 h1) (e3 j.toInt.toNat (by omega)) (g := mkF m pc Ls (.int j :: .ref a :: rest)) rfl rfl hd t k) k
theorem own_ldB {j : Int32} (X : Stand p l e R s m args below meth c T locs cells slots) (hx : p.tables.exec = Jvm.exec) (hZ : Z.Warmed39 s.vm) (eT : T.heap = h) (hd : decode c.code pc = .ok (.baload, 1)) (F : own_A Z h a .byte n f) (h0 : 0 ≤ j.toInt) (h1 : j.toInt < n)
    (k : own_Go p e below P T (mkF m (pc + 1) Ls (.int (f j.toInt.toNat) :: rest))) : own_Go p e below P T (mkF m pc Ls (.int j :: .ref a :: rest)) := by
  obtain ⟨cl, A, e1, e2, e3⟩ := F
  exact own_by (fun t k => X.baloadBytes hx (j := j) (v := .int (f j.toInt.toNat)) (by rw [eT]; exact A.1) (State.isArrayOf_alike hZ.alike A.2.1) A.2.2 (by rw [e1]; exact own_inb h0 h1) (e3 j.toInt.toNat (by omega)) (g := mkF m pc Ls (.int j :: .ref a :: rest)) rfl rfl hd t k) k
abbrev own_KW (p : Program) (l : Launch) (e : Env) (R : Room) (s : State) (m : MethodId) (args : Array Value) (below : List Frame) (meth : Method) (c : Code) (P : State → Outcome → Prop) (locs : List Loc) (cells slots : Nat) (Z : State) (h : Heap) (a : Addr) (ty : FieldType) (n : Nat) (f : Nat → Int32) (j : Nat) (v : Int32) (pc : Nat) (Ls : Array Slot) (st : List Value) : Prop :=
  ∀ (T' : State) (h' : Heap), Stand p l e R s m args below meth c T' (locs ++ [⟨a, j⟩]) cells slots → T'.heap = h' → Wr h h' a j (.int v) → own_A Z h' a ty n (fun i => if i = j then v else f i) → own_Go p e below P T' (mkF m pc Ls st)
theorem own_stI {j x : Int32} (X : Stand p l e R s m args below meth c T locs cells slots) (hx : p.tables.exec = Jvm.exec) (hZ : Z.Warmed39 s.vm) (eT : T.heap = h) (hd : decode c.code pc = .ok (.iastore, 1)) (F : own_A Z h a .int n f) (h0 : 0 ≤ j.toInt) (h1 : j.toInt < n)
    (k : own_KW p l e R s m args below meth c P locs cells slots Z h a .int n f j.toInt.toNat x (pc + 1) Ls rest) : own_Go p e below P T (mkF m pc Ls (.int x :: .int j :: .ref a :: rest)) := by
  obtain ⟨cl, A, e1, e2, e3⟩ := F
  obtain ⟨T', h', X', e', W, stp⟩ := stI X hx hZ eT A (j := j) (x := x) (by rw [e1]; exact own_inb h0 h1) (g := mkF m pc Ls (.int x :: .int j :: .ref a :: rest)) rfl rfl hd
  exact own_by stp (k T' h' X' e' W (own_A.set ⟨cl, A, e1, e2, e3⟩ W))
theorem own_stC {j x : Int32} (X : Stand p l e R s m args below meth c T locs cells slots) (hx : p.tables.exec = Jvm.exec) (hZ : Z.Warmed39 s.vm) (eT : T.heap = h) (hd : decode c.code pc = .ok (.castore, 1)) (F : own_A Z h a .char n f) (h0 : 0 ≤ j.toInt) (h1 : j.toInt < n)
    (k : own_KW p l e R s m args below meth c P locs cells slots Z h a .char n f j.toInt.toNat (nar .char x) (pc + 1) Ls rest) : own_Go p e below P T (mkF m pc Ls (.int x :: .int j :: .ref a :: rest)) := by
  obtain ⟨cl, A, e1, e2, e3⟩ := F
  obtain ⟨T', h', X', e', W, stp⟩ := stC X hx hZ eT A (j := j) (x := x) (by rw [e1]; exact own_inb h0 h1) (g := mkF m pc Ls (.int x :: .int j :: .ref a :: rest)) rfl rfl hd
  exact own_by stp (k T' h' X' e' W (own_A.set ⟨cl, A, e1, e2, e3⟩ W))
theorem own_stB {j x : Int32} (X : Stand p l e R s m args below meth c T locs cells slots) (hx : p.tables.exec = Jvm.exec) (hZ : Z.Warmed39 s.vm) (eT : T.heap = h) (hd : decode c.code pc = .ok (.bastore, 1)) (F : own_A Z h a .byte n f) (h0 : 0 ≤ j.toInt) (h1 : j.toInt < n)
    (k : own_KW p l e R s m args below meth c P locs cells slots Z h a .byte n f j.toInt.toNat (nar .byte x) (pc + 1) Ls rest) : own_Go p e below P T (mkF m pc Ls (.int x :: .int j :: .ref a :: rest)) := by
  obtain ⟨cl, A, e1, e2, e3⟩ := F
  obtain ⟨T', h', X', e', W, stp⟩ := stB X hx hZ eT A (j := j) (x := x) (by rw [e1]; exact own_inb h0 h1) (g := mkF m pc Ls (.int x :: .int j :: .ref a :: rest)) rfl rfl hd
  exact own_by stp (k T' h' X' e' W (own_A.set ⟨cl, A, e1, e2, e3⟩ W))
theorem own_mkA {aty : ArrayType} {z : Int32} {v : Int32} (X : Stand p l e R s m args below meth c T locs cells slots) (hx : p.tables.exec = Jvm.exec) (hZ : Z.Warmed39 s.vm) (eT : T.heap = h) (hd : decode c.code pc = .ok (.newarray aty, 2))
    (w : (Cond.arrayClass (newarray.typeOf aty)).before a0 Z = true) (hv : defaultValue (newarray.typeOf aty) = .int v) (h0 : 0 ≤ z.toInt) (cap : Nat) (hcap : z.toInt ≤ cap) (hb : cap * 8 ≤ 536870912) (hc : cells + 1 ≤ R.cells) (hl : slots + cap ≤ R.slots)
    (k : ∀ (T' : State) (h' : Heap) (b : Addr), Stand p l e R s m args below meth c T' locs (cells + 1) (slots + cap) → T'.heap = h' → b = h.size → Ext h h' → own_A Z h' b (newarray.typeOf aty) z.toInt.toNat (fun _ => v) → own_Go p e below P T' (mkF m (pc + 2) Ls (.ref b :: rest))) :
    own_Go p e below P T (mkF m pc Ls (.int z :: rest)) := by
  have e0 : (0 : Int32).toInt = 0 := by decide
  refine own_newA X hx hZ eT hd w (fun q => ?_) cap ?_ hb hc hl ?_
  · have := Int32.lt_iff_toInt_lt.mp q; omega
  · rw [own_clamp h0]; omega
  · intro T' h' b' cA X' e' g' E A
    rw [hv] at A
    exact k T' h' b' X' e' g' E (own_A.new A)
end OwnArr
section OwnStr
/-- the first place whose sign is above 255, from i on, of k places -/
def own_fstA (f : Nat → Int32) : Nat → Nat → Nat
  | 0, i => i
  | k + 1, i => if (255 : Int32) < f i then i else own_fstA f k (i + 1)
def own_fst (f : Nat → Int32) (n : Nat) : Nat := own_fstA f n 0
/-- a sign's byte as it is stored -/
def own_b8 (x : Int32) : Int32 := nar .byte x.toInt8.toInt32
theorem own_upd (j : Nat) (φ g : Nat → Int32) (i : Nat) : (if i = j then φ j else if i < j then φ i else g i) = (if i < j + 1 then φ i else g i) := by
  by_cases h : i = j
  · subst h; simp
  · by_cases h2 : i < j
    · rw [if_neg h, if_pos h2, if_pos (by omega)]
    · rw [if_neg h, if_neg h2, if_neg (by omega)]
theorem own_inc {iv : Int32} {j n : Nat} (h : iv.toInt = j) (h1 : j < n) (h2 : n < 2147483648) : (iv + (1 : Int32)).toInt = ((j + 1 : Nat) : Int) := by
  have q := c_iadd iv 1
  have e1 : (1 : Int32).toInt = 1 := by decide
  have r := rng32 (iv + 1)
  omega
theorem own_nz {z : Int32} {n : Nat} (hz : z.toInt = n) (h1 : 1 ≤ n) : ¬ (z = (0 : Int32)) := fun q => by
  rw [q] at hz
  have : (0 : Int32).toInt = 0 := by decide
  omega
theorem own_cd0 (z : Int32) : ((((z - z).toUInt32 >>> ((31 : Int32) &&& 31).toUInt32).toInt32).toInt8.toInt32) = 0 := by rw [Int32.sub_self]; decide
theorem own_fstA_all {f : Nat → Int32} : ∀ (k i : Nat), (∀ q, i ≤ q → q < i + k → ¬ (255 : Int32) < f q) → own_fstA f k i = i + k
  | 0, i, _ => rfl
  | k + 1, i, h => by
    rw [own_fstA, if_neg (h i (Nat.le_refl _) (by omega)), own_fstA_all k (i + 1) (fun q h1 h2 => h q (by omega) (by omega))]; omega
theorem own_fst_all {f : Nat → Int32} {n : Nat} (h : ∀ q, q < n → ¬ (255 : Int32) < f q) : own_fst f n = n := by
  rw [own_fst, own_fstA_all n 0 (fun q _ h2 => h q (by omega))]; omega
theorem own_A.uniq {Z : State} {h : Heap} {a : Addr} {ty ty' : FieldType} {n n' : Nat} {f f' : Nat → Int32} (F : own_A Z h a ty n f) (G : own_A Z h a ty' n' f') : n = n' ∧ ∀ i, i < n → f i = f' i := by
  obtain ⟨c, A, h1, h2, h3⟩ := F
  obtain ⟨c', A', h1', h2', h3'⟩ := G
  cases A.1.symm.trans A'.1
  have e : n = n' := h1.symm.trans h1'
  refine ⟨e, fun i hi => ?_⟩
  have q := (h3 i hi).symm.trans (h3' i (e ▸ hi))
  simpa using q
theorem own_fld_uniq {Z : State} {h : Heap} {a : Addr} {C n d : String} {v w : Value} (F : Fld Z h a C n d v) (G : Fld Z h a C n d w) : v = w := by
  by_cases e : v = w
  · exact e
  · exact absurd rfl (Fld.ne F G e)
/-- the answer of an equals on two arrays -/
def own_eqA (n1 : Nat) (f1 : Nat → Int32) (n2 : Nat) (f2 : Nat → Int32) : Int32 := if n1 = n2 ∧ ∀ i, i < n1 → f1 i = f2 i then 1 else 0
theorem own_eqA_01 (n1 : Nat) (f1 : Nat → Int32) (n2 : Nat) (f2 : Nat → Int32) : own_eqA n1 f1 n2 f2 = 0 ∨ own_eqA n1 f1 n2 f2 = 1 := by unfold own_eqA; split <;> simp
theorem own_eqA_ne {n1 n2 : Nat} {f1 f2 : Nat → Int32} (h : ¬ n1 = n2) : own_eqA n1 f1 n2 f2 = 0 := by unfold own_eqA; rw [if_neg fun q => h q.1]
theorem own_eqA_at {n1 n2 : Nat} {f1 f2 : Nat → Int32} {j : Nat} (hj : j < n1) (h : ¬ f1 j = f2 j) : own_eqA n1 f1 n2 f2 = 0 := by unfold own_eqA; rw [if_neg fun q => h (q.2 j hj)]
theorem own_eqA_all {n1 n2 : Nat} {f1 f2 : Nat → Int32} (e : n1 = n2) (h : ∀ i, i < n1 → f1 i = f2 i) : own_eqA n1 f1 n2 f2 = 1 := by unfold own_eqA; rw [if_pos ⟨e, h⟩]
theorem own_i256 (z : Int32) (h0 : 0 ≤ z.toInt) (h1 : z.toInt < 256) : ∃ k : Fin 256, z = Int32.ofNat k.1 := by
  refine ⟨⟨z.toInt.toNat, by omega⟩, Int32.toInt_inj.mp ?_⟩
  rw [Int32.toInt_ofNat_of_lt (by simp only; omega)]
  simp only; omega
theorem own_b8_tab : ∀ k : Fin 256, ((own_b8 (Int32.ofNat k.1)) &&& (255 : Int32)).toUInt32.toUInt16.toUInt32.toInt32 = Int32.ofNat k.1 := by decide +kernel
/-- the byte read back -/
theorem own_b8_char (x : Int32) (h0 : 0 ≤ x.toInt) (h1 : x.toInt < 256) : ((own_b8 x) &&& (255 : Int32)).toUInt32.toUInt16.toUInt32.toInt32 = x := by
  obtain ⟨k, rfl⟩ := own_i256 x h0 h1
  exact own_b8_tab k
theorem own_b8_inj (x y : Int32) (h0 : 0 ≤ x.toInt) (h1 : x.toInt < 256) (g0 : 0 ≤ y.toInt) (g1 : y.toInt < 256) (e : own_b8 x = own_b8 y) : x = y := by
  rw [← own_b8_char x h0 h1, ← own_b8_char y g0 g1, e]
end OwnStr
section OwnU
def own_hi (x : Int32) : Int32 := nar .byte ((x >>> ((8 : Int32) &&& 31)).toInt8.toInt32)
def own_lo (x : Int32) : Int32 := nar .byte ((x >>> ((0 : Int32) &&& 31)).toInt8.toInt32)
/-- the bytes of the first j signs, two each -/
def own_u16 (f : Nat → Int32) (j : Nat) (q : Nat) : Int32 := if q < 2 * j then (if q % 2 = 0 then own_lo (f (q / 2)) else own_hi (f (q / 2))) else 0
theorem own_u16_step (f : Nat → Int32) (j q : Nat) : (if q = 2 * j + 1 then own_hi (f j) else if q = 2 * j then own_lo (f j) else own_u16 f j q) = own_u16 f (j + 1) q := by
  unfold own_u16
  by_cases h1 : q = 2 * j + 1
  · rw [if_pos h1, if_pos (by omega), if_neg (by omega), show q / 2 = j by omega]
  · rw [if_neg h1]
    by_cases h2 : q = 2 * j
    · rw [if_pos h2, if_pos (by omega), if_pos (by omega), show q / 2 = j by omega]
    · rw [if_neg h2]
      by_cases h3 : q < 2 * j
      · rw [if_pos h3, if_pos (show q < 2 * (j + 1) by omega)]
      · rw [if_neg h3, if_neg (show ¬ q < 2 * (j + 1) by omega)]
theorem own_u16_lo {f : Nat → Int32} {j n : Nat} (h : j < n) : own_u16 f n (2 * j) = own_lo (f j) := by unfold own_u16; rw [if_pos (by omega), if_pos (by omega), show 2 * j / 2 = j by omega]
theorem own_u16_hi {f : Nat → Int32} {j n : Nat} (h : j < n) : own_u16 f n (2 * j + 1) = own_hi (f j) := by unfold own_u16; rw [if_pos (by omega), if_neg (by omega), show (2 * j + 1) / 2 = j by omega]
theorem own_shl1 {iv : Int32} {j : Nat} (h : iv.toInt = j) (hb : j < 1073741824) : (iv <<< ((1 : Int32) &&& 31)).toInt = ((2 * j : Nat) : Int) := by
  have q := c_ishl iv 1 1 (by decide)
  have r := rng32 (iv <<< ((1 : Int32) &&& 31))
  omega
theorem own_shr1 {z : Int32} {n : Nat} (h : z.toInt = (2 * n : Nat)) : (z >>> ((1 : Int32) &&& 31)).toInt = (n : Nat) := by
  have q := c_ishr z 1 1 (by decide)
  omega
theorem own_shr0 (z : Int32) : z >>> ((0 : Int32) &&& 31) = z := by
  apply Int32.toInt_inj.mp
  have q := c_ishr z 0 0 (by decide)
  omega
theorem own_nar_b (x : Int32) : (nar .byte x).toInt = x.toInt8.toInt32.toInt := rfl
theorem own_lo255 (c : Int32) : ((own_lo c) &&& (255 : Int32)).toInt = c.toInt % 256 := by
  have h1 := c_mask (own_lo c) 255 8 (by decide) (by decide)
  have h2 := c_i2b c
  have h3 := c_i2b (c.toInt8.toInt32)
  have h4 : (own_lo c).toInt = (c.toInt8.toInt32).toInt8.toInt32.toInt := by rw [own_lo, own_shr0]; rfl
  omega
theorem own_hi255 (c : Int32) : ((own_hi c) &&& (255 : Int32)).toInt = (c.toInt / 256) % 256 := by
  have h1 := c_mask (own_hi c) 255 8 (by decide) (by decide)
  have h0 := c_ishr c 8 8 (by decide)
  have h2 := c_i2b (c >>> ((8 : Int32) &&& 31))
  have h3 := c_i2b ((c >>> ((8 : Int32) &&& 31)).toInt8.toInt32)
  have h4 : (own_hi c).toInt = ((c >>> ((8 : Int32) &&& 31)).toInt8.toInt32).toInt8.toInt32.toInt := rfl
  omega
theorem own_u16_char (c : Int32) (h0 : 0 ≤ c.toInt) (h1 : c.toInt < 65536) : ((((own_lo c) &&& (255 : Int32)) <<< ((0 : Int32) &&& 31)) ||| (((own_hi c) &&& (255 : Int32)) <<< ((8 : Int32) &&& 31))).toUInt32.toUInt16.toUInt32.toInt32 = c := by
  have a := own_lo255 c
  have b := own_hi255 c
  generalize (own_lo c) &&& (255 : Int32) = x at a ⊢
  generalize (own_hi c) &&& (255 : Int32) = y at b ⊢
  have s0 := c_ishl x 0 0 (by decide)
  have s8 := c_ishl y 8 8 (by decide)
  have r0 := rng32 (x <<< ((0 : Int32) &&& 31))
  have r8 := rng32 (y <<< ((8 : Int32) &&& 31))
  generalize x <<< ((0 : Int32) &&& 31) = u at s0 r0 ⊢
  generalize y <<< ((8 : Int32) &&& 31) = w at s8 r8 ⊢
  have o := c_or' u w 8 (by decide) 256 (by decide) (by omega) (by omega) (by omega)
  have ro := rng32 (u ||| w)
  have q := c_i2c (u ||| w)
  apply Int32.toInt_inj.mp
  omega
theorem own_narC {w : Int32} (h0 : 0 ≤ w.toInt) (h1 : w.toInt < 65536) : narrow .char (.int w) = .int w := by
  have q := c_i2c w
  have e : w.toUInt32.toUInt16.toUInt32.toInt32 = w := Int32.toInt_inj.mp (by omega)
  show Value.int _ = Value.int w
  exact congrArg Value.int e
theorem own_cd1 {z y : Int32} {n : Nat} (hz : z.toInt = n) (hy : y.toInt = (2 * n : Nat)) (h1 : 1 ≤ n) : ((((z - y).toUInt32 >>> ((31 : Int32) &&& 31).toUInt32).toInt32).toInt8.toInt32) = 1 := by
  have q := c_iushr (z - y) 31 31 (by decide) (by decide)
  have s := c_isub z y
  have r := rng32 (z - y)
  have r1 := rng32 y
  have e : (((z - y).toUInt32 >>> ((31 : Int32) &&& 31).toUInt32).toInt32) = 1 := by
    apply Int32.toInt_inj.mp
    rw [q]
    have : (1 : Int32).toInt = 1 := by decide
    omega
  rw [e]; decide
theorem own_fstA_spec {f : Nat → Int32} : ∀ (k i : Nat), own_fstA f k i ≤ i + k ∧ i ≤ own_fstA f k i ∧ (own_fstA f k i < i + k → (255 : Int32) < f (own_fstA f k i)) ∧ (∀ q, i ≤ q → q < own_fstA f k i → ¬ (255 : Int32) < f q)
  | 0, i => ⟨Nat.le_refl _, Nat.le_refl _, fun h => absurd h (Nat.lt_irrefl _), fun q h1 h2 => by rw [own_fstA] at h2; omega⟩
  | k + 1, i => by
    by_cases h : (255 : Int32) < f i
    · rw [own_fstA, if_pos h]; exact ⟨by omega, Nat.le_refl _, fun _ => h, fun q h1 h2 => by omega⟩
    · rw [own_fstA, if_neg h]
      obtain ⟨a, b, c, d⟩ := own_fstA_spec (f := f) k (i + 1)
      refine ⟨by omega, by omega, fun q => c (by omega), fun q h1 h2 => ?_⟩
      by_cases e : q = i
      · exact e ▸ h
      · exact d q (by omega) h2
/-- a String as its signs -/
def own_JS (Z : State) (h : Heap) (a : Addr) (n : Nat) (f : Nat → Int32) : Prop := n < 1073741824 ∧ (∀ i, i < n → 0 ≤ (f i).toInt ∧ (f i).toInt < 65536) ∧ Exa Z h a "java/lang/String" ∧ ∃ (b : Addr) (z : Int32), Fld Z h a "java/lang/String" "value" "[B" (.ref b) ∧
  ((Fld Z h a "java/lang/String" "coder" "B" (.int 0) ∧ z.toInt = n ∧ (∀ i, i < n → ¬ (255 : Int32) < f i) ∧ own_A Z h b .byte n (fun i => own_b8 (f i))) ∨ (Fld Z h a "java/lang/String" "coder" "B" (.int 1) ∧ z.toInt = (2 * n : Nat) ∧ (∃ q, q < n ∧ (255 : Int32) < f q) ∧ own_A Z h b .byte (2 * n) (own_u16 f n)))
theorem own_JS.ext {Z : State} {h h' : Heap} {a : Addr} {n : Nat} {f : Nat → Int32} (F : own_JS Z h a n f) (E : Ext h h') : own_JS Z h' a n f := by
  obtain ⟨h0, h1, h2, b, z, h3, h4⟩ := F
  refine ⟨h0, h1, h2.ext E, b, z, h3.ext E, ?_⟩
  rcases h4 with ⟨q1, q2, q3, q4⟩ | ⟨q1, q2, q3, q4⟩
  · exact Or.inl ⟨q1.ext E, q2, q3, q4.ext E⟩
  · exact Or.inr ⟨q1.ext E, q2, q3, q4.ext E⟩
theorem own_JS.keep {Z : State} {h h' : Heap} {a : Addr} {n : Nat} {f : Nat → Int32} (F : own_JS Z h a n f) (K : Keep h h' []) : own_JS Z h' a n f := F.ext ⟨K.1, fun x c q => K.2.1 x c q (by simp)⟩
theorem own_JS.lt {Z : State} {h : Heap} {a : Addr} {n : Nat} {f : Nat → Int32} (F : own_JS Z h a n f) : a < h.size := by obtain ⟨_, _, h2, _⟩ := F; exact h2.lt
theorem own_nl0 {iv : Int32} (g0 : 0 ≤ iv.toInt) : ¬ (iv < (0 : Int32)) := by
  rw [Int32.lt_iff_toInt_lt]
  have : (0 : Int32).toInt = 0 := by decide
  omega
theorem own_lt30 {z : Int32} {n c : Nat} (hz : z.toInt = (n : Nat)) (hc : n ≤ c) (h : c < 1073741823) : z < (1073741823 : Int32) := by
  rw [Int32.lt_iff_toInt_lt]
  have : (1073741823 : Int32).toInt = 1073741823 := by decide
  omega
theorem own_lt256 {x : Int32} (h : ¬ (255 : Int32) < x) : x.toInt < 256 := by
  rw [Int32.lt_iff_toInt_lt] at h
  have : (255 : Int32).toInt = 255 := by decide
  omega
theorem own_z0 {z : Int32} {n m : Nat} (hz : z.toInt = (m : Nat)) (h : z = (0 : Int32)) (hm : m = n ∨ m = 2 * n := by omega) : n = 0 := by
  rw [h] at hz
  have : (0 : Int32).toInt = 0 := by decide
  omega
theorem own_z1 {z : Int32} {n m : Nat} (hz : z.toInt = (m : Nat)) (h : ¬ (z = (0 : Int32))) (hm : m = n ∨ m = 2 * n := by omega) : ¬ (n = 0) := fun q => h (Int32.toInt_inj.mp (by
  have : (0 : Int32).toInt = 0 := by decide
  omega))
/-- the JDK's statics that the String bodies read -/
def own_St (Z : State) (h : Heap) (cs : Int32) (fm : Value) : Prop := Sta Z h "java/lang/String" "COMPACT_STRINGS" "Z" (.int cs) ∧ Sta Z h "java/lang/StringUTF16" "$assertionsDisabled" "Z" (.int 1) ∧ Sta Z h "java/lang/StringUTF16" "HI_BYTE_SHIFT" "I" (.int 0) ∧ Sta Z h "java/lang/StringUTF16" "LO_BYTE_SHIFT" "I" (.int 8) ∧ Sta Z h "jdk/internal/util/Preconditions" "SIOOBE_FORMATTER" "Ljava/util/function/BiFunction;" fm ∧ ¬ (cs = (0 : Int32)) ∧ fm.isRef = true
theorem own_St.ext {Z : State} {h h' : Heap} {cs : Int32} {fm : Value} (F : own_St Z h cs fm) (E : Ext h h') : own_St Z h' cs fm := ⟨F.1.ext E, F.2.1.ext E, F.2.2.1.ext E, F.2.2.2.1.ext E, F.2.2.2.2.1.ext E, F.2.2.2.2.2⟩
theorem own_St.wr {Z : State} {h h' : Heap} {cs : Int32} {fm : Value} {a : Addr} {sl : Nat} {v : Value} (F : own_St Z h cs fm) (W : Wr h h' a sl v) : own_St Z h' cs fm := ⟨F.1.wr W, F.2.1.wr W, F.2.2.1.wr W, F.2.2.2.1.wr W, F.2.2.2.2.1.wr W, F.2.2.2.2.2⟩
theorem own_St.keep {Z : State} {h h' : Heap} {cs : Int32} {fm : Value} {ws : List Addr} (F : own_St Z h cs fm) (K : Keep h h' ws) (q : ∀ x ∈ ws, ∃ c : Cell, h[x]? = some c ∧ c.vm.isStatics = false) : own_St Z h' cs fm := ⟨own_sta_keep F.1 K q, own_sta_keep F.2.1 K q, own_sta_keep F.2.2.1 K q, own_sta_keep F.2.2.2.1 K q, own_sta_keep F.2.2.2.2.1 K q, F.2.2.2.2.2⟩
end OwnU
section OwnDec2
theorem own_ltn {x y : Int32} {j n : Nat} (hx : x.toInt = j) (hy : y.toInt = n) (h : x < y) : j < n := by rw [Int32.lt_iff_toInt_lt] at h; omega
theorem own_nltn {x y : Int32} {j n : Nat} (hx : x.toInt = j) (hy : y.toInt = n) (h : ¬ (x < y)) : ¬ j < n := by rw [Int32.lt_iff_toInt_lt] at h; omega
theorem own_eqn {x y : Int32} {j n : Nat} (hx : x.toInt = j) (hy : y.toInt = n) (h : x = y) : j = n := by rw [h] at hx; omega
theorem own_neqn {x y : Int32} {j n : Nat} (hx : x.toInt = j) (hy : y.toInt = n) (h : ¬ (x = y)) : ¬ j = n := fun q => h (Int32.toInt_inj.mp (by omega))
theorem own_sub {x y : Int32} {a b : Nat} (hx : x.toInt = a) (hy : y.toInt = b) (h : b ≤ a) : (x - y).toInt = ((a - b : Nat) : Int) := by
  have q := c_isub x y
  have r := rng32 (x - y)
  have r1 := rng32 x
  omega
theorem own_add {x y : Int32} {a b : Nat} (hx : x.toInt = a) (hy : y.toInt = b) (h : a + b < 2147483648) : (x + y).toInt = ((a + b : Nat) : Int) := by
  have q := c_iadd x y
  have r := rng32 (x + y)
  omega
theorem own_chr (w : Int32) : 0 ≤ (w.toUInt32.toUInt16.toUInt32.toInt32).toInt ∧ (w.toUInt32.toUInt16.toUInt32.toInt32).toInt < 65536 := (c_i2c w).2
theorem own_nc {w : Int32} (h : 0 ≤ w.toInt ∧ w.toInt < 65536) : nar .char w = w := Value.int.inj (own_narC h.1 h.2)
theorem own_len (x : Int32) : (if (6 : Int32) < (x &&& (7 : Int32)) then (6 : Int32) else (x &&& (7 : Int32))) = 0 ∨ (if (6 : Int32) < (x &&& (7 : Int32)) then (6 : Int32) else (x &&& (7 : Int32))) = 1 ∨ (if (6 : Int32) < (x &&& (7 : Int32)) then (6 : Int32) else (x &&& (7 : Int32))) = 2 ∨ (if (6 : Int32) < (x &&& (7 : Int32)) then (6 : Int32) else (x &&& (7 : Int32))) = 3 ∨ (if (6 : Int32) < (x &&& (7 : Int32)) then (6 : Int32) else (x &&& (7 : Int32))) = 4 ∨ (if (6 : Int32) < (x &&& (7 : Int32)) then (6 : Int32) else (x &&& (7 : Int32))) = 5 ∨ (if (6 : Int32) < (x &&& (7 : Int32)) then (6 : Int32) else (x &&& (7 : Int32))) = 6 := by
  have h1 := c_mask x 7 3 (by decide) (by decide)
  obtain ⟨y, hy⟩ : ∃ y, y = x &&& (7 : Int32) := ⟨_, rfl⟩
  rw [← hy] at h1 ⊢
  have e : ∃ k : Fin 8, y = Int32.ofNat k.1 := by
    have h0 : 0 ≤ y.toInt ∧ y.toInt < 8 := by omega
    refine ⟨⟨y.toInt.toNat, by omega⟩, Int32.toInt_inj.mp ?_⟩
    rw [Int32.toInt_ofNat_of_lt (by simp only; omega)]
    simp only; omega
  obtain ⟨k, rfl⟩ := e
  clear hy h1
  revert k; decide +kernel
end OwnDec2
section OwnNum
theorem own_selP {Z : State} {a0 : Array Value} {y : MethodName} {n : Nat} (wi : (Cond.instantiable y.cls n).before a0 Z = true) (w2 : (Cond.instanceMethod y).before a0 Z = true) (wp : (Cond.privateMethod y).before a0 Z = true) (hy : y.cls ≠ "java/lang/invoke/MethodHandle" ∧ y.cls ≠ "java/lang/invoke/VarHandle") : (Cond.selects y.cls y y).before a0 Z = true := by
  obtain ⟨c, k, h1, h2, -, h4, -⟩ := Cond.instantiable_spec wi
  exact selects_self_of_private h1 h2 (Bool.or_eq_false_iff.mp h4).1 (Cond.privateMethod_at wp) w2 hy
def own_dig (c : Int32) : Int32 := (if c < (48 : Int32) then (0 : Int32) else (if (57 : Int32) < c then (0 : Int32) else (1 : Int32)))
def own_nzd (c : Int32) : Int32 := (if c < (49 : Int32) then (0 : Int32) else (if (57 : Int32) < c then (0 : Int32) else (1 : Int32)))
theorem own_dig01 (c : Int32) : own_dig c = 0 ∨ own_dig c = 1 := by
  unfold own_dig; split
  · exact Or.inl rfl
  · split
    · exact Or.inl rfl
    · exact Or.inr rfl
theorem own_nzd01 (c : Int32) : own_nzd c = 0 ∨ own_nzd c = 1 := by
  unfold own_nzd; split
  · exact Or.inl rfl
  · split
    · exact Or.inl rfl
    · exact Or.inr rfl
def own_rp (f : Nat → Int32) : Nat → Nat → Nat
  | 0, j => j
  | k + 1, j => if own_dig (f j) = 0 then j else own_rp f k (j + 1)
def own_rs (f : Nat → Int32) : Nat → Nat → Nat → Nat
  | 0, _, sd => sd
  | k + 1, j, sd => if own_dig (f j) = 0 then sd else own_rs f k (j + 1) (if 0 < sd ∨ ¬ f j = (48 : Int32) then sd + 1 else sd)
theorem own_rp_le (f : Nat → Int32) : ∀ k j, j ≤ own_rp f k j ∧ own_rp f k j ≤ j + k
  | 0, j => ⟨Nat.le_refl _, Nat.le_refl _⟩
  | k + 1, j => by
    unfold own_rp
    split
    · omega
    · have := own_rp_le f k (j + 1); omega
theorem own_rs_le (f : Nat → Int32) : ∀ k j sd, own_rs f k j sd ≤ sd + k
  | 0, j, sd => Nat.le_refl _
  | k + 1, j, sd => by
    unfold own_rs
    split
    · omega
    · have := own_rs_le f k (j + 1) (if 0 < sd ∨ ¬ f j = (48 : Int32) then sd + 1 else sd)
      split at this <;> rename_i hh <;> simp only [hh, if_true, if_false] <;> omega
/-- what scan leaves: the end of the digits, their number, the significant ones; the point's place is p1 -/
def own_p1 (f : Nat → Int32) (s lim : Nat) : Nat := own_rp f (lim - s) s
def own_s1 (f : Nat → Int32) (s lim : Nat) : Nat := own_rs f (lim - s) s 0
def own_pnt (f : Nat → Int32) (s lim : Nat) : Prop := own_p1 f s lim < lim ∧ f (own_p1 f s lim) = (46 : Int32)
instance (f : Nat → Int32) (s lim : Nat) : Decidable (own_pnt f s lim) := by unfold own_pnt; infer_instance
def own_p2 (f : Nat → Int32) (s lim : Nat) : Nat := if own_pnt f s lim then own_rp f (lim - (own_p1 f s lim + 1)) (own_p1 f s lim + 1) else own_p1 f s lim
def own_s2 (f : Nat → Int32) (s lim : Nat) : Nat := if own_pnt f s lim then own_rs f (lim - (own_p1 f s lim + 1)) (own_p1 f s lim + 1) (own_s1 f s lim) else own_s1 f s lim
def own_dgs (f : Nat → Int32) (s lim : Nat) : Nat := if own_pnt f s lim then (own_p1 f s lim - s) + (own_p2 f s lim - (own_p1 f s lim + 1)) else own_p1 f s lim - s
def own_exq (f : Nat → Int32) (s lim : Nat) : Prop := ¬ own_dgs f s lim = 0 ∧ own_p2 f s lim < lim ∧ (f (own_p2 f s lim) = (101 : Int32) ∨ f (own_p2 f s lim) = (69 : Int32))
instance (f : Nat → Int32) (s lim : Nat) : Decidable (own_exq f s lim) := by unfold own_exq; infer_instance
end OwnNum
section OwnVal
def own_u (x : Int64) : Int := x.toInt % 18446744073709551616
/-- the two halves stand for W -/
def own_rep (lo hi : Int64) (W : Nat) : Prop := own_u lo + 18446744073709551616 * hi.toInt = (W : Int)
theorem own_u_rng (x : Int64) : 0 ≤ own_u x ∧ own_u x < 18446744073709551616 ∧ (own_u x = x.toInt ∨ own_u x = x.toInt + 18446744073709551616) := by
  have := rng64 x; unfold own_u; omega
theorem own_w64 {x : Int64} {v : Int} (h : (x.toInt - v) % 18446744073709551616 = 0) (h1 : -9223372036854775808 ≤ v) (h2 : v < 9223372036854775808) : x.toInt = v := by
  have := rng64 x; omega
theorem own_wu {x : Int64} {v : Int} (h : (x.toInt - v) % 18446744073709551616 = 0) (h1 : 0 ≤ v) (h2 : v < 18446744073709551616) : own_u x = v := by
  unfold own_u; omega
theorem own_um {x : Int64} {v : Int} (h : (x.toInt - v) % 18446744073709551616 = 0) : own_u x = v % 18446744073709551616 := by
  unfold own_u; omega
theorem own_lsh (x : Int64) : (x >>> ((32 : Int32) &&& 0x3f).toInt64).toInt = x.toInt / 4294967296 := c_lshr x 32 32 (by decide)
theorem own_msk (x : Int64) : (x &&& (4294967295 : Int64)).toInt = x.toInt % 4294967296 := c_maskL x 4294967295 32 (by decide) (by decide)
theorem own_lus (x : Int64) : ((x.toUInt64 >>> ((32 : Int32) &&& 0x3f).toInt64.toUInt64).toInt64).toInt = own_u x / 4294967296 := c_lushr x 32 32 (by decide) (by decide)
theorem own_mulc (x : Int64) {y : Int64} {d : Int} (hy : y.toInt = d) : ((x * y).toInt - x.toInt * d) % 18446744073709551616 = 0 := by rw [← hy]; exact c_lmul x y
theorem own_u_inj {x y : Int64} (h : own_u x = own_u y) : x = y := by
  have h1 := rng64 x; have h2 := rng64 y
  unfold own_u at h; exact Int64.toInt_inj.mp (by omega)
theorem own_rep_inj {lo hi lo' hi' : Int64} {W : Nat} (h : own_rep lo hi W) (h' : own_rep lo' hi' W) : lo = lo' ∧ hi = hi' := by
  have h1 := own_u_rng lo; have h2 := own_u_rng lo'
  unfold own_rep at h h'
  have e : own_u lo = own_u lo' := by omega
  exact ⟨own_u_inj e, Int64.toInt_inj.mp (by omega)⟩
/-- multiplyHigh by ten -/
theorem own_mh {p x1 x0 y1 y0 z0 t z1 z2 z1' r : Int64} (h1 : x1 = (p >>> ((32 : Int32) &&& 0x3f).toInt64)) (h2 : x0 = (p &&& (4294967295 : Int64))) (h3 : y1 = ((10 : Int64) >>> ((32 : Int32) &&& 0x3f).toInt64)) (h4 : y0 = ((10 : Int64) &&& (4294967295 : Int64)))
    (h5 : z0 = (x0 * y0)) (h6 : t = ((x1 * y0) + ((z0.toUInt64 >>> ((32 : Int32) &&& 0x3f).toInt64.toUInt64).toInt64))) (h7 : z1 = (t &&& (4294967295 : Int64))) (h8 : z2 = (t >>> ((32 : Int32) &&& 0x3f).toInt64)) (h9 : z1' = (z1 + (x0 * y1))) (h10 : r = (((x1 * y1) + z2) + (z1' >>> ((32 : Int32) &&& 0x3f).toInt64))) : r.toInt = p.toInt * 10 / 18446744073709551616 := by
  have e1 := own_lsh p; rw [← h1] at e1
  have e2 := own_msk p; rw [← h2] at e2
  have e3 : y1.toInt = 0 := by rw [h3]; decide
  have e4 : y0.toInt = 10 := by rw [h4]; decide
  have r0 := rng64 p
  have f1 : -2147483648 ≤ x1.toInt ∧ x1.toInt < 2147483648 := by omega
  have f2 : 0 ≤ x0.toInt ∧ x0.toInt < 4294967296 := by omega
  have e5 := own_mulc x0 e4; rw [← h5] at e5
  have e5 : own_u z0 = x0.toInt * 10 := own_wu e5 (by omega) (by omega)
  have e6a : (x1 * y0).toInt = x1.toInt * 10 := own_w64 (own_mulc x1 e4) (by omega) (by omega)
  have e6b := own_lus z0; rw [e5] at e6b
  have e6 := c_ladd (x1 * y0) ((z0.toUInt64 >>> ((32 : Int32) &&& 0x3f).toInt64.toUInt64).toInt64); rw [← h6, e6a, e6b] at e6
  have e6 : t.toInt = x1.toInt * 10 + x0.toInt * 10 / 4294967296 := own_w64 e6 (by omega) (by omega)
  have e7 := own_msk t; rw [← h7] at e7
  have e8 := own_lsh t; rw [← h8] at e8
  have e9a : (x0 * y1).toInt = x0.toInt * 0 := own_w64 (own_mulc x0 e3) (by omega) (by omega)
  have e9 := c_ladd z1 (x0 * y1); rw [← h9, e9a] at e9
  have e9 : z1'.toInt = z1.toInt + x0.toInt * 0 := own_w64 e9 (by omega) (by omega)
  have e10a : (x1 * y1).toInt = x1.toInt * 0 := own_w64 (own_mulc x1 e3) (by omega) (by omega)
  have e10b := c_ladd (x1 * y1) z2; rw [e10a] at e10b
  have e10b : (x1 * y1 + z2).toInt = x1.toInt * 0 + z2.toInt := own_w64 e10b (by omega) (by omega)
  have e10c := own_lsh z1'
  have e10 := c_ladd ((x1 * y1) + z2) (z1' >>> ((32 : Int32) &&& 0x3f).toInt64); rw [← h10, e10b, e10c] at e10
  have e10 : r.toInt = x1.toInt * 0 + z2.toInt + z1'.toInt / 4294967296 := own_w64 e10 (by omega) (by omega)
  clear e10a e10b e10c h1 h2 h3 h4 h5 h6 h7 h8 h9 h10 e6a e6b e9a e5 e3 e4
  have e11 : r.toInt = z2.toInt := by omega
  rw [e11, e8, e6]
  generalize p.toInt = P at *
  generalize x1.toInt = A at *
  generalize x0.toInt = B at *
  have hP : P = 4294967296 * A + B := by omega
  clear e1 e2 e7 e8 e9 e10 e11 e6 r0
  subst hP
  omega
theorem own_s63 (x : Int64) : ((x >>> ((63 : Int32) &&& 0x3f).toInt64) &&& (10 : Int64)).toInt = if x.toInt < 0 then 10 else 0 := by
  have e := c_lshr x 63 63 (by decide)
  have r := rng64 x
  by_cases h : x.toInt < 0
  · rw [if_pos h]
    have : x >>> ((63 : Int32) &&& 0x3f).toInt64 = -1 := Int64.toInt_inj.mp (by rw [e]; have : (-1 : Int64).toInt = -1 := by decide
                                                                                omega)
    rw [this]; decide
  · rw [if_neg h]
    have : x >>> ((63 : Int32) &&& 0x3f).toInt64 = 0 := Int64.toInt_inj.mp (by rw [e]; have : (0 : Int64).toInt = 0 := by decide
                                                                               omega)
    rw [this]; decide
/-- one digit more -/
theorem own_ap {lo hi r ch low sum hi' : Int64} {g cr : Int32} {W d : Nat} (hW : own_rep lo hi W) (hb : W < 10000000000000000000000000000000000000) (hg : g.toInt = (d : Int)) (hd : d ≤ 9) (h1 : r.toInt = lo.toInt * 10 / 18446744073709551616) (h2 : ch = (r + ((lo >>> ((63 : Int32) &&& 0x3f).toInt64) &&& (10 : Int64)))) (h3 : low = (lo * (10 : Int64))) (h4 : sum = (low + (g.toInt64)))
    (h5 : hi' = (((hi * (10 : Int64)) + ch) + (cr.toInt64))) (h6 : cr = if own_u sum < own_u low then 1 else 0) : own_rep sum hi' (10 * W + d) := by
  have t10 : (10 : Int64).toInt = 10 := by decide
  have u1 := own_u_rng lo
  have rl := rng64 lo
  have k0 : 0 ≤ own_u lo * 10 / 18446744073709551616 ∧ own_u lo * 10 / 18446744073709551616 ≤ 9 := by omega
  have e1 := own_s63 lo
  have e2 := c_ladd r ((lo >>> ((63 : Int32) &&& 0x3f).toInt64) &&& (10 : Int64)); rw [← h2, e1, h1] at e2
  have k1 : ch.toInt = own_u lo * 10 / 18446744073709551616 := by
    by_cases c : lo.toInt < 0
    · rw [if_pos c] at e2
      have q : own_u lo = lo.toInt + 18446744073709551616 := by omega
      have q2 : own_u lo * 10 / 18446744073709551616 = lo.toInt * 10 / 18446744073709551616 + 10 := by omega
      rw [q2]; exact own_w64 e2 (by omega) (by omega)
    · rw [if_neg c] at e2
      have q : own_u lo = lo.toInt := by omega
      rw [q]; have := own_w64 e2 (by omega) (by omega); omega
  have e3 := own_mulc lo t10; rw [← h3] at e3
  have k5 : own_u low = (own_u lo * 10) % 18446744073709551616 := by
    rw [own_um e3]; clear e2 k1 k0 hW; omega
  have e4 := c_ladd low g.toInt64; rw [← h4, c_i2l, hg] at e4
  have u2 := own_u_rng low
  have k6 : own_u sum = (own_u low + d) % 18446744073709551616 := by
    rw [own_um e4]; clear e2 k1 k0 hW e3 k5; omega
  unfold own_rep at hW ⊢
  have hhi : 0 ≤ hi.toInt ∧ hi.toInt < 600000000000000000 := by clear e2 e3 e4 k1 k5 k6; omega
  have k3 : (hi * 10).toInt = hi.toInt * 10 := own_w64 (own_mulc hi t10) (by omega) (by omega)
  have e5b := c_ladd (hi * 10) ch; rw [k3, k1] at e5b
  have k4 := own_w64 e5b (by omega) (by omega)
  have e5 := c_ladd ((hi * 10) + ch) cr.toInt64; rw [← h5, c_i2l, k4] at e5
  clear e2 e3 e4 e5b e1 h1 h2 h3 h4 h5
  by_cases c : own_u sum < own_u low
  · rw [if_pos c] at h6
    have hcr : cr.toInt = 1 := by rw [h6]; decide
    rw [hcr] at e5
    have k7 := own_w64 e5 (by omega) (by omega)
    clear e5
    rw [k7]; omega
  · rw [if_neg c] at h6
    have hcr : cr.toInt = 0 := by rw [h6]; decide
    rw [hcr] at e5
    have k7 := own_w64 e5 (by omega) (by omega)
    clear e5
    rw [k7]; omega
/-- one digit more, while it fits one half -/
theorem own_ap1 {lo hi lo' : Int64} {c : Int32} {W d : Nat} (hW : own_rep lo hi W) (hb : W < 100000000000000000) (hc : c.toInt = ((48 + d : Nat) : Int)) (hd : d ≤ 9) (h : lo' = (((lo * (10 : Int64)) + (c.toInt64)) - (48 : Int64))) : own_rep lo' hi (10 * W + d) := by
  have t10 : (10 : Int64).toInt = 10 := by decide
  have t48 : (48 : Int64).toInt = 48 := by decide
  have e1 := c_lmul lo 10; rw [t10] at e1
  have e2 := c_i2l c
  have e3 := c_ladd (lo * 10) c.toInt64; rw [e2] at e3
  have e4 := c_lsub ((lo * 10) + c.toInt64) 48; rw [← h, t48] at e4
  have r1 := rng64 lo; have r2 := rng64 hi; have r3 := rng64 (lo * 10); have r4 := rng64 (lo * 10 + c.toInt64); have r5 := rng64 lo'
  have u1 := own_u_rng lo; have u2 := own_u_rng lo'
  unfold own_rep at hW ⊢
  generalize (lo * 10).toInt = A at *
  generalize (lo * 10 + c.toInt64).toInt = B at *
  have k0 : hi.toInt = 0 := by omega
  have k1 : lo.toInt = W := by omega
  omega
theorem own_cuu (x y : Int64) : (x + (-9223372036854775808 : Int64)) < (y + (-9223372036854775808 : Int64)) ↔ own_u x < own_u y := by
  rw [Int64.lt_iff_toInt_lt]
  have t : (-9223372036854775808 : Int64).toInt = -9223372036854775808 := by decide
  have e1 := c_ladd x (-9223372036854775808); rw [t] at e1
  have e2 := c_ladd y (-9223372036854775808); rw [t] at e2
  have r1 := rng64 (x + (-9223372036854775808 : Int64)); have r2 := rng64 (y + (-9223372036854775808 : Int64))
  have u1 := own_u_rng x; have u2 := own_u_rng y
  have r3 := rng64 x; have r4 := rng64 y
  omega
theorem own_xmin (x : Int64) : x ^^^ (-9223372036854775808 : Int64) = x + (-9223372036854775808 : Int64) := by
  have h : ∀ n : Nat, n < 18446744073709551616 → n ^^^ 9223372036854775808 = (n + 9223372036854775808) % 18446744073709551616 := by
    intro n hn
    have h1 : (n ^^^ 9223372036854775808) % 2 ^ 63 = (n % 2 ^ 63) ^^^ (9223372036854775808 % 2 ^ 63) := Nat.xor_mod_two_pow
    have h2 : (n ^^^ 9223372036854775808) / 2 ^ 63 = (n / 2 ^ 63) ^^^ (9223372036854775808 / 2 ^ 63) := Nat.xor_div_two_pow
    rw [show (9223372036854775808 : Nat) % 2 ^ 63 = 0 from by decide, Nat.xor_zero] at h1
    rw [show (9223372036854775808 : Nat) / 2 ^ 63 = 1 from by decide] at h2
    have h3 : n / 2 ^ 63 = 0 ∨ n / 2 ^ 63 = 1 := by omega
    rcases h3 with h3 | h3
    · rw [h3, show (0 ^^^ 1 : Nat) = 1 from by decide] at h2; omega
    · rw [h3, show (1 ^^^ 1 : Nat) = 0 from by decide] at h2; omega
  apply Int64.toBitVec_inj.mp
  apply BitVec.eq_of_toNat_eq
  show (x.toBitVec ^^^ (-9223372036854775808 : Int64).toBitVec).toNat = (x.toBitVec + (-9223372036854775808 : Int64).toBitVec).toNat
  rw [BitVec.toNat_xor, BitVec.toNat_add]
  exact h _ x.toBitVec.isLt
theorem own_xall (x : Int64) : (x ^^^ (-1 : Int64)).toInt = -x.toInt - 1 := by
  have h : (x ^^^ (-1 : Int64)) = -x - 1 := by
    apply Int64.toBitVec_inj.mp
    show (x.toBitVec ^^^ (-1 : Int64).toBitVec) = -x.toBitVec - 1#64
    rw [show (-1 : Int64).toBitVec = BitVec.allOnes 64 from by decide, BitVec.xor_allOnes, BitVec.neg_eq_not_add, BitVec.add_sub_cancel]
  rw [h]
  have r := rng64 x
  have t1 : (1 : Int64).toInt = 1 := by decide
  have e1 := c_lneg x
  have e2 := c_lsub (-x) 1; rw [t1] at e2
  have r1 := rng64 (-x); have r2 := rng64 (-x - 1)
  omega
/-- the two results -/
def own_uh (nv : Int32) (lo hi : Int64) : Int64 := if nv = (0 : Int32) then hi else ((hi ^^^ (-1 : Int64)) + ((if lo = (0 : Int64) then (1 : Int32) else (0 : Int32)).toInt64))
def own_ul (nv : Int32) (lo : Int64) : Int64 := if nv = (0 : Int32) then lo else (-lo)
theorem own_negH {lo hi bo : Int64} (hb : bo = if lo = (0 : Int64) then (0 : Int64) else (1 : Int64)) : ((hi ^^^ (-1 : Int64)) + ((if lo = (0 : Int64) then (1 : Int32) else (0 : Int32)).toInt64)) = (((0 : Int64) - hi) - bo) := by
  have e1 := own_xall hi
  have t0 : (0 : Int64).toInt = 0 := by decide
  have e2 := c_lsub 0 hi; rw [t0] at e2
  have e3 := c_lsub (0 - hi) bo
  have e4 := c_ladd (hi ^^^ (-1 : Int64)) ((if lo = (0 : Int64) then (1 : Int32) else (0 : Int32)).toInt64)
  have r1 := rng64 hi; have r2 := rng64 (0 - hi); have r3 := rng64 ((0 - hi) - bo); have r4 := rng64 ((hi ^^^ (-1 : Int64)) + ((if lo = (0 : Int64) then (1 : Int32) else (0 : Int32)).toInt64)); have r5 := rng64 (hi ^^^ (-1 : Int64))
  apply Int64.toInt_inj.mp
  by_cases h : lo = 0
  · rw [if_pos h] at hb e4 r4 ⊢
    have b0 : bo.toInt = 0 := by rw [hb]; decide
    have c1 : ((1 : Int32).toInt64).toInt = 1 := by decide
    rw [c1] at e4; omega
  · rw [if_neg h] at hb e4 r4 ⊢
    have b0 : bo.toInt = 1 := by rw [hb]; decide
    have c1 : ((0 : Int32).toInt64).toInt = 0 := by decide
    rw [c1] at e4; omega
theorem own_negL (lo : Int64) : -lo = (0 : Int64) - lo := (Int64.zero_sub lo).symm
theorem own_cst (na nb : Nat) : ((na * 1000000000000000000 + nb : Nat) : Int) = (na : Int) * 1000000000000000000 + nb := by omega
theorem own_cy1 {L L2 : Int} {nb : Nat} (h0 : 0 ≤ L) (h1 : L < 18446744073709551616) (hb : nb < 1000000000000000000) (h : L2 = (L + nb) % 18446744073709551616) (c : L2 < L) : L2 = L + nb - 18446744073709551616 := by omega
theorem own_cy0 {L L2 : Int} {nb : Nat} (h0 : 0 ≤ L) (h1 : L < 18446744073709551616) (hb : nb < 1000000000000000000) (h : L2 = (L + nb) % 18446744073709551616) (c : ¬ L2 < L) : L2 = L + nb := by omega
/-- the law's own product and sum -/
theorem own_ref {a b a1 a0 t0 m1 m2 hh c1 low high low2 ca high2 : Int64} {na nb : Nat} (ha : a.toInt = (na : Int)) (hna : na < 1000000000000000000) (hb : b.toInt = (nb : Int)) (hnb : nb < 1000000000000000000)
    (h1 : a1 = ((a.toUInt64 >>> ((32 : Int32) &&& 0x3f).toInt64.toUInt64).toInt64)) (h2 : a0 = (a &&& (4294967295 : Int64))) (h3 : t0 = (a0 * (2808348672 : Int64))) (h4 : m1 = (a1 * (2808348672 : Int64))) (h5 : m2 = (a0 * (232830643 : Int64))) (h6 : hh = (a1 * (232830643 : Int64)))
    (h7 : c1 = ((((t0.toUInt64 >>> ((32 : Int32) &&& 0x3f).toInt64.toUInt64).toInt64) + (m1 &&& (4294967295 : Int64))) + (m2 &&& (4294967295 : Int64)))) (h8 : low = ((c1 <<< ((32 : Int32) &&& 0x3f).toInt64) ||| (t0 &&& (4294967295 : Int64))))
    (h9 : high = (((hh + ((m1.toUInt64 >>> ((32 : Int32) &&& 0x3f).toInt64.toUInt64).toInt64)) + ((m2.toUInt64 >>> ((32 : Int32) &&& 0x3f).toInt64.toUInt64).toInt64)) + ((c1.toUInt64 >>> ((32 : Int32) &&& 0x3f).toInt64.toUInt64).toInt64)))
    (h10 : low2 = (low + b)) (h11 : ca = if (low2 ^^^ (-9223372036854775808 : Int64)) < (low ^^^ (-9223372036854775808 : Int64)) then (1 : Int64) else (0 : Int64)) (h12 : high2 = (high + ca)) : own_rep low2 high2 (na * 1000000000000000000 + nb) := by
  have q1 : (2808348672 : Int64).toInt = 2808348672 := by decide
  have q2 : (232830643 : Int64).toInt = 232830643 := by decide
  have e0 : own_u a = na := by unfold own_u; omega
  have e1 := own_lus a; rw [← h1, e0] at e1
  have e2 := own_msk a; rw [← h2, ha] at e2
  have f0 : 0 ≤ a0.toInt ∧ a0.toInt < 4294967296 := by omega
  have f1 : 0 ≤ a1.toInt ∧ a1.toInt < 232830644 := by omega
  have f2 : (na : Int) = 4294967296 * a1.toInt + a0.toInt := by omega
  have e3 := own_mulc a0 q1; rw [← h3] at e3
  have f3 : own_u t0 = a0.toInt * 2808348672 := own_wu e3 (by omega) (by omega)
  have e4 := own_mulc a1 q1; rw [← h4] at e4
  have f4 : m1.toInt = a1.toInt * 2808348672 := own_w64 e4 (by omega) (by omega)
  have e5 := own_mulc a0 q2; rw [← h5] at e5
  have f5 : m2.toInt = a0.toInt * 232830643 := own_w64 e5 (by omega) (by omega)
  have e6 := own_mulc a1 q2; rw [← h6] at e6
  have f6 : hh.toInt = a1.toInt * 232830643 := own_w64 e6 (by omega) (by omega)
  clear e3 e4 e5 e6 e1 e2
  have g4 : 0 ≤ m1.toInt ∧ m1.toInt < 1000000000000000000 := by omega
  have g5 : 0 ≤ m2.toInt ∧ m2.toInt < 1000000000000000001 := by omega
  have g6 : 0 ≤ hh.toInt ∧ hh.toInt < 100000000000000000 := by omega
  have u4 : own_u m1 = m1.toInt := by unfold own_u; omega
  have u5 : own_u m2 = m2.toInt := by unfold own_u; omega
  have e7a := own_lus t0
  have ut := own_u_rng t0
  have e7b := own_msk m1
  have e7c := own_msk m2
  have e7d := c_ladd ((t0.toUInt64 >>> ((32 : Int32) &&& 0x3f).toInt64.toUInt64).toInt64) (m1 &&& (4294967295 : Int64)); rw [e7a, e7b] at e7d
  have e7d := own_w64 e7d (by omega) (by omega)
  have e7 := c_ladd (((t0.toUInt64 >>> ((32 : Int32) &&& 0x3f).toInt64.toUInt64).toInt64) + (m1 &&& (4294967295 : Int64))) (m2 &&& (4294967295 : Int64)); rw [← h7, e7d, e7c] at e7
  have f7 := own_w64 e7 (by omega) (by omega)
  have g7 : 0 ≤ c1.toInt ∧ c1.toInt < 12884901888 := by omega
  have u7 : own_u c1 = c1.toInt := by unfold own_u; omega
  clear e7a e7b e7c e7d e7
  have e8a : ((c1 <<< ((32 : Int32) &&& 0x3f).toInt64).toInt - c1.toInt * 4294967296) % 18446744073709551616 = 0 := c_lshl c1 32 32 (by decide)
  have e8b : (t0 &&& (4294967295 : Int64)).toInt = own_u t0 % 4294967296 := by rw [own_msk]; unfold own_u; omega
  have e8 := c_orL (c1 <<< ((32 : Int32) &&& 0x3f).toInt64) (t0 &&& (4294967295 : Int64)) 32 (by decide) 4294967296 (by decide) (by clear f7 ut f3; omega) (by clear f7 e8a; omega) (by clear f7 e8a; omega); rw [← h8, e8b] at e8
  have f8 : own_u low = (c1.toInt * 4294967296 + own_u t0 % 4294967296) % 18446744073709551616 := own_um (by clear f7 f3 f4 f5 f6 ut; omega)
  clear e8 e8a e8b
  have e9a := own_lus m1; rw [u4] at e9a
  have e9b := own_lus m2; rw [u5] at e9b
  have e9c := own_lus c1; rw [u7] at e9c
  have e9d := c_ladd hh ((m1.toUInt64 >>> ((32 : Int32) &&& 0x3f).toInt64.toUInt64).toInt64); rw [e9a] at e9d
  have e9d := own_w64 e9d (by clear f7 f8; omega) (by clear f7 f8; omega)
  have e9e := c_ladd (hh + ((m1.toUInt64 >>> ((32 : Int32) &&& 0x3f).toInt64.toUInt64).toInt64)) ((m2.toUInt64 >>> ((32 : Int32) &&& 0x3f).toInt64.toUInt64).toInt64); rw [e9d, e9b] at e9e
  have e9e := own_w64 e9e (by clear f7 f8; omega) (by clear f7 f8; omega)
  have e9 := c_ladd ((hh + ((m1.toUInt64 >>> ((32 : Int32) &&& 0x3f).toInt64.toUInt64).toInt64)) + ((m2.toUInt64 >>> ((32 : Int32) &&& 0x3f).toInt64.toUInt64).toInt64)) ((c1.toUInt64 >>> ((32 : Int32) &&& 0x3f).toInt64.toUInt64).toInt64); rw [← h9, e9e, e9c] at e9
  have f9 := own_w64 e9 (by clear f7 f8; omega) (by clear f7 f8; omega)
  clear e9a e9b e9c e9d e9e e9
  have gm1 : 0 ≤ m1.toInt / 4294967296 ∧ m1.toInt / 4294967296 < 1000000000000000000 := by clear f7 f8 f9 f3 f4 f5 f6; omega
  have gm2 : 0 ≤ m2.toInt / 4294967296 ∧ m2.toInt / 4294967296 < 300000000 := by clear f7 f8 f9 f3 f4 f5 f6 gm1; omega
  have gm3 : 0 ≤ m1.toInt / 4294967296 ∧ m1.toInt / 4294967296 < 300000000 := by clear f7 f8 f9 f3 f4 f5 f6 gm2; omega
  have gc1 : 0 ≤ c1.toInt / 4294967296 ∧ c1.toInt / 4294967296 < 3 := by clear f7 f8 f9 f3 f4 f5 f6 gm2; omega
  have fh : 0 ≤ high.toInt ∧ high.toInt < 1000000000000000000 := by
    rw [f9]
    generalize m1.toInt / 4294967296 = X1 at *
    generalize m2.toInt / 4294967296 = X2 at *
    generalize c1.toInt / 4294967296 = X3 at *
    clear f7 f8 f9 f3 f4 f5 f6; omega
  rw [own_xmin, own_xmin] at h11
  have e10 := c_ladd low b; rw [← h10, hb] at e10
  have f10 : own_u low2 = (own_u low + nb) % 18446744073709551616 := by rw [own_um e10]; unfold own_u; omega
  have hc : ca.toInt = if own_u low2 < own_u low then 1 else 0 := by
    rw [h11]
    by_cases c : own_u low2 < own_u low
    · rw [if_pos ((own_cuu _ _).mpr c), if_pos c]; decide
    · rw [if_neg (mt (own_cuu _ _).mp c), if_neg c]; decide
  have e12 := c_ladd high ca; rw [← h12, hc] at e12
  have ul := own_u_rng low
  clear e10 h1 h2 h3 h4 h5 h6 h7 h8 h9 h10 h11 h12
  unfold own_rep
  generalize own_u low2 = L2 at *
  generalize own_u low = L at *
  generalize own_u t0 = T at *
  generalize m1.toInt = M1 at *
  generalize m2.toInt = M2 at *
  generalize c1.toInt = C at *
  generalize hh.toInt = H at *
  generalize high.toInt = G at *
  generalize a0.toInt = A at *
  generalize a1.toInt = B at *
  have S : L + 18446744073709551616 * G = na * 1000000000000000000 := by
    rw [f2]
    have s1 : L + 18446744073709551616 * (C / 4294967296) = C * 4294967296 + T % 4294967296 := by omega
    have s2 : C * 4294967296 + T % 4294967296 = T + (M1 % 4294967296 + M2 % 4294967296) * 4294967296 := by omega
    have s3 : (M1 % 4294967296 + M2 % 4294967296) * 4294967296 + (M1 / 4294967296 + M2 / 4294967296) * 18446744073709551616 = (M1 + M2) * 4294967296 := by omega
    have s4 : L + 18446744073709551616 * G = T + (M1 + M2) * 4294967296 + 18446744073709551616 * H := by rw [f9]; omega
    rw [s4, f3, f4, f5, f6]; omega
  clear f9 f8 f7 f6 f5 f4 f3
  by_cases c : L2 < L
  · rw [if_pos c] at e12
    rw [own_w64 e12 (by omega) (by omega)]
    have := own_cy1 ul.1 ul.2.1 hnb f10 c
    rw [this, own_cst, ← S]; clear e12 this; omega
  · rw [if_neg c] at e12
    rw [own_w64 e12 (by omega) (by omega)]
    have := own_cy0 ul.1 ul.2.1 hnb f10 c
    rw [this, own_cst, ← S]; clear e12 this; omega
end OwnVal
section OwnVal2
theorem own_dig_rng {c : Int32} (h : ¬ own_dig c = 0) : ∃ d : Nat, c.toInt = ((48 + d : Nat) : Int) ∧ d ≤ 9 ∧ c.toInt.toNat - 48 = d := by
  unfold own_dig at h
  by_cases a : c < 48
  · rw [if_pos a] at h; exact absurd rfl h
  · rw [if_neg a] at h
    by_cases b : 57 < c
    · rw [if_pos b] at h; exact absurd rfl h
    · rw [Int32.lt_iff_toInt_lt] at a b
      have e1 : (48 : Int32).toInt = 48 := by decide
      have e2 : (57 : Int32).toInt = 57 := by decide
      exact ⟨c.toInt.toNat - 48, by omega, by omega, rfl⟩
theorem own_dig_of {c : Int32} {d : Nat} (h : c.toInt = ((48 + d : Nat) : Int)) (hd : d ≤ 9) : ¬ own_dig c = 0 := by
  have e1 : (48 : Int32).toInt = 48 := by decide
  have e2 : (57 : Int32).toInt = 57 := by decide
  unfold own_dig
  rw [if_neg (by rw [Int32.lt_iff_toInt_lt]; omega), if_neg (by rw [Int32.lt_iff_toInt_lt]; omega)]
  decide
def own_rv (f : Nat → Int32) : Nat → Nat → Nat → Nat
  | 0, _, W => W
  | k + 1, j, W => if own_dig (f j) = 0 then W else own_rv f k (j + 1) (10 * W + ((f j).toInt.toNat - 48))
def own_v1 (f : Nat → Int32) (s lim : Nat) : Nat := own_rv f (lim - s) s 0
def own_v2 (f : Nat → Int32) (s lim : Nat) : Nat := if own_pnt f s lim then own_rv f (lim - (own_p1 f s lim + 1)) (own_p1 f s lim + 1) (own_v1 f s lim) else own_v1 f s lim
theorem own_rs_le2 (f : Nat → Int32) : ∀ k j sd, own_rs f k j sd ≤ sd + (own_rp f k j - j)
  | 0, j, sd => by unfold own_rs; omega
  | k + 1, j, sd => by
    unfold own_rs own_rp
    by_cases c : own_dig (f j) = 0
    · rw [if_pos c, if_pos c]; omega
    · rw [if_neg c, if_neg c]
      have h1 := own_rp_le f k (j + 1)
      have h2 := own_rs_le2 f k (j + 1) (if 0 < sd ∨ ¬ f j = (48 : Int32) then sd + 1 else sd)
      have h3 : (if 0 < sd ∨ ¬ f j = (48 : Int32) then sd + 1 else sd) ≤ sd + 1 := by split <;> omega
      omega
theorem own_pw {W sd d : Nat} (h : W < 10 ^ sd) (hd : d ≤ 9) : 10 * W + d < 10 ^ (sd + 1) := by
  rw [Nat.pow_succ]; omega
theorem own_pw17 {W sd : Nat} (h : W < 10 ^ sd) (hs : sd ≤ 17) : W < 100000000000000000 :=
  Nat.lt_of_lt_of_le h (Nat.le_trans (Nat.pow_le_pow_right (by decide) hs) (by decide))
theorem own_pw37 {W sd : Nat} (h : W < 10 ^ sd) (hs : sd ≤ 37) : W < 10000000000000000000000000000000000000 :=
  Nat.lt_of_lt_of_le h (Nat.le_trans (Nat.pow_le_pow_right (by decide) hs) (by decide))
theorem own_rv_dg (f : Nat → Int32) (n t : Nat) : ∀ k j W, (∀ i, i < k → (f (j + i)).toInt = ((48 + n / 10 ^ (k - 1 - i) % 10 : Nat) : Int)) → own_rv f (k + t) j W = own_rv f t (j + k) (W * 10 ^ k + n % 10 ^ k) ∧ own_rp f (k + t) j = own_rp f t (j + k)
  | 0, j, W, _ => by
    rw [Nat.zero_add, Nat.pow_zero, Nat.mod_one, Nat.mul_one]; exact ⟨rfl, rfl⟩
  | k + 1, j, W, h => by
    have h0 := h 0 (by omega)
    rw [Nat.add_zero, Nat.sub_zero, Nat.add_sub_cancel] at h0
    have hd : n / 10 ^ k % 10 ≤ 9 := by omega
    have hn := own_dig_of h0 hd
    have ih := own_rv_dg f n t k (j + 1) (10 * W + ((f j).toInt.toNat - 48)) (fun i hi => by
      have := h (i + 1) (by omega)
      rw [show j + 1 + i = j + (i + 1) from by omega, this, show k + 1 - 1 - (i + 1) = k - 1 - i from by omega])
    rw [show k + 1 + t = (k + t) + 1 from by omega, own_rv, own_rp, if_neg hn, if_neg hn, ih.1, ih.2, show j + 1 + k = j + (k + 1) from by omega]
    refine ⟨congrArg _ ?_, rfl⟩
    rw [show (f j).toInt.toNat - 48 = n / 10 ^ k % 10 from by rw [h0]; omega, Nat.pow_succ, Nat.mod_mul, Nat.add_mul, Nat.mul_comm (n / 10 ^ k % 10) (10 ^ k), Nat.mul_comm 10 W, Nat.mul_assoc W 10, Nat.mul_comm 10 (10 ^ k)]
    omega
/-- one sign: the digit of n at Q -/
def own_isd (c : Int32) (n Q : Nat) : Prop := c.toInt = ((48 + n / Q % 10 : Nat) : Int)
theorem own_isd_cast {c : Int32} {n Q Q' : Nat} (h : own_isd c n Q) (e : Q = Q') : own_isd c n Q' := e ▸ h
/-- g is f with n's eighteen digits from off on (the first k of them) -/
def own_fl (f g : Nat → Int32) (off n k : Nat) : Prop := (∀ i, i < k → (g (off + i)).toInt = ((48 + n / 10 ^ (17 - i) % 10 : Nat) : Int)) ∧ ∀ i, ¬ (off ≤ i ∧ i < off + k) → g i = f i
theorem own_fl0 (f : Nat → Int32) (off n : Nat) : own_fl f f off n 0 := ⟨fun i hi => absurd hi (Nat.not_lt_zero i), fun _ _ => rfl⟩
theorem own_fl_step {f g g' : Nat → Int32} {off n k q : Nat} {c : Int32} (h : own_fl f g off n k) (hc : own_isd c n (10 ^ (17 - k))) (hq : q = off + k) (hg : g' = fun i => if i = q then nar .char c else g i) : own_fl f g' off n (k + 1) := by
  unfold own_isd at hc
  have hn : nar .char c = c := own_nc ⟨by omega, by omega⟩
  subst hg hq
  refine ⟨fun i hi => ?_, fun i hi => ?_⟩
  · show ((if off + i = off + k then nar .char c else g (off + i)) : Int32).toInt = _
    by_cases e : i = k
    · subst e; rw [if_pos rfl, hn]; exact hc
    · rw [if_neg (by omega)]; exact h.1 i (by omega)
  · show (if i = off + k then nar .char c else g i) = _
    rw [if_neg (by omega)]; exact h.2 i (by omega)
theorem own_pt_v {g : Nat → Int32} {na nb : Nat} (ha : na < 1000000000000000000) (hb : nb < 1000000000000000000) (hA : ∀ i, i < 18 → (g (0 + i)).toInt = ((48 + na / 10 ^ (17 - i) % 10 : Nat) : Int)) (hP : g 18 = 46) (hB : ∀ i, i < 18 → (g (19 + i)).toInt = ((48 + nb / 10 ^ (17 - i) % 10 : Nat) : Int)) : own_v2 g 0 37 = na * 1000000000000000000 + nb ∧ ¬ own_exq g 0 37 := by
  have e18 : (10 : Nat) ^ 18 = 1000000000000000000 := by decide
  have h1 := own_rv_dg g na 19 18 0 0 hA
  have h2 := own_rv_dg g nb 0 18 19 na hB
  rw [e18] at h1 h2
  have hz : own_dig (g 18) = 0 := by rw [hP]; decide
  have p1 : own_p1 g 0 37 = 18 := by
    show own_rp g (18 + 19) 0 = 18
    rw [h1.2, own_rp, if_pos hz]
  have v1 : own_v1 g 0 37 = na := by
    show own_rv g (18 + 19) 0 0 = na
    rw [h1.1, own_rv, if_pos hz, Nat.zero_mul, Nat.zero_add, Nat.mod_eq_of_lt ha]
  have pn : own_pnt g 0 37 := by unfold own_pnt; rw [p1]; exact ⟨by decide, hP⟩
  have p2 : own_p2 g 0 37 = 37 := by
    rw [own_p2, if_pos pn, p1]
    show own_rp g (18 + 0) 19 = 37
    rw [h2.2, own_rp]
  refine ⟨?_, fun q => ?_⟩
  · rw [own_v2, if_pos pn, p1, v1]
    show own_rv g (18 + 0) 19 na = _
    rw [h2.1, own_rv, Nat.mod_eq_of_lt hb]
  · have := q.2.1; rw [p2] at this; exact absurd this (Nat.lt_irrefl 37)
theorem own_np_v {g : Nat → Int32} {na nb : Nat} (ha : na < 1000000000000000000) (hb : nb < 1000000000000000000) (hA : ∀ i, i < 18 → (g (0 + i)).toInt = ((48 + na / 10 ^ (17 - i) % 10 : Nat) : Int)) (hB : ∀ i, i < 18 → (g (18 + i)).toInt = ((48 + nb / 10 ^ (17 - i) % 10 : Nat) : Int)) (hS : g 36 = 32) : own_v2 g 0 37 = na * 1000000000000000000 + nb ∧ ¬ own_exq g 0 37 := by
  have e18 : (10 : Nat) ^ 18 = 1000000000000000000 := by decide
  have h1 := own_rv_dg g na 19 18 0 0 hA
  have h2 := own_rv_dg g nb 1 18 18 na hB
  rw [e18] at h1 h2
  have hz : own_dig (g 36) = 0 := by rw [hS]; decide
  have p1 : own_p1 g 0 37 = 36 := by
    show own_rp g (18 + 19) 0 = 36
    rw [h1.2]
    show own_rp g (18 + 1) 18 = 36
    rw [h2.2, own_rp, if_pos hz]
  have v1 : own_v1 g 0 37 = na * 1000000000000000000 + nb := by
    show own_rv g (18 + 19) 0 0 = _
    rw [h1.1, Nat.zero_mul, Nat.mod_eq_of_lt ha]
    show own_rv g (18 + 1) 18 (0 + na) = _
    rw [Nat.zero_add, h2.1, own_rv, if_pos hz, Nat.mod_eq_of_lt hb]
  have pn : ¬ own_pnt g 0 37 := by unfold own_pnt; rw [p1, hS]; exact fun q => absurd q.2 (by decide)
  have p2 : own_p2 g 0 37 = 36 := by rw [own_p2, if_neg pn, p1]
  refine ⟨?_, fun q => ?_⟩
  · rw [own_v2, if_neg pn, v1]
  · have := q.2.2; rw [p2, hS] at this; exact this.elim (fun z => absurd z (by decide)) (fun z => absurd z (by decide))
theorem own_ne0 {q : Int64} {Q : Nat} (h : q.toInt = (Q : Int)) (hQ : 0 < Q) : q ≠ 0 := fun z => by
  have t : (0 : Int64).toInt = 0 := by decide
  rw [z, t] at h
  omega
theorem own_rep0 : own_rep 0 0 0 := by unfold own_rep own_u; decide
/-- one sign of a number -/
theorem own_dgt {v p q t : Int64} {i w c : Int32} {n P : Nat} (hv : v.toInt = (n : Int)) (hp : p.toInt = (P : Int)) (hP : 0 < P) (h1 : q = (v / p)) (h2 : t = (q - (q / (10 : Int64)) * (10 : Int64))) (h3 : i = t.toInt32) (h4 : w = ((48 : Int32) + i)) (h5 : c = w.toUInt32.toUInt16.toUInt32.toInt32) : c.toInt = ((48 + n / P % 10 : Nat) : Int) := by
  have hm : p ≠ -1 := fun e => by
    have : (-1 : Int64).toInt = -1 := by decide
    rw [e, this] at hp; omega
  have e1 := (c_ldiv v p P hp hm).1 (by omega); rw [← h1, hv] at e1
  have e1 : q.toInt = ((n / P : Nat) : Int) := by rw [e1]; exact (Int.natCast_ediv n P).symm
  have e2 := (c_lrem q 10 10 (by decide)).1 (by rw [e1]; exact Int.natCast_nonneg _); rw [← h2, e1] at e2
  have e3 := c_l2i t; rw [← h3] at e3
  have r3 := rng32 i
  have e4 := c_iadd 48 i; rw [← h4] at e4
  have t48 : (48 : Int32).toInt = 48 := by decide
  have r4 := rng32 w
  have e5 := c_i2c w; rw [← h5] at e5
  rw [t48] at e4
  generalize n / P = Q at *
  have k1 : i.toInt = t.toInt := by omega
  have k2 : w.toInt = 48 + t.toInt := by omega
  omega
theorem own_ifc {r : Int32} {P : Prop} [Decidable P] (h : r < 0 ↔ P) : (if r < (0 : Int32) then (1 : Int32) else (0 : Int32)) = if P then 1 else 0 := by
  by_cases c : P
  · rw [if_pos c, if_pos (h.mpr c)]
  · rw [if_neg c, if_neg (mt h.mp c)]
theorem own_modL (x : Int64) : ∃ n : Nat, ((x &&& (9223372036854775807 : Int64)) - ((x &&& (9223372036854775807 : Int64)) / (1000000000000000000 : Int64)) * (1000000000000000000 : Int64)).toInt = (n : Int) ∧ n < 1000000000000000000 := by
  have h1 := c_maskL x 9223372036854775807 63 (by decide) (by decide)
  have h0 : 0 ≤ (x &&& (9223372036854775807 : Int64)).toInt := by omega
  have h2 := (c_lrem (x &&& (9223372036854775807 : Int64)) 1000000000000000000 1000000000000000000 (by decide)).1 h0
  exact ⟨((x &&& (9223372036854775807 : Int64)).toInt % 1000000000000000000).toNat, by omega, by omega⟩
end OwnVal2
theorem own_w {Z : State} {a0 : Array Value} (hw : ∀ d ∈ tables_1, d.before a0 Z = true) (i : Nat) {d : Jvm.Cond} (h : tables_1[i]? = some d) : d.before a0 Z = true := hw d (List.mem_of_getElem? h)
abbrev own_k0 : String := "com/example/tally_of_atoms/tallyofatoms/Numeral"
abbrev own_H (Z : State) (a0 : Array Value) : Prop := ∀ d ∈ tables_1, d.before a0 Z = true
section OwnSn
variable {Z : State} {a0 : Array Value}
theorem sn_0 (hw : own_H Z a0) : Jvm.RoadKit.slotOf Z own_k0 "significand" "J" ≠ Jvm.RoadKit.slotOf Z own_k0 "significandHigh" "J" := slot_ne (Or.inl (own_w hw 54 rfl)) (Or.inl (own_w hw 56 rfl)) (by decide) (t := .long) (t' := .long) (by decide) (by decide)
theorem sn_1 (hw : own_H Z a0) : Jvm.RoadKit.slotOf Z own_k0 "characters" "[C" ≠ Jvm.RoadKit.slotOf Z own_k0 "significandHigh" "J" := slot_ne (Or.inl (own_w hw 46 rfl)) (Or.inl (own_w hw 56 rfl)) (by decide) (t := (.array .char)) (t' := .long) (by decide) (by decide)
theorem sn_2 (hw : own_H Z a0) : Jvm.RoadKit.slotOf Z own_k0 "characters" "[C" ≠ Jvm.RoadKit.slotOf Z own_k0 "significand" "J" := slot_ne (Or.inl (own_w hw 46 rfl)) (Or.inl (own_w hw 54 rfl)) (by decide) (t := (.array .char)) (t' := .long) (by decide) (by decide)
theorem sn_3 (hw : own_H Z a0) : Jvm.RoadKit.slotOf Z own_k0 "start" "I" ≠ Jvm.RoadKit.slotOf Z own_k0 "significandHigh" "J" := slot_ne (Or.inl (own_w hw 48 rfl)) (Or.inl (own_w hw 56 rfl)) (by decide) (t := .int) (t' := .long) (by decide) (by decide)
theorem sn_4 (hw : own_H Z a0) : Jvm.RoadKit.slotOf Z own_k0 "start" "I" ≠ Jvm.RoadKit.slotOf Z own_k0 "significand" "J" := slot_ne (Or.inl (own_w hw 48 rfl)) (Or.inl (own_w hw 54 rfl)) (by decide) (t := .int) (t' := .long) (by decide) (by decide)
theorem sn_5 (hw : own_H Z a0) : Jvm.RoadKit.slotOf Z own_k0 "end" "I" ≠ Jvm.RoadKit.slotOf Z own_k0 "significandHigh" "J" := slot_ne (Or.inl (own_w hw 98 rfl)) (Or.inl (own_w hw 56 rfl)) (by decide) (t := .int) (t' := .long) (by decide) (by decide)
theorem sn_6 (hw : own_H Z a0) : Jvm.RoadKit.slotOf Z own_k0 "end" "I" ≠ Jvm.RoadKit.slotOf Z own_k0 "significand" "J" := slot_ne (Or.inl (own_w hw 98 rfl)) (Or.inl (own_w hw 54 rfl)) (by decide) (t := .int) (t' := .long) (by decide) (by decide)
theorem sn_7 (hw : own_H Z a0) : Jvm.RoadKit.slotOf Z own_k0 "digits" "I" ≠ Jvm.RoadKit.slotOf Z own_k0 "significandHigh" "J" := slot_ne (Or.inl (own_w hw 90 rfl)) (Or.inl (own_w hw 56 rfl)) (by decide) (t := .int) (t' := .long) (by decide) (by decide)
theorem sn_8 (hw : own_H Z a0) : Jvm.RoadKit.slotOf Z own_k0 "digits" "I" ≠ Jvm.RoadKit.slotOf Z own_k0 "significand" "J" := slot_ne (Or.inl (own_w hw 90 rfl)) (Or.inl (own_w hw 54 rfl)) (by decide) (t := .int) (t' := .long) (by decide) (by decide)
theorem sn_9 (hw : own_H Z a0) : Jvm.RoadKit.slotOf Z own_k0 "point" "Z" ≠ Jvm.RoadKit.slotOf Z own_k0 "significandHigh" "J" := slot_ne (Or.inl (own_w hw 92 rfl)) (Or.inl (own_w hw 56 rfl)) (by decide) (t := .boolean) (t' := .long) (by decide) (by decide)
theorem sn_10 (hw : own_H Z a0) : Jvm.RoadKit.slotOf Z own_k0 "point" "Z" ≠ Jvm.RoadKit.slotOf Z own_k0 "significand" "J" := slot_ne (Or.inl (own_w hw 92 rfl)) (Or.inl (own_w hw 54 rfl)) (by decide) (t := .boolean) (t' := .long) (by decide) (by decide)
theorem sn_11 (hw : own_H Z a0) : Jvm.RoadKit.slotOf Z own_k0 "exponent" "Z" ≠ Jvm.RoadKit.slotOf Z own_k0 "significandHigh" "J" := slot_ne (Or.inl (own_w hw 94 rfl)) (Or.inl (own_w hw 56 rfl)) (by decide) (t := .boolean) (t' := .long) (by decide) (by decide)
theorem sn_12 (hw : own_H Z a0) : Jvm.RoadKit.slotOf Z own_k0 "exponent" "Z" ≠ Jvm.RoadKit.slotOf Z own_k0 "significand" "J" := slot_ne (Or.inl (own_w hw 94 rfl)) (Or.inl (own_w hw 54 rfl)) (by decide) (t := .boolean) (t' := .long) (by decide) (by decide)
theorem sn_13 (hw : own_H Z a0) : Jvm.RoadKit.slotOf Z own_k0 "exponentDigits" "Z" ≠ Jvm.RoadKit.slotOf Z own_k0 "significandHigh" "J" := slot_ne (Or.inl (own_w hw 96 rfl)) (Or.inl (own_w hw 56 rfl)) (by decide) (t := .boolean) (t' := .long) (by decide) (by decide)
theorem sn_14 (hw : own_H Z a0) : Jvm.RoadKit.slotOf Z own_k0 "exponentDigits" "Z" ≠ Jvm.RoadKit.slotOf Z own_k0 "significand" "J" := slot_ne (Or.inl (own_w hw 96 rfl)) (Or.inl (own_w hw 54 rfl)) (by decide) (t := .boolean) (t' := .long) (by decide) (by decide)
theorem sn_15 (hw : own_H Z a0) : Jvm.RoadKit.slotOf Z own_k0 "special" "I" ≠ Jvm.RoadKit.slotOf Z own_k0 "significandHigh" "J" := slot_ne (Or.inl (own_w hw 50 rfl)) (Or.inl (own_w hw 56 rfl)) (by decide) (t := .int) (t' := .long) (by decide) (by decide)
theorem sn_16 (hw : own_H Z a0) : Jvm.RoadKit.slotOf Z own_k0 "special" "I" ≠ Jvm.RoadKit.slotOf Z own_k0 "significand" "J" := slot_ne (Or.inl (own_w hw 50 rfl)) (Or.inl (own_w hw 54 rfl)) (by decide) (t := .int) (t' := .long) (by decide) (by decide)
theorem sn_17 (hw : own_H Z a0) : Jvm.RoadKit.slotOf Z own_k0 "negative" "Z" ≠ Jvm.RoadKit.slotOf Z own_k0 "significandHigh" "J" := slot_ne (Or.inl (own_w hw 52 rfl)) (Or.inl (own_w hw 56 rfl)) (by decide) (t := .boolean) (t' := .long) (by decide) (by decide)
theorem sn_18 (hw : own_H Z a0) : Jvm.RoadKit.slotOf Z own_k0 "negative" "Z" ≠ Jvm.RoadKit.slotOf Z own_k0 "significand" "J" := slot_ne (Or.inl (own_w hw 52 rfl)) (Or.inl (own_w hw 54 rfl)) (by decide) (t := .boolean) (t' := .long) (by decide) (by decide)
theorem sn_19 (hw : own_H Z a0) : Jvm.RoadKit.slotOf Z own_k0 "significandHigh" "J" ≠ Jvm.RoadKit.slotOf Z own_k0 "significand" "J" := slot_ne (Or.inl (own_w hw 56 rfl)) (Or.inl (own_w hw 54 rfl)) (by decide) (t := .long) (t' := .long) (by decide) (by decide)
theorem sn_20 (hw : own_H Z a0) : Jvm.RoadKit.slotOf Z own_k0 "significantDigits" "I" ≠ Jvm.RoadKit.slotOf Z own_k0 "significandHigh" "J" := slot_ne (Or.inl (own_w hw 58 rfl)) (Or.inl (own_w hw 56 rfl)) (by decide) (t := .int) (t' := .long) (by decide) (by decide)
theorem sn_21 (hw : own_H Z a0) : Jvm.RoadKit.slotOf Z own_k0 "significantDigits" "I" ≠ Jvm.RoadKit.slotOf Z own_k0 "significand" "J" := slot_ne (Or.inl (own_w hw 58 rfl)) (Or.inl (own_w hw 54 rfl)) (by decide) (t := .int) (t' := .long) (by decide) (by decide)
theorem sn_22 (hw : own_H Z a0) : Jvm.RoadKit.slotOf Z own_k0 "scale" "I" ≠ Jvm.RoadKit.slotOf Z own_k0 "significandHigh" "J" := slot_ne (Or.inl (own_w hw 60 rfl)) (Or.inl (own_w hw 56 rfl)) (by decide) (t := .int) (t' := .long) (by decide) (by decide)
theorem sn_23 (hw : own_H Z a0) : Jvm.RoadKit.slotOf Z own_k0 "scale" "I" ≠ Jvm.RoadKit.slotOf Z own_k0 "significand" "J" := slot_ne (Or.inl (own_w hw 60 rfl)) (Or.inl (own_w hw 54 rfl)) (by decide) (t := .int) (t' := .long) (by decide) (by decide)
theorem sn_24 (hw : own_H Z a0) : Jvm.RoadKit.slotOf Z own_k0 "exponentValue" "I" ≠ Jvm.RoadKit.slotOf Z own_k0 "significandHigh" "J" := slot_ne (Or.inl (own_w hw 62 rfl)) (Or.inl (own_w hw 56 rfl)) (by decide) (t := .int) (t' := .long) (by decide) (by decide)
theorem sn_25 (hw : own_H Z a0) : Jvm.RoadKit.slotOf Z own_k0 "exponentValue" "I" ≠ Jvm.RoadKit.slotOf Z own_k0 "significand" "J" := slot_ne (Or.inl (own_w hw 62 rfl)) (Or.inl (own_w hw 54 rfl)) (by decide) (t := .int) (t' := .long) (by decide) (by decide)
theorem sn_26 (hw : own_H Z a0) : Jvm.RoadKit.slotOf Z own_k0 "characters" "[C" ≠ Jvm.RoadKit.slotOf Z own_k0 "significantDigits" "I" := slot_ne (Or.inl (own_w hw 46 rfl)) (Or.inl (own_w hw 58 rfl)) (by decide) (t := (.array .char)) (t' := .int) (by decide) (by decide)
theorem sn_27 (hw : own_H Z a0) : Jvm.RoadKit.slotOf Z own_k0 "start" "I" ≠ Jvm.RoadKit.slotOf Z own_k0 "significantDigits" "I" := slot_ne (Or.inl (own_w hw 48 rfl)) (Or.inl (own_w hw 58 rfl)) (by decide) (t := .int) (t' := .int) (by decide) (by decide)
theorem sn_28 (hw : own_H Z a0) : Jvm.RoadKit.slotOf Z own_k0 "end" "I" ≠ Jvm.RoadKit.slotOf Z own_k0 "significantDigits" "I" := slot_ne (Or.inl (own_w hw 98 rfl)) (Or.inl (own_w hw 58 rfl)) (by decide) (t := .int) (t' := .int) (by decide) (by decide)
theorem sn_29 (hw : own_H Z a0) : Jvm.RoadKit.slotOf Z own_k0 "digits" "I" ≠ Jvm.RoadKit.slotOf Z own_k0 "significantDigits" "I" := slot_ne (Or.inl (own_w hw 90 rfl)) (Or.inl (own_w hw 58 rfl)) (by decide) (t := .int) (t' := .int) (by decide) (by decide)
theorem sn_30 (hw : own_H Z a0) : Jvm.RoadKit.slotOf Z own_k0 "point" "Z" ≠ Jvm.RoadKit.slotOf Z own_k0 "significantDigits" "I" := slot_ne (Or.inl (own_w hw 92 rfl)) (Or.inl (own_w hw 58 rfl)) (by decide) (t := .boolean) (t' := .int) (by decide) (by decide)
theorem sn_31 (hw : own_H Z a0) : Jvm.RoadKit.slotOf Z own_k0 "exponent" "Z" ≠ Jvm.RoadKit.slotOf Z own_k0 "significantDigits" "I" := slot_ne (Or.inl (own_w hw 94 rfl)) (Or.inl (own_w hw 58 rfl)) (by decide) (t := .boolean) (t' := .int) (by decide) (by decide)
theorem sn_32 (hw : own_H Z a0) : Jvm.RoadKit.slotOf Z own_k0 "exponentDigits" "Z" ≠ Jvm.RoadKit.slotOf Z own_k0 "significantDigits" "I" := slot_ne (Or.inl (own_w hw 96 rfl)) (Or.inl (own_w hw 58 rfl)) (by decide) (t := .boolean) (t' := .int) (by decide) (by decide)
theorem sn_33 (hw : own_H Z a0) : Jvm.RoadKit.slotOf Z own_k0 "special" "I" ≠ Jvm.RoadKit.slotOf Z own_k0 "significantDigits" "I" := slot_ne (Or.inl (own_w hw 50 rfl)) (Or.inl (own_w hw 58 rfl)) (by decide) (t := .int) (t' := .int) (by decide) (by decide)
theorem sn_34 (hw : own_H Z a0) : Jvm.RoadKit.slotOf Z own_k0 "negative" "Z" ≠ Jvm.RoadKit.slotOf Z own_k0 "significantDigits" "I" := slot_ne (Or.inl (own_w hw 52 rfl)) (Or.inl (own_w hw 58 rfl)) (by decide) (t := .boolean) (t' := .int) (by decide) (by decide)
theorem sn_35 (hw : own_H Z a0) : Jvm.RoadKit.slotOf Z own_k0 "significand" "J" ≠ Jvm.RoadKit.slotOf Z own_k0 "significantDigits" "I" := slot_ne (Or.inl (own_w hw 54 rfl)) (Or.inl (own_w hw 58 rfl)) (by decide) (t := .long) (t' := .int) (by decide) (by decide)
theorem sn_36 (hw : own_H Z a0) : Jvm.RoadKit.slotOf Z own_k0 "significandHigh" "J" ≠ Jvm.RoadKit.slotOf Z own_k0 "significantDigits" "I" := slot_ne (Or.inl (own_w hw 56 rfl)) (Or.inl (own_w hw 58 rfl)) (by decide) (t := .long) (t' := .int) (by decide) (by decide)
theorem sn_37 (hw : own_H Z a0) : Jvm.RoadKit.slotOf Z own_k0 "scale" "I" ≠ Jvm.RoadKit.slotOf Z own_k0 "significantDigits" "I" := slot_ne (Or.inl (own_w hw 60 rfl)) (Or.inl (own_w hw 58 rfl)) (by decide) (t := .int) (t' := .int) (by decide) (by decide)
theorem sn_38 (hw : own_H Z a0) : Jvm.RoadKit.slotOf Z own_k0 "exponentValue" "I" ≠ Jvm.RoadKit.slotOf Z own_k0 "significantDigits" "I" := slot_ne (Or.inl (own_w hw 62 rfl)) (Or.inl (own_w hw 58 rfl)) (by decide) (t := .int) (t' := .int) (by decide) (by decide)
theorem sn_39 (hw : own_H Z a0) : Jvm.RoadKit.slotOf Z own_k0 "start" "I" ≠ Jvm.RoadKit.slotOf Z own_k0 "characters" "[C" := slot_ne (Or.inl (own_w hw 48 rfl)) (Or.inl (own_w hw 46 rfl)) (by decide) (t := .int) (t' := (.array .char)) (by decide) (by decide)
theorem sn_40 (hw : own_H Z a0) : Jvm.RoadKit.slotOf Z own_k0 "special" "I" ≠ Jvm.RoadKit.slotOf Z own_k0 "characters" "[C" := slot_ne (Or.inl (own_w hw 50 rfl)) (Or.inl (own_w hw 46 rfl)) (by decide) (t := .int) (t' := (.array .char)) (by decide) (by decide)
theorem sn_41 (hw : own_H Z a0) : Jvm.RoadKit.slotOf Z own_k0 "special" "I" ≠ Jvm.RoadKit.slotOf Z own_k0 "start" "I" := slot_ne (Or.inl (own_w hw 50 rfl)) (Or.inl (own_w hw 48 rfl)) (by decide) (t := .int) (t' := .int) (by decide) (by decide)
theorem sn_42 (hw : own_H Z a0) : Jvm.RoadKit.slotOf Z own_k0 "negative" "Z" ≠ Jvm.RoadKit.slotOf Z own_k0 "characters" "[C" := slot_ne (Or.inl (own_w hw 52 rfl)) (Or.inl (own_w hw 46 rfl)) (by decide) (t := .boolean) (t' := (.array .char)) (by decide) (by decide)
theorem sn_43 (hw : own_H Z a0) : Jvm.RoadKit.slotOf Z own_k0 "negative" "Z" ≠ Jvm.RoadKit.slotOf Z own_k0 "start" "I" := slot_ne (Or.inl (own_w hw 52 rfl)) (Or.inl (own_w hw 48 rfl)) (by decide) (t := .boolean) (t' := .int) (by decide) (by decide)
theorem sn_44 (hw : own_H Z a0) : Jvm.RoadKit.slotOf Z own_k0 "negative" "Z" ≠ Jvm.RoadKit.slotOf Z own_k0 "special" "I" := slot_ne (Or.inl (own_w hw 52 rfl)) (Or.inl (own_w hw 50 rfl)) (by decide) (t := .boolean) (t' := .int) (by decide) (by decide)
theorem sn_45 (hw : own_H Z a0) : Jvm.RoadKit.slotOf Z own_k0 "significand" "J" ≠ Jvm.RoadKit.slotOf Z own_k0 "characters" "[C" := slot_ne (Or.inl (own_w hw 54 rfl)) (Or.inl (own_w hw 46 rfl)) (by decide) (t := .long) (t' := (.array .char)) (by decide) (by decide)
theorem sn_46 (hw : own_H Z a0) : Jvm.RoadKit.slotOf Z own_k0 "significand" "J" ≠ Jvm.RoadKit.slotOf Z own_k0 "start" "I" := slot_ne (Or.inl (own_w hw 54 rfl)) (Or.inl (own_w hw 48 rfl)) (by decide) (t := .long) (t' := .int) (by decide) (by decide)
theorem sn_47 (hw : own_H Z a0) : Jvm.RoadKit.slotOf Z own_k0 "significand" "J" ≠ Jvm.RoadKit.slotOf Z own_k0 "special" "I" := slot_ne (Or.inl (own_w hw 54 rfl)) (Or.inl (own_w hw 50 rfl)) (by decide) (t := .long) (t' := .int) (by decide) (by decide)
theorem sn_48 (hw : own_H Z a0) : Jvm.RoadKit.slotOf Z own_k0 "significand" "J" ≠ Jvm.RoadKit.slotOf Z own_k0 "negative" "Z" := slot_ne (Or.inl (own_w hw 54 rfl)) (Or.inl (own_w hw 52 rfl)) (by decide) (t := .long) (t' := .boolean) (by decide) (by decide)
theorem sn_49 (hw : own_H Z a0) : Jvm.RoadKit.slotOf Z own_k0 "significandHigh" "J" ≠ Jvm.RoadKit.slotOf Z own_k0 "characters" "[C" := slot_ne (Or.inl (own_w hw 56 rfl)) (Or.inl (own_w hw 46 rfl)) (by decide) (t := .long) (t' := (.array .char)) (by decide) (by decide)
theorem sn_50 (hw : own_H Z a0) : Jvm.RoadKit.slotOf Z own_k0 "significandHigh" "J" ≠ Jvm.RoadKit.slotOf Z own_k0 "start" "I" := slot_ne (Or.inl (own_w hw 56 rfl)) (Or.inl (own_w hw 48 rfl)) (by decide) (t := .long) (t' := .int) (by decide) (by decide)
theorem sn_51 (hw : own_H Z a0) : Jvm.RoadKit.slotOf Z own_k0 "significandHigh" "J" ≠ Jvm.RoadKit.slotOf Z own_k0 "special" "I" := slot_ne (Or.inl (own_w hw 56 rfl)) (Or.inl (own_w hw 50 rfl)) (by decide) (t := .long) (t' := .int) (by decide) (by decide)
theorem sn_52 (hw : own_H Z a0) : Jvm.RoadKit.slotOf Z own_k0 "significandHigh" "J" ≠ Jvm.RoadKit.slotOf Z own_k0 "negative" "Z" := slot_ne (Or.inl (own_w hw 56 rfl)) (Or.inl (own_w hw 52 rfl)) (by decide) (t := .long) (t' := .boolean) (by decide) (by decide)
theorem sn_53 (hw : own_H Z a0) : Jvm.RoadKit.slotOf Z own_k0 "significantDigits" "I" ≠ Jvm.RoadKit.slotOf Z own_k0 "characters" "[C" := slot_ne (Or.inl (own_w hw 58 rfl)) (Or.inl (own_w hw 46 rfl)) (by decide) (t := .int) (t' := (.array .char)) (by decide) (by decide)
theorem sn_54 (hw : own_H Z a0) : Jvm.RoadKit.slotOf Z own_k0 "significantDigits" "I" ≠ Jvm.RoadKit.slotOf Z own_k0 "start" "I" := slot_ne (Or.inl (own_w hw 58 rfl)) (Or.inl (own_w hw 48 rfl)) (by decide) (t := .int) (t' := .int) (by decide) (by decide)
theorem sn_55 (hw : own_H Z a0) : Jvm.RoadKit.slotOf Z own_k0 "significantDigits" "I" ≠ Jvm.RoadKit.slotOf Z own_k0 "special" "I" := slot_ne (Or.inl (own_w hw 58 rfl)) (Or.inl (own_w hw 50 rfl)) (by decide) (t := .int) (t' := .int) (by decide) (by decide)
theorem sn_56 (hw : own_H Z a0) : Jvm.RoadKit.slotOf Z own_k0 "significantDigits" "I" ≠ Jvm.RoadKit.slotOf Z own_k0 "negative" "Z" := slot_ne (Or.inl (own_w hw 58 rfl)) (Or.inl (own_w hw 52 rfl)) (by decide) (t := .int) (t' := .boolean) (by decide) (by decide)
theorem sn_57 (hw : own_H Z a0) : Jvm.RoadKit.slotOf Z own_k0 "scale" "I" ≠ Jvm.RoadKit.slotOf Z own_k0 "characters" "[C" := slot_ne (Or.inl (own_w hw 60 rfl)) (Or.inl (own_w hw 46 rfl)) (by decide) (t := .int) (t' := (.array .char)) (by decide) (by decide)
theorem sn_58 (hw : own_H Z a0) : Jvm.RoadKit.slotOf Z own_k0 "scale" "I" ≠ Jvm.RoadKit.slotOf Z own_k0 "start" "I" := slot_ne (Or.inl (own_w hw 60 rfl)) (Or.inl (own_w hw 48 rfl)) (by decide) (t := .int) (t' := .int) (by decide) (by decide)
theorem sn_59 (hw : own_H Z a0) : Jvm.RoadKit.slotOf Z own_k0 "scale" "I" ≠ Jvm.RoadKit.slotOf Z own_k0 "special" "I" := slot_ne (Or.inl (own_w hw 60 rfl)) (Or.inl (own_w hw 50 rfl)) (by decide) (t := .int) (t' := .int) (by decide) (by decide)
theorem sn_60 (hw : own_H Z a0) : Jvm.RoadKit.slotOf Z own_k0 "scale" "I" ≠ Jvm.RoadKit.slotOf Z own_k0 "negative" "Z" := slot_ne (Or.inl (own_w hw 60 rfl)) (Or.inl (own_w hw 52 rfl)) (by decide) (t := .int) (t' := .boolean) (by decide) (by decide)
theorem sn_61 (hw : own_H Z a0) : Jvm.RoadKit.slotOf Z own_k0 "exponentValue" "I" ≠ Jvm.RoadKit.slotOf Z own_k0 "characters" "[C" := slot_ne (Or.inl (own_w hw 62 rfl)) (Or.inl (own_w hw 46 rfl)) (by decide) (t := .int) (t' := (.array .char)) (by decide) (by decide)
theorem sn_62 (hw : own_H Z a0) : Jvm.RoadKit.slotOf Z own_k0 "exponentValue" "I" ≠ Jvm.RoadKit.slotOf Z own_k0 "start" "I" := slot_ne (Or.inl (own_w hw 62 rfl)) (Or.inl (own_w hw 48 rfl)) (by decide) (t := .int) (t' := .int) (by decide) (by decide)
theorem sn_63 (hw : own_H Z a0) : Jvm.RoadKit.slotOf Z own_k0 "exponentValue" "I" ≠ Jvm.RoadKit.slotOf Z own_k0 "special" "I" := slot_ne (Or.inl (own_w hw 62 rfl)) (Or.inl (own_w hw 50 rfl)) (by decide) (t := .int) (t' := .int) (by decide) (by decide)
theorem sn_64 (hw : own_H Z a0) : Jvm.RoadKit.slotOf Z own_k0 "exponentValue" "I" ≠ Jvm.RoadKit.slotOf Z own_k0 "negative" "Z" := slot_ne (Or.inl (own_w hw 62 rfl)) (Or.inl (own_w hw 52 rfl)) (by decide) (t := .int) (t' := .boolean) (by decide) (by decide)
theorem sn_65 (hw : own_H Z a0) : Jvm.RoadKit.slotOf Z own_k0 "exponentValue" "I" ≠ Jvm.RoadKit.slotOf Z own_k0 "scale" "I" := slot_ne (Or.inl (own_w hw 62 rfl)) (Or.inl (own_w hw 60 rfl)) (by decide) (t := .int) (t' := .int) (by decide) (by decide)
theorem sn_66 (hw : own_H Z a0) : Jvm.RoadKit.slotOf Z own_k0 "characters" "[C" ≠ Jvm.RoadKit.slotOf Z own_k0 "start" "I" := slot_ne (Or.inl (own_w hw 46 rfl)) (Or.inl (own_w hw 48 rfl)) (by decide) (t := (.array .char)) (t' := .int) (by decide) (by decide)
theorem sn_67 (hw : own_H Z a0) : Jvm.RoadKit.slotOf Z own_k0 "characters" "[C" ≠ Jvm.RoadKit.slotOf Z own_k0 "special" "I" := slot_ne (Or.inl (own_w hw 46 rfl)) (Or.inl (own_w hw 50 rfl)) (by decide) (t := (.array .char)) (t' := .int) (by decide) (by decide)
theorem sn_68 (hw : own_H Z a0) : Jvm.RoadKit.slotOf Z own_k0 "characters" "[C" ≠ Jvm.RoadKit.slotOf Z own_k0 "negative" "Z" := slot_ne (Or.inl (own_w hw 46 rfl)) (Or.inl (own_w hw 52 rfl)) (by decide) (t := (.array .char)) (t' := .boolean) (by decide) (by decide)
theorem sn_69 (hw : own_H Z a0) : Jvm.RoadKit.slotOf Z own_k0 "characters" "[C" ≠ Jvm.RoadKit.slotOf Z own_k0 "scale" "I" := slot_ne (Or.inl (own_w hw 46 rfl)) (Or.inl (own_w hw 60 rfl)) (by decide) (t := (.array .char)) (t' := .int) (by decide) (by decide)
theorem sn_70 (hw : own_H Z a0) : Jvm.RoadKit.slotOf Z own_k0 "characters" "[C" ≠ Jvm.RoadKit.slotOf Z own_k0 "exponentValue" "I" := slot_ne (Or.inl (own_w hw 46 rfl)) (Or.inl (own_w hw 62 rfl)) (by decide) (t := (.array .char)) (t' := .int) (by decide) (by decide)
theorem sn_71 (hw : own_H Z a0) : Jvm.RoadKit.slotOf Z own_k0 "start" "I" ≠ Jvm.RoadKit.slotOf Z own_k0 "special" "I" := slot_ne (Or.inl (own_w hw 48 rfl)) (Or.inl (own_w hw 50 rfl)) (by decide) (t := .int) (t' := .int) (by decide) (by decide)
theorem sn_72 (hw : own_H Z a0) : Jvm.RoadKit.slotOf Z own_k0 "start" "I" ≠ Jvm.RoadKit.slotOf Z own_k0 "negative" "Z" := slot_ne (Or.inl (own_w hw 48 rfl)) (Or.inl (own_w hw 52 rfl)) (by decide) (t := .int) (t' := .boolean) (by decide) (by decide)
theorem sn_73 (hw : own_H Z a0) : Jvm.RoadKit.slotOf Z own_k0 "start" "I" ≠ Jvm.RoadKit.slotOf Z own_k0 "scale" "I" := slot_ne (Or.inl (own_w hw 48 rfl)) (Or.inl (own_w hw 60 rfl)) (by decide) (t := .int) (t' := .int) (by decide) (by decide)
theorem sn_74 (hw : own_H Z a0) : Jvm.RoadKit.slotOf Z own_k0 "start" "I" ≠ Jvm.RoadKit.slotOf Z own_k0 "exponentValue" "I" := slot_ne (Or.inl (own_w hw 48 rfl)) (Or.inl (own_w hw 62 rfl)) (by decide) (t := .int) (t' := .int) (by decide) (by decide)
theorem sn_75 (hw : own_H Z a0) : Jvm.RoadKit.slotOf Z own_k0 "end" "I" ≠ Jvm.RoadKit.slotOf Z own_k0 "characters" "[C" := slot_ne (Or.inl (own_w hw 98 rfl)) (Or.inl (own_w hw 46 rfl)) (by decide) (t := .int) (t' := (.array .char)) (by decide) (by decide)
theorem sn_76 (hw : own_H Z a0) : Jvm.RoadKit.slotOf Z own_k0 "end" "I" ≠ Jvm.RoadKit.slotOf Z own_k0 "start" "I" := slot_ne (Or.inl (own_w hw 98 rfl)) (Or.inl (own_w hw 48 rfl)) (by decide) (t := .int) (t' := .int) (by decide) (by decide)
theorem sn_77 (hw : own_H Z a0) : Jvm.RoadKit.slotOf Z own_k0 "end" "I" ≠ Jvm.RoadKit.slotOf Z own_k0 "special" "I" := slot_ne (Or.inl (own_w hw 98 rfl)) (Or.inl (own_w hw 50 rfl)) (by decide) (t := .int) (t' := .int) (by decide) (by decide)
theorem sn_78 (hw : own_H Z a0) : Jvm.RoadKit.slotOf Z own_k0 "end" "I" ≠ Jvm.RoadKit.slotOf Z own_k0 "negative" "Z" := slot_ne (Or.inl (own_w hw 98 rfl)) (Or.inl (own_w hw 52 rfl)) (by decide) (t := .int) (t' := .boolean) (by decide) (by decide)
theorem sn_79 (hw : own_H Z a0) : Jvm.RoadKit.slotOf Z own_k0 "end" "I" ≠ Jvm.RoadKit.slotOf Z own_k0 "scale" "I" := slot_ne (Or.inl (own_w hw 98 rfl)) (Or.inl (own_w hw 60 rfl)) (by decide) (t := .int) (t' := .int) (by decide) (by decide)
theorem sn_80 (hw : own_H Z a0) : Jvm.RoadKit.slotOf Z own_k0 "end" "I" ≠ Jvm.RoadKit.slotOf Z own_k0 "exponentValue" "I" := slot_ne (Or.inl (own_w hw 98 rfl)) (Or.inl (own_w hw 62 rfl)) (by decide) (t := .int) (t' := .int) (by decide) (by decide)
theorem sn_81 (hw : own_H Z a0) : Jvm.RoadKit.slotOf Z own_k0 "digits" "I" ≠ Jvm.RoadKit.slotOf Z own_k0 "characters" "[C" := slot_ne (Or.inl (own_w hw 90 rfl)) (Or.inl (own_w hw 46 rfl)) (by decide) (t := .int) (t' := (.array .char)) (by decide) (by decide)
theorem sn_82 (hw : own_H Z a0) : Jvm.RoadKit.slotOf Z own_k0 "digits" "I" ≠ Jvm.RoadKit.slotOf Z own_k0 "start" "I" := slot_ne (Or.inl (own_w hw 90 rfl)) (Or.inl (own_w hw 48 rfl)) (by decide) (t := .int) (t' := .int) (by decide) (by decide)
theorem sn_83 (hw : own_H Z a0) : Jvm.RoadKit.slotOf Z own_k0 "digits" "I" ≠ Jvm.RoadKit.slotOf Z own_k0 "special" "I" := slot_ne (Or.inl (own_w hw 90 rfl)) (Or.inl (own_w hw 50 rfl)) (by decide) (t := .int) (t' := .int) (by decide) (by decide)
theorem sn_84 (hw : own_H Z a0) : Jvm.RoadKit.slotOf Z own_k0 "digits" "I" ≠ Jvm.RoadKit.slotOf Z own_k0 "negative" "Z" := slot_ne (Or.inl (own_w hw 90 rfl)) (Or.inl (own_w hw 52 rfl)) (by decide) (t := .int) (t' := .boolean) (by decide) (by decide)
theorem sn_85 (hw : own_H Z a0) : Jvm.RoadKit.slotOf Z own_k0 "digits" "I" ≠ Jvm.RoadKit.slotOf Z own_k0 "scale" "I" := slot_ne (Or.inl (own_w hw 90 rfl)) (Or.inl (own_w hw 60 rfl)) (by decide) (t := .int) (t' := .int) (by decide) (by decide)
theorem sn_86 (hw : own_H Z a0) : Jvm.RoadKit.slotOf Z own_k0 "digits" "I" ≠ Jvm.RoadKit.slotOf Z own_k0 "exponentValue" "I" := slot_ne (Or.inl (own_w hw 90 rfl)) (Or.inl (own_w hw 62 rfl)) (by decide) (t := .int) (t' := .int) (by decide) (by decide)
theorem sn_87 (hw : own_H Z a0) : Jvm.RoadKit.slotOf Z own_k0 "point" "Z" ≠ Jvm.RoadKit.slotOf Z own_k0 "characters" "[C" := slot_ne (Or.inl (own_w hw 92 rfl)) (Or.inl (own_w hw 46 rfl)) (by decide) (t := .boolean) (t' := (.array .char)) (by decide) (by decide)
theorem sn_88 (hw : own_H Z a0) : Jvm.RoadKit.slotOf Z own_k0 "point" "Z" ≠ Jvm.RoadKit.slotOf Z own_k0 "start" "I" := slot_ne (Or.inl (own_w hw 92 rfl)) (Or.inl (own_w hw 48 rfl)) (by decide) (t := .boolean) (t' := .int) (by decide) (by decide)
theorem sn_89 (hw : own_H Z a0) : Jvm.RoadKit.slotOf Z own_k0 "point" "Z" ≠ Jvm.RoadKit.slotOf Z own_k0 "special" "I" := slot_ne (Or.inl (own_w hw 92 rfl)) (Or.inl (own_w hw 50 rfl)) (by decide) (t := .boolean) (t' := .int) (by decide) (by decide)
theorem sn_90 (hw : own_H Z a0) : Jvm.RoadKit.slotOf Z own_k0 "point" "Z" ≠ Jvm.RoadKit.slotOf Z own_k0 "negative" "Z" := slot_ne (Or.inl (own_w hw 92 rfl)) (Or.inl (own_w hw 52 rfl)) (by decide) (t := .boolean) (t' := .boolean) (by decide) (by decide)
theorem sn_91 (hw : own_H Z a0) : Jvm.RoadKit.slotOf Z own_k0 "point" "Z" ≠ Jvm.RoadKit.slotOf Z own_k0 "scale" "I" := slot_ne (Or.inl (own_w hw 92 rfl)) (Or.inl (own_w hw 60 rfl)) (by decide) (t := .boolean) (t' := .int) (by decide) (by decide)
theorem sn_92 (hw : own_H Z a0) : Jvm.RoadKit.slotOf Z own_k0 "point" "Z" ≠ Jvm.RoadKit.slotOf Z own_k0 "exponentValue" "I" := slot_ne (Or.inl (own_w hw 92 rfl)) (Or.inl (own_w hw 62 rfl)) (by decide) (t := .boolean) (t' := .int) (by decide) (by decide)
theorem sn_93 (hw : own_H Z a0) : Jvm.RoadKit.slotOf Z own_k0 "exponent" "Z" ≠ Jvm.RoadKit.slotOf Z own_k0 "characters" "[C" := slot_ne (Or.inl (own_w hw 94 rfl)) (Or.inl (own_w hw 46 rfl)) (by decide) (t := .boolean) (t' := (.array .char)) (by decide) (by decide)
theorem sn_94 (hw : own_H Z a0) : Jvm.RoadKit.slotOf Z own_k0 "exponent" "Z" ≠ Jvm.RoadKit.slotOf Z own_k0 "start" "I" := slot_ne (Or.inl (own_w hw 94 rfl)) (Or.inl (own_w hw 48 rfl)) (by decide) (t := .boolean) (t' := .int) (by decide) (by decide)
theorem sn_95 (hw : own_H Z a0) : Jvm.RoadKit.slotOf Z own_k0 "exponent" "Z" ≠ Jvm.RoadKit.slotOf Z own_k0 "special" "I" := slot_ne (Or.inl (own_w hw 94 rfl)) (Or.inl (own_w hw 50 rfl)) (by decide) (t := .boolean) (t' := .int) (by decide) (by decide)
theorem sn_96 (hw : own_H Z a0) : Jvm.RoadKit.slotOf Z own_k0 "exponent" "Z" ≠ Jvm.RoadKit.slotOf Z own_k0 "negative" "Z" := slot_ne (Or.inl (own_w hw 94 rfl)) (Or.inl (own_w hw 52 rfl)) (by decide) (t := .boolean) (t' := .boolean) (by decide) (by decide)
theorem sn_97 (hw : own_H Z a0) : Jvm.RoadKit.slotOf Z own_k0 "exponent" "Z" ≠ Jvm.RoadKit.slotOf Z own_k0 "scale" "I" := slot_ne (Or.inl (own_w hw 94 rfl)) (Or.inl (own_w hw 60 rfl)) (by decide) (t := .boolean) (t' := .int) (by decide) (by decide)
theorem sn_98 (hw : own_H Z a0) : Jvm.RoadKit.slotOf Z own_k0 "exponent" "Z" ≠ Jvm.RoadKit.slotOf Z own_k0 "exponentValue" "I" := slot_ne (Or.inl (own_w hw 94 rfl)) (Or.inl (own_w hw 62 rfl)) (by decide) (t := .boolean) (t' := .int) (by decide) (by decide)
theorem sn_99 (hw : own_H Z a0) : Jvm.RoadKit.slotOf Z own_k0 "exponentDigits" "Z" ≠ Jvm.RoadKit.slotOf Z own_k0 "characters" "[C" := slot_ne (Or.inl (own_w hw 96 rfl)) (Or.inl (own_w hw 46 rfl)) (by decide) (t := .boolean) (t' := (.array .char)) (by decide) (by decide)
theorem sn_100 (hw : own_H Z a0) : Jvm.RoadKit.slotOf Z own_k0 "exponentDigits" "Z" ≠ Jvm.RoadKit.slotOf Z own_k0 "start" "I" := slot_ne (Or.inl (own_w hw 96 rfl)) (Or.inl (own_w hw 48 rfl)) (by decide) (t := .boolean) (t' := .int) (by decide) (by decide)
theorem sn_101 (hw : own_H Z a0) : Jvm.RoadKit.slotOf Z own_k0 "exponentDigits" "Z" ≠ Jvm.RoadKit.slotOf Z own_k0 "special" "I" := slot_ne (Or.inl (own_w hw 96 rfl)) (Or.inl (own_w hw 50 rfl)) (by decide) (t := .boolean) (t' := .int) (by decide) (by decide)
theorem sn_102 (hw : own_H Z a0) : Jvm.RoadKit.slotOf Z own_k0 "exponentDigits" "Z" ≠ Jvm.RoadKit.slotOf Z own_k0 "negative" "Z" := slot_ne (Or.inl (own_w hw 96 rfl)) (Or.inl (own_w hw 52 rfl)) (by decide) (t := .boolean) (t' := .boolean) (by decide) (by decide)
theorem sn_103 (hw : own_H Z a0) : Jvm.RoadKit.slotOf Z own_k0 "exponentDigits" "Z" ≠ Jvm.RoadKit.slotOf Z own_k0 "scale" "I" := slot_ne (Or.inl (own_w hw 96 rfl)) (Or.inl (own_w hw 60 rfl)) (by decide) (t := .boolean) (t' := .int) (by decide) (by decide)
theorem sn_104 (hw : own_H Z a0) : Jvm.RoadKit.slotOf Z own_k0 "exponentDigits" "Z" ≠ Jvm.RoadKit.slotOf Z own_k0 "exponentValue" "I" := slot_ne (Or.inl (own_w hw 96 rfl)) (Or.inl (own_w hw 62 rfl)) (by decide) (t := .boolean) (t' := .int) (by decide) (by decide)
theorem sn_105 (hw : own_H Z a0) : Jvm.RoadKit.slotOf Z own_k0 "special" "I" ≠ Jvm.RoadKit.slotOf Z own_k0 "negative" "Z" := slot_ne (Or.inl (own_w hw 50 rfl)) (Or.inl (own_w hw 52 rfl)) (by decide) (t := .int) (t' := .boolean) (by decide) (by decide)
theorem sn_106 (hw : own_H Z a0) : Jvm.RoadKit.slotOf Z own_k0 "special" "I" ≠ Jvm.RoadKit.slotOf Z own_k0 "scale" "I" := slot_ne (Or.inl (own_w hw 50 rfl)) (Or.inl (own_w hw 60 rfl)) (by decide) (t := .int) (t' := .int) (by decide) (by decide)
theorem sn_107 (hw : own_H Z a0) : Jvm.RoadKit.slotOf Z own_k0 "special" "I" ≠ Jvm.RoadKit.slotOf Z own_k0 "exponentValue" "I" := slot_ne (Or.inl (own_w hw 50 rfl)) (Or.inl (own_w hw 62 rfl)) (by decide) (t := .int) (t' := .int) (by decide) (by decide)
theorem sn_108 (hw : own_H Z a0) : Jvm.RoadKit.slotOf Z own_k0 "negative" "Z" ≠ Jvm.RoadKit.slotOf Z own_k0 "scale" "I" := slot_ne (Or.inl (own_w hw 52 rfl)) (Or.inl (own_w hw 60 rfl)) (by decide) (t := .boolean) (t' := .int) (by decide) (by decide)
theorem sn_109 (hw : own_H Z a0) : Jvm.RoadKit.slotOf Z own_k0 "negative" "Z" ≠ Jvm.RoadKit.slotOf Z own_k0 "exponentValue" "I" := slot_ne (Or.inl (own_w hw 52 rfl)) (Or.inl (own_w hw 62 rfl)) (by decide) (t := .boolean) (t' := .int) (by decide) (by decide)
theorem sn_110 (hw : own_H Z a0) : Jvm.RoadKit.slotOf Z own_k0 "significand" "J" ≠ Jvm.RoadKit.slotOf Z own_k0 "scale" "I" := slot_ne (Or.inl (own_w hw 54 rfl)) (Or.inl (own_w hw 60 rfl)) (by decide) (t := .long) (t' := .int) (by decide) (by decide)
theorem sn_111 (hw : own_H Z a0) : Jvm.RoadKit.slotOf Z own_k0 "significand" "J" ≠ Jvm.RoadKit.slotOf Z own_k0 "exponentValue" "I" := slot_ne (Or.inl (own_w hw 54 rfl)) (Or.inl (own_w hw 62 rfl)) (by decide) (t := .long) (t' := .int) (by decide) (by decide)
theorem sn_112 (hw : own_H Z a0) : Jvm.RoadKit.slotOf Z own_k0 "significandHigh" "J" ≠ Jvm.RoadKit.slotOf Z own_k0 "scale" "I" := slot_ne (Or.inl (own_w hw 56 rfl)) (Or.inl (own_w hw 60 rfl)) (by decide) (t := .long) (t' := .int) (by decide) (by decide)
theorem sn_113 (hw : own_H Z a0) : Jvm.RoadKit.slotOf Z own_k0 "significandHigh" "J" ≠ Jvm.RoadKit.slotOf Z own_k0 "exponentValue" "I" := slot_ne (Or.inl (own_w hw 56 rfl)) (Or.inl (own_w hw 62 rfl)) (by decide) (t := .long) (t' := .int) (by decide) (by decide)
theorem sn_114 (hw : own_H Z a0) : Jvm.RoadKit.slotOf Z own_k0 "significantDigits" "I" ≠ Jvm.RoadKit.slotOf Z own_k0 "scale" "I" := slot_ne (Or.inl (own_w hw 58 rfl)) (Or.inl (own_w hw 60 rfl)) (by decide) (t := .int) (t' := .int) (by decide) (by decide)
theorem sn_115 (hw : own_H Z a0) : Jvm.RoadKit.slotOf Z own_k0 "significantDigits" "I" ≠ Jvm.RoadKit.slotOf Z own_k0 "exponentValue" "I" := slot_ne (Or.inl (own_w hw 58 rfl)) (Or.inl (own_w hw 62 rfl)) (by decide) (t := .int) (t' := .int) (by decide) (by decide)
theorem sn_116 (hw : own_H Z a0) : Jvm.RoadKit.slotOf Z own_k0 "scale" "I" ≠ Jvm.RoadKit.slotOf Z own_k0 "exponentValue" "I" := slot_ne (Or.inl (own_w hw 60 rfl)) (Or.inl (own_w hw 62 rfl)) (by decide) (t := .int) (t' := .int) (by decide) (by decide)
theorem sn_117 (hw : own_H Z a0) : Jvm.RoadKit.slotOf Z own_k0 "point" "Z" ≠ Jvm.RoadKit.slotOf Z own_k0 "digits" "I" := slot_ne (Or.inl (own_w hw 92 rfl)) (Or.inl (own_w hw 90 rfl)) (by decide) (t := .boolean) (t' := .int) (by decide) (by decide)
theorem sn_118 (hw : own_H Z a0) : Jvm.RoadKit.slotOf Z own_k0 "characters" "[C" ≠ Jvm.RoadKit.slotOf Z own_k0 "digits" "I" := slot_ne (Or.inl (own_w hw 46 rfl)) (Or.inl (own_w hw 90 rfl)) (by decide) (t := (.array .char)) (t' := .int) (by decide) (by decide)
theorem sn_119 (hw : own_H Z a0) : Jvm.RoadKit.slotOf Z own_k0 "characters" "[C" ≠ Jvm.RoadKit.slotOf Z own_k0 "point" "Z" := slot_ne (Or.inl (own_w hw 46 rfl)) (Or.inl (own_w hw 92 rfl)) (by decide) (t := (.array .char)) (t' := .boolean) (by decide) (by decide)
theorem sn_120 (hw : own_H Z a0) : Jvm.RoadKit.slotOf Z own_k0 "start" "I" ≠ Jvm.RoadKit.slotOf Z own_k0 "digits" "I" := slot_ne (Or.inl (own_w hw 48 rfl)) (Or.inl (own_w hw 90 rfl)) (by decide) (t := .int) (t' := .int) (by decide) (by decide)
theorem sn_121 (hw : own_H Z a0) : Jvm.RoadKit.slotOf Z own_k0 "start" "I" ≠ Jvm.RoadKit.slotOf Z own_k0 "point" "Z" := slot_ne (Or.inl (own_w hw 48 rfl)) (Or.inl (own_w hw 92 rfl)) (by decide) (t := .int) (t' := .boolean) (by decide) (by decide)
theorem sn_122 (hw : own_H Z a0) : Jvm.RoadKit.slotOf Z own_k0 "end" "I" ≠ Jvm.RoadKit.slotOf Z own_k0 "digits" "I" := slot_ne (Or.inl (own_w hw 98 rfl)) (Or.inl (own_w hw 90 rfl)) (by decide) (t := .int) (t' := .int) (by decide) (by decide)
theorem sn_123 (hw : own_H Z a0) : Jvm.RoadKit.slotOf Z own_k0 "end" "I" ≠ Jvm.RoadKit.slotOf Z own_k0 "point" "Z" := slot_ne (Or.inl (own_w hw 98 rfl)) (Or.inl (own_w hw 92 rfl)) (by decide) (t := .int) (t' := .boolean) (by decide) (by decide)
theorem sn_124 (hw : own_H Z a0) : Jvm.RoadKit.slotOf Z own_k0 "digits" "I" ≠ Jvm.RoadKit.slotOf Z own_k0 "point" "Z" := slot_ne (Or.inl (own_w hw 90 rfl)) (Or.inl (own_w hw 92 rfl)) (by decide) (t := .int) (t' := .boolean) (by decide) (by decide)
theorem sn_125 (hw : own_H Z a0) : Jvm.RoadKit.slotOf Z own_k0 "exponent" "Z" ≠ Jvm.RoadKit.slotOf Z own_k0 "digits" "I" := slot_ne (Or.inl (own_w hw 94 rfl)) (Or.inl (own_w hw 90 rfl)) (by decide) (t := .boolean) (t' := .int) (by decide) (by decide)
theorem sn_126 (hw : own_H Z a0) : Jvm.RoadKit.slotOf Z own_k0 "exponent" "Z" ≠ Jvm.RoadKit.slotOf Z own_k0 "point" "Z" := slot_ne (Or.inl (own_w hw 94 rfl)) (Or.inl (own_w hw 92 rfl)) (by decide) (t := .boolean) (t' := .boolean) (by decide) (by decide)
theorem sn_127 (hw : own_H Z a0) : Jvm.RoadKit.slotOf Z own_k0 "exponentDigits" "Z" ≠ Jvm.RoadKit.slotOf Z own_k0 "digits" "I" := slot_ne (Or.inl (own_w hw 96 rfl)) (Or.inl (own_w hw 90 rfl)) (by decide) (t := .boolean) (t' := .int) (by decide) (by decide)
theorem sn_128 (hw : own_H Z a0) : Jvm.RoadKit.slotOf Z own_k0 "exponentDigits" "Z" ≠ Jvm.RoadKit.slotOf Z own_k0 "point" "Z" := slot_ne (Or.inl (own_w hw 96 rfl)) (Or.inl (own_w hw 92 rfl)) (by decide) (t := .boolean) (t' := .boolean) (by decide) (by decide)
theorem sn_129 (hw : own_H Z a0) : Jvm.RoadKit.slotOf Z own_k0 "special" "I" ≠ Jvm.RoadKit.slotOf Z own_k0 "digits" "I" := slot_ne (Or.inl (own_w hw 50 rfl)) (Or.inl (own_w hw 90 rfl)) (by decide) (t := .int) (t' := .int) (by decide) (by decide)
theorem sn_130 (hw : own_H Z a0) : Jvm.RoadKit.slotOf Z own_k0 "special" "I" ≠ Jvm.RoadKit.slotOf Z own_k0 "point" "Z" := slot_ne (Or.inl (own_w hw 50 rfl)) (Or.inl (own_w hw 92 rfl)) (by decide) (t := .int) (t' := .boolean) (by decide) (by decide)
theorem sn_131 (hw : own_H Z a0) : Jvm.RoadKit.slotOf Z own_k0 "negative" "Z" ≠ Jvm.RoadKit.slotOf Z own_k0 "digits" "I" := slot_ne (Or.inl (own_w hw 52 rfl)) (Or.inl (own_w hw 90 rfl)) (by decide) (t := .boolean) (t' := .int) (by decide) (by decide)
theorem sn_132 (hw : own_H Z a0) : Jvm.RoadKit.slotOf Z own_k0 "negative" "Z" ≠ Jvm.RoadKit.slotOf Z own_k0 "point" "Z" := slot_ne (Or.inl (own_w hw 52 rfl)) (Or.inl (own_w hw 92 rfl)) (by decide) (t := .boolean) (t' := .boolean) (by decide) (by decide)
theorem sn_133 (hw : own_H Z a0) : Jvm.RoadKit.slotOf Z own_k0 "significand" "J" ≠ Jvm.RoadKit.slotOf Z own_k0 "digits" "I" := slot_ne (Or.inl (own_w hw 54 rfl)) (Or.inl (own_w hw 90 rfl)) (by decide) (t := .long) (t' := .int) (by decide) (by decide)
theorem sn_134 (hw : own_H Z a0) : Jvm.RoadKit.slotOf Z own_k0 "significand" "J" ≠ Jvm.RoadKit.slotOf Z own_k0 "point" "Z" := slot_ne (Or.inl (own_w hw 54 rfl)) (Or.inl (own_w hw 92 rfl)) (by decide) (t := .long) (t' := .boolean) (by decide) (by decide)
theorem sn_135 (hw : own_H Z a0) : Jvm.RoadKit.slotOf Z own_k0 "significandHigh" "J" ≠ Jvm.RoadKit.slotOf Z own_k0 "digits" "I" := slot_ne (Or.inl (own_w hw 56 rfl)) (Or.inl (own_w hw 90 rfl)) (by decide) (t := .long) (t' := .int) (by decide) (by decide)
theorem sn_136 (hw : own_H Z a0) : Jvm.RoadKit.slotOf Z own_k0 "significandHigh" "J" ≠ Jvm.RoadKit.slotOf Z own_k0 "point" "Z" := slot_ne (Or.inl (own_w hw 56 rfl)) (Or.inl (own_w hw 92 rfl)) (by decide) (t := .long) (t' := .boolean) (by decide) (by decide)
theorem sn_137 (hw : own_H Z a0) : Jvm.RoadKit.slotOf Z own_k0 "significantDigits" "I" ≠ Jvm.RoadKit.slotOf Z own_k0 "digits" "I" := slot_ne (Or.inl (own_w hw 58 rfl)) (Or.inl (own_w hw 90 rfl)) (by decide) (t := .int) (t' := .int) (by decide) (by decide)
theorem sn_138 (hw : own_H Z a0) : Jvm.RoadKit.slotOf Z own_k0 "significantDigits" "I" ≠ Jvm.RoadKit.slotOf Z own_k0 "point" "Z" := slot_ne (Or.inl (own_w hw 58 rfl)) (Or.inl (own_w hw 92 rfl)) (by decide) (t := .int) (t' := .boolean) (by decide) (by decide)
theorem sn_139 (hw : own_H Z a0) : Jvm.RoadKit.slotOf Z own_k0 "scale" "I" ≠ Jvm.RoadKit.slotOf Z own_k0 "digits" "I" := slot_ne (Or.inl (own_w hw 60 rfl)) (Or.inl (own_w hw 90 rfl)) (by decide) (t := .int) (t' := .int) (by decide) (by decide)
theorem sn_140 (hw : own_H Z a0) : Jvm.RoadKit.slotOf Z own_k0 "scale" "I" ≠ Jvm.RoadKit.slotOf Z own_k0 "point" "Z" := slot_ne (Or.inl (own_w hw 60 rfl)) (Or.inl (own_w hw 92 rfl)) (by decide) (t := .int) (t' := .boolean) (by decide) (by decide)
theorem sn_141 (hw : own_H Z a0) : Jvm.RoadKit.slotOf Z own_k0 "exponentValue" "I" ≠ Jvm.RoadKit.slotOf Z own_k0 "digits" "I" := slot_ne (Or.inl (own_w hw 62 rfl)) (Or.inl (own_w hw 90 rfl)) (by decide) (t := .int) (t' := .int) (by decide) (by decide)
theorem sn_142 (hw : own_H Z a0) : Jvm.RoadKit.slotOf Z own_k0 "exponentValue" "I" ≠ Jvm.RoadKit.slotOf Z own_k0 "point" "Z" := slot_ne (Or.inl (own_w hw 62 rfl)) (Or.inl (own_w hw 92 rfl)) (by decide) (t := .int) (t' := .boolean) (by decide) (by decide)
theorem sn_143 (hw : own_H Z a0) : Jvm.RoadKit.slotOf Z own_k0 "exponentDigits" "Z" ≠ Jvm.RoadKit.slotOf Z own_k0 "exponent" "Z" := slot_ne (Or.inl (own_w hw 96 rfl)) (Or.inl (own_w hw 94 rfl)) (by decide) (t := .boolean) (t' := .boolean) (by decide) (by decide)
theorem sn_144 (hw : own_H Z a0) : Jvm.RoadKit.slotOf Z own_k0 "digits" "I" ≠ Jvm.RoadKit.slotOf Z own_k0 "exponent" "Z" := slot_ne (Or.inl (own_w hw 90 rfl)) (Or.inl (own_w hw 94 rfl)) (by decide) (t := .int) (t' := .boolean) (by decide) (by decide)
theorem sn_145 (hw : own_H Z a0) : Jvm.RoadKit.slotOf Z own_k0 "digits" "I" ≠ Jvm.RoadKit.slotOf Z own_k0 "exponentDigits" "Z" := slot_ne (Or.inl (own_w hw 90 rfl)) (Or.inl (own_w hw 96 rfl)) (by decide) (t := .int) (t' := .boolean) (by decide) (by decide)
theorem sn_146 (hw : own_H Z a0) : Jvm.RoadKit.slotOf Z own_k0 "point" "Z" ≠ Jvm.RoadKit.slotOf Z own_k0 "exponent" "Z" := slot_ne (Or.inl (own_w hw 92 rfl)) (Or.inl (own_w hw 94 rfl)) (by decide) (t := .boolean) (t' := .boolean) (by decide) (by decide)
theorem sn_147 (hw : own_H Z a0) : Jvm.RoadKit.slotOf Z own_k0 "point" "Z" ≠ Jvm.RoadKit.slotOf Z own_k0 "exponentDigits" "Z" := slot_ne (Or.inl (own_w hw 92 rfl)) (Or.inl (own_w hw 96 rfl)) (by decide) (t := .boolean) (t' := .boolean) (by decide) (by decide)
theorem sn_148 (hw : own_H Z a0) : Jvm.RoadKit.slotOf Z own_k0 "end" "I" ≠ Jvm.RoadKit.slotOf Z own_k0 "exponent" "Z" := slot_ne (Or.inl (own_w hw 98 rfl)) (Or.inl (own_w hw 94 rfl)) (by decide) (t := .int) (t' := .boolean) (by decide) (by decide)
theorem sn_149 (hw : own_H Z a0) : Jvm.RoadKit.slotOf Z own_k0 "end" "I" ≠ Jvm.RoadKit.slotOf Z own_k0 "exponentDigits" "Z" := slot_ne (Or.inl (own_w hw 98 rfl)) (Or.inl (own_w hw 96 rfl)) (by decide) (t := .int) (t' := .boolean) (by decide) (by decide)
theorem sn_150 (hw : own_H Z a0) : Jvm.RoadKit.slotOf Z own_k0 "characters" "[C" ≠ Jvm.RoadKit.slotOf Z own_k0 "exponent" "Z" := slot_ne (Or.inl (own_w hw 46 rfl)) (Or.inl (own_w hw 94 rfl)) (by decide) (t := (.array .char)) (t' := .boolean) (by decide) (by decide)
theorem sn_151 (hw : own_H Z a0) : Jvm.RoadKit.slotOf Z own_k0 "characters" "[C" ≠ Jvm.RoadKit.slotOf Z own_k0 "exponentDigits" "Z" := slot_ne (Or.inl (own_w hw 46 rfl)) (Or.inl (own_w hw 96 rfl)) (by decide) (t := (.array .char)) (t' := .boolean) (by decide) (by decide)
theorem sn_152 (hw : own_H Z a0) : Jvm.RoadKit.slotOf Z own_k0 "characters" "[C" ≠ Jvm.RoadKit.slotOf Z own_k0 "end" "I" := slot_ne (Or.inl (own_w hw 46 rfl)) (Or.inl (own_w hw 98 rfl)) (by decide) (t := (.array .char)) (t' := .int) (by decide) (by decide)
theorem sn_153 (hw : own_H Z a0) : Jvm.RoadKit.slotOf Z own_k0 "start" "I" ≠ Jvm.RoadKit.slotOf Z own_k0 "exponent" "Z" := slot_ne (Or.inl (own_w hw 48 rfl)) (Or.inl (own_w hw 94 rfl)) (by decide) (t := .int) (t' := .boolean) (by decide) (by decide)
theorem sn_154 (hw : own_H Z a0) : Jvm.RoadKit.slotOf Z own_k0 "start" "I" ≠ Jvm.RoadKit.slotOf Z own_k0 "exponentDigits" "Z" := slot_ne (Or.inl (own_w hw 48 rfl)) (Or.inl (own_w hw 96 rfl)) (by decide) (t := .int) (t' := .boolean) (by decide) (by decide)
theorem sn_155 (hw : own_H Z a0) : Jvm.RoadKit.slotOf Z own_k0 "start" "I" ≠ Jvm.RoadKit.slotOf Z own_k0 "end" "I" := slot_ne (Or.inl (own_w hw 48 rfl)) (Or.inl (own_w hw 98 rfl)) (by decide) (t := .int) (t' := .int) (by decide) (by decide)
theorem sn_156 (hw : own_H Z a0) : Jvm.RoadKit.slotOf Z own_k0 "digits" "I" ≠ Jvm.RoadKit.slotOf Z own_k0 "end" "I" := slot_ne (Or.inl (own_w hw 90 rfl)) (Or.inl (own_w hw 98 rfl)) (by decide) (t := .int) (t' := .int) (by decide) (by decide)
theorem sn_157 (hw : own_H Z a0) : Jvm.RoadKit.slotOf Z own_k0 "point" "Z" ≠ Jvm.RoadKit.slotOf Z own_k0 "end" "I" := slot_ne (Or.inl (own_w hw 92 rfl)) (Or.inl (own_w hw 98 rfl)) (by decide) (t := .boolean) (t' := .int) (by decide) (by decide)
theorem sn_158 (hw : own_H Z a0) : Jvm.RoadKit.slotOf Z own_k0 "exponent" "Z" ≠ Jvm.RoadKit.slotOf Z own_k0 "exponentDigits" "Z" := slot_ne (Or.inl (own_w hw 94 rfl)) (Or.inl (own_w hw 96 rfl)) (by decide) (t := .boolean) (t' := .boolean) (by decide) (by decide)
theorem sn_159 (hw : own_H Z a0) : Jvm.RoadKit.slotOf Z own_k0 "exponent" "Z" ≠ Jvm.RoadKit.slotOf Z own_k0 "end" "I" := slot_ne (Or.inl (own_w hw 94 rfl)) (Or.inl (own_w hw 98 rfl)) (by decide) (t := .boolean) (t' := .int) (by decide) (by decide)
theorem sn_160 (hw : own_H Z a0) : Jvm.RoadKit.slotOf Z own_k0 "exponentDigits" "Z" ≠ Jvm.RoadKit.slotOf Z own_k0 "end" "I" := slot_ne (Or.inl (own_w hw 96 rfl)) (Or.inl (own_w hw 98 rfl)) (by decide) (t := .boolean) (t' := .int) (by decide) (by decide)
theorem sn_161 (hw : own_H Z a0) : Jvm.RoadKit.slotOf Z own_k0 "special" "I" ≠ Jvm.RoadKit.slotOf Z own_k0 "exponent" "Z" := slot_ne (Or.inl (own_w hw 50 rfl)) (Or.inl (own_w hw 94 rfl)) (by decide) (t := .int) (t' := .boolean) (by decide) (by decide)
theorem sn_162 (hw : own_H Z a0) : Jvm.RoadKit.slotOf Z own_k0 "special" "I" ≠ Jvm.RoadKit.slotOf Z own_k0 "exponentDigits" "Z" := slot_ne (Or.inl (own_w hw 50 rfl)) (Or.inl (own_w hw 96 rfl)) (by decide) (t := .int) (t' := .boolean) (by decide) (by decide)
theorem sn_163 (hw : own_H Z a0) : Jvm.RoadKit.slotOf Z own_k0 "special" "I" ≠ Jvm.RoadKit.slotOf Z own_k0 "end" "I" := slot_ne (Or.inl (own_w hw 50 rfl)) (Or.inl (own_w hw 98 rfl)) (by decide) (t := .int) (t' := .int) (by decide) (by decide)
theorem sn_164 (hw : own_H Z a0) : Jvm.RoadKit.slotOf Z own_k0 "negative" "Z" ≠ Jvm.RoadKit.slotOf Z own_k0 "exponent" "Z" := slot_ne (Or.inl (own_w hw 52 rfl)) (Or.inl (own_w hw 94 rfl)) (by decide) (t := .boolean) (t' := .boolean) (by decide) (by decide)
theorem sn_165 (hw : own_H Z a0) : Jvm.RoadKit.slotOf Z own_k0 "negative" "Z" ≠ Jvm.RoadKit.slotOf Z own_k0 "exponentDigits" "Z" := slot_ne (Or.inl (own_w hw 52 rfl)) (Or.inl (own_w hw 96 rfl)) (by decide) (t := .boolean) (t' := .boolean) (by decide) (by decide)
theorem sn_166 (hw : own_H Z a0) : Jvm.RoadKit.slotOf Z own_k0 "negative" "Z" ≠ Jvm.RoadKit.slotOf Z own_k0 "end" "I" := slot_ne (Or.inl (own_w hw 52 rfl)) (Or.inl (own_w hw 98 rfl)) (by decide) (t := .boolean) (t' := .int) (by decide) (by decide)
theorem sn_167 (hw : own_H Z a0) : Jvm.RoadKit.slotOf Z own_k0 "significand" "J" ≠ Jvm.RoadKit.slotOf Z own_k0 "exponent" "Z" := slot_ne (Or.inl (own_w hw 54 rfl)) (Or.inl (own_w hw 94 rfl)) (by decide) (t := .long) (t' := .boolean) (by decide) (by decide)
theorem sn_168 (hw : own_H Z a0) : Jvm.RoadKit.slotOf Z own_k0 "significand" "J" ≠ Jvm.RoadKit.slotOf Z own_k0 "exponentDigits" "Z" := slot_ne (Or.inl (own_w hw 54 rfl)) (Or.inl (own_w hw 96 rfl)) (by decide) (t := .long) (t' := .boolean) (by decide) (by decide)
theorem sn_169 (hw : own_H Z a0) : Jvm.RoadKit.slotOf Z own_k0 "significand" "J" ≠ Jvm.RoadKit.slotOf Z own_k0 "end" "I" := slot_ne (Or.inl (own_w hw 54 rfl)) (Or.inl (own_w hw 98 rfl)) (by decide) (t := .long) (t' := .int) (by decide) (by decide)
theorem sn_170 (hw : own_H Z a0) : Jvm.RoadKit.slotOf Z own_k0 "significandHigh" "J" ≠ Jvm.RoadKit.slotOf Z own_k0 "exponent" "Z" := slot_ne (Or.inl (own_w hw 56 rfl)) (Or.inl (own_w hw 94 rfl)) (by decide) (t := .long) (t' := .boolean) (by decide) (by decide)
theorem sn_171 (hw : own_H Z a0) : Jvm.RoadKit.slotOf Z own_k0 "significandHigh" "J" ≠ Jvm.RoadKit.slotOf Z own_k0 "exponentDigits" "Z" := slot_ne (Or.inl (own_w hw 56 rfl)) (Or.inl (own_w hw 96 rfl)) (by decide) (t := .long) (t' := .boolean) (by decide) (by decide)
theorem sn_172 (hw : own_H Z a0) : Jvm.RoadKit.slotOf Z own_k0 "significandHigh" "J" ≠ Jvm.RoadKit.slotOf Z own_k0 "end" "I" := slot_ne (Or.inl (own_w hw 56 rfl)) (Or.inl (own_w hw 98 rfl)) (by decide) (t := .long) (t' := .int) (by decide) (by decide)
theorem sn_173 (hw : own_H Z a0) : Jvm.RoadKit.slotOf Z own_k0 "significantDigits" "I" ≠ Jvm.RoadKit.slotOf Z own_k0 "exponent" "Z" := slot_ne (Or.inl (own_w hw 58 rfl)) (Or.inl (own_w hw 94 rfl)) (by decide) (t := .int) (t' := .boolean) (by decide) (by decide)
theorem sn_174 (hw : own_H Z a0) : Jvm.RoadKit.slotOf Z own_k0 "significantDigits" "I" ≠ Jvm.RoadKit.slotOf Z own_k0 "exponentDigits" "Z" := slot_ne (Or.inl (own_w hw 58 rfl)) (Or.inl (own_w hw 96 rfl)) (by decide) (t := .int) (t' := .boolean) (by decide) (by decide)
theorem sn_175 (hw : own_H Z a0) : Jvm.RoadKit.slotOf Z own_k0 "significantDigits" "I" ≠ Jvm.RoadKit.slotOf Z own_k0 "end" "I" := slot_ne (Or.inl (own_w hw 58 rfl)) (Or.inl (own_w hw 98 rfl)) (by decide) (t := .int) (t' := .int) (by decide) (by decide)
theorem sn_176 (hw : own_H Z a0) : Jvm.RoadKit.slotOf Z own_k0 "scale" "I" ≠ Jvm.RoadKit.slotOf Z own_k0 "exponent" "Z" := slot_ne (Or.inl (own_w hw 60 rfl)) (Or.inl (own_w hw 94 rfl)) (by decide) (t := .int) (t' := .boolean) (by decide) (by decide)
theorem sn_177 (hw : own_H Z a0) : Jvm.RoadKit.slotOf Z own_k0 "scale" "I" ≠ Jvm.RoadKit.slotOf Z own_k0 "exponentDigits" "Z" := slot_ne (Or.inl (own_w hw 60 rfl)) (Or.inl (own_w hw 96 rfl)) (by decide) (t := .int) (t' := .boolean) (by decide) (by decide)
theorem sn_178 (hw : own_H Z a0) : Jvm.RoadKit.slotOf Z own_k0 "scale" "I" ≠ Jvm.RoadKit.slotOf Z own_k0 "end" "I" := slot_ne (Or.inl (own_w hw 60 rfl)) (Or.inl (own_w hw 98 rfl)) (by decide) (t := .int) (t' := .int) (by decide) (by decide)
theorem sn_179 (hw : own_H Z a0) : Jvm.RoadKit.slotOf Z own_k0 "exponentValue" "I" ≠ Jvm.RoadKit.slotOf Z own_k0 "exponent" "Z" := slot_ne (Or.inl (own_w hw 62 rfl)) (Or.inl (own_w hw 94 rfl)) (by decide) (t := .int) (t' := .boolean) (by decide) (by decide)
theorem sn_180 (hw : own_H Z a0) : Jvm.RoadKit.slotOf Z own_k0 "exponentValue" "I" ≠ Jvm.RoadKit.slotOf Z own_k0 "exponentDigits" "Z" := slot_ne (Or.inl (own_w hw 62 rfl)) (Or.inl (own_w hw 96 rfl)) (by decide) (t := .int) (t' := .boolean) (by decide) (by decide)
theorem sn_181 (hw : own_H Z a0) : Jvm.RoadKit.slotOf Z own_k0 "exponentValue" "I" ≠ Jvm.RoadKit.slotOf Z own_k0 "end" "I" := slot_ne (Or.inl (own_w hw 62 rfl)) (Or.inl (own_w hw 98 rfl)) (by decide) (t := .int) (t' := .int) (by decide) (by decide)
end OwnSn
theorem d7_0 : decode prog_102_method_26_code 0 = .ok (.iload_n 0, 1) := by decide +kernel
theorem d7_1 : decode prog_102_method_26_code 1 = .ok (.bipush 48, 2) := by decide +kernel
theorem d7_3 : decode prog_102_method_26_code 3 = .ok (.if_icmp .lt 13, 3) := by decide +kernel
theorem d7_16 : decode prog_102_method_26_code 16 = .ok (.iconst 0, 1) := by decide +kernel
theorem d7_6 : decode prog_102_method_26_code 6 = .ok (.iload_n 0, 1) := by decide +kernel
theorem d7_7 : decode prog_102_method_26_code 7 = .ok (.bipush 57, 2) := by decide +kernel
theorem d7_9 : decode prog_102_method_26_code 9 = .ok (.if_icmp .gt 7, 3) := by decide +kernel
theorem d7_12 : decode prog_102_method_26_code 12 = .ok (.iconst 1, 1) := by decide +kernel
theorem d7_13 : decode prog_102_method_26_code 13 = .ok (.goto 4, 3) := by decide +kernel
theorem d7_17 : decode prog_102_method_26_code 17 = .ok (.ireturn, 1) := by decide +kernel
theorem pn_com_example_tally_of_atoms_tallyofatoms_Numeral : plainName "com/example/tally_of_atoms/tallyofatoms/Numeral" = true := by first | (simp [plainName, overriddenIn]; done) | decide +kernel
theorem d2_0 : decode method_2_code 0 = .ok (.bipush 48, 2) := by decide +kernel
theorem d2_2 : decode method_2_code 2 = .ok (.lload_n 0, 1) := by decide +kernel
theorem d2_3 : decode method_2_code 3 = .ok (.lload_n 2, 1) := by decide +kernel
theorem d2_4 : decode method_2_code 4 = .ok (.ldiv, 1) := by decide +kernel
theorem d2_5 : decode method_2_code 5 = .ok (.ldc2_w 7, 3) := by decide +kernel
theorem d2_8 : decode method_2_code 8 = .ok (.lrem, 1) := by decide +kernel
theorem d2_9 : decode method_2_code 9 = .ok (.l2i, 1) := by decide +kernel
theorem d2_10 : decode method_2_code 10 = .ok (.iadd, 1) := by decide +kernel
theorem d2_11 : decode method_2_code 11 = .ok (.i2c, 1) := by decide +kernel
theorem d2_12 : decode method_2_code 12 = .ok (.ireturn, 1) := by decide +kernel
theorem pn_com_example_tally_of_atoms_tallyofatoms_NumeralUnscaledHighPinLaw : plainName "com/example/tally_of_atoms/tallyofatoms/NumeralUnscaledHighPinLaw" = true := by first | (simp [plainName, overriddenIn]; done) | decide +kernel
theorem d1_213 : decode method_3_code 213 = .ok (.aload_n 0, 1) := by decide +kernel
theorem d1_214 : decode method_3_code 214 = .ok (.iload_n 1, 1) := by decide +kernel
theorem d1_215 : decode method_3_code 215 = .ok (.bipush 17, 2) := by decide +kernel
theorem d1_217 : decode method_3_code 217 = .ok (.iadd, 1) := by decide +kernel
theorem d1_218 : decode method_3_code 218 = .ok (.lload_n 2, 1) := by decide +kernel
theorem d1_219 : decode method_3_code 219 = .ok (.lconst 1, 1) := by decide +kernel
theorem d1_220 : decode method_3_code 220 = .ok (.invokestatic 11, 3) := by decide +kernel
theorem pd__JJ_C : parseMethodDescriptor "(JJ)C" = some ⟨[.long, .long], some .char⟩ := by decide +kernel
theorem d1_223 : decode method_3_code 223 = .ok (.castore, 1) := by decide +kernel
theorem d1_224 : decode method_3_code 224 = .ok (.return_, 1) := by decide +kernel
theorem d1_200 : decode method_3_code 200 = .ok (.aload_n 0, 1) := by decide +kernel
theorem d1_201 : decode method_3_code 201 = .ok (.iload_n 1, 1) := by decide +kernel
theorem d1_202 : decode method_3_code 202 = .ok (.bipush 16, 2) := by decide +kernel
theorem d1_204 : decode method_3_code 204 = .ok (.iadd, 1) := by decide +kernel
theorem d1_205 : decode method_3_code 205 = .ok (.lload_n 2, 1) := by decide +kernel
theorem d1_206 : decode method_3_code 206 = .ok (.ldc2_w 7, 3) := by decide +kernel
theorem d1_209 : decode method_3_code 209 = .ok (.invokestatic 11, 3) := by decide +kernel
theorem d1_212 : decode method_3_code 212 = .ok (.castore, 1) := by decide +kernel
theorem d1_187 : decode method_3_code 187 = .ok (.aload_n 0, 1) := by decide +kernel
theorem d1_188 : decode method_3_code 188 = .ok (.iload_n 1, 1) := by decide +kernel
theorem d1_189 : decode method_3_code 189 = .ok (.bipush 15, 2) := by decide +kernel
theorem d1_191 : decode method_3_code 191 = .ok (.iadd, 1) := by decide +kernel
theorem d1_192 : decode method_3_code 192 = .ok (.lload_n 2, 1) := by decide +kernel
theorem d1_193 : decode method_3_code 193 = .ok (.ldc2_w 45, 3) := by decide +kernel
theorem d1_196 : decode method_3_code 196 = .ok (.invokestatic 11, 3) := by decide +kernel
theorem d1_199 : decode method_3_code 199 = .ok (.castore, 1) := by decide +kernel
theorem d1_174 : decode method_3_code 174 = .ok (.aload_n 0, 1) := by decide +kernel
theorem d1_175 : decode method_3_code 175 = .ok (.iload_n 1, 1) := by decide +kernel
theorem d1_176 : decode method_3_code 176 = .ok (.bipush 14, 2) := by decide +kernel
theorem d1_178 : decode method_3_code 178 = .ok (.iadd, 1) := by decide +kernel
theorem d1_179 : decode method_3_code 179 = .ok (.lload_n 2, 1) := by decide +kernel
theorem d1_180 : decode method_3_code 180 = .ok (.ldc2_w 43, 3) := by decide +kernel
theorem d1_183 : decode method_3_code 183 = .ok (.invokestatic 11, 3) := by decide +kernel
theorem d1_186 : decode method_3_code 186 = .ok (.castore, 1) := by decide +kernel
theorem d1_161 : decode method_3_code 161 = .ok (.aload_n 0, 1) := by decide +kernel
theorem d1_162 : decode method_3_code 162 = .ok (.iload_n 1, 1) := by decide +kernel
theorem d1_163 : decode method_3_code 163 = .ok (.bipush 13, 2) := by decide +kernel
theorem d1_165 : decode method_3_code 165 = .ok (.iadd, 1) := by decide +kernel
theorem d1_166 : decode method_3_code 166 = .ok (.lload_n 2, 1) := by decide +kernel
theorem d1_167 : decode method_3_code 167 = .ok (.ldc2_w 41, 3) := by decide +kernel
theorem d1_170 : decode method_3_code 170 = .ok (.invokestatic 11, 3) := by decide +kernel
theorem d1_173 : decode method_3_code 173 = .ok (.castore, 1) := by decide +kernel
theorem d1_148 : decode method_3_code 148 = .ok (.aload_n 0, 1) := by decide +kernel
theorem d1_149 : decode method_3_code 149 = .ok (.iload_n 1, 1) := by decide +kernel
theorem d1_150 : decode method_3_code 150 = .ok (.bipush 12, 2) := by decide +kernel
theorem d1_152 : decode method_3_code 152 = .ok (.iadd, 1) := by decide +kernel
theorem d1_153 : decode method_3_code 153 = .ok (.lload_n 2, 1) := by decide +kernel
theorem d1_154 : decode method_3_code 154 = .ok (.ldc2_w 39, 3) := by decide +kernel
theorem d1_157 : decode method_3_code 157 = .ok (.invokestatic 11, 3) := by decide +kernel
theorem d1_160 : decode method_3_code 160 = .ok (.castore, 1) := by decide +kernel
theorem d1_135 : decode method_3_code 135 = .ok (.aload_n 0, 1) := by decide +kernel
theorem d1_136 : decode method_3_code 136 = .ok (.iload_n 1, 1) := by decide +kernel
theorem d1_137 : decode method_3_code 137 = .ok (.bipush 11, 2) := by decide +kernel
theorem d1_139 : decode method_3_code 139 = .ok (.iadd, 1) := by decide +kernel
theorem d1_140 : decode method_3_code 140 = .ok (.lload_n 2, 1) := by decide +kernel
theorem d1_141 : decode method_3_code 141 = .ok (.ldc2_w 37, 3) := by decide +kernel
theorem d1_144 : decode method_3_code 144 = .ok (.invokestatic 11, 3) := by decide +kernel
theorem d1_147 : decode method_3_code 147 = .ok (.castore, 1) := by decide +kernel
theorem d1_122 : decode method_3_code 122 = .ok (.aload_n 0, 1) := by decide +kernel
theorem d1_123 : decode method_3_code 123 = .ok (.iload_n 1, 1) := by decide +kernel
theorem d1_124 : decode method_3_code 124 = .ok (.bipush 10, 2) := by decide +kernel
theorem d1_126 : decode method_3_code 126 = .ok (.iadd, 1) := by decide +kernel
theorem d1_127 : decode method_3_code 127 = .ok (.lload_n 2, 1) := by decide +kernel
theorem d1_128 : decode method_3_code 128 = .ok (.ldc2_w 35, 3) := by decide +kernel
theorem d1_131 : decode method_3_code 131 = .ok (.invokestatic 11, 3) := by decide +kernel
theorem d1_134 : decode method_3_code 134 = .ok (.castore, 1) := by decide +kernel
theorem d1_109 : decode method_3_code 109 = .ok (.aload_n 0, 1) := by decide +kernel
theorem d1_110 : decode method_3_code 110 = .ok (.iload_n 1, 1) := by decide +kernel
theorem d1_111 : decode method_3_code 111 = .ok (.bipush 9, 2) := by decide +kernel
theorem d1_113 : decode method_3_code 113 = .ok (.iadd, 1) := by decide +kernel
theorem d1_114 : decode method_3_code 114 = .ok (.lload_n 2, 1) := by decide +kernel
theorem d1_115 : decode method_3_code 115 = .ok (.ldc2_w 33, 3) := by decide +kernel
theorem d1_118 : decode method_3_code 118 = .ok (.invokestatic 11, 3) := by decide +kernel
theorem d1_121 : decode method_3_code 121 = .ok (.castore, 1) := by decide +kernel
theorem d1_96 : decode method_3_code 96 = .ok (.aload_n 0, 1) := by decide +kernel
theorem d1_97 : decode method_3_code 97 = .ok (.iload_n 1, 1) := by decide +kernel
theorem d1_98 : decode method_3_code 98 = .ok (.bipush 8, 2) := by decide +kernel
theorem d1_100 : decode method_3_code 100 = .ok (.iadd, 1) := by decide +kernel
theorem d1_101 : decode method_3_code 101 = .ok (.lload_n 2, 1) := by decide +kernel
theorem d1_102 : decode method_3_code 102 = .ok (.ldc2_w 31, 3) := by decide +kernel
theorem d1_105 : decode method_3_code 105 = .ok (.invokestatic 11, 3) := by decide +kernel
theorem d1_108 : decode method_3_code 108 = .ok (.castore, 1) := by decide +kernel
theorem d1_83 : decode method_3_code 83 = .ok (.aload_n 0, 1) := by decide +kernel
theorem d1_84 : decode method_3_code 84 = .ok (.iload_n 1, 1) := by decide +kernel
theorem d1_85 : decode method_3_code 85 = .ok (.bipush 7, 2) := by decide +kernel
theorem d1_87 : decode method_3_code 87 = .ok (.iadd, 1) := by decide +kernel
theorem d1_88 : decode method_3_code 88 = .ok (.lload_n 2, 1) := by decide +kernel
theorem d1_89 : decode method_3_code 89 = .ok (.ldc2_w 29, 3) := by decide +kernel
theorem d1_92 : decode method_3_code 92 = .ok (.invokestatic 11, 3) := by decide +kernel
theorem d1_95 : decode method_3_code 95 = .ok (.castore, 1) := by decide +kernel
theorem d1_70 : decode method_3_code 70 = .ok (.aload_n 0, 1) := by decide +kernel
theorem d1_71 : decode method_3_code 71 = .ok (.iload_n 1, 1) := by decide +kernel
theorem d1_72 : decode method_3_code 72 = .ok (.bipush 6, 2) := by decide +kernel
theorem d1_74 : decode method_3_code 74 = .ok (.iadd, 1) := by decide +kernel
theorem d1_75 : decode method_3_code 75 = .ok (.lload_n 2, 1) := by decide +kernel
theorem d1_76 : decode method_3_code 76 = .ok (.ldc2_w 27, 3) := by decide +kernel
theorem d1_79 : decode method_3_code 79 = .ok (.invokestatic 11, 3) := by decide +kernel
theorem d1_82 : decode method_3_code 82 = .ok (.castore, 1) := by decide +kernel
theorem d1_58 : decode method_3_code 58 = .ok (.aload_n 0, 1) := by decide +kernel
theorem d1_59 : decode method_3_code 59 = .ok (.iload_n 1, 1) := by decide +kernel
theorem d1_60 : decode method_3_code 60 = .ok (.iconst 5, 1) := by decide +kernel
theorem d1_61 : decode method_3_code 61 = .ok (.iadd, 1) := by decide +kernel
theorem d1_62 : decode method_3_code 62 = .ok (.lload_n 2, 1) := by decide +kernel
theorem d1_63 : decode method_3_code 63 = .ok (.ldc2_w 25, 3) := by decide +kernel
theorem d1_66 : decode method_3_code 66 = .ok (.invokestatic 11, 3) := by decide +kernel
theorem d1_69 : decode method_3_code 69 = .ok (.castore, 1) := by decide +kernel
theorem d1_46 : decode method_3_code 46 = .ok (.aload_n 0, 1) := by decide +kernel
theorem d1_47 : decode method_3_code 47 = .ok (.iload_n 1, 1) := by decide +kernel
theorem d1_48 : decode method_3_code 48 = .ok (.iconst 4, 1) := by decide +kernel
theorem d1_49 : decode method_3_code 49 = .ok (.iadd, 1) := by decide +kernel
theorem d1_50 : decode method_3_code 50 = .ok (.lload_n 2, 1) := by decide +kernel
theorem d1_51 : decode method_3_code 51 = .ok (.ldc2_w 23, 3) := by decide +kernel
theorem d1_54 : decode method_3_code 54 = .ok (.invokestatic 11, 3) := by decide +kernel
theorem d1_57 : decode method_3_code 57 = .ok (.castore, 1) := by decide +kernel
theorem d1_34 : decode method_3_code 34 = .ok (.aload_n 0, 1) := by decide +kernel
theorem d1_35 : decode method_3_code 35 = .ok (.iload_n 1, 1) := by decide +kernel
theorem d1_36 : decode method_3_code 36 = .ok (.iconst 3, 1) := by decide +kernel
theorem d1_37 : decode method_3_code 37 = .ok (.iadd, 1) := by decide +kernel
theorem d1_38 : decode method_3_code 38 = .ok (.lload_n 2, 1) := by decide +kernel
theorem d1_39 : decode method_3_code 39 = .ok (.ldc2_w 21, 3) := by decide +kernel
theorem d1_42 : decode method_3_code 42 = .ok (.invokestatic 11, 3) := by decide +kernel
theorem d1_45 : decode method_3_code 45 = .ok (.castore, 1) := by decide +kernel
theorem d1_22 : decode method_3_code 22 = .ok (.aload_n 0, 1) := by decide +kernel
theorem d1_23 : decode method_3_code 23 = .ok (.iload_n 1, 1) := by decide +kernel
theorem d1_24 : decode method_3_code 24 = .ok (.iconst 2, 1) := by decide +kernel
theorem d1_25 : decode method_3_code 25 = .ok (.iadd, 1) := by decide +kernel
theorem d1_26 : decode method_3_code 26 = .ok (.lload_n 2, 1) := by decide +kernel
theorem d1_27 : decode method_3_code 27 = .ok (.ldc2_w 19, 3) := by decide +kernel
theorem d1_30 : decode method_3_code 30 = .ok (.invokestatic 11, 3) := by decide +kernel
theorem d1_33 : decode method_3_code 33 = .ok (.castore, 1) := by decide +kernel
theorem d1_10 : decode method_3_code 10 = .ok (.aload_n 0, 1) := by decide +kernel
theorem d1_11 : decode method_3_code 11 = .ok (.iload_n 1, 1) := by decide +kernel
theorem d1_12 : decode method_3_code 12 = .ok (.iconst 1, 1) := by decide +kernel
theorem d1_13 : decode method_3_code 13 = .ok (.iadd, 1) := by decide +kernel
theorem d1_14 : decode method_3_code 14 = .ok (.lload_n 2, 1) := by decide +kernel
theorem d1_15 : decode method_3_code 15 = .ok (.ldc2_w 17, 3) := by decide +kernel
theorem d1_18 : decode method_3_code 18 = .ok (.invokestatic 11, 3) := by decide +kernel
theorem d1_21 : decode method_3_code 21 = .ok (.castore, 1) := by decide +kernel
theorem d1_0 : decode method_3_code 0 = .ok (.aload_n 0, 1) := by decide +kernel
theorem d1_1 : decode method_3_code 1 = .ok (.iload_n 1, 1) := by decide +kernel
theorem d1_2 : decode method_3_code 2 = .ok (.lload_n 2, 1) := by decide +kernel
theorem d1_3 : decode method_3_code 3 = .ok (.ldc2_w 9, 3) := by decide +kernel
theorem d1_6 : decode method_3_code 6 = .ok (.invokestatic 11, 3) := by decide +kernel
theorem d1_9 : decode method_3_code 9 = .ok (.castore, 1) := by decide +kernel
theorem d9_0 : decode jdk_29_method_45_code 0 = .ok (.lload_n 0, 1) := by decide +kernel
theorem d9_1 : decode jdk_29_method_45_code 1 = .ok (.bipush 32, 2) := by decide +kernel
theorem d9_3 : decode jdk_29_method_45_code 3 = .ok (.lshr, 1) := by decide +kernel
theorem d9_4 : decode jdk_29_method_45_code 4 = .ok (.lstore 4, 2) := by decide +kernel
theorem d9_6 : decode jdk_29_method_45_code 6 = .ok (.lload_n 0, 1) := by decide +kernel
theorem d9_7 : decode jdk_29_method_45_code 7 = .ok (.ldc2_w 138, 3) := by decide +kernel
theorem d9_10 : decode jdk_29_method_45_code 10 = .ok (.land, 1) := by decide +kernel
theorem d9_11 : decode jdk_29_method_45_code 11 = .ok (.lstore 6, 2) := by decide +kernel
theorem d9_13 : decode jdk_29_method_45_code 13 = .ok (.lload_n 2, 1) := by decide +kernel
theorem d9_14 : decode jdk_29_method_45_code 14 = .ok (.bipush 32, 2) := by decide +kernel
theorem d9_16 : decode jdk_29_method_45_code 16 = .ok (.lshr, 1) := by decide +kernel
theorem d9_17 : decode jdk_29_method_45_code 17 = .ok (.lstore 8, 2) := by decide +kernel
theorem d9_19 : decode jdk_29_method_45_code 19 = .ok (.lload_n 2, 1) := by decide +kernel
theorem d9_20 : decode jdk_29_method_45_code 20 = .ok (.ldc2_w 138, 3) := by decide +kernel
theorem d9_23 : decode jdk_29_method_45_code 23 = .ok (.land, 1) := by decide +kernel
theorem d9_24 : decode jdk_29_method_45_code 24 = .ok (.lstore 10, 2) := by decide +kernel
theorem d9_26 : decode jdk_29_method_45_code 26 = .ok (.lload 6, 2) := by decide +kernel
theorem d9_28 : decode jdk_29_method_45_code 28 = .ok (.lload 10, 2) := by decide +kernel
theorem d9_30 : decode jdk_29_method_45_code 30 = .ok (.lmul, 1) := by decide +kernel
theorem d9_31 : decode jdk_29_method_45_code 31 = .ok (.lstore 12, 2) := by decide +kernel
theorem d9_33 : decode jdk_29_method_45_code 33 = .ok (.lload 4, 2) := by decide +kernel
theorem d9_35 : decode jdk_29_method_45_code 35 = .ok (.lload 10, 2) := by decide +kernel
theorem d9_37 : decode jdk_29_method_45_code 37 = .ok (.lmul, 1) := by decide +kernel
theorem d9_38 : decode jdk_29_method_45_code 38 = .ok (.lload 12, 2) := by decide +kernel
theorem d9_40 : decode jdk_29_method_45_code 40 = .ok (.bipush 32, 2) := by decide +kernel
theorem d9_42 : decode jdk_29_method_45_code 42 = .ok (.lushr, 1) := by decide +kernel
theorem d9_43 : decode jdk_29_method_45_code 43 = .ok (.ladd, 1) := by decide +kernel
theorem d9_44 : decode jdk_29_method_45_code 44 = .ok (.lstore 14, 2) := by decide +kernel
theorem d9_46 : decode jdk_29_method_45_code 46 = .ok (.lload 14, 2) := by decide +kernel
theorem d9_48 : decode jdk_29_method_45_code 48 = .ok (.ldc2_w 138, 3) := by decide +kernel
theorem d9_51 : decode jdk_29_method_45_code 51 = .ok (.land, 1) := by decide +kernel
theorem d9_52 : decode jdk_29_method_45_code 52 = .ok (.lstore 16, 2) := by decide +kernel
theorem d9_54 : decode jdk_29_method_45_code 54 = .ok (.lload 14, 2) := by decide +kernel
theorem d9_56 : decode jdk_29_method_45_code 56 = .ok (.bipush 32, 2) := by decide +kernel
theorem d9_58 : decode jdk_29_method_45_code 58 = .ok (.lshr, 1) := by decide +kernel
theorem d9_59 : decode jdk_29_method_45_code 59 = .ok (.lstore 18, 2) := by decide +kernel
theorem d9_61 : decode jdk_29_method_45_code 61 = .ok (.lload 16, 2) := by decide +kernel
theorem d9_63 : decode jdk_29_method_45_code 63 = .ok (.lload 6, 2) := by decide +kernel
theorem d9_65 : decode jdk_29_method_45_code 65 = .ok (.lload 8, 2) := by decide +kernel
theorem d9_67 : decode jdk_29_method_45_code 67 = .ok (.lmul, 1) := by decide +kernel
theorem d9_68 : decode jdk_29_method_45_code 68 = .ok (.ladd, 1) := by decide +kernel
theorem d9_69 : decode jdk_29_method_45_code 69 = .ok (.lstore 16, 2) := by decide +kernel
theorem d9_71 : decode jdk_29_method_45_code 71 = .ok (.lload 4, 2) := by decide +kernel
theorem d9_73 : decode jdk_29_method_45_code 73 = .ok (.lload 8, 2) := by decide +kernel
theorem d9_75 : decode jdk_29_method_45_code 75 = .ok (.lmul, 1) := by decide +kernel
theorem d9_76 : decode jdk_29_method_45_code 76 = .ok (.lload 18, 2) := by decide +kernel
theorem d9_78 : decode jdk_29_method_45_code 78 = .ok (.ladd, 1) := by decide +kernel
theorem d9_79 : decode jdk_29_method_45_code 79 = .ok (.lload 16, 2) := by decide +kernel
theorem d9_81 : decode jdk_29_method_45_code 81 = .ok (.bipush 32, 2) := by decide +kernel
theorem d9_83 : decode jdk_29_method_45_code 83 = .ok (.lshr, 1) := by decide +kernel
theorem d9_84 : decode jdk_29_method_45_code 84 = .ok (.ladd, 1) := by decide +kernel
theorem d9_85 : decode jdk_29_method_45_code 85 = .ok (.lreturn, 1) := by decide +kernel
theorem pf_java_lang_MathmultiplyHigh_JJ_J : plainFor (⟨"java/lang/Math", "multiplyHigh", "(JJ)J"⟩ : MethodName) = true := by decide +kernel
theorem d11_0 : decode jdk_35_method_42_code 0 = .ok (.lload_n 0, 1) := by decide +kernel
theorem d11_1 : decode jdk_35_method_42_code 1 = .ok (.lload_n 2, 1) := by decide +kernel
theorem d11_2 : decode jdk_35_method_42_code 2 = .ok (.lcmp, 1) := by decide +kernel
theorem d11_3 : decode jdk_35_method_42_code 3 = .ok (.ifCond .ge 7, 3) := by decide +kernel
theorem d11_6 : decode jdk_35_method_42_code 6 = .ok (.iconst (-1), 1) := by decide +kernel
theorem d11_7 : decode jdk_35_method_42_code 7 = .ok (.goto 14, 3) := by decide +kernel
theorem d11_21 : decode jdk_35_method_42_code 21 = .ok (.ireturn, 1) := by decide +kernel
theorem d11_10 : decode jdk_35_method_42_code 10 = .ok (.lload_n 0, 1) := by decide +kernel
theorem d11_11 : decode jdk_35_method_42_code 11 = .ok (.lload_n 2, 1) := by decide +kernel
theorem d11_12 : decode jdk_35_method_42_code 12 = .ok (.lcmp, 1) := by decide +kernel
theorem d11_13 : decode jdk_35_method_42_code 13 = .ok (.ifCond .ne 7, 3) := by decide +kernel
theorem d11_16 : decode jdk_35_method_42_code 16 = .ok (.iconst 0, 1) := by decide +kernel
theorem d11_17 : decode jdk_35_method_42_code 17 = .ok (.goto 4, 3) := by decide +kernel
theorem d11_20 : decode jdk_35_method_42_code 20 = .ok (.iconst 1, 1) := by decide +kernel
theorem pn_java_lang_Long : plainName "java/lang/Long" = true := by first | (simp [plainName, overriddenIn]; done) | decide +kernel
theorem d10_0 : decode jdk_35_method_43_code 0 = .ok (.lload_n 0, 1) := by decide +kernel
theorem d10_1 : decode jdk_35_method_43_code 1 = .ok (.ldc2_w 168, 3) := by decide +kernel
theorem d10_4 : decode jdk_35_method_43_code 4 = .ok (.ladd, 1) := by decide +kernel
theorem d10_5 : decode jdk_35_method_43_code 5 = .ok (.lload_n 2, 1) := by decide +kernel
theorem d10_6 : decode jdk_35_method_43_code 6 = .ok (.ldc2_w 168, 3) := by decide +kernel
theorem d10_9 : decode jdk_35_method_43_code 9 = .ok (.ladd, 1) := by decide +kernel
theorem d10_10 : decode jdk_35_method_43_code 10 = .ok (.invokestatic 302, 3) := by decide +kernel
theorem pd__JJ_I : parseMethodDescriptor "(JJ)I" = some ⟨[.long, .long], some .int⟩ := by decide +kernel
theorem d10_13 : decode jdk_35_method_43_code 13 = .ok (.ireturn, 1) := by decide +kernel
theorem d8_0 : decode prog_102_method_25_code 0 = .ok (.aload_n 0, 1) := by decide +kernel
theorem d8_1 : decode prog_102_method_25_code 1 = .ok (.getfield 24, 3) := by decide +kernel
theorem d8_4 : decode prog_102_method_25_code 4 = .ok (.ldc2_w 173, 3) := by decide +kernel
theorem d8_7 : decode prog_102_method_25_code 7 = .ok (.invokestatic 181, 3) := by decide +kernel
theorem pd__JJ_J : parseMethodDescriptor "(JJ)J" = some ⟨[.long, .long], some .long⟩ := by decide +kernel
theorem d8_10 : decode prog_102_method_25_code 10 = .ok (.aload_n 0, 1) := by decide +kernel
theorem d8_11 : decode prog_102_method_25_code 11 = .ok (.getfield 24, 3) := by decide +kernel
theorem d8_14 : decode prog_102_method_25_code 14 = .ok (.bipush 63, 2) := by decide +kernel
theorem d8_16 : decode prog_102_method_25_code 16 = .ok (.lshr, 1) := by decide +kernel
theorem d8_17 : decode prog_102_method_25_code 17 = .ok (.ldc2_w 173, 3) := by decide +kernel
theorem d8_20 : decode prog_102_method_25_code 20 = .ok (.land, 1) := by decide +kernel
theorem d8_21 : decode prog_102_method_25_code 21 = .ok (.ladd, 1) := by decide +kernel
theorem d8_22 : decode prog_102_method_25_code 22 = .ok (.lstore_n 2, 1) := by decide +kernel
theorem d8_23 : decode prog_102_method_25_code 23 = .ok (.aload_n 0, 1) := by decide +kernel
theorem d8_24 : decode prog_102_method_25_code 24 = .ok (.getfield 24, 3) := by decide +kernel
theorem d8_27 : decode prog_102_method_25_code 27 = .ok (.ldc2_w 173, 3) := by decide +kernel
theorem d8_30 : decode prog_102_method_25_code 30 = .ok (.lmul, 1) := by decide +kernel
theorem d8_31 : decode prog_102_method_25_code 31 = .ok (.lstore 4, 2) := by decide +kernel
theorem d8_33 : decode prog_102_method_25_code 33 = .ok (.lload 4, 2) := by decide +kernel
theorem d8_35 : decode prog_102_method_25_code 35 = .ok (.iload_n 1, 1) := by decide +kernel
theorem d8_36 : decode prog_102_method_25_code 36 = .ok (.i2l, 1) := by decide +kernel
theorem d8_37 : decode prog_102_method_25_code 37 = .ok (.ladd, 1) := by decide +kernel
theorem d8_38 : decode prog_102_method_25_code 38 = .ok (.lstore 6, 2) := by decide +kernel
theorem d8_40 : decode prog_102_method_25_code 40 = .ok (.aload_n 0, 1) := by decide +kernel
theorem d8_41 : decode prog_102_method_25_code 41 = .ok (.aload_n 0, 1) := by decide +kernel
theorem d8_42 : decode prog_102_method_25_code 42 = .ok (.getfield 28, 3) := by decide +kernel
theorem d8_45 : decode prog_102_method_25_code 45 = .ok (.ldc2_w 173, 3) := by decide +kernel
theorem d8_48 : decode prog_102_method_25_code 48 = .ok (.lmul, 1) := by decide +kernel
theorem d8_49 : decode prog_102_method_25_code 49 = .ok (.lload_n 2, 1) := by decide +kernel
theorem d8_50 : decode prog_102_method_25_code 50 = .ok (.ladd, 1) := by decide +kernel
theorem d8_51 : decode prog_102_method_25_code 51 = .ok (.lload 6, 2) := by decide +kernel
theorem d8_53 : decode prog_102_method_25_code 53 = .ok (.lload 4, 2) := by decide +kernel
theorem d8_55 : decode prog_102_method_25_code 55 = .ok (.invokestatic 185, 3) := by decide +kernel
theorem d8_58 : decode prog_102_method_25_code 58 = .ok (.ifCond .ge 7, 3) := by decide +kernel
theorem d8_61 : decode prog_102_method_25_code 61 = .ok (.iconst 1, 1) := by decide +kernel
theorem d8_62 : decode prog_102_method_25_code 62 = .ok (.goto 4, 3) := by decide +kernel
theorem d8_65 : decode prog_102_method_25_code 65 = .ok (.iconst 0, 1) := by decide +kernel
theorem d8_66 : decode prog_102_method_25_code 66 = .ok (.i2l, 1) := by decide +kernel
theorem d8_67 : decode prog_102_method_25_code 67 = .ok (.ladd, 1) := by decide +kernel
theorem d8_68 : decode prog_102_method_25_code 68 = .ok (.putfield 28, 3) := by decide +kernel
theorem d8_71 : decode prog_102_method_25_code 71 = .ok (.aload_n 0, 1) := by decide +kernel
theorem d8_72 : decode prog_102_method_25_code 72 = .ok (.lload 6, 2) := by decide +kernel
theorem d8_74 : decode prog_102_method_25_code 74 = .ok (.putfield 24, 3) := by decide +kernel
theorem d8_77 : decode prog_102_method_25_code 77 = .ok (.return_, 1) := by decide +kernel
theorem d6_0 : decode prog_102_method_24_code 0 = .ok (.iload_n 2, 1) := by decide +kernel
theorem d6_1 : decode prog_102_method_24_code 1 = .ok (.iload_n 3, 1) := by decide +kernel
theorem d6_2 : decode prog_102_method_24_code 2 = .ok (.if_icmp .ge 99, 3) := by decide +kernel
theorem d6_101 : decode prog_102_method_24_code 101 = .ok (.iload_n 2, 1) := by decide +kernel
theorem d6_102 : decode prog_102_method_24_code 102 = .ok (.ireturn, 1) := by decide +kernel
theorem d6_5 : decode prog_102_method_24_code 5 = .ok (.aload_n 1, 1) := by decide +kernel
theorem d6_6 : decode prog_102_method_24_code 6 = .ok (.iload_n 2, 1) := by decide +kernel
theorem d6_7 : decode prog_102_method_24_code 7 = .ok (.caload, 1) := by decide +kernel
theorem d6_8 : decode prog_102_method_24_code 8 = .ok (.istore 4, 2) := by decide +kernel
theorem os_b_6_8 {y0 : Value} {y1 : Value} {y2 : Value} {y3 : Value} {s4 : Slot} {v : Int32} (h : One s4) : storeLocals #[.val y0, .val y1, .val y2, .val y3, s4] 4 (.int v) = some #[.val y0, .val y1, .val y2, .val y3, .val (.int v)] := by
  rcases h with rfl | ⟨w, rfl, hw⟩
  · rfl
  · cases w <;> first | rfl | (simp [Value.category] at hw)
theorem d6_10 : decode prog_102_method_24_code 10 = .ok (.iload 4, 2) := by decide +kernel
theorem d6_12 : decode prog_102_method_24_code 12 = .ok (.invokestatic 59, 3) := by decide +kernel
theorem pd__C_Z : parseMethodDescriptor "(C)Z" = some ⟨[.char], some .boolean⟩ := by decide +kernel
theorem d6_15 : decode prog_102_method_24_code 15 = .ok (.ifCond .ne 6, 3) := by decide +kernel
theorem d6_18 : decode prog_102_method_24_code 18 = .ok (.goto 83, 3) := by decide +kernel
theorem d6_21 : decode prog_102_method_24_code 21 = .ok (.aload_n 0, 1) := by decide +kernel
theorem d6_22 : decode prog_102_method_24_code 22 = .ok (.getfield 31, 3) := by decide +kernel
theorem d6_25 : decode prog_102_method_24_code 25 = .ok (.ifCond .gt 10, 3) := by decide +kernel
theorem d6_35 : decode prog_102_method_24_code 35 = .ok (.aload_n 0, 1) := by decide +kernel
theorem d6_36 : decode prog_102_method_24_code 36 = .ok (.dup, 1) := by decide +kernel
theorem d6_37 : decode prog_102_method_24_code 37 = .ok (.getfield 31, 3) := by decide +kernel
theorem d6_40 : decode prog_102_method_24_code 40 = .ok (.iconst 1, 1) := by decide +kernel
theorem d6_41 : decode prog_102_method_24_code 41 = .ok (.iadd, 1) := by decide +kernel
theorem d6_42 : decode prog_102_method_24_code 42 = .ok (.putfield 31, 3) := by decide +kernel
theorem d6_45 : decode prog_102_method_24_code 45 = .ok (.aload_n 0, 1) := by decide +kernel
theorem d6_46 : decode prog_102_method_24_code 46 = .ok (.getfield 31, 3) := by decide +kernel
theorem d6_49 : decode prog_102_method_24_code 49 = .ok (.bipush 18, 2) := by decide +kernel
theorem d6_51 : decode prog_102_method_24_code 51 = .ok (.if_icmp .gt 26, 3) := by decide +kernel
theorem d6_77 : decode prog_102_method_24_code 77 = .ok (.aload_n 0, 1) := by decide +kernel
theorem d6_78 : decode prog_102_method_24_code 78 = .ok (.getfield 31, 3) := by decide +kernel
theorem d6_81 : decode prog_102_method_24_code 81 = .ok (.bipush 38, 2) := by decide +kernel
theorem d6_83 : decode prog_102_method_24_code 83 = .ok (.if_icmp .gt 12, 3) := by decide +kernel
theorem d6_86 : decode prog_102_method_24_code 86 = .ok (.aload_n 0, 1) := by decide +kernel
theorem d6_87 : decode prog_102_method_24_code 87 = .ok (.iload 4, 2) := by decide +kernel
theorem d6_89 : decode prog_102_method_24_code 89 = .ok (.bipush 48, 2) := by decide +kernel
theorem d6_91 : decode prog_102_method_24_code 91 = .ok (.isub, 1) := by decide +kernel
theorem d6_92 : decode prog_102_method_24_code 92 = .ok (.invokevirtual 177, 3) := by decide +kernel
theorem pd__I_V : parseMethodDescriptor "(I)V" = some ⟨[.int], none⟩ := by decide +kernel
theorem d6_95 : decode prog_102_method_24_code 95 = .ok (.iinc 2 1, 3) := by decide +kernel
theorem d6_98 : decode prog_102_method_24_code 98 = .ok (.goto (-98), 3) := by decide +kernel
theorem d6_54 : decode prog_102_method_24_code 54 = .ok (.aload_n 0, 1) := by decide +kernel
theorem d6_55 : decode prog_102_method_24_code 55 = .ok (.aload_n 0, 1) := by decide +kernel
theorem d6_56 : decode prog_102_method_24_code 56 = .ok (.getfield 24, 3) := by decide +kernel
theorem d6_59 : decode prog_102_method_24_code 59 = .ok (.ldc2_w 173, 3) := by decide +kernel
theorem d6_62 : decode prog_102_method_24_code 62 = .ok (.lmul, 1) := by decide +kernel
theorem d6_63 : decode prog_102_method_24_code 63 = .ok (.iload 4, 2) := by decide +kernel
theorem d6_65 : decode prog_102_method_24_code 65 = .ok (.i2l, 1) := by decide +kernel
theorem d6_66 : decode prog_102_method_24_code 66 = .ok (.ladd, 1) := by decide +kernel
theorem d6_67 : decode prog_102_method_24_code 67 = .ok (.ldc2_w 175, 3) := by decide +kernel
theorem d6_70 : decode prog_102_method_24_code 70 = .ok (.lsub, 1) := by decide +kernel
theorem d6_71 : decode prog_102_method_24_code 71 = .ok (.putfield 24, 3) := by decide +kernel
theorem d6_74 : decode prog_102_method_24_code 74 = .ok (.goto 21, 3) := by decide +kernel
theorem d6_28 : decode prog_102_method_24_code 28 = .ok (.iload 4, 2) := by decide +kernel
theorem d6_30 : decode prog_102_method_24_code 30 = .ok (.bipush 48, 2) := by decide +kernel
theorem d6_32 : decode prog_102_method_24_code 32 = .ok (.if_icmp .eq 63, 3) := by decide +kernel
theorem d5_0 : decode prog_102_method_2_code 0 = .ok (.aload_n 0, 1) := by decide +kernel
theorem d5_1 : decode prog_102_method_2_code 1 = .ok (.aload_n 1, 1) := by decide +kernel
theorem d5_2 : decode prog_102_method_2_code 2 = .ok (.putfield 7, 3) := by decide +kernel
theorem d5_5 : decode prog_102_method_2_code 5 = .ok (.aload_n 0, 1) := by decide +kernel
theorem d5_6 : decode prog_102_method_2_code 6 = .ok (.iload_n 2, 1) := by decide +kernel
theorem d5_7 : decode prog_102_method_2_code 7 = .ok (.putfield 13, 3) := by decide +kernel
theorem d5_10 : decode prog_102_method_2_code 10 = .ok (.aload_n 0, 1) := by decide +kernel
theorem d5_11 : decode prog_102_method_2_code 11 = .ok (.iconst (-1), 1) := by decide +kernel
theorem d5_12 : decode prog_102_method_2_code 12 = .ok (.putfield 17, 3) := by decide +kernel
theorem d5_15 : decode prog_102_method_2_code 15 = .ok (.aload_n 0, 1) := by decide +kernel
theorem d5_16 : decode prog_102_method_2_code 16 = .ok (.iconst 0, 1) := by decide +kernel
theorem d5_17 : decode prog_102_method_2_code 17 = .ok (.putfield 20, 3) := by decide +kernel
theorem d5_20 : decode prog_102_method_2_code 20 = .ok (.aload_n 0, 1) := by decide +kernel
theorem d5_21 : decode prog_102_method_2_code 21 = .ok (.lconst 0, 1) := by decide +kernel
theorem d5_22 : decode prog_102_method_2_code 22 = .ok (.putfield 24, 3) := by decide +kernel
theorem d5_25 : decode prog_102_method_2_code 25 = .ok (.aload_n 0, 1) := by decide +kernel
theorem d5_26 : decode prog_102_method_2_code 26 = .ok (.lconst 0, 1) := by decide +kernel
theorem d5_27 : decode prog_102_method_2_code 27 = .ok (.putfield 28, 3) := by decide +kernel
theorem d5_30 : decode prog_102_method_2_code 30 = .ok (.aload_n 0, 1) := by decide +kernel
theorem d5_31 : decode prog_102_method_2_code 31 = .ok (.iconst 0, 1) := by decide +kernel
theorem d5_32 : decode prog_102_method_2_code 32 = .ok (.putfield 31, 3) := by decide +kernel
theorem d5_35 : decode prog_102_method_2_code 35 = .ok (.aload_n 0, 1) := by decide +kernel
theorem d5_36 : decode prog_102_method_2_code 36 = .ok (.iconst 0, 1) := by decide +kernel
theorem d5_37 : decode prog_102_method_2_code 37 = .ok (.putfield 34, 3) := by decide +kernel
theorem d5_40 : decode prog_102_method_2_code 40 = .ok (.aload_n 0, 1) := by decide +kernel
theorem d5_41 : decode prog_102_method_2_code 41 = .ok (.iconst 0, 1) := by decide +kernel
theorem d5_42 : decode prog_102_method_2_code 42 = .ok (.putfield 37, 3) := by decide +kernel
theorem d5_45 : decode prog_102_method_2_code 45 = .ok (.aload_n 0, 1) := by decide +kernel
theorem d5_46 : decode prog_102_method_2_code 46 = .ok (.aload_n 1, 1) := by decide +kernel
theorem d5_47 : decode prog_102_method_2_code 47 = .ok (.iload_n 2, 1) := by decide +kernel
theorem d5_48 : decode prog_102_method_2_code 48 = .ok (.iload_n 3, 1) := by decide +kernel
theorem d5_49 : decode prog_102_method_2_code 49 = .ok (.invokevirtual 40, 3) := by decide +kernel
theorem pd___CII_I : parseMethodDescriptor "([CII)I" = some ⟨[(.array .char), .int, .int], some .int⟩ := by decide +kernel
theorem d5_52 : decode prog_102_method_2_code 52 = .ok (.istore 4, 2) := by decide +kernel
theorem d5_54 : decode prog_102_method_2_code 54 = .ok (.aload_n 0, 1) := by decide +kernel
theorem d5_55 : decode prog_102_method_2_code 55 = .ok (.iload 4, 2) := by decide +kernel
theorem d5_57 : decode prog_102_method_2_code 57 = .ok (.iload_n 2, 1) := by decide +kernel
theorem d5_58 : decode prog_102_method_2_code 58 = .ok (.isub, 1) := by decide +kernel
theorem d5_59 : decode prog_102_method_2_code 59 = .ok (.putfield 44, 3) := by decide +kernel
theorem d5_62 : decode prog_102_method_2_code 62 = .ok (.aload_n 0, 1) := by decide +kernel
theorem d5_63 : decode prog_102_method_2_code 63 = .ok (.iload 4, 2) := by decide +kernel
theorem d5_65 : decode prog_102_method_2_code 65 = .ok (.iload_n 3, 1) := by decide +kernel
theorem d5_66 : decode prog_102_method_2_code 66 = .ok (.if_icmp .ge 16, 3) := by decide +kernel
theorem d5_69 : decode prog_102_method_2_code 69 = .ok (.aload_n 1, 1) := by decide +kernel
theorem d5_70 : decode prog_102_method_2_code 70 = .ok (.iload 4, 2) := by decide +kernel
theorem d5_72 : decode prog_102_method_2_code 72 = .ok (.caload, 1) := by decide +kernel
theorem d5_73 : decode prog_102_method_2_code 73 = .ok (.bipush 46, 2) := by decide +kernel
theorem d5_75 : decode prog_102_method_2_code 75 = .ok (.if_icmp .ne 7, 3) := by decide +kernel
theorem d5_78 : decode prog_102_method_2_code 78 = .ok (.iconst 1, 1) := by decide +kernel
theorem d5_79 : decode prog_102_method_2_code 79 = .ok (.goto 4, 3) := by decide +kernel
theorem d5_83 : decode prog_102_method_2_code 83 = .ok (.putfield 47, 3) := by decide +kernel
theorem d5_86 : decode prog_102_method_2_code 86 = .ok (.aload_n 0, 1) := by decide +kernel
theorem d5_87 : decode prog_102_method_2_code 87 = .ok (.getfield 47, 3) := by decide +kernel
theorem d5_90 : decode prog_102_method_2_code 90 = .ok (.ifCond .eq 41, 3) := by decide +kernel
theorem d5_93 : decode prog_102_method_2_code 93 = .ok (.iload 4, 2) := by decide +kernel
theorem d5_95 : decode prog_102_method_2_code 95 = .ok (.iconst 1, 1) := by decide +kernel
theorem d5_96 : decode prog_102_method_2_code 96 = .ok (.iadd, 1) := by decide +kernel
theorem d5_97 : decode prog_102_method_2_code 97 = .ok (.istore 5, 2) := by decide +kernel
theorem d5_99 : decode prog_102_method_2_code 99 = .ok (.aload_n 0, 1) := by decide +kernel
theorem d5_100 : decode prog_102_method_2_code 100 = .ok (.aload_n 1, 1) := by decide +kernel
theorem d5_101 : decode prog_102_method_2_code 101 = .ok (.iload 5, 2) := by decide +kernel
theorem d5_103 : decode prog_102_method_2_code 103 = .ok (.iload_n 3, 1) := by decide +kernel
theorem d5_104 : decode prog_102_method_2_code 104 = .ok (.invokevirtual 40, 3) := by decide +kernel
theorem d5_107 : decode prog_102_method_2_code 107 = .ok (.istore 4, 2) := by decide +kernel
theorem d5_109 : decode prog_102_method_2_code 109 = .ok (.aload_n 0, 1) := by decide +kernel
theorem d5_110 : decode prog_102_method_2_code 110 = .ok (.iload 4, 2) := by decide +kernel
theorem d5_112 : decode prog_102_method_2_code 112 = .ok (.iload 5, 2) := by decide +kernel
theorem d5_114 : decode prog_102_method_2_code 114 = .ok (.isub, 1) := by decide +kernel
theorem d5_115 : decode prog_102_method_2_code 115 = .ok (.putfield 34, 3) := by decide +kernel
theorem d5_118 : decode prog_102_method_2_code 118 = .ok (.aload_n 0, 1) := by decide +kernel
theorem d5_119 : decode prog_102_method_2_code 119 = .ok (.dup, 1) := by decide +kernel
theorem d5_120 : decode prog_102_method_2_code 120 = .ok (.getfield 44, 3) := by decide +kernel
theorem d5_123 : decode prog_102_method_2_code 123 = .ok (.aload_n 0, 1) := by decide +kernel
theorem d5_124 : decode prog_102_method_2_code 124 = .ok (.getfield 34, 3) := by decide +kernel
theorem d5_127 : decode prog_102_method_2_code 127 = .ok (.iadd, 1) := by decide +kernel
theorem d5_128 : decode prog_102_method_2_code 128 = .ok (.putfield 44, 3) := by decide +kernel
theorem d5_131 : decode prog_102_method_2_code 131 = .ok (.aload_n 0, 1) := by decide +kernel
theorem d5_132 : decode prog_102_method_2_code 132 = .ok (.iconst 0, 1) := by decide +kernel
theorem d5_133 : decode prog_102_method_2_code 133 = .ok (.putfield 50, 3) := by decide +kernel
theorem d5_136 : decode prog_102_method_2_code 136 = .ok (.aload_n 0, 1) := by decide +kernel
theorem d5_137 : decode prog_102_method_2_code 137 = .ok (.iconst 0, 1) := by decide +kernel
theorem d5_138 : decode prog_102_method_2_code 138 = .ok (.putfield 53, 3) := by decide +kernel
theorem d5_141 : decode prog_102_method_2_code 141 = .ok (.aload_n 0, 1) := by decide +kernel
theorem d5_142 : decode prog_102_method_2_code 142 = .ok (.getfield 44, 3) := by decide +kernel
theorem d5_145 : decode prog_102_method_2_code 145 = .ok (.ifCond .ne 15, 3) := by decide +kernel
theorem d5_148 : decode prog_102_method_2_code 148 = .ok (.aload_n 0, 1) := by decide +kernel
theorem d5_149 : decode prog_102_method_2_code 149 = .ok (.iconst 0, 1) := by decide +kernel
theorem d5_150 : decode prog_102_method_2_code 150 = .ok (.putfield 47, 3) := by decide +kernel
theorem d5_153 : decode prog_102_method_2_code 153 = .ok (.aload_n 0, 1) := by decide +kernel
theorem d5_154 : decode prog_102_method_2_code 154 = .ok (.iload_n 2, 1) := by decide +kernel
theorem d5_155 : decode prog_102_method_2_code 155 = .ok (.putfield 56, 3) := by decide +kernel
theorem d5_158 : decode prog_102_method_2_code 158 = .ok (.aload_n 0, 1) := by decide +kernel
theorem d5_159 : decode prog_102_method_2_code 159 = .ok (.areturn, 1) := by decide +kernel
theorem d5_160 : decode prog_102_method_2_code 160 = .ok (.iload 4, 2) := by decide +kernel
theorem d5_162 : decode prog_102_method_2_code 162 = .ok (.iload_n 3, 1) := by decide +kernel
theorem d5_163 : decode prog_102_method_2_code 163 = .ok (.if_icmp .ge 10, 3) := by decide +kernel
theorem d5_166 : decode prog_102_method_2_code 166 = .ok (.aload_n 1, 1) := by decide +kernel
theorem d5_167 : decode prog_102_method_2_code 167 = .ok (.iload 4, 2) := by decide +kernel
theorem d5_169 : decode prog_102_method_2_code 169 = .ok (.caload, 1) := by decide +kernel
theorem d5_170 : decode prog_102_method_2_code 170 = .ok (.goto 4, 3) := by decide +kernel
theorem d5_174 : decode prog_102_method_2_code 174 = .ok (.istore 5, 2) := by decide +kernel
theorem d5_176 : decode prog_102_method_2_code 176 = .ok (.aload_n 0, 1) := by decide +kernel
theorem d5_177 : decode prog_102_method_2_code 177 = .ok (.iload 5, 2) := by decide +kernel
theorem d5_179 : decode prog_102_method_2_code 179 = .ok (.bipush 101, 2) := by decide +kernel
theorem d5_181 : decode prog_102_method_2_code 181 = .ok (.if_icmp .eq 10, 3) := by decide +kernel
theorem d5_191 : decode prog_102_method_2_code 191 = .ok (.iconst 1, 1) := by decide +kernel
theorem d5_192 : decode prog_102_method_2_code 192 = .ok (.goto 4, 3) := by decide +kernel
theorem d5_196 : decode prog_102_method_2_code 196 = .ok (.putfield 50, 3) := by decide +kernel
theorem d5_199 : decode prog_102_method_2_code 199 = .ok (.aload_n 0, 1) := by decide +kernel
theorem d5_200 : decode prog_102_method_2_code 200 = .ok (.getfield 50, 3) := by decide +kernel
theorem d5_203 : decode prog_102_method_2_code 203 = .ok (.ifCond .eq 138, 3) := by decide +kernel
theorem d5_184 : decode prog_102_method_2_code 184 = .ok (.iload 5, 2) := by decide +kernel
theorem d5_186 : decode prog_102_method_2_code 186 = .ok (.bipush 69, 2) := by decide +kernel
theorem d5_188 : decode prog_102_method_2_code 188 = .ok (.if_icmp .ne 7, 3) := by decide +kernel
theorem d5_195 : decode prog_102_method_2_code 195 = .ok (.iconst 0, 1) := by decide +kernel
theorem d5_341 : decode prog_102_method_2_code 341 = .ok (.aload_n 0, 1) := by decide +kernel
theorem d5_342 : decode prog_102_method_2_code 342 = .ok (.iload 4, 2) := by decide +kernel
theorem d5_344 : decode prog_102_method_2_code 344 = .ok (.putfield 56, 3) := by decide +kernel
theorem d5_347 : decode prog_102_method_2_code 347 = .ok (.aload_n 0, 1) := by decide +kernel
theorem d5_348 : decode prog_102_method_2_code 348 = .ok (.areturn, 1) := by decide +kernel
theorem d5_173 : decode prog_102_method_2_code 173 = .ok (.iconst 0, 1) := by decide +kernel
theorem d5_82 : decode prog_102_method_2_code 82 = .ok (.iconst 0, 1) := by decide +kernel
theorem d12_0 : decode prog_102_method_13_code 0 = .ok (.aload_n 0, 1) := by decide +kernel
theorem d12_1 : decode prog_102_method_13_code 1 = .ok (.getfield 20, 3) := by decide +kernel
theorem d12_4 : decode prog_102_method_13_code 4 = .ok (.ifCond .eq 30, 3) := by decide +kernel
theorem d12_34 : decode prog_102_method_13_code 34 = .ok (.aload_n 0, 1) := by decide +kernel
theorem d12_35 : decode prog_102_method_13_code 35 = .ok (.getfield 28, 3) := by decide +kernel
theorem d12_38 : decode prog_102_method_13_code 38 = .ok (.lreturn, 1) := by decide +kernel
theorem d12_7 : decode prog_102_method_13_code 7 = .ok (.aload_n 0, 1) := by decide +kernel
theorem d12_8 : decode prog_102_method_13_code 8 = .ok (.getfield 28, 3) := by decide +kernel
theorem d12_11 : decode prog_102_method_13_code 11 = .ok (.ldc2_w 86, 3) := by decide +kernel
theorem d12_14 : decode prog_102_method_13_code 14 = .ok (.lxor, 1) := by decide +kernel
theorem d12_15 : decode prog_102_method_13_code 15 = .ok (.aload_n 0, 1) := by decide +kernel
theorem d12_16 : decode prog_102_method_13_code 16 = .ok (.getfield 24, 3) := by decide +kernel
theorem d12_19 : decode prog_102_method_13_code 19 = .ok (.lconst 0, 1) := by decide +kernel
theorem d12_20 : decode prog_102_method_13_code 20 = .ok (.lcmp, 1) := by decide +kernel
theorem d12_21 : decode prog_102_method_13_code 21 = .ok (.ifCond .ne 7, 3) := by decide +kernel
theorem d12_24 : decode prog_102_method_13_code 24 = .ok (.iconst 1, 1) := by decide +kernel
theorem d12_25 : decode prog_102_method_13_code 25 = .ok (.goto 4, 3) := by decide +kernel
theorem d12_28 : decode prog_102_method_13_code 28 = .ok (.iconst 0, 1) := by decide +kernel
theorem d12_29 : decode prog_102_method_13_code 29 = .ok (.i2l, 1) := by decide +kernel
theorem d12_30 : decode prog_102_method_13_code 30 = .ok (.ladd, 1) := by decide +kernel
theorem d12_31 : decode prog_102_method_13_code 31 = .ok (.goto 7, 3) := by decide +kernel
theorem d13_0 : decode prog_102_method_14_code 0 = .ok (.aload_n 0, 1) := by decide +kernel
theorem d13_1 : decode prog_102_method_14_code 1 = .ok (.getfield 20, 3) := by decide +kernel
theorem d13_4 : decode prog_102_method_14_code 4 = .ok (.ifCond .eq 11, 3) := by decide +kernel
theorem d13_15 : decode prog_102_method_14_code 15 = .ok (.aload_n 0, 1) := by decide +kernel
theorem d13_16 : decode prog_102_method_14_code 16 = .ok (.getfield 24, 3) := by decide +kernel
theorem d13_19 : decode prog_102_method_14_code 19 = .ok (.lreturn, 1) := by decide +kernel
theorem d13_7 : decode prog_102_method_14_code 7 = .ok (.aload_n 0, 1) := by decide +kernel
theorem d13_8 : decode prog_102_method_14_code 8 = .ok (.getfield 24, 3) := by decide +kernel
theorem d13_11 : decode prog_102_method_14_code 11 = .ok (.lneg, 1) := by decide +kernel
theorem d13_12 : decode prog_102_method_14_code 12 = .ok (.goto 7, 3) := by decide +kernel
theorem d14_0 : decode prog_102_method_4_code 0 = .ok (.aload_n 0, 1) := by decide +kernel
theorem d14_1 : decode prog_102_method_4_code 1 = .ok (.iconst 1, 1) := by decide +kernel
theorem d14_2 : decode prog_102_method_4_code 2 = .ok (.putfield 20, 3) := by decide +kernel
theorem d14_5 : decode prog_102_method_4_code 5 = .ok (.return_, 1) := by decide +kernel
theorem d3_0 : decode prog_102_method_1_code 0 = .ok (.aload_n 0, 1) := by decide +kernel
theorem d3_1 : decode prog_102_method_1_code 1 = .ok (.invokespecial 1, 3) := by decide +kernel
theorem d3_4 : decode prog_102_method_1_code 4 = .ok (.return_, 1) := by decide +kernel
theorem pd___CIJ_V : parseMethodDescriptor "([CIJ)V" = some ⟨[(.array .char), .int, .long], none⟩ := by decide +kernel
theorem pd___V : parseMethodDescriptor "()V" = some ⟨[], none⟩ := by decide +kernel
theorem pd___CII_Lcom_example_tally_of_atoms_tallyofatoms_Numeral_ : parseMethodDescriptor "([CII)Lcom/example/tally_of_atoms/tallyofatoms/Numeral;" = some ⟨[(.array .char), .int, .int], some (.object "com/example/tally_of_atoms/tallyofatoms/Numeral")⟩ := by decide +kernel
theorem pd___J : parseMethodDescriptor "()J" = some ⟨[], some .long⟩ := by decide +kernel
theorem ef_rmDI (m : MethodId) (x0 : Int32) : entryFrame m #[(.int x0)] 1 = mkF m 0 #[.val (.int x0)] [] := by first | (simp [entryFrame, mkF, argsToLocals, Value.category]; done) | rfl
set_option maxRecDepth 65536 in
set_option maxHeartbeats 40000000 in
theorem rmDI (l : Launch) (Z : State) (a0 : Array Value) (hw : ∀ d ∈ tables_1, d.before a0 Z = true) (ws : List Jvm.Cond) (c0 : Int32) (h0 : Heap)  :
    own_Ct l Z (⟨"com/example/tally_of_atoms/tallyofatoms/Numeral", "isDigit", "(C)Z"⟩ : MethodName) prog_102_method_26_code 1 (some .boolean) ws ({ frames := 0, cells := 0, slots := 0, locals := 0 } : Room) #[(.int c0)] h0 (fun v h L => v = some (.int (own_dig c0)) ∧ L = [] ∧ h = h0) := by
  refine own_of (plainFor_of_name pn_com_example_tally_of_atoms_tallyofatoms_Numeral) ?_
  intro p e s m below meth c s₁ hx hby hml hown hnm hret hlk hZ X0 e0
  rw [ef_rmDI]
  refine own_by (T' := s₁) (f' := (mkF m 1 #[.val (.int c0)] [(.int c0)])) (fun t k => XS.iloadN X0.here hx rfl (hb hby d7_0) rfl k) ?_
  refine own_by (T' := s₁) (f' := (mkF m 3 #[.val (.int c0)] [(.int (48 : Int32)), (.int c0)])) (fun t k => XS.bipush X0.here hx rfl (hb hby d7_1) k) ?_
  have mg3 : ∀ t, Steps p.tables e below (s₁.setTop (mkF m 17 #[.val (.int c0)] [(.int (if c0 < (48 : Int32) then (0 : Int32) else (if (57 : Int32) < c0 then (0 : Int32) else (1 : Int32))))])) t → Steps p.tables e below (s₁.setTop (mkF m 3 #[.val (.int c0)] [(.int (48 : Int32)), (.int c0)])) t := by
    intro t k0
    by_cases hm1 : c0 < (48 : Int32)
    · skip
      refine XS.icmpYes X0.here hx rfl (pc0 := 3) (pc' := 16) rfl (hb hby d7_3) rfl (tlt hm1).1 (by decide) (by decide) ?_
      show Steps p.tables e below (s₁.setTop (mkF m 16 #[.val (.int c0)] [])) _
      refine XS.iconst X0.here hx rfl (hb hby d7_16) ?_
      show Steps p.tables e below (s₁.setTop (mkF m 17 #[.val (.int c0)] [(.int (0 : Int32))])) _
      try simp only [if_pos hm1] at k0
      exact k0
    · skip
      refine XS.icmpNo X0.here hx rfl (hb hby d7_3) rfl (flt hm1).1 ?_
      show Steps p.tables e below (s₁.setTop (mkF m 6 #[.val (.int c0)] [])) _
      refine XS.iloadN X0.here hx rfl (hb hby d7_6) rfl ?_
      show Steps p.tables e below (s₁.setTop (mkF m 7 #[.val (.int c0)] [(.int c0)])) _
      refine XS.bipush X0.here hx rfl (hb hby d7_7) ?_
      show Steps p.tables e below (s₁.setTop (mkF m 9 #[.val (.int c0)] [(.int (57 : Int32)), (.int c0)])) _
      by_cases hm2 : (57 : Int32) < c0
      · skip
        refine XS.icmpYes X0.here hx rfl (pc0 := 9) (pc' := 16) rfl (hb hby d7_9) rfl (tlt hm2).2.2.1 (by decide) (by decide) ?_
        show Steps p.tables e below (s₁.setTop (mkF m 16 #[.val (.int c0)] [])) _
        refine XS.iconst X0.here hx rfl (hb hby d7_16) ?_
        show Steps p.tables e below (s₁.setTop (mkF m 17 #[.val (.int c0)] [(.int (0 : Int32))])) _
        try simp only [if_neg hm1, if_pos hm2] at k0
        exact k0
      · skip
        refine XS.icmpNo X0.here hx rfl (hb hby d7_9) rfl (flt hm2).2.2.1 ?_
        show Steps p.tables e below (s₁.setTop (mkF m 12 #[.val (.int c0)] [])) _
        refine XS.iconst X0.here hx rfl (hb hby d7_12) ?_
        show Steps p.tables e below (s₁.setTop (mkF m 13 #[.val (.int c0)] [(.int (1 : Int32))])) _
        refine XS.goto X0.here hx rfl (pc0 := 13) (pc' := 17) rfl (hb hby d7_13) (by decide) (by decide) ?_
        show Steps p.tables e below (s₁.setTop (mkF m 17 #[.val (.int c0)] [(.int (1 : Int32))])) _
        try simp only [if_neg hm1, if_neg hm2] at k0
        exact k0
  refine own_by mg3 ?_
  rw [show (if c0 < (48 : Int32) then (0 : Int32) else (if (57 : Int32) < c0 then (0 : Int32) else (1 : Int32))) = own_dig c0 from rfl]
  show own_Go p e below _ s₁ (mkF m 17 #[.val (.int c0)] [(.int (own_dig c0))])
  refine own_retZ X0 hx hret hlk (hb hby d7_17) (own_dig01 c0) (by decide) (by decide) ?_
  try rw [e0]
  exact ⟨rfl, rfl, rfl⟩
theorem ef_rmDG (m : MethodId) (x0 : Int64) (x1 : Int64) : entryFrame m #[(.long x0), (.long x1)] 4 = mkF m 0 #[.val (.long x0), .second, .val (.long x1), .second] [] := by first | (simp [entryFrame, mkF, argsToLocals, Value.category]; done) | rfl
set_option maxRecDepth 65536 in
set_option maxHeartbeats 40000000 in
theorem rmDG (l : Launch) (Z : State) (a0 : Array Value) (hw : ∀ d ∈ tables_1, d.before a0 Z = true) (ws : List Jvm.Cond) (v0 q0 : Int64) (nv Q : Nat) (h0 : Heap) (hv : v0.toInt = (nv : Nat)) (hq : q0.toInt = (Q : Nat)) (hQ : 0 < Q) :
    own_Ct l Z (⟨"com/example/tally_of_atoms/tallyofatoms/NumeralUnscaledHighPinLaw", "digit", "(JJ)C"⟩ : MethodName) method_2_code 4 (some .char) ws ({ frames := 0, cells := 0, slots := 0, locals := 0 } : Room) #[(.long v0), (.long q0)] h0 (fun v h L => ∃ c : Int32, v = some (.int c) ∧ own_isd c nv Q ∧ L = [] ∧ h = h0) := by
  refine own_of (plainFor_of_name pn_com_example_tally_of_atoms_tallyofatoms_NumeralUnscaledHighPinLaw) ?_
  intro p e s m below meth c s₁ hx hby hml hown hnm hret hlk hZ X0 e0
  rw [ef_rmDG]
  refine own_by (T' := s₁) (f' := (mkF m 2 #[.val (.long v0), .second, .val (.long q0), .second] [(.int (48 : Int32))])) (fun t k => XS.bipush X0.here hx rfl (hb hby d2_0) k) ?_
  refine own_by (T' := s₁) (f' := (mkF m 3 #[.val (.long v0), .second, .val (.long q0), .second] [(.long v0), (.int (48 : Int32))])) (fun t k => XS.lloadN X0.here hx rfl (hb hby d2_2) rfl k) ?_
  refine own_by (T' := s₁) (f' := (mkF m 4 #[.val (.long v0), .second, .val (.long q0), .second] [(.long q0), (.long v0), (.int (48 : Int32))])) (fun t k => XS.lloadN X0.here hx rfl (hb hby d2_3) rfl k) ?_
  refine own_by (T' := s₁) (f' := (mkF m 5 #[.val (.long v0), .second, .val (.long q0), .second] [(.long (v0 / q0)), (.int (48 : Int32))])) (fun t k => XS.ldiv X0.here hx rfl (hb hby d2_4) rfl (own_ne0 hq hQ) k) ?_
  obtain ⟨dq, hdq⟩ : ∃ z : Int64, z = (v0 / q0) := ⟨_, rfl⟩
  rw [← hdq]
  show own_Go p e below _ s₁ (mkF m 5 #[.val (.long v0), .second, .val (.long q0), .second] [(.long dq), (.int (48 : Int32))])
  refine own_by (T' := s₁) (f' := (mkF m 8 #[.val (.long v0), .second, .val (.long q0), .second] [(.long (10 : Int64)), (.long dq), (.int (48 : Int32))])) (fun t k => X0.ldc2Long hx hown (mvT hZ (own_w hw 11 rfl)) (g := (mkF m 5 #[.val (.long v0), .second, .val (.long q0), .second] [(.long dq), (.int (48 : Int32))])) rfl (hb hby d2_5) _ k) ?_
  refine own_by (T' := s₁) (f' := (mkF m 9 #[.val (.long v0), .second, .val (.long q0), .second] [(.long (dq - (dq / (10 : Int64)) * (10 : Int64))), (.int (48 : Int32))])) (fun t k => XS.lrem X0.here hx rfl (hb hby d2_8) rfl (by decide) k) ?_
  obtain ⟨dt, hdt⟩ : ∃ z : Int64, z = (dq - (dq / (10 : Int64)) * (10 : Int64)) := ⟨_, rfl⟩
  rw [← hdt]
  show own_Go p e below _ s₁ (mkF m 9 #[.val (.long v0), .second, .val (.long q0), .second] [(.long dt), (.int (48 : Int32))])
  refine own_by (T' := s₁) (f' := (mkF m 10 #[.val (.long v0), .second, .val (.long q0), .second] [(.int (dt.toInt32)), (.int (48 : Int32))])) (fun t k => XS.l2i X0.here hx rfl (hb hby d2_9) rfl k) ?_
  obtain ⟨di, hdi⟩ : ∃ z : Int32, z = (dt.toInt32) := ⟨_, rfl⟩
  rw [← hdi]
  show own_Go p e below _ s₁ (mkF m 10 #[.val (.long v0), .second, .val (.long q0), .second] [(.int di), (.int (48 : Int32))])
  refine own_by (T' := s₁) (f' := (mkF m 11 #[.val (.long v0), .second, .val (.long q0), .second] [(.int ((48 : Int32) + di))])) (fun t k => XS.iadd X0.here hx rfl (hb hby d2_10) rfl k) ?_
  obtain ⟨dw, hdw⟩ : ∃ z : Int32, z = ((48 : Int32) + di) := ⟨_, rfl⟩
  rw [← hdw]
  show own_Go p e below _ s₁ (mkF m 11 #[.val (.long v0), .second, .val (.long q0), .second] [(.int dw)])
  refine own_by (T' := s₁) (f' := (mkF m 12 #[.val (.long v0), .second, .val (.long q0), .second] [(.int (dw.toUInt32.toUInt16.toUInt32.toInt32))])) (fun t k => XS.i2c X0.here hx rfl (hb hby d2_11) rfl k) ?_
  obtain ⟨dc, hdc⟩ : ∃ z : Int32, z = (dw.toUInt32.toUInt16.toUInt32.toInt32) := ⟨_, rfl⟩
  rw [← hdc]
  show own_Go p e below _ s₁ (mkF m 12 #[.val (.long v0), .second, .val (.long q0), .second] [(.int dc)])
  refine own_ret X0 hx hret hlk (hb hby d2_12) (by rw [hdc]; exact own_narC (own_chr _).1 (own_chr _).2) (Or.inl ⟨rfl, Or.inr (Or.inr (Or.inr (Or.inl rfl))), _, rfl⟩) (by decide) (by decide) ?_
  try rw [e0]
  exact ⟨_, rfl, own_dgt hv hq hQ hdq hdt hdi hdw hdc, rfl, rfl⟩
theorem ef_rmFI (m : MethodId) (x0 : Addr) (x1 : Int32) (x2 : Int64) : entryFrame m #[(.ref x0), (.int x1), (.long x2)] 4 = mkF m 0 #[.val (.ref x0), .val (.int x1), .val (.long x2), .second] [] := by first | (simp [entryFrame, mkF, argsToLocals, Value.category]; done) | rfl
set_option maxRecDepth 65536 in
set_option maxHeartbeats 40000000 in
theorem rmFI (l : Launch) (Z : State) (a0 : Array Value) (hw : ∀ d ∈ tables_1, d.before a0 Z = true) (ws : List Jvm.Cond) (ca : Addr) (iv : Int32) (v0 : Int64) (off nv : Nat) (f : Nat → Int32) (h0 : Heap) (n0 : Nat) (Z0 : n0 ≤ h0.size) (gca : n0 ≤ ca) (hoff : iv.toInt = (off : Nat)) (ho : off + 18 ≤ 37) (hv : v0.toInt = (nv : Nat)) (A1 : own_A Z h0 ca .char 37 f) :
    own_Ct l Z (⟨"com/example/tally_of_atoms/tallyofatoms/NumeralUnscaledHighPinLaw", "fill", "([CIJ)V"⟩ : MethodName) method_3_code 4 none ws ({ frames := 1, cells := 0, slots := 0, locals := 40 } : Room) #[(.ref ca), (.int iv), (.long v0)] h0 (fun v h L => v = none ∧ Fr n0 L ∧ Keep h0 h [ca] ∧ ∃ g : Nat → Int32, own_fl f g off nv 18 ∧ own_A Z h ca .char 37 g) := by
  refine own_of (plainFor_of_name pn_com_example_tally_of_atoms_tallyofatoms_NumeralUnscaledHighPinLaw) ?_
  intro p e s m below meth c s₁ hx hby hml hown hnm hret hlk hZ X0 e0
  have seg17 : ∀ (g : Nat → Int32) (TL : State) (hL : Heap) (LL : List Loc), own_fl f g off nv 17 → Stand p l e ({ frames := 1, cells := 0, slots := 0, locals := 40 } : Room) s m #[(.ref ca), (.int iv), (.long v0)] below meth c TL LL 0 0 → TL.heap = hL → own_A Z hL ca .char 37 g → Keep h0 hL [ca] → Fr n0 LL → n0 ≤ hL.size → own_Go p e below (own_Ends s ({ frames := 1, cells := 0, slots := 0, locals := 40 } : Room) (fun v h L => v = none ∧ Fr n0 L ∧ Keep h0 h [ca] ∧ ∃ g : Nat → Int32, own_fl f g off nv 18 ∧ own_A Z h ca .char 37 g)) TL (mkF m 213 #[.val (.ref ca), .val (.int iv), .val (.long v0), .second] []) := by
    intro g TL hL LL G0 XL eL AL KL NL ZL
    refine own_by (T' := TL) (f' := (mkF m 214 #[.val (.ref ca), .val (.int iv), .val (.long v0), .second] [(.ref ca)])) (fun t k => XS.aloadN XL.here hx rfl (hb hby d1_213) rfl rfl k) ?_
    refine own_by (T' := TL) (f' := (mkF m 215 #[.val (.ref ca), .val (.int iv), .val (.long v0), .second] [(.int iv), (.ref ca)])) (fun t k => XS.iloadN XL.here hx rfl (hb hby d1_214) rfl k) ?_
    refine own_by (T' := TL) (f' := (mkF m 217 #[.val (.ref ca), .val (.int iv), .val (.long v0), .second] [(.int (17 : Int32)), (.int iv), (.ref ca)])) (fun t k => XS.bipush XL.here hx rfl (hb hby d1_215) k) ?_
    refine own_by (T' := TL) (f' := (mkF m 218 #[.val (.ref ca), .val (.int iv), .val (.long v0), .second] [(.int (iv + (17 : Int32))), (.ref ca)])) (fun t k => XS.iadd XL.here hx rfl (hb hby d1_217) rfl k) ?_
    refine own_by (T' := TL) (f' := (mkF m 219 #[.val (.ref ca), .val (.int iv), .val (.long v0), .second] [(.long v0), (.int (iv + (17 : Int32))), (.ref ca)])) (fun t k => XS.lloadN XL.here hx rfl (hb hby d1_218) rfl k) ?_
    refine own_by (T' := TL) (f' := (mkF m 220 #[.val (.ref ca), .val (.int iv), .val (.long v0), .second] [(.long (1 : Int64)), (.long v0), (.int (iv + (17 : Int32))), (.ref ca)])) (fun t k => XS.lconst XL.here hx rfl (hb hby d1_219) k) ?_
    refine own_callS XL hx hZ hown eL (hb hby d1_220) [(.long v0), (.long (1 : Int64))] [(.int (iv + (17 : Int32))), (.ref ca)] 2 (rmDG l Z a0 hw [] v0 (1 : Int64) nv 1 hL hv (by decide) (by decide)) (own_w hw 8 rfl) (own_w hw 9 rfl) (own_w hw 5 rfl) (own_w hw 10 rfl) (by decide) pd__JJ_C (by rw [hml]; rfl) rfl rfl (Nat.le_of_eq rfl) (by decide) (by decide) (by decide) (by decide) ?_
    rintro T11 _ L11 X11 ⟨c11, rfl, hc11, rfl, e11⟩
    rw [List.append_nil] at X11
    show own_Go p e below _ T11 (mkF m 223 #[.val (.ref ca), .val (.int iv), .val (.long v0), .second] [(.int c11), (.int (iv + (17 : Int32))), (.ref ca)])
    have hi : (iv + (17 : Int32)).toInt = ((off + 17 : Nat) : Int) := own_add hoff (by decide) (by omega)
    have _ : (17 : Int32).toInt = 17 := by decide
    refine own_stC X11 hx hZ e11 (hb hby d1_223) AL (by omega) (by omega) ?_
    intro T12 h12 X12 e12 W12 A12
    show own_Go p e below _ T12 (mkF m 224 #[.val (.ref ca), .val (.int iv), .val (.long v0), .second] [])
    have sz13 : n0 ≤ h12.size := by rw [W12.size]; exact ZL
    have K14 := KL.wr W12 (Or.inl (List.mem_of_getElem? (i := 0) rfl))
    have N12 := Fr.snoc X12 NL gca
    obtain ⟨g', hg'⟩ : ∃ z : Nat → Int32, z = (fun i => if i = (iv + (17 : Int32)).toInt.toNat then nar .char c11 else g i) := ⟨_, rfl⟩
    have A15 : own_A Z h12 ca .char 37 g' := A12.congr (fun i hi => by rw [hg'])
    have G' : own_fl f g' off nv 18 := own_fl_step (k := 17) G0 (show own_isd c11 nv (10 ^ (17 - 17)) from own_isd_cast hc11 (by decide)) (by omega) hg'
    refine own_retV X12 hx hret hlk (hb hby d1_224) (by decide) (by decide) ?_
    try rw [e12]
    exact ⟨rfl, N12, K14, _, G', A15⟩
  have seg16 : ∀ (g : Nat → Int32) (TL : State) (hL : Heap) (LL : List Loc), own_fl f g off nv 16 → Stand p l e ({ frames := 1, cells := 0, slots := 0, locals := 40 } : Room) s m #[(.ref ca), (.int iv), (.long v0)] below meth c TL LL 0 0 → TL.heap = hL → own_A Z hL ca .char 37 g → Keep h0 hL [ca] → Fr n0 LL → n0 ≤ hL.size → own_Go p e below (own_Ends s ({ frames := 1, cells := 0, slots := 0, locals := 40 } : Room) (fun v h L => v = none ∧ Fr n0 L ∧ Keep h0 h [ca] ∧ ∃ g : Nat → Int32, own_fl f g off nv 18 ∧ own_A Z h ca .char 37 g)) TL (mkF m 200 #[.val (.ref ca), .val (.int iv), .val (.long v0), .second] []) := by
    intro g TL hL LL G0 XL eL AL KL NL ZL
    refine own_by (T' := TL) (f' := (mkF m 201 #[.val (.ref ca), .val (.int iv), .val (.long v0), .second] [(.ref ca)])) (fun t k => XS.aloadN XL.here hx rfl (hb hby d1_200) rfl rfl k) ?_
    refine own_by (T' := TL) (f' := (mkF m 202 #[.val (.ref ca), .val (.int iv), .val (.long v0), .second] [(.int iv), (.ref ca)])) (fun t k => XS.iloadN XL.here hx rfl (hb hby d1_201) rfl k) ?_
    refine own_by (T' := TL) (f' := (mkF m 204 #[.val (.ref ca), .val (.int iv), .val (.long v0), .second] [(.int (16 : Int32)), (.int iv), (.ref ca)])) (fun t k => XS.bipush XL.here hx rfl (hb hby d1_202) k) ?_
    refine own_by (T' := TL) (f' := (mkF m 205 #[.val (.ref ca), .val (.int iv), .val (.long v0), .second] [(.int (iv + (16 : Int32))), (.ref ca)])) (fun t k => XS.iadd XL.here hx rfl (hb hby d1_204) rfl k) ?_
    refine own_by (T' := TL) (f' := (mkF m 206 #[.val (.ref ca), .val (.int iv), .val (.long v0), .second] [(.long v0), (.int (iv + (16 : Int32))), (.ref ca)])) (fun t k => XS.lloadN XL.here hx rfl (hb hby d1_205) rfl k) ?_
    refine own_by (T' := TL) (f' := (mkF m 209 #[.val (.ref ca), .val (.int iv), .val (.long v0), .second] [(.long (10 : Int64)), (.long v0), (.int (iv + (16 : Int32))), (.ref ca)])) (fun t k => XL.ldc2Long hx hown (mvT hZ (own_w hw 11 rfl)) (g := (mkF m 206 #[.val (.ref ca), .val (.int iv), .val (.long v0), .second] [(.long v0), (.int (iv + (16 : Int32))), (.ref ca)])) rfl (hb hby d1_206) _ k) ?_
    refine own_callS XL hx hZ hown eL (hb hby d1_209) [(.long v0), (.long (10 : Int64))] [(.int (iv + (16 : Int32))), (.ref ca)] 2 (rmDG l Z a0 hw [] v0 (10 : Int64) nv 10 hL hv (by decide) (by decide)) (own_w hw 8 rfl) (own_w hw 9 rfl) (own_w hw 5 rfl) (own_w hw 10 rfl) (by decide) pd__JJ_C (by rw [hml]; rfl) rfl rfl (Nat.le_of_eq rfl) (by decide) (by decide) (by decide) (by decide) ?_
    rintro T16 _ L16 X16 ⟨c16, rfl, hc16, rfl, e16⟩
    rw [List.append_nil] at X16
    show own_Go p e below _ T16 (mkF m 212 #[.val (.ref ca), .val (.int iv), .val (.long v0), .second] [(.int c16), (.int (iv + (16 : Int32))), (.ref ca)])
    have hi : (iv + (16 : Int32)).toInt = ((off + 16 : Nat) : Int) := own_add hoff (by decide) (by omega)
    have _ : (16 : Int32).toInt = 16 := by decide
    refine own_stC X16 hx hZ e16 (hb hby d1_212) AL (by omega) (by omega) ?_
    intro T17 h17 X17 e17 W17 A17
    show own_Go p e below _ T17 (mkF m 213 #[.val (.ref ca), .val (.int iv), .val (.long v0), .second] [])
    have sz18 : n0 ≤ h17.size := by rw [W17.size]; exact ZL
    have K19 := KL.wr W17 (Or.inl (List.mem_of_getElem? (i := 0) rfl))
    have N17 := Fr.snoc X17 NL gca
    obtain ⟨g', hg'⟩ : ∃ z : Nat → Int32, z = (fun i => if i = (iv + (16 : Int32)).toInt.toNat then nar .char c16 else g i) := ⟨_, rfl⟩
    have A20 : own_A Z h17 ca .char 37 g' := A17.congr (fun i hi => by rw [hg'])
    have G' : own_fl f g' off nv 17 := own_fl_step (k := 16) G0 (show own_isd c16 nv (10 ^ (17 - 16)) from own_isd_cast hc16 (by decide)) (by omega) hg'
    exact seg17 g' T17 h17 _ G' X17 e17 A20 K19 N17 sz18
  have seg15 : ∀ (g : Nat → Int32) (TL : State) (hL : Heap) (LL : List Loc), own_fl f g off nv 15 → Stand p l e ({ frames := 1, cells := 0, slots := 0, locals := 40 } : Room) s m #[(.ref ca), (.int iv), (.long v0)] below meth c TL LL 0 0 → TL.heap = hL → own_A Z hL ca .char 37 g → Keep h0 hL [ca] → Fr n0 LL → n0 ≤ hL.size → own_Go p e below (own_Ends s ({ frames := 1, cells := 0, slots := 0, locals := 40 } : Room) (fun v h L => v = none ∧ Fr n0 L ∧ Keep h0 h [ca] ∧ ∃ g : Nat → Int32, own_fl f g off nv 18 ∧ own_A Z h ca .char 37 g)) TL (mkF m 187 #[.val (.ref ca), .val (.int iv), .val (.long v0), .second] []) := by
    intro g TL hL LL G0 XL eL AL KL NL ZL
    refine own_by (T' := TL) (f' := (mkF m 188 #[.val (.ref ca), .val (.int iv), .val (.long v0), .second] [(.ref ca)])) (fun t k => XS.aloadN XL.here hx rfl (hb hby d1_187) rfl rfl k) ?_
    refine own_by (T' := TL) (f' := (mkF m 189 #[.val (.ref ca), .val (.int iv), .val (.long v0), .second] [(.int iv), (.ref ca)])) (fun t k => XS.iloadN XL.here hx rfl (hb hby d1_188) rfl k) ?_
    refine own_by (T' := TL) (f' := (mkF m 191 #[.val (.ref ca), .val (.int iv), .val (.long v0), .second] [(.int (15 : Int32)), (.int iv), (.ref ca)])) (fun t k => XS.bipush XL.here hx rfl (hb hby d1_189) k) ?_
    refine own_by (T' := TL) (f' := (mkF m 192 #[.val (.ref ca), .val (.int iv), .val (.long v0), .second] [(.int (iv + (15 : Int32))), (.ref ca)])) (fun t k => XS.iadd XL.here hx rfl (hb hby d1_191) rfl k) ?_
    refine own_by (T' := TL) (f' := (mkF m 193 #[.val (.ref ca), .val (.int iv), .val (.long v0), .second] [(.long v0), (.int (iv + (15 : Int32))), (.ref ca)])) (fun t k => XS.lloadN XL.here hx rfl (hb hby d1_192) rfl k) ?_
    refine own_by (T' := TL) (f' := (mkF m 196 #[.val (.ref ca), .val (.int iv), .val (.long v0), .second] [(.long (100 : Int64)), (.long v0), (.int (iv + (15 : Int32))), (.ref ca)])) (fun t k => XL.ldc2Long hx hown (mvT hZ (own_w hw 26 rfl)) (g := (mkF m 193 #[.val (.ref ca), .val (.int iv), .val (.long v0), .second] [(.long v0), (.int (iv + (15 : Int32))), (.ref ca)])) rfl (hb hby d1_193) _ k) ?_
    refine own_callS XL hx hZ hown eL (hb hby d1_196) [(.long v0), (.long (100 : Int64))] [(.int (iv + (15 : Int32))), (.ref ca)] 2 (rmDG l Z a0 hw [] v0 (100 : Int64) nv 100 hL hv (by decide) (by decide)) (own_w hw 8 rfl) (own_w hw 9 rfl) (own_w hw 5 rfl) (own_w hw 10 rfl) (by decide) pd__JJ_C (by rw [hml]; rfl) rfl rfl (Nat.le_of_eq rfl) (by decide) (by decide) (by decide) (by decide) ?_
    rintro T21 _ L21 X21 ⟨c21, rfl, hc21, rfl, e21⟩
    rw [List.append_nil] at X21
    show own_Go p e below _ T21 (mkF m 199 #[.val (.ref ca), .val (.int iv), .val (.long v0), .second] [(.int c21), (.int (iv + (15 : Int32))), (.ref ca)])
    have hi : (iv + (15 : Int32)).toInt = ((off + 15 : Nat) : Int) := own_add hoff (by decide) (by omega)
    have _ : (15 : Int32).toInt = 15 := by decide
    refine own_stC X21 hx hZ e21 (hb hby d1_199) AL (by omega) (by omega) ?_
    intro T22 h22 X22 e22 W22 A22
    show own_Go p e below _ T22 (mkF m 200 #[.val (.ref ca), .val (.int iv), .val (.long v0), .second] [])
    have sz23 : n0 ≤ h22.size := by rw [W22.size]; exact ZL
    have K24 := KL.wr W22 (Or.inl (List.mem_of_getElem? (i := 0) rfl))
    have N22 := Fr.snoc X22 NL gca
    obtain ⟨g', hg'⟩ : ∃ z : Nat → Int32, z = (fun i => if i = (iv + (15 : Int32)).toInt.toNat then nar .char c21 else g i) := ⟨_, rfl⟩
    have A25 : own_A Z h22 ca .char 37 g' := A22.congr (fun i hi => by rw [hg'])
    have G' : own_fl f g' off nv 16 := own_fl_step (k := 15) G0 (show own_isd c21 nv (10 ^ (17 - 15)) from own_isd_cast hc21 (by decide)) (by omega) hg'
    exact seg16 g' T22 h22 _ G' X22 e22 A25 K24 N22 sz23
  have seg14 : ∀ (g : Nat → Int32) (TL : State) (hL : Heap) (LL : List Loc), own_fl f g off nv 14 → Stand p l e ({ frames := 1, cells := 0, slots := 0, locals := 40 } : Room) s m #[(.ref ca), (.int iv), (.long v0)] below meth c TL LL 0 0 → TL.heap = hL → own_A Z hL ca .char 37 g → Keep h0 hL [ca] → Fr n0 LL → n0 ≤ hL.size → own_Go p e below (own_Ends s ({ frames := 1, cells := 0, slots := 0, locals := 40 } : Room) (fun v h L => v = none ∧ Fr n0 L ∧ Keep h0 h [ca] ∧ ∃ g : Nat → Int32, own_fl f g off nv 18 ∧ own_A Z h ca .char 37 g)) TL (mkF m 174 #[.val (.ref ca), .val (.int iv), .val (.long v0), .second] []) := by
    intro g TL hL LL G0 XL eL AL KL NL ZL
    refine own_by (T' := TL) (f' := (mkF m 175 #[.val (.ref ca), .val (.int iv), .val (.long v0), .second] [(.ref ca)])) (fun t k => XS.aloadN XL.here hx rfl (hb hby d1_174) rfl rfl k) ?_
    refine own_by (T' := TL) (f' := (mkF m 176 #[.val (.ref ca), .val (.int iv), .val (.long v0), .second] [(.int iv), (.ref ca)])) (fun t k => XS.iloadN XL.here hx rfl (hb hby d1_175) rfl k) ?_
    refine own_by (T' := TL) (f' := (mkF m 178 #[.val (.ref ca), .val (.int iv), .val (.long v0), .second] [(.int (14 : Int32)), (.int iv), (.ref ca)])) (fun t k => XS.bipush XL.here hx rfl (hb hby d1_176) k) ?_
    refine own_by (T' := TL) (f' := (mkF m 179 #[.val (.ref ca), .val (.int iv), .val (.long v0), .second] [(.int (iv + (14 : Int32))), (.ref ca)])) (fun t k => XS.iadd XL.here hx rfl (hb hby d1_178) rfl k) ?_
    refine own_by (T' := TL) (f' := (mkF m 180 #[.val (.ref ca), .val (.int iv), .val (.long v0), .second] [(.long v0), (.int (iv + (14 : Int32))), (.ref ca)])) (fun t k => XS.lloadN XL.here hx rfl (hb hby d1_179) rfl k) ?_
    refine own_by (T' := TL) (f' := (mkF m 183 #[.val (.ref ca), .val (.int iv), .val (.long v0), .second] [(.long (1000 : Int64)), (.long v0), (.int (iv + (14 : Int32))), (.ref ca)])) (fun t k => XL.ldc2Long hx hown (mvT hZ (own_w hw 25 rfl)) (g := (mkF m 180 #[.val (.ref ca), .val (.int iv), .val (.long v0), .second] [(.long v0), (.int (iv + (14 : Int32))), (.ref ca)])) rfl (hb hby d1_180) _ k) ?_
    refine own_callS XL hx hZ hown eL (hb hby d1_183) [(.long v0), (.long (1000 : Int64))] [(.int (iv + (14 : Int32))), (.ref ca)] 2 (rmDG l Z a0 hw [] v0 (1000 : Int64) nv 1000 hL hv (by decide) (by decide)) (own_w hw 8 rfl) (own_w hw 9 rfl) (own_w hw 5 rfl) (own_w hw 10 rfl) (by decide) pd__JJ_C (by rw [hml]; rfl) rfl rfl (Nat.le_of_eq rfl) (by decide) (by decide) (by decide) (by decide) ?_
    rintro T26 _ L26 X26 ⟨c26, rfl, hc26, rfl, e26⟩
    rw [List.append_nil] at X26
    show own_Go p e below _ T26 (mkF m 186 #[.val (.ref ca), .val (.int iv), .val (.long v0), .second] [(.int c26), (.int (iv + (14 : Int32))), (.ref ca)])
    have hi : (iv + (14 : Int32)).toInt = ((off + 14 : Nat) : Int) := own_add hoff (by decide) (by omega)
    have _ : (14 : Int32).toInt = 14 := by decide
    refine own_stC X26 hx hZ e26 (hb hby d1_186) AL (by omega) (by omega) ?_
    intro T27 h27 X27 e27 W27 A27
    show own_Go p e below _ T27 (mkF m 187 #[.val (.ref ca), .val (.int iv), .val (.long v0), .second] [])
    have sz28 : n0 ≤ h27.size := by rw [W27.size]; exact ZL
    have K29 := KL.wr W27 (Or.inl (List.mem_of_getElem? (i := 0) rfl))
    have N27 := Fr.snoc X27 NL gca
    obtain ⟨g', hg'⟩ : ∃ z : Nat → Int32, z = (fun i => if i = (iv + (14 : Int32)).toInt.toNat then nar .char c26 else g i) := ⟨_, rfl⟩
    have A30 : own_A Z h27 ca .char 37 g' := A27.congr (fun i hi => by rw [hg'])
    have G' : own_fl f g' off nv 15 := own_fl_step (k := 14) G0 (show own_isd c26 nv (10 ^ (17 - 14)) from own_isd_cast hc26 (by decide)) (by omega) hg'
    exact seg15 g' T27 h27 _ G' X27 e27 A30 K29 N27 sz28
  have seg13 : ∀ (g : Nat → Int32) (TL : State) (hL : Heap) (LL : List Loc), own_fl f g off nv 13 → Stand p l e ({ frames := 1, cells := 0, slots := 0, locals := 40 } : Room) s m #[(.ref ca), (.int iv), (.long v0)] below meth c TL LL 0 0 → TL.heap = hL → own_A Z hL ca .char 37 g → Keep h0 hL [ca] → Fr n0 LL → n0 ≤ hL.size → own_Go p e below (own_Ends s ({ frames := 1, cells := 0, slots := 0, locals := 40 } : Room) (fun v h L => v = none ∧ Fr n0 L ∧ Keep h0 h [ca] ∧ ∃ g : Nat → Int32, own_fl f g off nv 18 ∧ own_A Z h ca .char 37 g)) TL (mkF m 161 #[.val (.ref ca), .val (.int iv), .val (.long v0), .second] []) := by
    intro g TL hL LL G0 XL eL AL KL NL ZL
    refine own_by (T' := TL) (f' := (mkF m 162 #[.val (.ref ca), .val (.int iv), .val (.long v0), .second] [(.ref ca)])) (fun t k => XS.aloadN XL.here hx rfl (hb hby d1_161) rfl rfl k) ?_
    refine own_by (T' := TL) (f' := (mkF m 163 #[.val (.ref ca), .val (.int iv), .val (.long v0), .second] [(.int iv), (.ref ca)])) (fun t k => XS.iloadN XL.here hx rfl (hb hby d1_162) rfl k) ?_
    refine own_by (T' := TL) (f' := (mkF m 165 #[.val (.ref ca), .val (.int iv), .val (.long v0), .second] [(.int (13 : Int32)), (.int iv), (.ref ca)])) (fun t k => XS.bipush XL.here hx rfl (hb hby d1_163) k) ?_
    refine own_by (T' := TL) (f' := (mkF m 166 #[.val (.ref ca), .val (.int iv), .val (.long v0), .second] [(.int (iv + (13 : Int32))), (.ref ca)])) (fun t k => XS.iadd XL.here hx rfl (hb hby d1_165) rfl k) ?_
    refine own_by (T' := TL) (f' := (mkF m 167 #[.val (.ref ca), .val (.int iv), .val (.long v0), .second] [(.long v0), (.int (iv + (13 : Int32))), (.ref ca)])) (fun t k => XS.lloadN XL.here hx rfl (hb hby d1_166) rfl k) ?_
    refine own_by (T' := TL) (f' := (mkF m 170 #[.val (.ref ca), .val (.int iv), .val (.long v0), .second] [(.long (10000 : Int64)), (.long v0), (.int (iv + (13 : Int32))), (.ref ca)])) (fun t k => XL.ldc2Long hx hown (mvT hZ (own_w hw 24 rfl)) (g := (mkF m 167 #[.val (.ref ca), .val (.int iv), .val (.long v0), .second] [(.long v0), (.int (iv + (13 : Int32))), (.ref ca)])) rfl (hb hby d1_167) _ k) ?_
    refine own_callS XL hx hZ hown eL (hb hby d1_170) [(.long v0), (.long (10000 : Int64))] [(.int (iv + (13 : Int32))), (.ref ca)] 2 (rmDG l Z a0 hw [] v0 (10000 : Int64) nv 10000 hL hv (by decide) (by decide)) (own_w hw 8 rfl) (own_w hw 9 rfl) (own_w hw 5 rfl) (own_w hw 10 rfl) (by decide) pd__JJ_C (by rw [hml]; rfl) rfl rfl (Nat.le_of_eq rfl) (by decide) (by decide) (by decide) (by decide) ?_
    rintro T31 _ L31 X31 ⟨c31, rfl, hc31, rfl, e31⟩
    rw [List.append_nil] at X31
    show own_Go p e below _ T31 (mkF m 173 #[.val (.ref ca), .val (.int iv), .val (.long v0), .second] [(.int c31), (.int (iv + (13 : Int32))), (.ref ca)])
    have hi : (iv + (13 : Int32)).toInt = ((off + 13 : Nat) : Int) := own_add hoff (by decide) (by omega)
    have _ : (13 : Int32).toInt = 13 := by decide
    refine own_stC X31 hx hZ e31 (hb hby d1_173) AL (by omega) (by omega) ?_
    intro T32 h32 X32 e32 W32 A32
    show own_Go p e below _ T32 (mkF m 174 #[.val (.ref ca), .val (.int iv), .val (.long v0), .second] [])
    have sz33 : n0 ≤ h32.size := by rw [W32.size]; exact ZL
    have K34 := KL.wr W32 (Or.inl (List.mem_of_getElem? (i := 0) rfl))
    have N32 := Fr.snoc X32 NL gca
    obtain ⟨g', hg'⟩ : ∃ z : Nat → Int32, z = (fun i => if i = (iv + (13 : Int32)).toInt.toNat then nar .char c31 else g i) := ⟨_, rfl⟩
    have A35 : own_A Z h32 ca .char 37 g' := A32.congr (fun i hi => by rw [hg'])
    have G' : own_fl f g' off nv 14 := own_fl_step (k := 13) G0 (show own_isd c31 nv (10 ^ (17 - 13)) from own_isd_cast hc31 (by decide)) (by omega) hg'
    exact seg14 g' T32 h32 _ G' X32 e32 A35 K34 N32 sz33
  have seg12 : ∀ (g : Nat → Int32) (TL : State) (hL : Heap) (LL : List Loc), own_fl f g off nv 12 → Stand p l e ({ frames := 1, cells := 0, slots := 0, locals := 40 } : Room) s m #[(.ref ca), (.int iv), (.long v0)] below meth c TL LL 0 0 → TL.heap = hL → own_A Z hL ca .char 37 g → Keep h0 hL [ca] → Fr n0 LL → n0 ≤ hL.size → own_Go p e below (own_Ends s ({ frames := 1, cells := 0, slots := 0, locals := 40 } : Room) (fun v h L => v = none ∧ Fr n0 L ∧ Keep h0 h [ca] ∧ ∃ g : Nat → Int32, own_fl f g off nv 18 ∧ own_A Z h ca .char 37 g)) TL (mkF m 148 #[.val (.ref ca), .val (.int iv), .val (.long v0), .second] []) := by
    intro g TL hL LL G0 XL eL AL KL NL ZL
    refine own_by (T' := TL) (f' := (mkF m 149 #[.val (.ref ca), .val (.int iv), .val (.long v0), .second] [(.ref ca)])) (fun t k => XS.aloadN XL.here hx rfl (hb hby d1_148) rfl rfl k) ?_
    refine own_by (T' := TL) (f' := (mkF m 150 #[.val (.ref ca), .val (.int iv), .val (.long v0), .second] [(.int iv), (.ref ca)])) (fun t k => XS.iloadN XL.here hx rfl (hb hby d1_149) rfl k) ?_
    refine own_by (T' := TL) (f' := (mkF m 152 #[.val (.ref ca), .val (.int iv), .val (.long v0), .second] [(.int (12 : Int32)), (.int iv), (.ref ca)])) (fun t k => XS.bipush XL.here hx rfl (hb hby d1_150) k) ?_
    refine own_by (T' := TL) (f' := (mkF m 153 #[.val (.ref ca), .val (.int iv), .val (.long v0), .second] [(.int (iv + (12 : Int32))), (.ref ca)])) (fun t k => XS.iadd XL.here hx rfl (hb hby d1_152) rfl k) ?_
    refine own_by (T' := TL) (f' := (mkF m 154 #[.val (.ref ca), .val (.int iv), .val (.long v0), .second] [(.long v0), (.int (iv + (12 : Int32))), (.ref ca)])) (fun t k => XS.lloadN XL.here hx rfl (hb hby d1_153) rfl k) ?_
    refine own_by (T' := TL) (f' := (mkF m 157 #[.val (.ref ca), .val (.int iv), .val (.long v0), .second] [(.long (100000 : Int64)), (.long v0), (.int (iv + (12 : Int32))), (.ref ca)])) (fun t k => XL.ldc2Long hx hown (mvT hZ (own_w hw 23 rfl)) (g := (mkF m 154 #[.val (.ref ca), .val (.int iv), .val (.long v0), .second] [(.long v0), (.int (iv + (12 : Int32))), (.ref ca)])) rfl (hb hby d1_154) _ k) ?_
    refine own_callS XL hx hZ hown eL (hb hby d1_157) [(.long v0), (.long (100000 : Int64))] [(.int (iv + (12 : Int32))), (.ref ca)] 2 (rmDG l Z a0 hw [] v0 (100000 : Int64) nv 100000 hL hv (by decide) (by decide)) (own_w hw 8 rfl) (own_w hw 9 rfl) (own_w hw 5 rfl) (own_w hw 10 rfl) (by decide) pd__JJ_C (by rw [hml]; rfl) rfl rfl (Nat.le_of_eq rfl) (by decide) (by decide) (by decide) (by decide) ?_
    rintro T36 _ L36 X36 ⟨c36, rfl, hc36, rfl, e36⟩
    rw [List.append_nil] at X36
    show own_Go p e below _ T36 (mkF m 160 #[.val (.ref ca), .val (.int iv), .val (.long v0), .second] [(.int c36), (.int (iv + (12 : Int32))), (.ref ca)])
    have hi : (iv + (12 : Int32)).toInt = ((off + 12 : Nat) : Int) := own_add hoff (by decide) (by omega)
    have _ : (12 : Int32).toInt = 12 := by decide
    refine own_stC X36 hx hZ e36 (hb hby d1_160) AL (by omega) (by omega) ?_
    intro T37 h37 X37 e37 W37 A37
    show own_Go p e below _ T37 (mkF m 161 #[.val (.ref ca), .val (.int iv), .val (.long v0), .second] [])
    have sz38 : n0 ≤ h37.size := by rw [W37.size]; exact ZL
    have K39 := KL.wr W37 (Or.inl (List.mem_of_getElem? (i := 0) rfl))
    have N37 := Fr.snoc X37 NL gca
    obtain ⟨g', hg'⟩ : ∃ z : Nat → Int32, z = (fun i => if i = (iv + (12 : Int32)).toInt.toNat then nar .char c36 else g i) := ⟨_, rfl⟩
    have A40 : own_A Z h37 ca .char 37 g' := A37.congr (fun i hi => by rw [hg'])
    have G' : own_fl f g' off nv 13 := own_fl_step (k := 12) G0 (show own_isd c36 nv (10 ^ (17 - 12)) from own_isd_cast hc36 (by decide)) (by omega) hg'
    exact seg13 g' T37 h37 _ G' X37 e37 A40 K39 N37 sz38
  have seg11 : ∀ (g : Nat → Int32) (TL : State) (hL : Heap) (LL : List Loc), own_fl f g off nv 11 → Stand p l e ({ frames := 1, cells := 0, slots := 0, locals := 40 } : Room) s m #[(.ref ca), (.int iv), (.long v0)] below meth c TL LL 0 0 → TL.heap = hL → own_A Z hL ca .char 37 g → Keep h0 hL [ca] → Fr n0 LL → n0 ≤ hL.size → own_Go p e below (own_Ends s ({ frames := 1, cells := 0, slots := 0, locals := 40 } : Room) (fun v h L => v = none ∧ Fr n0 L ∧ Keep h0 h [ca] ∧ ∃ g : Nat → Int32, own_fl f g off nv 18 ∧ own_A Z h ca .char 37 g)) TL (mkF m 135 #[.val (.ref ca), .val (.int iv), .val (.long v0), .second] []) := by
    intro g TL hL LL G0 XL eL AL KL NL ZL
    refine own_by (T' := TL) (f' := (mkF m 136 #[.val (.ref ca), .val (.int iv), .val (.long v0), .second] [(.ref ca)])) (fun t k => XS.aloadN XL.here hx rfl (hb hby d1_135) rfl rfl k) ?_
    refine own_by (T' := TL) (f' := (mkF m 137 #[.val (.ref ca), .val (.int iv), .val (.long v0), .second] [(.int iv), (.ref ca)])) (fun t k => XS.iloadN XL.here hx rfl (hb hby d1_136) rfl k) ?_
    refine own_by (T' := TL) (f' := (mkF m 139 #[.val (.ref ca), .val (.int iv), .val (.long v0), .second] [(.int (11 : Int32)), (.int iv), (.ref ca)])) (fun t k => XS.bipush XL.here hx rfl (hb hby d1_137) k) ?_
    refine own_by (T' := TL) (f' := (mkF m 140 #[.val (.ref ca), .val (.int iv), .val (.long v0), .second] [(.int (iv + (11 : Int32))), (.ref ca)])) (fun t k => XS.iadd XL.here hx rfl (hb hby d1_139) rfl k) ?_
    refine own_by (T' := TL) (f' := (mkF m 141 #[.val (.ref ca), .val (.int iv), .val (.long v0), .second] [(.long v0), (.int (iv + (11 : Int32))), (.ref ca)])) (fun t k => XS.lloadN XL.here hx rfl (hb hby d1_140) rfl k) ?_
    refine own_by (T' := TL) (f' := (mkF m 144 #[.val (.ref ca), .val (.int iv), .val (.long v0), .second] [(.long (1000000 : Int64)), (.long v0), (.int (iv + (11 : Int32))), (.ref ca)])) (fun t k => XL.ldc2Long hx hown (mvT hZ (own_w hw 22 rfl)) (g := (mkF m 141 #[.val (.ref ca), .val (.int iv), .val (.long v0), .second] [(.long v0), (.int (iv + (11 : Int32))), (.ref ca)])) rfl (hb hby d1_141) _ k) ?_
    refine own_callS XL hx hZ hown eL (hb hby d1_144) [(.long v0), (.long (1000000 : Int64))] [(.int (iv + (11 : Int32))), (.ref ca)] 2 (rmDG l Z a0 hw [] v0 (1000000 : Int64) nv 1000000 hL hv (by decide) (by decide)) (own_w hw 8 rfl) (own_w hw 9 rfl) (own_w hw 5 rfl) (own_w hw 10 rfl) (by decide) pd__JJ_C (by rw [hml]; rfl) rfl rfl (Nat.le_of_eq rfl) (by decide) (by decide) (by decide) (by decide) ?_
    rintro T41 _ L41 X41 ⟨c41, rfl, hc41, rfl, e41⟩
    rw [List.append_nil] at X41
    show own_Go p e below _ T41 (mkF m 147 #[.val (.ref ca), .val (.int iv), .val (.long v0), .second] [(.int c41), (.int (iv + (11 : Int32))), (.ref ca)])
    have hi : (iv + (11 : Int32)).toInt = ((off + 11 : Nat) : Int) := own_add hoff (by decide) (by omega)
    have _ : (11 : Int32).toInt = 11 := by decide
    refine own_stC X41 hx hZ e41 (hb hby d1_147) AL (by omega) (by omega) ?_
    intro T42 h42 X42 e42 W42 A42
    show own_Go p e below _ T42 (mkF m 148 #[.val (.ref ca), .val (.int iv), .val (.long v0), .second] [])
    have sz43 : n0 ≤ h42.size := by rw [W42.size]; exact ZL
    have K44 := KL.wr W42 (Or.inl (List.mem_of_getElem? (i := 0) rfl))
    have N42 := Fr.snoc X42 NL gca
    obtain ⟨g', hg'⟩ : ∃ z : Nat → Int32, z = (fun i => if i = (iv + (11 : Int32)).toInt.toNat then nar .char c41 else g i) := ⟨_, rfl⟩
    have A45 : own_A Z h42 ca .char 37 g' := A42.congr (fun i hi => by rw [hg'])
    have G' : own_fl f g' off nv 12 := own_fl_step (k := 11) G0 (show own_isd c41 nv (10 ^ (17 - 11)) from own_isd_cast hc41 (by decide)) (by omega) hg'
    exact seg12 g' T42 h42 _ G' X42 e42 A45 K44 N42 sz43
  have seg10 : ∀ (g : Nat → Int32) (TL : State) (hL : Heap) (LL : List Loc), own_fl f g off nv 10 → Stand p l e ({ frames := 1, cells := 0, slots := 0, locals := 40 } : Room) s m #[(.ref ca), (.int iv), (.long v0)] below meth c TL LL 0 0 → TL.heap = hL → own_A Z hL ca .char 37 g → Keep h0 hL [ca] → Fr n0 LL → n0 ≤ hL.size → own_Go p e below (own_Ends s ({ frames := 1, cells := 0, slots := 0, locals := 40 } : Room) (fun v h L => v = none ∧ Fr n0 L ∧ Keep h0 h [ca] ∧ ∃ g : Nat → Int32, own_fl f g off nv 18 ∧ own_A Z h ca .char 37 g)) TL (mkF m 122 #[.val (.ref ca), .val (.int iv), .val (.long v0), .second] []) := by
    intro g TL hL LL G0 XL eL AL KL NL ZL
    refine own_by (T' := TL) (f' := (mkF m 123 #[.val (.ref ca), .val (.int iv), .val (.long v0), .second] [(.ref ca)])) (fun t k => XS.aloadN XL.here hx rfl (hb hby d1_122) rfl rfl k) ?_
    refine own_by (T' := TL) (f' := (mkF m 124 #[.val (.ref ca), .val (.int iv), .val (.long v0), .second] [(.int iv), (.ref ca)])) (fun t k => XS.iloadN XL.here hx rfl (hb hby d1_123) rfl k) ?_
    refine own_by (T' := TL) (f' := (mkF m 126 #[.val (.ref ca), .val (.int iv), .val (.long v0), .second] [(.int (10 : Int32)), (.int iv), (.ref ca)])) (fun t k => XS.bipush XL.here hx rfl (hb hby d1_124) k) ?_
    refine own_by (T' := TL) (f' := (mkF m 127 #[.val (.ref ca), .val (.int iv), .val (.long v0), .second] [(.int (iv + (10 : Int32))), (.ref ca)])) (fun t k => XS.iadd XL.here hx rfl (hb hby d1_126) rfl k) ?_
    refine own_by (T' := TL) (f' := (mkF m 128 #[.val (.ref ca), .val (.int iv), .val (.long v0), .second] [(.long v0), (.int (iv + (10 : Int32))), (.ref ca)])) (fun t k => XS.lloadN XL.here hx rfl (hb hby d1_127) rfl k) ?_
    refine own_by (T' := TL) (f' := (mkF m 131 #[.val (.ref ca), .val (.int iv), .val (.long v0), .second] [(.long (10000000 : Int64)), (.long v0), (.int (iv + (10 : Int32))), (.ref ca)])) (fun t k => XL.ldc2Long hx hown (mvT hZ (own_w hw 21 rfl)) (g := (mkF m 128 #[.val (.ref ca), .val (.int iv), .val (.long v0), .second] [(.long v0), (.int (iv + (10 : Int32))), (.ref ca)])) rfl (hb hby d1_128) _ k) ?_
    refine own_callS XL hx hZ hown eL (hb hby d1_131) [(.long v0), (.long (10000000 : Int64))] [(.int (iv + (10 : Int32))), (.ref ca)] 2 (rmDG l Z a0 hw [] v0 (10000000 : Int64) nv 10000000 hL hv (by decide) (by decide)) (own_w hw 8 rfl) (own_w hw 9 rfl) (own_w hw 5 rfl) (own_w hw 10 rfl) (by decide) pd__JJ_C (by rw [hml]; rfl) rfl rfl (Nat.le_of_eq rfl) (by decide) (by decide) (by decide) (by decide) ?_
    rintro T46 _ L46 X46 ⟨c46, rfl, hc46, rfl, e46⟩
    rw [List.append_nil] at X46
    show own_Go p e below _ T46 (mkF m 134 #[.val (.ref ca), .val (.int iv), .val (.long v0), .second] [(.int c46), (.int (iv + (10 : Int32))), (.ref ca)])
    have hi : (iv + (10 : Int32)).toInt = ((off + 10 : Nat) : Int) := own_add hoff (by decide) (by omega)
    have _ : (10 : Int32).toInt = 10 := by decide
    refine own_stC X46 hx hZ e46 (hb hby d1_134) AL (by omega) (by omega) ?_
    intro T47 h47 X47 e47 W47 A47
    show own_Go p e below _ T47 (mkF m 135 #[.val (.ref ca), .val (.int iv), .val (.long v0), .second] [])
    have sz48 : n0 ≤ h47.size := by rw [W47.size]; exact ZL
    have K49 := KL.wr W47 (Or.inl (List.mem_of_getElem? (i := 0) rfl))
    have N47 := Fr.snoc X47 NL gca
    obtain ⟨g', hg'⟩ : ∃ z : Nat → Int32, z = (fun i => if i = (iv + (10 : Int32)).toInt.toNat then nar .char c46 else g i) := ⟨_, rfl⟩
    have A50 : own_A Z h47 ca .char 37 g' := A47.congr (fun i hi => by rw [hg'])
    have G' : own_fl f g' off nv 11 := own_fl_step (k := 10) G0 (show own_isd c46 nv (10 ^ (17 - 10)) from own_isd_cast hc46 (by decide)) (by omega) hg'
    exact seg11 g' T47 h47 _ G' X47 e47 A50 K49 N47 sz48
  have seg9 : ∀ (g : Nat → Int32) (TL : State) (hL : Heap) (LL : List Loc), own_fl f g off nv 9 → Stand p l e ({ frames := 1, cells := 0, slots := 0, locals := 40 } : Room) s m #[(.ref ca), (.int iv), (.long v0)] below meth c TL LL 0 0 → TL.heap = hL → own_A Z hL ca .char 37 g → Keep h0 hL [ca] → Fr n0 LL → n0 ≤ hL.size → own_Go p e below (own_Ends s ({ frames := 1, cells := 0, slots := 0, locals := 40 } : Room) (fun v h L => v = none ∧ Fr n0 L ∧ Keep h0 h [ca] ∧ ∃ g : Nat → Int32, own_fl f g off nv 18 ∧ own_A Z h ca .char 37 g)) TL (mkF m 109 #[.val (.ref ca), .val (.int iv), .val (.long v0), .second] []) := by
    intro g TL hL LL G0 XL eL AL KL NL ZL
    refine own_by (T' := TL) (f' := (mkF m 110 #[.val (.ref ca), .val (.int iv), .val (.long v0), .second] [(.ref ca)])) (fun t k => XS.aloadN XL.here hx rfl (hb hby d1_109) rfl rfl k) ?_
    refine own_by (T' := TL) (f' := (mkF m 111 #[.val (.ref ca), .val (.int iv), .val (.long v0), .second] [(.int iv), (.ref ca)])) (fun t k => XS.iloadN XL.here hx rfl (hb hby d1_110) rfl k) ?_
    refine own_by (T' := TL) (f' := (mkF m 113 #[.val (.ref ca), .val (.int iv), .val (.long v0), .second] [(.int (9 : Int32)), (.int iv), (.ref ca)])) (fun t k => XS.bipush XL.here hx rfl (hb hby d1_111) k) ?_
    refine own_by (T' := TL) (f' := (mkF m 114 #[.val (.ref ca), .val (.int iv), .val (.long v0), .second] [(.int (iv + (9 : Int32))), (.ref ca)])) (fun t k => XS.iadd XL.here hx rfl (hb hby d1_113) rfl k) ?_
    refine own_by (T' := TL) (f' := (mkF m 115 #[.val (.ref ca), .val (.int iv), .val (.long v0), .second] [(.long v0), (.int (iv + (9 : Int32))), (.ref ca)])) (fun t k => XS.lloadN XL.here hx rfl (hb hby d1_114) rfl k) ?_
    refine own_by (T' := TL) (f' := (mkF m 118 #[.val (.ref ca), .val (.int iv), .val (.long v0), .second] [(.long (100000000 : Int64)), (.long v0), (.int (iv + (9 : Int32))), (.ref ca)])) (fun t k => XL.ldc2Long hx hown (mvT hZ (own_w hw 20 rfl)) (g := (mkF m 115 #[.val (.ref ca), .val (.int iv), .val (.long v0), .second] [(.long v0), (.int (iv + (9 : Int32))), (.ref ca)])) rfl (hb hby d1_115) _ k) ?_
    refine own_callS XL hx hZ hown eL (hb hby d1_118) [(.long v0), (.long (100000000 : Int64))] [(.int (iv + (9 : Int32))), (.ref ca)] 2 (rmDG l Z a0 hw [] v0 (100000000 : Int64) nv 100000000 hL hv (by decide) (by decide)) (own_w hw 8 rfl) (own_w hw 9 rfl) (own_w hw 5 rfl) (own_w hw 10 rfl) (by decide) pd__JJ_C (by rw [hml]; rfl) rfl rfl (Nat.le_of_eq rfl) (by decide) (by decide) (by decide) (by decide) ?_
    rintro T51 _ L51 X51 ⟨c51, rfl, hc51, rfl, e51⟩
    rw [List.append_nil] at X51
    show own_Go p e below _ T51 (mkF m 121 #[.val (.ref ca), .val (.int iv), .val (.long v0), .second] [(.int c51), (.int (iv + (9 : Int32))), (.ref ca)])
    have hi : (iv + (9 : Int32)).toInt = ((off + 9 : Nat) : Int) := own_add hoff (by decide) (by omega)
    have _ : (9 : Int32).toInt = 9 := by decide
    refine own_stC X51 hx hZ e51 (hb hby d1_121) AL (by omega) (by omega) ?_
    intro T52 h52 X52 e52 W52 A52
    show own_Go p e below _ T52 (mkF m 122 #[.val (.ref ca), .val (.int iv), .val (.long v0), .second] [])
    have sz53 : n0 ≤ h52.size := by rw [W52.size]; exact ZL
    have K54 := KL.wr W52 (Or.inl (List.mem_of_getElem? (i := 0) rfl))
    have N52 := Fr.snoc X52 NL gca
    obtain ⟨g', hg'⟩ : ∃ z : Nat → Int32, z = (fun i => if i = (iv + (9 : Int32)).toInt.toNat then nar .char c51 else g i) := ⟨_, rfl⟩
    have A55 : own_A Z h52 ca .char 37 g' := A52.congr (fun i hi => by rw [hg'])
    have G' : own_fl f g' off nv 10 := own_fl_step (k := 9) G0 (show own_isd c51 nv (10 ^ (17 - 9)) from own_isd_cast hc51 (by decide)) (by omega) hg'
    exact seg10 g' T52 h52 _ G' X52 e52 A55 K54 N52 sz53
  have seg8 : ∀ (g : Nat → Int32) (TL : State) (hL : Heap) (LL : List Loc), own_fl f g off nv 8 → Stand p l e ({ frames := 1, cells := 0, slots := 0, locals := 40 } : Room) s m #[(.ref ca), (.int iv), (.long v0)] below meth c TL LL 0 0 → TL.heap = hL → own_A Z hL ca .char 37 g → Keep h0 hL [ca] → Fr n0 LL → n0 ≤ hL.size → own_Go p e below (own_Ends s ({ frames := 1, cells := 0, slots := 0, locals := 40 } : Room) (fun v h L => v = none ∧ Fr n0 L ∧ Keep h0 h [ca] ∧ ∃ g : Nat → Int32, own_fl f g off nv 18 ∧ own_A Z h ca .char 37 g)) TL (mkF m 96 #[.val (.ref ca), .val (.int iv), .val (.long v0), .second] []) := by
    intro g TL hL LL G0 XL eL AL KL NL ZL
    refine own_by (T' := TL) (f' := (mkF m 97 #[.val (.ref ca), .val (.int iv), .val (.long v0), .second] [(.ref ca)])) (fun t k => XS.aloadN XL.here hx rfl (hb hby d1_96) rfl rfl k) ?_
    refine own_by (T' := TL) (f' := (mkF m 98 #[.val (.ref ca), .val (.int iv), .val (.long v0), .second] [(.int iv), (.ref ca)])) (fun t k => XS.iloadN XL.here hx rfl (hb hby d1_97) rfl k) ?_
    refine own_by (T' := TL) (f' := (mkF m 100 #[.val (.ref ca), .val (.int iv), .val (.long v0), .second] [(.int (8 : Int32)), (.int iv), (.ref ca)])) (fun t k => XS.bipush XL.here hx rfl (hb hby d1_98) k) ?_
    refine own_by (T' := TL) (f' := (mkF m 101 #[.val (.ref ca), .val (.int iv), .val (.long v0), .second] [(.int (iv + (8 : Int32))), (.ref ca)])) (fun t k => XS.iadd XL.here hx rfl (hb hby d1_100) rfl k) ?_
    refine own_by (T' := TL) (f' := (mkF m 102 #[.val (.ref ca), .val (.int iv), .val (.long v0), .second] [(.long v0), (.int (iv + (8 : Int32))), (.ref ca)])) (fun t k => XS.lloadN XL.here hx rfl (hb hby d1_101) rfl k) ?_
    refine own_by (T' := TL) (f' := (mkF m 105 #[.val (.ref ca), .val (.int iv), .val (.long v0), .second] [(.long (1000000000 : Int64)), (.long v0), (.int (iv + (8 : Int32))), (.ref ca)])) (fun t k => XL.ldc2Long hx hown (mvT hZ (own_w hw 19 rfl)) (g := (mkF m 102 #[.val (.ref ca), .val (.int iv), .val (.long v0), .second] [(.long v0), (.int (iv + (8 : Int32))), (.ref ca)])) rfl (hb hby d1_102) _ k) ?_
    refine own_callS XL hx hZ hown eL (hb hby d1_105) [(.long v0), (.long (1000000000 : Int64))] [(.int (iv + (8 : Int32))), (.ref ca)] 2 (rmDG l Z a0 hw [] v0 (1000000000 : Int64) nv 1000000000 hL hv (by decide) (by decide)) (own_w hw 8 rfl) (own_w hw 9 rfl) (own_w hw 5 rfl) (own_w hw 10 rfl) (by decide) pd__JJ_C (by rw [hml]; rfl) rfl rfl (Nat.le_of_eq rfl) (by decide) (by decide) (by decide) (by decide) ?_
    rintro T56 _ L56 X56 ⟨c56, rfl, hc56, rfl, e56⟩
    rw [List.append_nil] at X56
    show own_Go p e below _ T56 (mkF m 108 #[.val (.ref ca), .val (.int iv), .val (.long v0), .second] [(.int c56), (.int (iv + (8 : Int32))), (.ref ca)])
    have hi : (iv + (8 : Int32)).toInt = ((off + 8 : Nat) : Int) := own_add hoff (by decide) (by omega)
    have _ : (8 : Int32).toInt = 8 := by decide
    refine own_stC X56 hx hZ e56 (hb hby d1_108) AL (by omega) (by omega) ?_
    intro T57 h57 X57 e57 W57 A57
    show own_Go p e below _ T57 (mkF m 109 #[.val (.ref ca), .val (.int iv), .val (.long v0), .second] [])
    have sz58 : n0 ≤ h57.size := by rw [W57.size]; exact ZL
    have K59 := KL.wr W57 (Or.inl (List.mem_of_getElem? (i := 0) rfl))
    have N57 := Fr.snoc X57 NL gca
    obtain ⟨g', hg'⟩ : ∃ z : Nat → Int32, z = (fun i => if i = (iv + (8 : Int32)).toInt.toNat then nar .char c56 else g i) := ⟨_, rfl⟩
    have A60 : own_A Z h57 ca .char 37 g' := A57.congr (fun i hi => by rw [hg'])
    have G' : own_fl f g' off nv 9 := own_fl_step (k := 8) G0 (show own_isd c56 nv (10 ^ (17 - 8)) from own_isd_cast hc56 (by decide)) (by omega) hg'
    exact seg9 g' T57 h57 _ G' X57 e57 A60 K59 N57 sz58
  have seg7 : ∀ (g : Nat → Int32) (TL : State) (hL : Heap) (LL : List Loc), own_fl f g off nv 7 → Stand p l e ({ frames := 1, cells := 0, slots := 0, locals := 40 } : Room) s m #[(.ref ca), (.int iv), (.long v0)] below meth c TL LL 0 0 → TL.heap = hL → own_A Z hL ca .char 37 g → Keep h0 hL [ca] → Fr n0 LL → n0 ≤ hL.size → own_Go p e below (own_Ends s ({ frames := 1, cells := 0, slots := 0, locals := 40 } : Room) (fun v h L => v = none ∧ Fr n0 L ∧ Keep h0 h [ca] ∧ ∃ g : Nat → Int32, own_fl f g off nv 18 ∧ own_A Z h ca .char 37 g)) TL (mkF m 83 #[.val (.ref ca), .val (.int iv), .val (.long v0), .second] []) := by
    intro g TL hL LL G0 XL eL AL KL NL ZL
    refine own_by (T' := TL) (f' := (mkF m 84 #[.val (.ref ca), .val (.int iv), .val (.long v0), .second] [(.ref ca)])) (fun t k => XS.aloadN XL.here hx rfl (hb hby d1_83) rfl rfl k) ?_
    refine own_by (T' := TL) (f' := (mkF m 85 #[.val (.ref ca), .val (.int iv), .val (.long v0), .second] [(.int iv), (.ref ca)])) (fun t k => XS.iloadN XL.here hx rfl (hb hby d1_84) rfl k) ?_
    refine own_by (T' := TL) (f' := (mkF m 87 #[.val (.ref ca), .val (.int iv), .val (.long v0), .second] [(.int (7 : Int32)), (.int iv), (.ref ca)])) (fun t k => XS.bipush XL.here hx rfl (hb hby d1_85) k) ?_
    refine own_by (T' := TL) (f' := (mkF m 88 #[.val (.ref ca), .val (.int iv), .val (.long v0), .second] [(.int (iv + (7 : Int32))), (.ref ca)])) (fun t k => XS.iadd XL.here hx rfl (hb hby d1_87) rfl k) ?_
    refine own_by (T' := TL) (f' := (mkF m 89 #[.val (.ref ca), .val (.int iv), .val (.long v0), .second] [(.long v0), (.int (iv + (7 : Int32))), (.ref ca)])) (fun t k => XS.lloadN XL.here hx rfl (hb hby d1_88) rfl k) ?_
    refine own_by (T' := TL) (f' := (mkF m 92 #[.val (.ref ca), .val (.int iv), .val (.long v0), .second] [(.long (10000000000 : Int64)), (.long v0), (.int (iv + (7 : Int32))), (.ref ca)])) (fun t k => XL.ldc2Long hx hown (mvT hZ (own_w hw 18 rfl)) (g := (mkF m 89 #[.val (.ref ca), .val (.int iv), .val (.long v0), .second] [(.long v0), (.int (iv + (7 : Int32))), (.ref ca)])) rfl (hb hby d1_89) _ k) ?_
    refine own_callS XL hx hZ hown eL (hb hby d1_92) [(.long v0), (.long (10000000000 : Int64))] [(.int (iv + (7 : Int32))), (.ref ca)] 2 (rmDG l Z a0 hw [] v0 (10000000000 : Int64) nv 10000000000 hL hv (by decide) (by decide)) (own_w hw 8 rfl) (own_w hw 9 rfl) (own_w hw 5 rfl) (own_w hw 10 rfl) (by decide) pd__JJ_C (by rw [hml]; rfl) rfl rfl (Nat.le_of_eq rfl) (by decide) (by decide) (by decide) (by decide) ?_
    rintro T61 _ L61 X61 ⟨c61, rfl, hc61, rfl, e61⟩
    rw [List.append_nil] at X61
    show own_Go p e below _ T61 (mkF m 95 #[.val (.ref ca), .val (.int iv), .val (.long v0), .second] [(.int c61), (.int (iv + (7 : Int32))), (.ref ca)])
    have hi : (iv + (7 : Int32)).toInt = ((off + 7 : Nat) : Int) := own_add hoff (by decide) (by omega)
    have _ : (7 : Int32).toInt = 7 := by decide
    refine own_stC X61 hx hZ e61 (hb hby d1_95) AL (by omega) (by omega) ?_
    intro T62 h62 X62 e62 W62 A62
    show own_Go p e below _ T62 (mkF m 96 #[.val (.ref ca), .val (.int iv), .val (.long v0), .second] [])
    have sz63 : n0 ≤ h62.size := by rw [W62.size]; exact ZL
    have K64 := KL.wr W62 (Or.inl (List.mem_of_getElem? (i := 0) rfl))
    have N62 := Fr.snoc X62 NL gca
    obtain ⟨g', hg'⟩ : ∃ z : Nat → Int32, z = (fun i => if i = (iv + (7 : Int32)).toInt.toNat then nar .char c61 else g i) := ⟨_, rfl⟩
    have A65 : own_A Z h62 ca .char 37 g' := A62.congr (fun i hi => by rw [hg'])
    have G' : own_fl f g' off nv 8 := own_fl_step (k := 7) G0 (show own_isd c61 nv (10 ^ (17 - 7)) from own_isd_cast hc61 (by decide)) (by omega) hg'
    exact seg8 g' T62 h62 _ G' X62 e62 A65 K64 N62 sz63
  have seg6 : ∀ (g : Nat → Int32) (TL : State) (hL : Heap) (LL : List Loc), own_fl f g off nv 6 → Stand p l e ({ frames := 1, cells := 0, slots := 0, locals := 40 } : Room) s m #[(.ref ca), (.int iv), (.long v0)] below meth c TL LL 0 0 → TL.heap = hL → own_A Z hL ca .char 37 g → Keep h0 hL [ca] → Fr n0 LL → n0 ≤ hL.size → own_Go p e below (own_Ends s ({ frames := 1, cells := 0, slots := 0, locals := 40 } : Room) (fun v h L => v = none ∧ Fr n0 L ∧ Keep h0 h [ca] ∧ ∃ g : Nat → Int32, own_fl f g off nv 18 ∧ own_A Z h ca .char 37 g)) TL (mkF m 70 #[.val (.ref ca), .val (.int iv), .val (.long v0), .second] []) := by
    intro g TL hL LL G0 XL eL AL KL NL ZL
    refine own_by (T' := TL) (f' := (mkF m 71 #[.val (.ref ca), .val (.int iv), .val (.long v0), .second] [(.ref ca)])) (fun t k => XS.aloadN XL.here hx rfl (hb hby d1_70) rfl rfl k) ?_
    refine own_by (T' := TL) (f' := (mkF m 72 #[.val (.ref ca), .val (.int iv), .val (.long v0), .second] [(.int iv), (.ref ca)])) (fun t k => XS.iloadN XL.here hx rfl (hb hby d1_71) rfl k) ?_
    refine own_by (T' := TL) (f' := (mkF m 74 #[.val (.ref ca), .val (.int iv), .val (.long v0), .second] [(.int (6 : Int32)), (.int iv), (.ref ca)])) (fun t k => XS.bipush XL.here hx rfl (hb hby d1_72) k) ?_
    refine own_by (T' := TL) (f' := (mkF m 75 #[.val (.ref ca), .val (.int iv), .val (.long v0), .second] [(.int (iv + (6 : Int32))), (.ref ca)])) (fun t k => XS.iadd XL.here hx rfl (hb hby d1_74) rfl k) ?_
    refine own_by (T' := TL) (f' := (mkF m 76 #[.val (.ref ca), .val (.int iv), .val (.long v0), .second] [(.long v0), (.int (iv + (6 : Int32))), (.ref ca)])) (fun t k => XS.lloadN XL.here hx rfl (hb hby d1_75) rfl k) ?_
    refine own_by (T' := TL) (f' := (mkF m 79 #[.val (.ref ca), .val (.int iv), .val (.long v0), .second] [(.long (100000000000 : Int64)), (.long v0), (.int (iv + (6 : Int32))), (.ref ca)])) (fun t k => XL.ldc2Long hx hown (mvT hZ (own_w hw 17 rfl)) (g := (mkF m 76 #[.val (.ref ca), .val (.int iv), .val (.long v0), .second] [(.long v0), (.int (iv + (6 : Int32))), (.ref ca)])) rfl (hb hby d1_76) _ k) ?_
    refine own_callS XL hx hZ hown eL (hb hby d1_79) [(.long v0), (.long (100000000000 : Int64))] [(.int (iv + (6 : Int32))), (.ref ca)] 2 (rmDG l Z a0 hw [] v0 (100000000000 : Int64) nv 100000000000 hL hv (by decide) (by decide)) (own_w hw 8 rfl) (own_w hw 9 rfl) (own_w hw 5 rfl) (own_w hw 10 rfl) (by decide) pd__JJ_C (by rw [hml]; rfl) rfl rfl (Nat.le_of_eq rfl) (by decide) (by decide) (by decide) (by decide) ?_
    rintro T66 _ L66 X66 ⟨c66, rfl, hc66, rfl, e66⟩
    rw [List.append_nil] at X66
    show own_Go p e below _ T66 (mkF m 82 #[.val (.ref ca), .val (.int iv), .val (.long v0), .second] [(.int c66), (.int (iv + (6 : Int32))), (.ref ca)])
    have hi : (iv + (6 : Int32)).toInt = ((off + 6 : Nat) : Int) := own_add hoff (by decide) (by omega)
    have _ : (6 : Int32).toInt = 6 := by decide
    refine own_stC X66 hx hZ e66 (hb hby d1_82) AL (by omega) (by omega) ?_
    intro T67 h67 X67 e67 W67 A67
    show own_Go p e below _ T67 (mkF m 83 #[.val (.ref ca), .val (.int iv), .val (.long v0), .second] [])
    have sz68 : n0 ≤ h67.size := by rw [W67.size]; exact ZL
    have K69 := KL.wr W67 (Or.inl (List.mem_of_getElem? (i := 0) rfl))
    have N67 := Fr.snoc X67 NL gca
    obtain ⟨g', hg'⟩ : ∃ z : Nat → Int32, z = (fun i => if i = (iv + (6 : Int32)).toInt.toNat then nar .char c66 else g i) := ⟨_, rfl⟩
    have A70 : own_A Z h67 ca .char 37 g' := A67.congr (fun i hi => by rw [hg'])
    have G' : own_fl f g' off nv 7 := own_fl_step (k := 6) G0 (show own_isd c66 nv (10 ^ (17 - 6)) from own_isd_cast hc66 (by decide)) (by omega) hg'
    exact seg7 g' T67 h67 _ G' X67 e67 A70 K69 N67 sz68
  have seg5 : ∀ (g : Nat → Int32) (TL : State) (hL : Heap) (LL : List Loc), own_fl f g off nv 5 → Stand p l e ({ frames := 1, cells := 0, slots := 0, locals := 40 } : Room) s m #[(.ref ca), (.int iv), (.long v0)] below meth c TL LL 0 0 → TL.heap = hL → own_A Z hL ca .char 37 g → Keep h0 hL [ca] → Fr n0 LL → n0 ≤ hL.size → own_Go p e below (own_Ends s ({ frames := 1, cells := 0, slots := 0, locals := 40 } : Room) (fun v h L => v = none ∧ Fr n0 L ∧ Keep h0 h [ca] ∧ ∃ g : Nat → Int32, own_fl f g off nv 18 ∧ own_A Z h ca .char 37 g)) TL (mkF m 58 #[.val (.ref ca), .val (.int iv), .val (.long v0), .second] []) := by
    intro g TL hL LL G0 XL eL AL KL NL ZL
    refine own_by (T' := TL) (f' := (mkF m 59 #[.val (.ref ca), .val (.int iv), .val (.long v0), .second] [(.ref ca)])) (fun t k => XS.aloadN XL.here hx rfl (hb hby d1_58) rfl rfl k) ?_
    refine own_by (T' := TL) (f' := (mkF m 60 #[.val (.ref ca), .val (.int iv), .val (.long v0), .second] [(.int iv), (.ref ca)])) (fun t k => XS.iloadN XL.here hx rfl (hb hby d1_59) rfl k) ?_
    refine own_by (T' := TL) (f' := (mkF m 61 #[.val (.ref ca), .val (.int iv), .val (.long v0), .second] [(.int (5 : Int32)), (.int iv), (.ref ca)])) (fun t k => XS.iconst XL.here hx rfl (hb hby d1_60) k) ?_
    refine own_by (T' := TL) (f' := (mkF m 62 #[.val (.ref ca), .val (.int iv), .val (.long v0), .second] [(.int (iv + (5 : Int32))), (.ref ca)])) (fun t k => XS.iadd XL.here hx rfl (hb hby d1_61) rfl k) ?_
    refine own_by (T' := TL) (f' := (mkF m 63 #[.val (.ref ca), .val (.int iv), .val (.long v0), .second] [(.long v0), (.int (iv + (5 : Int32))), (.ref ca)])) (fun t k => XS.lloadN XL.here hx rfl (hb hby d1_62) rfl k) ?_
    refine own_by (T' := TL) (f' := (mkF m 66 #[.val (.ref ca), .val (.int iv), .val (.long v0), .second] [(.long (1000000000000 : Int64)), (.long v0), (.int (iv + (5 : Int32))), (.ref ca)])) (fun t k => XL.ldc2Long hx hown (mvT hZ (own_w hw 16 rfl)) (g := (mkF m 63 #[.val (.ref ca), .val (.int iv), .val (.long v0), .second] [(.long v0), (.int (iv + (5 : Int32))), (.ref ca)])) rfl (hb hby d1_63) _ k) ?_
    refine own_callS XL hx hZ hown eL (hb hby d1_66) [(.long v0), (.long (1000000000000 : Int64))] [(.int (iv + (5 : Int32))), (.ref ca)] 2 (rmDG l Z a0 hw [] v0 (1000000000000 : Int64) nv 1000000000000 hL hv (by decide) (by decide)) (own_w hw 8 rfl) (own_w hw 9 rfl) (own_w hw 5 rfl) (own_w hw 10 rfl) (by decide) pd__JJ_C (by rw [hml]; rfl) rfl rfl (Nat.le_of_eq rfl) (by decide) (by decide) (by decide) (by decide) ?_
    rintro T71 _ L71 X71 ⟨c71, rfl, hc71, rfl, e71⟩
    rw [List.append_nil] at X71
    show own_Go p e below _ T71 (mkF m 69 #[.val (.ref ca), .val (.int iv), .val (.long v0), .second] [(.int c71), (.int (iv + (5 : Int32))), (.ref ca)])
    have hi : (iv + (5 : Int32)).toInt = ((off + 5 : Nat) : Int) := own_add hoff (by decide) (by omega)
    have _ : (5 : Int32).toInt = 5 := by decide
    refine own_stC X71 hx hZ e71 (hb hby d1_69) AL (by omega) (by omega) ?_
    intro T72 h72 X72 e72 W72 A72
    show own_Go p e below _ T72 (mkF m 70 #[.val (.ref ca), .val (.int iv), .val (.long v0), .second] [])
    have sz73 : n0 ≤ h72.size := by rw [W72.size]; exact ZL
    have K74 := KL.wr W72 (Or.inl (List.mem_of_getElem? (i := 0) rfl))
    have N72 := Fr.snoc X72 NL gca
    obtain ⟨g', hg'⟩ : ∃ z : Nat → Int32, z = (fun i => if i = (iv + (5 : Int32)).toInt.toNat then nar .char c71 else g i) := ⟨_, rfl⟩
    have A75 : own_A Z h72 ca .char 37 g' := A72.congr (fun i hi => by rw [hg'])
    have G' : own_fl f g' off nv 6 := own_fl_step (k := 5) G0 (show own_isd c71 nv (10 ^ (17 - 5)) from own_isd_cast hc71 (by decide)) (by omega) hg'
    exact seg6 g' T72 h72 _ G' X72 e72 A75 K74 N72 sz73
  have seg4 : ∀ (g : Nat → Int32) (TL : State) (hL : Heap) (LL : List Loc), own_fl f g off nv 4 → Stand p l e ({ frames := 1, cells := 0, slots := 0, locals := 40 } : Room) s m #[(.ref ca), (.int iv), (.long v0)] below meth c TL LL 0 0 → TL.heap = hL → own_A Z hL ca .char 37 g → Keep h0 hL [ca] → Fr n0 LL → n0 ≤ hL.size → own_Go p e below (own_Ends s ({ frames := 1, cells := 0, slots := 0, locals := 40 } : Room) (fun v h L => v = none ∧ Fr n0 L ∧ Keep h0 h [ca] ∧ ∃ g : Nat → Int32, own_fl f g off nv 18 ∧ own_A Z h ca .char 37 g)) TL (mkF m 46 #[.val (.ref ca), .val (.int iv), .val (.long v0), .second] []) := by
    intro g TL hL LL G0 XL eL AL KL NL ZL
    refine own_by (T' := TL) (f' := (mkF m 47 #[.val (.ref ca), .val (.int iv), .val (.long v0), .second] [(.ref ca)])) (fun t k => XS.aloadN XL.here hx rfl (hb hby d1_46) rfl rfl k) ?_
    refine own_by (T' := TL) (f' := (mkF m 48 #[.val (.ref ca), .val (.int iv), .val (.long v0), .second] [(.int iv), (.ref ca)])) (fun t k => XS.iloadN XL.here hx rfl (hb hby d1_47) rfl k) ?_
    refine own_by (T' := TL) (f' := (mkF m 49 #[.val (.ref ca), .val (.int iv), .val (.long v0), .second] [(.int (4 : Int32)), (.int iv), (.ref ca)])) (fun t k => XS.iconst XL.here hx rfl (hb hby d1_48) k) ?_
    refine own_by (T' := TL) (f' := (mkF m 50 #[.val (.ref ca), .val (.int iv), .val (.long v0), .second] [(.int (iv + (4 : Int32))), (.ref ca)])) (fun t k => XS.iadd XL.here hx rfl (hb hby d1_49) rfl k) ?_
    refine own_by (T' := TL) (f' := (mkF m 51 #[.val (.ref ca), .val (.int iv), .val (.long v0), .second] [(.long v0), (.int (iv + (4 : Int32))), (.ref ca)])) (fun t k => XS.lloadN XL.here hx rfl (hb hby d1_50) rfl k) ?_
    refine own_by (T' := TL) (f' := (mkF m 54 #[.val (.ref ca), .val (.int iv), .val (.long v0), .second] [(.long (10000000000000 : Int64)), (.long v0), (.int (iv + (4 : Int32))), (.ref ca)])) (fun t k => XL.ldc2Long hx hown (mvT hZ (own_w hw 15 rfl)) (g := (mkF m 51 #[.val (.ref ca), .val (.int iv), .val (.long v0), .second] [(.long v0), (.int (iv + (4 : Int32))), (.ref ca)])) rfl (hb hby d1_51) _ k) ?_
    refine own_callS XL hx hZ hown eL (hb hby d1_54) [(.long v0), (.long (10000000000000 : Int64))] [(.int (iv + (4 : Int32))), (.ref ca)] 2 (rmDG l Z a0 hw [] v0 (10000000000000 : Int64) nv 10000000000000 hL hv (by decide) (by decide)) (own_w hw 8 rfl) (own_w hw 9 rfl) (own_w hw 5 rfl) (own_w hw 10 rfl) (by decide) pd__JJ_C (by rw [hml]; rfl) rfl rfl (Nat.le_of_eq rfl) (by decide) (by decide) (by decide) (by decide) ?_
    rintro T76 _ L76 X76 ⟨c76, rfl, hc76, rfl, e76⟩
    rw [List.append_nil] at X76
    show own_Go p e below _ T76 (mkF m 57 #[.val (.ref ca), .val (.int iv), .val (.long v0), .second] [(.int c76), (.int (iv + (4 : Int32))), (.ref ca)])
    have hi : (iv + (4 : Int32)).toInt = ((off + 4 : Nat) : Int) := own_add hoff (by decide) (by omega)
    have _ : (4 : Int32).toInt = 4 := by decide
    refine own_stC X76 hx hZ e76 (hb hby d1_57) AL (by omega) (by omega) ?_
    intro T77 h77 X77 e77 W77 A77
    show own_Go p e below _ T77 (mkF m 58 #[.val (.ref ca), .val (.int iv), .val (.long v0), .second] [])
    have sz78 : n0 ≤ h77.size := by rw [W77.size]; exact ZL
    have K79 := KL.wr W77 (Or.inl (List.mem_of_getElem? (i := 0) rfl))
    have N77 := Fr.snoc X77 NL gca
    obtain ⟨g', hg'⟩ : ∃ z : Nat → Int32, z = (fun i => if i = (iv + (4 : Int32)).toInt.toNat then nar .char c76 else g i) := ⟨_, rfl⟩
    have A80 : own_A Z h77 ca .char 37 g' := A77.congr (fun i hi => by rw [hg'])
    have G' : own_fl f g' off nv 5 := own_fl_step (k := 4) G0 (show own_isd c76 nv (10 ^ (17 - 4)) from own_isd_cast hc76 (by decide)) (by omega) hg'
    exact seg5 g' T77 h77 _ G' X77 e77 A80 K79 N77 sz78
  have seg3 : ∀ (g : Nat → Int32) (TL : State) (hL : Heap) (LL : List Loc), own_fl f g off nv 3 → Stand p l e ({ frames := 1, cells := 0, slots := 0, locals := 40 } : Room) s m #[(.ref ca), (.int iv), (.long v0)] below meth c TL LL 0 0 → TL.heap = hL → own_A Z hL ca .char 37 g → Keep h0 hL [ca] → Fr n0 LL → n0 ≤ hL.size → own_Go p e below (own_Ends s ({ frames := 1, cells := 0, slots := 0, locals := 40 } : Room) (fun v h L => v = none ∧ Fr n0 L ∧ Keep h0 h [ca] ∧ ∃ g : Nat → Int32, own_fl f g off nv 18 ∧ own_A Z h ca .char 37 g)) TL (mkF m 34 #[.val (.ref ca), .val (.int iv), .val (.long v0), .second] []) := by
    intro g TL hL LL G0 XL eL AL KL NL ZL
    refine own_by (T' := TL) (f' := (mkF m 35 #[.val (.ref ca), .val (.int iv), .val (.long v0), .second] [(.ref ca)])) (fun t k => XS.aloadN XL.here hx rfl (hb hby d1_34) rfl rfl k) ?_
    refine own_by (T' := TL) (f' := (mkF m 36 #[.val (.ref ca), .val (.int iv), .val (.long v0), .second] [(.int iv), (.ref ca)])) (fun t k => XS.iloadN XL.here hx rfl (hb hby d1_35) rfl k) ?_
    refine own_by (T' := TL) (f' := (mkF m 37 #[.val (.ref ca), .val (.int iv), .val (.long v0), .second] [(.int (3 : Int32)), (.int iv), (.ref ca)])) (fun t k => XS.iconst XL.here hx rfl (hb hby d1_36) k) ?_
    refine own_by (T' := TL) (f' := (mkF m 38 #[.val (.ref ca), .val (.int iv), .val (.long v0), .second] [(.int (iv + (3 : Int32))), (.ref ca)])) (fun t k => XS.iadd XL.here hx rfl (hb hby d1_37) rfl k) ?_
    refine own_by (T' := TL) (f' := (mkF m 39 #[.val (.ref ca), .val (.int iv), .val (.long v0), .second] [(.long v0), (.int (iv + (3 : Int32))), (.ref ca)])) (fun t k => XS.lloadN XL.here hx rfl (hb hby d1_38) rfl k) ?_
    refine own_by (T' := TL) (f' := (mkF m 42 #[.val (.ref ca), .val (.int iv), .val (.long v0), .second] [(.long (100000000000000 : Int64)), (.long v0), (.int (iv + (3 : Int32))), (.ref ca)])) (fun t k => XL.ldc2Long hx hown (mvT hZ (own_w hw 14 rfl)) (g := (mkF m 39 #[.val (.ref ca), .val (.int iv), .val (.long v0), .second] [(.long v0), (.int (iv + (3 : Int32))), (.ref ca)])) rfl (hb hby d1_39) _ k) ?_
    refine own_callS XL hx hZ hown eL (hb hby d1_42) [(.long v0), (.long (100000000000000 : Int64))] [(.int (iv + (3 : Int32))), (.ref ca)] 2 (rmDG l Z a0 hw [] v0 (100000000000000 : Int64) nv 100000000000000 hL hv (by decide) (by decide)) (own_w hw 8 rfl) (own_w hw 9 rfl) (own_w hw 5 rfl) (own_w hw 10 rfl) (by decide) pd__JJ_C (by rw [hml]; rfl) rfl rfl (Nat.le_of_eq rfl) (by decide) (by decide) (by decide) (by decide) ?_
    rintro T81 _ L81 X81 ⟨c81, rfl, hc81, rfl, e81⟩
    rw [List.append_nil] at X81
    show own_Go p e below _ T81 (mkF m 45 #[.val (.ref ca), .val (.int iv), .val (.long v0), .second] [(.int c81), (.int (iv + (3 : Int32))), (.ref ca)])
    have hi : (iv + (3 : Int32)).toInt = ((off + 3 : Nat) : Int) := own_add hoff (by decide) (by omega)
    have _ : (3 : Int32).toInt = 3 := by decide
    refine own_stC X81 hx hZ e81 (hb hby d1_45) AL (by omega) (by omega) ?_
    intro T82 h82 X82 e82 W82 A82
    show own_Go p e below _ T82 (mkF m 46 #[.val (.ref ca), .val (.int iv), .val (.long v0), .second] [])
    have sz83 : n0 ≤ h82.size := by rw [W82.size]; exact ZL
    have K84 := KL.wr W82 (Or.inl (List.mem_of_getElem? (i := 0) rfl))
    have N82 := Fr.snoc X82 NL gca
    obtain ⟨g', hg'⟩ : ∃ z : Nat → Int32, z = (fun i => if i = (iv + (3 : Int32)).toInt.toNat then nar .char c81 else g i) := ⟨_, rfl⟩
    have A85 : own_A Z h82 ca .char 37 g' := A82.congr (fun i hi => by rw [hg'])
    have G' : own_fl f g' off nv 4 := own_fl_step (k := 3) G0 (show own_isd c81 nv (10 ^ (17 - 3)) from own_isd_cast hc81 (by decide)) (by omega) hg'
    exact seg4 g' T82 h82 _ G' X82 e82 A85 K84 N82 sz83
  have seg2 : ∀ (g : Nat → Int32) (TL : State) (hL : Heap) (LL : List Loc), own_fl f g off nv 2 → Stand p l e ({ frames := 1, cells := 0, slots := 0, locals := 40 } : Room) s m #[(.ref ca), (.int iv), (.long v0)] below meth c TL LL 0 0 → TL.heap = hL → own_A Z hL ca .char 37 g → Keep h0 hL [ca] → Fr n0 LL → n0 ≤ hL.size → own_Go p e below (own_Ends s ({ frames := 1, cells := 0, slots := 0, locals := 40 } : Room) (fun v h L => v = none ∧ Fr n0 L ∧ Keep h0 h [ca] ∧ ∃ g : Nat → Int32, own_fl f g off nv 18 ∧ own_A Z h ca .char 37 g)) TL (mkF m 22 #[.val (.ref ca), .val (.int iv), .val (.long v0), .second] []) := by
    intro g TL hL LL G0 XL eL AL KL NL ZL
    refine own_by (T' := TL) (f' := (mkF m 23 #[.val (.ref ca), .val (.int iv), .val (.long v0), .second] [(.ref ca)])) (fun t k => XS.aloadN XL.here hx rfl (hb hby d1_22) rfl rfl k) ?_
    refine own_by (T' := TL) (f' := (mkF m 24 #[.val (.ref ca), .val (.int iv), .val (.long v0), .second] [(.int iv), (.ref ca)])) (fun t k => XS.iloadN XL.here hx rfl (hb hby d1_23) rfl k) ?_
    refine own_by (T' := TL) (f' := (mkF m 25 #[.val (.ref ca), .val (.int iv), .val (.long v0), .second] [(.int (2 : Int32)), (.int iv), (.ref ca)])) (fun t k => XS.iconst XL.here hx rfl (hb hby d1_24) k) ?_
    refine own_by (T' := TL) (f' := (mkF m 26 #[.val (.ref ca), .val (.int iv), .val (.long v0), .second] [(.int (iv + (2 : Int32))), (.ref ca)])) (fun t k => XS.iadd XL.here hx rfl (hb hby d1_25) rfl k) ?_
    refine own_by (T' := TL) (f' := (mkF m 27 #[.val (.ref ca), .val (.int iv), .val (.long v0), .second] [(.long v0), (.int (iv + (2 : Int32))), (.ref ca)])) (fun t k => XS.lloadN XL.here hx rfl (hb hby d1_26) rfl k) ?_
    refine own_by (T' := TL) (f' := (mkF m 30 #[.val (.ref ca), .val (.int iv), .val (.long v0), .second] [(.long (1000000000000000 : Int64)), (.long v0), (.int (iv + (2 : Int32))), (.ref ca)])) (fun t k => XL.ldc2Long hx hown (mvT hZ (own_w hw 13 rfl)) (g := (mkF m 27 #[.val (.ref ca), .val (.int iv), .val (.long v0), .second] [(.long v0), (.int (iv + (2 : Int32))), (.ref ca)])) rfl (hb hby d1_27) _ k) ?_
    refine own_callS XL hx hZ hown eL (hb hby d1_30) [(.long v0), (.long (1000000000000000 : Int64))] [(.int (iv + (2 : Int32))), (.ref ca)] 2 (rmDG l Z a0 hw [] v0 (1000000000000000 : Int64) nv 1000000000000000 hL hv (by decide) (by decide)) (own_w hw 8 rfl) (own_w hw 9 rfl) (own_w hw 5 rfl) (own_w hw 10 rfl) (by decide) pd__JJ_C (by rw [hml]; rfl) rfl rfl (Nat.le_of_eq rfl) (by decide) (by decide) (by decide) (by decide) ?_
    rintro T86 _ L86 X86 ⟨c86, rfl, hc86, rfl, e86⟩
    rw [List.append_nil] at X86
    show own_Go p e below _ T86 (mkF m 33 #[.val (.ref ca), .val (.int iv), .val (.long v0), .second] [(.int c86), (.int (iv + (2 : Int32))), (.ref ca)])
    have hi : (iv + (2 : Int32)).toInt = ((off + 2 : Nat) : Int) := own_add hoff (by decide) (by omega)
    have _ : (2 : Int32).toInt = 2 := by decide
    refine own_stC X86 hx hZ e86 (hb hby d1_33) AL (by omega) (by omega) ?_
    intro T87 h87 X87 e87 W87 A87
    show own_Go p e below _ T87 (mkF m 34 #[.val (.ref ca), .val (.int iv), .val (.long v0), .second] [])
    have sz88 : n0 ≤ h87.size := by rw [W87.size]; exact ZL
    have K89 := KL.wr W87 (Or.inl (List.mem_of_getElem? (i := 0) rfl))
    have N87 := Fr.snoc X87 NL gca
    obtain ⟨g', hg'⟩ : ∃ z : Nat → Int32, z = (fun i => if i = (iv + (2 : Int32)).toInt.toNat then nar .char c86 else g i) := ⟨_, rfl⟩
    have A90 : own_A Z h87 ca .char 37 g' := A87.congr (fun i hi => by rw [hg'])
    have G' : own_fl f g' off nv 3 := own_fl_step (k := 2) G0 (show own_isd c86 nv (10 ^ (17 - 2)) from own_isd_cast hc86 (by decide)) (by omega) hg'
    exact seg3 g' T87 h87 _ G' X87 e87 A90 K89 N87 sz88
  have seg1 : ∀ (g : Nat → Int32) (TL : State) (hL : Heap) (LL : List Loc), own_fl f g off nv 1 → Stand p l e ({ frames := 1, cells := 0, slots := 0, locals := 40 } : Room) s m #[(.ref ca), (.int iv), (.long v0)] below meth c TL LL 0 0 → TL.heap = hL → own_A Z hL ca .char 37 g → Keep h0 hL [ca] → Fr n0 LL → n0 ≤ hL.size → own_Go p e below (own_Ends s ({ frames := 1, cells := 0, slots := 0, locals := 40 } : Room) (fun v h L => v = none ∧ Fr n0 L ∧ Keep h0 h [ca] ∧ ∃ g : Nat → Int32, own_fl f g off nv 18 ∧ own_A Z h ca .char 37 g)) TL (mkF m 10 #[.val (.ref ca), .val (.int iv), .val (.long v0), .second] []) := by
    intro g TL hL LL G0 XL eL AL KL NL ZL
    refine own_by (T' := TL) (f' := (mkF m 11 #[.val (.ref ca), .val (.int iv), .val (.long v0), .second] [(.ref ca)])) (fun t k => XS.aloadN XL.here hx rfl (hb hby d1_10) rfl rfl k) ?_
    refine own_by (T' := TL) (f' := (mkF m 12 #[.val (.ref ca), .val (.int iv), .val (.long v0), .second] [(.int iv), (.ref ca)])) (fun t k => XS.iloadN XL.here hx rfl (hb hby d1_11) rfl k) ?_
    refine own_by (T' := TL) (f' := (mkF m 13 #[.val (.ref ca), .val (.int iv), .val (.long v0), .second] [(.int (1 : Int32)), (.int iv), (.ref ca)])) (fun t k => XS.iconst XL.here hx rfl (hb hby d1_12) k) ?_
    refine own_by (T' := TL) (f' := (mkF m 14 #[.val (.ref ca), .val (.int iv), .val (.long v0), .second] [(.int (iv + (1 : Int32))), (.ref ca)])) (fun t k => XS.iadd XL.here hx rfl (hb hby d1_13) rfl k) ?_
    refine own_by (T' := TL) (f' := (mkF m 15 #[.val (.ref ca), .val (.int iv), .val (.long v0), .second] [(.long v0), (.int (iv + (1 : Int32))), (.ref ca)])) (fun t k => XS.lloadN XL.here hx rfl (hb hby d1_14) rfl k) ?_
    refine own_by (T' := TL) (f' := (mkF m 18 #[.val (.ref ca), .val (.int iv), .val (.long v0), .second] [(.long (10000000000000000 : Int64)), (.long v0), (.int (iv + (1 : Int32))), (.ref ca)])) (fun t k => XL.ldc2Long hx hown (mvT hZ (own_w hw 12 rfl)) (g := (mkF m 15 #[.val (.ref ca), .val (.int iv), .val (.long v0), .second] [(.long v0), (.int (iv + (1 : Int32))), (.ref ca)])) rfl (hb hby d1_15) _ k) ?_
    refine own_callS XL hx hZ hown eL (hb hby d1_18) [(.long v0), (.long (10000000000000000 : Int64))] [(.int (iv + (1 : Int32))), (.ref ca)] 2 (rmDG l Z a0 hw [] v0 (10000000000000000 : Int64) nv 10000000000000000 hL hv (by decide) (by decide)) (own_w hw 8 rfl) (own_w hw 9 rfl) (own_w hw 5 rfl) (own_w hw 10 rfl) (by decide) pd__JJ_C (by rw [hml]; rfl) rfl rfl (Nat.le_of_eq rfl) (by decide) (by decide) (by decide) (by decide) ?_
    rintro T91 _ L91 X91 ⟨c91, rfl, hc91, rfl, e91⟩
    rw [List.append_nil] at X91
    show own_Go p e below _ T91 (mkF m 21 #[.val (.ref ca), .val (.int iv), .val (.long v0), .second] [(.int c91), (.int (iv + (1 : Int32))), (.ref ca)])
    have hi : (iv + (1 : Int32)).toInt = ((off + 1 : Nat) : Int) := own_add hoff (by decide) (by omega)
    have _ : (1 : Int32).toInt = 1 := by decide
    refine own_stC X91 hx hZ e91 (hb hby d1_21) AL (by omega) (by omega) ?_
    intro T92 h92 X92 e92 W92 A92
    show own_Go p e below _ T92 (mkF m 22 #[.val (.ref ca), .val (.int iv), .val (.long v0), .second] [])
    have sz93 : n0 ≤ h92.size := by rw [W92.size]; exact ZL
    have K94 := KL.wr W92 (Or.inl (List.mem_of_getElem? (i := 0) rfl))
    have N92 := Fr.snoc X92 NL gca
    obtain ⟨g', hg'⟩ : ∃ z : Nat → Int32, z = (fun i => if i = (iv + (1 : Int32)).toInt.toNat then nar .char c91 else g i) := ⟨_, rfl⟩
    have A95 : own_A Z h92 ca .char 37 g' := A92.congr (fun i hi => by rw [hg'])
    have G' : own_fl f g' off nv 2 := own_fl_step (k := 1) G0 (show own_isd c91 nv (10 ^ (17 - 1)) from own_isd_cast hc91 (by decide)) (by omega) hg'
    exact seg2 g' T92 h92 _ G' X92 e92 A95 K94 N92 sz93
  have seg0 : ∀ (g : Nat → Int32) (TL : State) (hL : Heap) (LL : List Loc), own_fl f g off nv 0 → Stand p l e ({ frames := 1, cells := 0, slots := 0, locals := 40 } : Room) s m #[(.ref ca), (.int iv), (.long v0)] below meth c TL LL 0 0 → TL.heap = hL → own_A Z hL ca .char 37 g → Keep h0 hL [ca] → Fr n0 LL → n0 ≤ hL.size → own_Go p e below (own_Ends s ({ frames := 1, cells := 0, slots := 0, locals := 40 } : Room) (fun v h L => v = none ∧ Fr n0 L ∧ Keep h0 h [ca] ∧ ∃ g : Nat → Int32, own_fl f g off nv 18 ∧ own_A Z h ca .char 37 g)) TL (mkF m 0 #[.val (.ref ca), .val (.int iv), .val (.long v0), .second] []) := by
    intro g TL hL LL G0 XL eL AL KL NL ZL
    refine own_by (T' := TL) (f' := (mkF m 1 #[.val (.ref ca), .val (.int iv), .val (.long v0), .second] [(.ref ca)])) (fun t k => XS.aloadN XL.here hx rfl (hb hby d1_0) rfl rfl k) ?_
    refine own_by (T' := TL) (f' := (mkF m 2 #[.val (.ref ca), .val (.int iv), .val (.long v0), .second] [(.int iv), (.ref ca)])) (fun t k => XS.iloadN XL.here hx rfl (hb hby d1_1) rfl k) ?_
    refine own_by (T' := TL) (f' := (mkF m 3 #[.val (.ref ca), .val (.int iv), .val (.long v0), .second] [(.long v0), (.int iv), (.ref ca)])) (fun t k => XS.lloadN XL.here hx rfl (hb hby d1_2) rfl k) ?_
    refine own_by (T' := TL) (f' := (mkF m 6 #[.val (.ref ca), .val (.int iv), .val (.long v0), .second] [(.long (100000000000000000 : Int64)), (.long v0), (.int iv), (.ref ca)])) (fun t k => XL.ldc2Long hx hown (mvT hZ (own_w hw 7 rfl)) (g := (mkF m 3 #[.val (.ref ca), .val (.int iv), .val (.long v0), .second] [(.long v0), (.int iv), (.ref ca)])) rfl (hb hby d1_3) _ k) ?_
    refine own_callS XL hx hZ hown eL (hb hby d1_6) [(.long v0), (.long (100000000000000000 : Int64))] [(.int iv), (.ref ca)] 2 (rmDG l Z a0 hw [] v0 (100000000000000000 : Int64) nv 100000000000000000 hL hv (by decide) (by decide)) (own_w hw 8 rfl) (own_w hw 9 rfl) (own_w hw 5 rfl) (own_w hw 10 rfl) (by decide) pd__JJ_C (by rw [hml]; rfl) rfl rfl (Nat.le_of_eq rfl) (by decide) (by decide) (by decide) (by decide) ?_
    rintro T96 _ L96 X96 ⟨c96, rfl, hc96, rfl, e96⟩
    rw [List.append_nil] at X96
    show own_Go p e below _ T96 (mkF m 9 #[.val (.ref ca), .val (.int iv), .val (.long v0), .second] [(.int c96), (.int iv), (.ref ca)])
    have hi : iv.toInt = ((off + 0 : Nat) : Int) := hoff
    refine own_stC X96 hx hZ e96 (hb hby d1_9) AL (by omega) (by omega) ?_
    intro T97 h97 X97 e97 W97 A97
    show own_Go p e below _ T97 (mkF m 10 #[.val (.ref ca), .val (.int iv), .val (.long v0), .second] [])
    have sz98 : n0 ≤ h97.size := by rw [W97.size]; exact ZL
    have K99 := KL.wr W97 (Or.inl (List.mem_of_getElem? (i := 0) rfl))
    have N97 := Fr.snoc X97 NL gca
    obtain ⟨g', hg'⟩ : ∃ z : Nat → Int32, z = (fun i => if i = iv.toInt.toNat then nar .char c96 else g i) := ⟨_, rfl⟩
    have A100 : own_A Z h97 ca .char 37 g' := A97.congr (fun i hi => by rw [hg'])
    have G' : own_fl f g' off nv 1 := own_fl_step (k := 0) G0 (show own_isd c96 nv (10 ^ (17 - 0)) from own_isd_cast hc96 (by decide)) (by omega) hg'
    exact seg1 g' T97 h97 _ G' X97 e97 A100 K99 N97 sz98
  rw [ef_rmFI]
  exact seg0 f s₁ h0 _ (own_fl0 f off nv) X0 e0 A1 (Keep.refl h0 [ca]) (Fr.nil n0) Z0
theorem ef_rmMH (m : MethodId) (x0 : Int64) (x1 : Int64) : entryFrame m #[(.long x0), (.long x1)] 20 = mkF m 0 #[.val (.long x0), .second, .val (.long x1), .second, .unset, .unset, .unset, .unset, .unset, .unset, .unset, .unset, .unset, .unset, .unset, .unset, .unset, .unset, .unset, .unset] [] := by first | (simp [entryFrame, mkF, argsToLocals, Value.category]; done) | rfl
set_option maxRecDepth 65536 in
set_option maxHeartbeats 40000000 in
theorem rmMH (l : Launch) (Z : State) (a0 : Array Value) (hw : ∀ d ∈ tables_1, d.before a0 Z = true) (ws : List Jvm.Cond) (p1 : Int64) (h0 : Heap)  :
    own_Ct l Z (⟨"java/lang/Math", "multiplyHigh", "(JJ)J"⟩ : MethodName) jdk_29_method_45_code 20 (some .long) ws ({ frames := 0, cells := 0, slots := 0, locals := 0 } : Room) #[(.long p1), (.long (10 : Int64))] h0 (fun v h L => ∃ r : Int64, v = some (.long r) ∧ r.toInt = p1.toInt * 10 / 18446744073709551616 ∧ L = [] ∧ h = h0) := by
  refine own_of pf_java_lang_MathmultiplyHigh_JJ_J ?_
  intro p e s m below meth c s₁ hx hby hml hown hnm hret hlk hZ X0 e0
  rw [ef_rmMH]
  refine own_by (T' := s₁) (f' := (mkF m 1 #[.val (.long p1), .second, .val (.long (10 : Int64)), .second, .unset, .unset, .unset, .unset, .unset, .unset, .unset, .unset, .unset, .unset, .unset, .unset, .unset, .unset, .unset, .unset] [(.long p1)])) (fun t k => XS.lloadN X0.here hx rfl (hb hby d9_0) rfl k) ?_
  refine own_by (T' := s₁) (f' := (mkF m 3 #[.val (.long p1), .second, .val (.long (10 : Int64)), .second, .unset, .unset, .unset, .unset, .unset, .unset, .unset, .unset, .unset, .unset, .unset, .unset, .unset, .unset, .unset, .unset] [(.int (32 : Int32)), (.long p1)])) (fun t k => XS.bipush X0.here hx rfl (hb hby d9_1) k) ?_
  refine own_by (T' := s₁) (f' := (mkF m 4 #[.val (.long p1), .second, .val (.long (10 : Int64)), .second, .unset, .unset, .unset, .unset, .unset, .unset, .unset, .unset, .unset, .unset, .unset, .unset, .unset, .unset, .unset, .unset] [(.long (p1 >>> ((32 : Int32) &&& 0x3f).toInt64))])) (fun t k => XS.lshr X0.here hx rfl (hb hby d9_3) rfl k) ?_
  obtain ⟨x1, hx1⟩ : ∃ z : Int64, z = (p1 >>> ((32 : Int32) &&& 0x3f).toInt64) := ⟨_, rfl⟩
  rw [← hx1]
  show own_Go p e below _ s₁ (mkF m 4 #[.val (.long p1), .second, .val (.long (10 : Int64)), .second, .unset, .unset, .unset, .unset, .unset, .unset, .unset, .unset, .unset, .unset, .unset, .unset, .unset, .unset, .unset, .unset] [(.long x1)])
  refine own_by (T' := s₁) (f' := (mkF m 6 #[.val (.long p1), .second, .val (.long (10 : Int64)), .second, .val (.long x1), .second, .unset, .unset, .unset, .unset, .unset, .unset, .unset, .unset, .unset, .unset, .unset, .unset, .unset, .unset] [])) (fun t k => XS.lstore X0.here hx rfl (hb hby d9_4) rfl (l' := #[.val (.long p1), .second, .val (.long (10 : Int64)), .second, .val (.long x1), .second, .unset, .unset, .unset, .unset, .unset, .unset, .unset, .unset, .unset, .unset, .unset, .unset, .unset, .unset]) rfl k) ?_
  refine own_by (T' := s₁) (f' := (mkF m 7 #[.val (.long p1), .second, .val (.long (10 : Int64)), .second, .val (.long x1), .second, .unset, .unset, .unset, .unset, .unset, .unset, .unset, .unset, .unset, .unset, .unset, .unset, .unset, .unset] [(.long p1)])) (fun t k => XS.lloadN X0.here hx rfl (hb hby d9_6) rfl k) ?_
  refine own_by (T' := s₁) (f' := (mkF m 10 #[.val (.long p1), .second, .val (.long (10 : Int64)), .second, .val (.long x1), .second, .unset, .unset, .unset, .unset, .unset, .unset, .unset, .unset, .unset, .unset, .unset, .unset, .unset, .unset] [(.long (4294967295 : Int64)), (.long p1)])) (fun t k => X0.ldc2Long hx hown (mvT hZ (own_w hw 80 rfl)) (g := (mkF m 7 #[.val (.long p1), .second, .val (.long (10 : Int64)), .second, .val (.long x1), .second, .unset, .unset, .unset, .unset, .unset, .unset, .unset, .unset, .unset, .unset, .unset, .unset, .unset, .unset] [(.long p1)])) rfl (hb hby d9_7) _ k) ?_
  refine own_by (T' := s₁) (f' := (mkF m 11 #[.val (.long p1), .second, .val (.long (10 : Int64)), .second, .val (.long x1), .second, .unset, .unset, .unset, .unset, .unset, .unset, .unset, .unset, .unset, .unset, .unset, .unset, .unset, .unset] [(.long (p1 &&& (4294967295 : Int64)))])) (fun t k => XS.land X0.here hx rfl (hb hby d9_10) rfl k) ?_
  obtain ⟨x0, hx0⟩ : ∃ z : Int64, z = (p1 &&& (4294967295 : Int64)) := ⟨_, rfl⟩
  rw [← hx0]
  show own_Go p e below _ s₁ (mkF m 11 #[.val (.long p1), .second, .val (.long (10 : Int64)), .second, .val (.long x1), .second, .unset, .unset, .unset, .unset, .unset, .unset, .unset, .unset, .unset, .unset, .unset, .unset, .unset, .unset] [(.long x0)])
  refine own_by (T' := s₁) (f' := (mkF m 13 #[.val (.long p1), .second, .val (.long (10 : Int64)), .second, .val (.long x1), .second, .val (.long x0), .second, .unset, .unset, .unset, .unset, .unset, .unset, .unset, .unset, .unset, .unset, .unset, .unset] [])) (fun t k => XS.lstore X0.here hx rfl (hb hby d9_11) rfl (l' := #[.val (.long p1), .second, .val (.long (10 : Int64)), .second, .val (.long x1), .second, .val (.long x0), .second, .unset, .unset, .unset, .unset, .unset, .unset, .unset, .unset, .unset, .unset, .unset, .unset]) rfl k) ?_
  refine own_by (T' := s₁) (f' := (mkF m 14 #[.val (.long p1), .second, .val (.long (10 : Int64)), .second, .val (.long x1), .second, .val (.long x0), .second, .unset, .unset, .unset, .unset, .unset, .unset, .unset, .unset, .unset, .unset, .unset, .unset] [(.long (10 : Int64))])) (fun t k => XS.lloadN X0.here hx rfl (hb hby d9_13) rfl k) ?_
  refine own_by (T' := s₁) (f' := (mkF m 16 #[.val (.long p1), .second, .val (.long (10 : Int64)), .second, .val (.long x1), .second, .val (.long x0), .second, .unset, .unset, .unset, .unset, .unset, .unset, .unset, .unset, .unset, .unset, .unset, .unset] [(.int (32 : Int32)), (.long (10 : Int64))])) (fun t k => XS.bipush X0.here hx rfl (hb hby d9_14) k) ?_
  refine own_by (T' := s₁) (f' := (mkF m 17 #[.val (.long p1), .second, .val (.long (10 : Int64)), .second, .val (.long x1), .second, .val (.long x0), .second, .unset, .unset, .unset, .unset, .unset, .unset, .unset, .unset, .unset, .unset, .unset, .unset] [(.long ((10 : Int64) >>> ((32 : Int32) &&& 0x3f).toInt64))])) (fun t k => XS.lshr X0.here hx rfl (hb hby d9_16) rfl k) ?_
  obtain ⟨y1, hy1⟩ : ∃ z : Int64, z = ((10 : Int64) >>> ((32 : Int32) &&& 0x3f).toInt64) := ⟨_, rfl⟩
  rw [← hy1]
  show own_Go p e below _ s₁ (mkF m 17 #[.val (.long p1), .second, .val (.long (10 : Int64)), .second, .val (.long x1), .second, .val (.long x0), .second, .unset, .unset, .unset, .unset, .unset, .unset, .unset, .unset, .unset, .unset, .unset, .unset] [(.long y1)])
  refine own_by (T' := s₁) (f' := (mkF m 19 #[.val (.long p1), .second, .val (.long (10 : Int64)), .second, .val (.long x1), .second, .val (.long x0), .second, .val (.long y1), .second, .unset, .unset, .unset, .unset, .unset, .unset, .unset, .unset, .unset, .unset] [])) (fun t k => XS.lstore X0.here hx rfl (hb hby d9_17) rfl (l' := #[.val (.long p1), .second, .val (.long (10 : Int64)), .second, .val (.long x1), .second, .val (.long x0), .second, .val (.long y1), .second, .unset, .unset, .unset, .unset, .unset, .unset, .unset, .unset, .unset, .unset]) rfl k) ?_
  refine own_by (T' := s₁) (f' := (mkF m 20 #[.val (.long p1), .second, .val (.long (10 : Int64)), .second, .val (.long x1), .second, .val (.long x0), .second, .val (.long y1), .second, .unset, .unset, .unset, .unset, .unset, .unset, .unset, .unset, .unset, .unset] [(.long (10 : Int64))])) (fun t k => XS.lloadN X0.here hx rfl (hb hby d9_19) rfl k) ?_
  refine own_by (T' := s₁) (f' := (mkF m 23 #[.val (.long p1), .second, .val (.long (10 : Int64)), .second, .val (.long x1), .second, .val (.long x0), .second, .val (.long y1), .second, .unset, .unset, .unset, .unset, .unset, .unset, .unset, .unset, .unset, .unset] [(.long (4294967295 : Int64)), (.long (10 : Int64))])) (fun t k => X0.ldc2Long hx hown (mvT hZ (own_w hw 80 rfl)) (g := (mkF m 20 #[.val (.long p1), .second, .val (.long (10 : Int64)), .second, .val (.long x1), .second, .val (.long x0), .second, .val (.long y1), .second, .unset, .unset, .unset, .unset, .unset, .unset, .unset, .unset, .unset, .unset] [(.long (10 : Int64))])) rfl (hb hby d9_20) _ k) ?_
  refine own_by (T' := s₁) (f' := (mkF m 24 #[.val (.long p1), .second, .val (.long (10 : Int64)), .second, .val (.long x1), .second, .val (.long x0), .second, .val (.long y1), .second, .unset, .unset, .unset, .unset, .unset, .unset, .unset, .unset, .unset, .unset] [(.long ((10 : Int64) &&& (4294967295 : Int64)))])) (fun t k => XS.land X0.here hx rfl (hb hby d9_23) rfl k) ?_
  obtain ⟨y0, hy0⟩ : ∃ z : Int64, z = ((10 : Int64) &&& (4294967295 : Int64)) := ⟨_, rfl⟩
  rw [← hy0]
  show own_Go p e below _ s₁ (mkF m 24 #[.val (.long p1), .second, .val (.long (10 : Int64)), .second, .val (.long x1), .second, .val (.long x0), .second, .val (.long y1), .second, .unset, .unset, .unset, .unset, .unset, .unset, .unset, .unset, .unset, .unset] [(.long y0)])
  refine own_by (T' := s₁) (f' := (mkF m 26 #[.val (.long p1), .second, .val (.long (10 : Int64)), .second, .val (.long x1), .second, .val (.long x0), .second, .val (.long y1), .second, .val (.long y0), .second, .unset, .unset, .unset, .unset, .unset, .unset, .unset, .unset] [])) (fun t k => XS.lstore X0.here hx rfl (hb hby d9_24) rfl (l' := #[.val (.long p1), .second, .val (.long (10 : Int64)), .second, .val (.long x1), .second, .val (.long x0), .second, .val (.long y1), .second, .val (.long y0), .second, .unset, .unset, .unset, .unset, .unset, .unset, .unset, .unset]) rfl k) ?_
  refine own_by (T' := s₁) (f' := (mkF m 28 #[.val (.long p1), .second, .val (.long (10 : Int64)), .second, .val (.long x1), .second, .val (.long x0), .second, .val (.long y1), .second, .val (.long y0), .second, .unset, .unset, .unset, .unset, .unset, .unset, .unset, .unset] [(.long x0)])) (fun t k => XS.lload X0.here hx rfl (hb hby d9_26) rfl k) ?_
  refine own_by (T' := s₁) (f' := (mkF m 30 #[.val (.long p1), .second, .val (.long (10 : Int64)), .second, .val (.long x1), .second, .val (.long x0), .second, .val (.long y1), .second, .val (.long y0), .second, .unset, .unset, .unset, .unset, .unset, .unset, .unset, .unset] [(.long y0), (.long x0)])) (fun t k => XS.lload X0.here hx rfl (hb hby d9_28) rfl k) ?_
  refine own_by (T' := s₁) (f' := (mkF m 31 #[.val (.long p1), .second, .val (.long (10 : Int64)), .second, .val (.long x1), .second, .val (.long x0), .second, .val (.long y1), .second, .val (.long y0), .second, .unset, .unset, .unset, .unset, .unset, .unset, .unset, .unset] [(.long (x0 * y0))])) (fun t k => XS.lmul X0.here hx rfl (hb hby d9_30) rfl k) ?_
  obtain ⟨z0, hz0⟩ : ∃ z : Int64, z = (x0 * y0) := ⟨_, rfl⟩
  rw [← hz0]
  show own_Go p e below _ s₁ (mkF m 31 #[.val (.long p1), .second, .val (.long (10 : Int64)), .second, .val (.long x1), .second, .val (.long x0), .second, .val (.long y1), .second, .val (.long y0), .second, .unset, .unset, .unset, .unset, .unset, .unset, .unset, .unset] [(.long z0)])
  refine own_by (T' := s₁) (f' := (mkF m 33 #[.val (.long p1), .second, .val (.long (10 : Int64)), .second, .val (.long x1), .second, .val (.long x0), .second, .val (.long y1), .second, .val (.long y0), .second, .val (.long z0), .second, .unset, .unset, .unset, .unset, .unset, .unset] [])) (fun t k => XS.lstore X0.here hx rfl (hb hby d9_31) rfl (l' := #[.val (.long p1), .second, .val (.long (10 : Int64)), .second, .val (.long x1), .second, .val (.long x0), .second, .val (.long y1), .second, .val (.long y0), .second, .val (.long z0), .second, .unset, .unset, .unset, .unset, .unset, .unset]) rfl k) ?_
  refine own_by (T' := s₁) (f' := (mkF m 35 #[.val (.long p1), .second, .val (.long (10 : Int64)), .second, .val (.long x1), .second, .val (.long x0), .second, .val (.long y1), .second, .val (.long y0), .second, .val (.long z0), .second, .unset, .unset, .unset, .unset, .unset, .unset] [(.long x1)])) (fun t k => XS.lload X0.here hx rfl (hb hby d9_33) rfl k) ?_
  refine own_by (T' := s₁) (f' := (mkF m 37 #[.val (.long p1), .second, .val (.long (10 : Int64)), .second, .val (.long x1), .second, .val (.long x0), .second, .val (.long y1), .second, .val (.long y0), .second, .val (.long z0), .second, .unset, .unset, .unset, .unset, .unset, .unset] [(.long y0), (.long x1)])) (fun t k => XS.lload X0.here hx rfl (hb hby d9_35) rfl k) ?_
  refine own_by (T' := s₁) (f' := (mkF m 38 #[.val (.long p1), .second, .val (.long (10 : Int64)), .second, .val (.long x1), .second, .val (.long x0), .second, .val (.long y1), .second, .val (.long y0), .second, .val (.long z0), .second, .unset, .unset, .unset, .unset, .unset, .unset] [(.long (x1 * y0))])) (fun t k => XS.lmul X0.here hx rfl (hb hby d9_37) rfl k) ?_
  refine own_by (T' := s₁) (f' := (mkF m 40 #[.val (.long p1), .second, .val (.long (10 : Int64)), .second, .val (.long x1), .second, .val (.long x0), .second, .val (.long y1), .second, .val (.long y0), .second, .val (.long z0), .second, .unset, .unset, .unset, .unset, .unset, .unset] [(.long z0), (.long (x1 * y0))])) (fun t k => XS.lload X0.here hx rfl (hb hby d9_38) rfl k) ?_
  refine own_by (T' := s₁) (f' := (mkF m 42 #[.val (.long p1), .second, .val (.long (10 : Int64)), .second, .val (.long x1), .second, .val (.long x0), .second, .val (.long y1), .second, .val (.long y0), .second, .val (.long z0), .second, .unset, .unset, .unset, .unset, .unset, .unset] [(.int (32 : Int32)), (.long z0), (.long (x1 * y0))])) (fun t k => XS.bipush X0.here hx rfl (hb hby d9_40) k) ?_
  refine own_by (T' := s₁) (f' := (mkF m 43 #[.val (.long p1), .second, .val (.long (10 : Int64)), .second, .val (.long x1), .second, .val (.long x0), .second, .val (.long y1), .second, .val (.long y0), .second, .val (.long z0), .second, .unset, .unset, .unset, .unset, .unset, .unset] [(.long ((z0.toUInt64 >>> ((32 : Int32) &&& 0x3f).toInt64.toUInt64).toInt64)), (.long (x1 * y0))])) (fun t k => XS.lushr X0.here hx rfl (hb hby d9_42) rfl k) ?_
  refine own_by (T' := s₁) (f' := (mkF m 44 #[.val (.long p1), .second, .val (.long (10 : Int64)), .second, .val (.long x1), .second, .val (.long x0), .second, .val (.long y1), .second, .val (.long y0), .second, .val (.long z0), .second, .unset, .unset, .unset, .unset, .unset, .unset] [(.long ((x1 * y0) + ((z0.toUInt64 >>> ((32 : Int32) &&& 0x3f).toInt64.toUInt64).toInt64)))])) (fun t k => XS.ladd X0.here hx rfl (hb hby d9_43) rfl k) ?_
  obtain ⟨tt, htt⟩ : ∃ z : Int64, z = ((x1 * y0) + ((z0.toUInt64 >>> ((32 : Int32) &&& 0x3f).toInt64.toUInt64).toInt64)) := ⟨_, rfl⟩
  rw [← htt]
  show own_Go p e below _ s₁ (mkF m 44 #[.val (.long p1), .second, .val (.long (10 : Int64)), .second, .val (.long x1), .second, .val (.long x0), .second, .val (.long y1), .second, .val (.long y0), .second, .val (.long z0), .second, .unset, .unset, .unset, .unset, .unset, .unset] [(.long tt)])
  refine own_by (T' := s₁) (f' := (mkF m 46 #[.val (.long p1), .second, .val (.long (10 : Int64)), .second, .val (.long x1), .second, .val (.long x0), .second, .val (.long y1), .second, .val (.long y0), .second, .val (.long z0), .second, .val (.long tt), .second, .unset, .unset, .unset, .unset] [])) (fun t k => XS.lstore X0.here hx rfl (hb hby d9_44) rfl (l' := #[.val (.long p1), .second, .val (.long (10 : Int64)), .second, .val (.long x1), .second, .val (.long x0), .second, .val (.long y1), .second, .val (.long y0), .second, .val (.long z0), .second, .val (.long tt), .second, .unset, .unset, .unset, .unset]) rfl k) ?_
  refine own_by (T' := s₁) (f' := (mkF m 48 #[.val (.long p1), .second, .val (.long (10 : Int64)), .second, .val (.long x1), .second, .val (.long x0), .second, .val (.long y1), .second, .val (.long y0), .second, .val (.long z0), .second, .val (.long tt), .second, .unset, .unset, .unset, .unset] [(.long tt)])) (fun t k => XS.lload X0.here hx rfl (hb hby d9_46) rfl k) ?_
  refine own_by (T' := s₁) (f' := (mkF m 51 #[.val (.long p1), .second, .val (.long (10 : Int64)), .second, .val (.long x1), .second, .val (.long x0), .second, .val (.long y1), .second, .val (.long y0), .second, .val (.long z0), .second, .val (.long tt), .second, .unset, .unset, .unset, .unset] [(.long (4294967295 : Int64)), (.long tt)])) (fun t k => X0.ldc2Long hx hown (mvT hZ (own_w hw 80 rfl)) (g := (mkF m 48 #[.val (.long p1), .second, .val (.long (10 : Int64)), .second, .val (.long x1), .second, .val (.long x0), .second, .val (.long y1), .second, .val (.long y0), .second, .val (.long z0), .second, .val (.long tt), .second, .unset, .unset, .unset, .unset] [(.long tt)])) rfl (hb hby d9_48) _ k) ?_
  refine own_by (T' := s₁) (f' := (mkF m 52 #[.val (.long p1), .second, .val (.long (10 : Int64)), .second, .val (.long x1), .second, .val (.long x0), .second, .val (.long y1), .second, .val (.long y0), .second, .val (.long z0), .second, .val (.long tt), .second, .unset, .unset, .unset, .unset] [(.long (tt &&& (4294967295 : Int64)))])) (fun t k => XS.land X0.here hx rfl (hb hby d9_51) rfl k) ?_
  obtain ⟨z1, hz1⟩ : ∃ z : Int64, z = (tt &&& (4294967295 : Int64)) := ⟨_, rfl⟩
  rw [← hz1]
  show own_Go p e below _ s₁ (mkF m 52 #[.val (.long p1), .second, .val (.long (10 : Int64)), .second, .val (.long x1), .second, .val (.long x0), .second, .val (.long y1), .second, .val (.long y0), .second, .val (.long z0), .second, .val (.long tt), .second, .unset, .unset, .unset, .unset] [(.long z1)])
  refine own_by (T' := s₁) (f' := (mkF m 54 #[.val (.long p1), .second, .val (.long (10 : Int64)), .second, .val (.long x1), .second, .val (.long x0), .second, .val (.long y1), .second, .val (.long y0), .second, .val (.long z0), .second, .val (.long tt), .second, .val (.long z1), .second, .unset, .unset] [])) (fun t k => XS.lstore X0.here hx rfl (hb hby d9_52) rfl (l' := #[.val (.long p1), .second, .val (.long (10 : Int64)), .second, .val (.long x1), .second, .val (.long x0), .second, .val (.long y1), .second, .val (.long y0), .second, .val (.long z0), .second, .val (.long tt), .second, .val (.long z1), .second, .unset, .unset]) rfl k) ?_
  refine own_by (T' := s₁) (f' := (mkF m 56 #[.val (.long p1), .second, .val (.long (10 : Int64)), .second, .val (.long x1), .second, .val (.long x0), .second, .val (.long y1), .second, .val (.long y0), .second, .val (.long z0), .second, .val (.long tt), .second, .val (.long z1), .second, .unset, .unset] [(.long tt)])) (fun t k => XS.lload X0.here hx rfl (hb hby d9_54) rfl k) ?_
  refine own_by (T' := s₁) (f' := (mkF m 58 #[.val (.long p1), .second, .val (.long (10 : Int64)), .second, .val (.long x1), .second, .val (.long x0), .second, .val (.long y1), .second, .val (.long y0), .second, .val (.long z0), .second, .val (.long tt), .second, .val (.long z1), .second, .unset, .unset] [(.int (32 : Int32)), (.long tt)])) (fun t k => XS.bipush X0.here hx rfl (hb hby d9_56) k) ?_
  refine own_by (T' := s₁) (f' := (mkF m 59 #[.val (.long p1), .second, .val (.long (10 : Int64)), .second, .val (.long x1), .second, .val (.long x0), .second, .val (.long y1), .second, .val (.long y0), .second, .val (.long z0), .second, .val (.long tt), .second, .val (.long z1), .second, .unset, .unset] [(.long (tt >>> ((32 : Int32) &&& 0x3f).toInt64))])) (fun t k => XS.lshr X0.here hx rfl (hb hby d9_58) rfl k) ?_
  obtain ⟨z2, hz2⟩ : ∃ z : Int64, z = (tt >>> ((32 : Int32) &&& 0x3f).toInt64) := ⟨_, rfl⟩
  rw [← hz2]
  show own_Go p e below _ s₁ (mkF m 59 #[.val (.long p1), .second, .val (.long (10 : Int64)), .second, .val (.long x1), .second, .val (.long x0), .second, .val (.long y1), .second, .val (.long y0), .second, .val (.long z0), .second, .val (.long tt), .second, .val (.long z1), .second, .unset, .unset] [(.long z2)])
  refine own_by (T' := s₁) (f' := (mkF m 61 #[.val (.long p1), .second, .val (.long (10 : Int64)), .second, .val (.long x1), .second, .val (.long x0), .second, .val (.long y1), .second, .val (.long y0), .second, .val (.long z0), .second, .val (.long tt), .second, .val (.long z1), .second, .val (.long z2), .second] [])) (fun t k => XS.lstore X0.here hx rfl (hb hby d9_59) rfl (l' := #[.val (.long p1), .second, .val (.long (10 : Int64)), .second, .val (.long x1), .second, .val (.long x0), .second, .val (.long y1), .second, .val (.long y0), .second, .val (.long z0), .second, .val (.long tt), .second, .val (.long z1), .second, .val (.long z2), .second]) rfl k) ?_
  refine own_by (T' := s₁) (f' := (mkF m 63 #[.val (.long p1), .second, .val (.long (10 : Int64)), .second, .val (.long x1), .second, .val (.long x0), .second, .val (.long y1), .second, .val (.long y0), .second, .val (.long z0), .second, .val (.long tt), .second, .val (.long z1), .second, .val (.long z2), .second] [(.long z1)])) (fun t k => XS.lload X0.here hx rfl (hb hby d9_61) rfl k) ?_
  refine own_by (T' := s₁) (f' := (mkF m 65 #[.val (.long p1), .second, .val (.long (10 : Int64)), .second, .val (.long x1), .second, .val (.long x0), .second, .val (.long y1), .second, .val (.long y0), .second, .val (.long z0), .second, .val (.long tt), .second, .val (.long z1), .second, .val (.long z2), .second] [(.long x0), (.long z1)])) (fun t k => XS.lload X0.here hx rfl (hb hby d9_63) rfl k) ?_
  refine own_by (T' := s₁) (f' := (mkF m 67 #[.val (.long p1), .second, .val (.long (10 : Int64)), .second, .val (.long x1), .second, .val (.long x0), .second, .val (.long y1), .second, .val (.long y0), .second, .val (.long z0), .second, .val (.long tt), .second, .val (.long z1), .second, .val (.long z2), .second] [(.long y1), (.long x0), (.long z1)])) (fun t k => XS.lload X0.here hx rfl (hb hby d9_65) rfl k) ?_
  refine own_by (T' := s₁) (f' := (mkF m 68 #[.val (.long p1), .second, .val (.long (10 : Int64)), .second, .val (.long x1), .second, .val (.long x0), .second, .val (.long y1), .second, .val (.long y0), .second, .val (.long z0), .second, .val (.long tt), .second, .val (.long z1), .second, .val (.long z2), .second] [(.long (x0 * y1)), (.long z1)])) (fun t k => XS.lmul X0.here hx rfl (hb hby d9_67) rfl k) ?_
  refine own_by (T' := s₁) (f' := (mkF m 69 #[.val (.long p1), .second, .val (.long (10 : Int64)), .second, .val (.long x1), .second, .val (.long x0), .second, .val (.long y1), .second, .val (.long y0), .second, .val (.long z0), .second, .val (.long tt), .second, .val (.long z1), .second, .val (.long z2), .second] [(.long (z1 + (x0 * y1)))])) (fun t k => XS.ladd X0.here hx rfl (hb hby d9_68) rfl k) ?_
  obtain ⟨zz, hzz⟩ : ∃ z : Int64, z = (z1 + (x0 * y1)) := ⟨_, rfl⟩
  rw [← hzz]
  show own_Go p e below _ s₁ (mkF m 69 #[.val (.long p1), .second, .val (.long (10 : Int64)), .second, .val (.long x1), .second, .val (.long x0), .second, .val (.long y1), .second, .val (.long y0), .second, .val (.long z0), .second, .val (.long tt), .second, .val (.long z1), .second, .val (.long z2), .second] [(.long zz)])
  refine own_by (T' := s₁) (f' := (mkF m 71 #[.val (.long p1), .second, .val (.long (10 : Int64)), .second, .val (.long x1), .second, .val (.long x0), .second, .val (.long y1), .second, .val (.long y0), .second, .val (.long z0), .second, .val (.long tt), .second, .val (.long zz), .second, .val (.long z2), .second] [])) (fun t k => XS.lstore X0.here hx rfl (hb hby d9_69) rfl (l' := #[.val (.long p1), .second, .val (.long (10 : Int64)), .second, .val (.long x1), .second, .val (.long x0), .second, .val (.long y1), .second, .val (.long y0), .second, .val (.long z0), .second, .val (.long tt), .second, .val (.long zz), .second, .val (.long z2), .second]) rfl k) ?_
  refine own_by (T' := s₁) (f' := (mkF m 73 #[.val (.long p1), .second, .val (.long (10 : Int64)), .second, .val (.long x1), .second, .val (.long x0), .second, .val (.long y1), .second, .val (.long y0), .second, .val (.long z0), .second, .val (.long tt), .second, .val (.long zz), .second, .val (.long z2), .second] [(.long x1)])) (fun t k => XS.lload X0.here hx rfl (hb hby d9_71) rfl k) ?_
  refine own_by (T' := s₁) (f' := (mkF m 75 #[.val (.long p1), .second, .val (.long (10 : Int64)), .second, .val (.long x1), .second, .val (.long x0), .second, .val (.long y1), .second, .val (.long y0), .second, .val (.long z0), .second, .val (.long tt), .second, .val (.long zz), .second, .val (.long z2), .second] [(.long y1), (.long x1)])) (fun t k => XS.lload X0.here hx rfl (hb hby d9_73) rfl k) ?_
  refine own_by (T' := s₁) (f' := (mkF m 76 #[.val (.long p1), .second, .val (.long (10 : Int64)), .second, .val (.long x1), .second, .val (.long x0), .second, .val (.long y1), .second, .val (.long y0), .second, .val (.long z0), .second, .val (.long tt), .second, .val (.long zz), .second, .val (.long z2), .second] [(.long (x1 * y1))])) (fun t k => XS.lmul X0.here hx rfl (hb hby d9_75) rfl k) ?_
  refine own_by (T' := s₁) (f' := (mkF m 78 #[.val (.long p1), .second, .val (.long (10 : Int64)), .second, .val (.long x1), .second, .val (.long x0), .second, .val (.long y1), .second, .val (.long y0), .second, .val (.long z0), .second, .val (.long tt), .second, .val (.long zz), .second, .val (.long z2), .second] [(.long z2), (.long (x1 * y1))])) (fun t k => XS.lload X0.here hx rfl (hb hby d9_76) rfl k) ?_
  refine own_by (T' := s₁) (f' := (mkF m 79 #[.val (.long p1), .second, .val (.long (10 : Int64)), .second, .val (.long x1), .second, .val (.long x0), .second, .val (.long y1), .second, .val (.long y0), .second, .val (.long z0), .second, .val (.long tt), .second, .val (.long zz), .second, .val (.long z2), .second] [(.long ((x1 * y1) + z2))])) (fun t k => XS.ladd X0.here hx rfl (hb hby d9_78) rfl k) ?_
  refine own_by (T' := s₁) (f' := (mkF m 81 #[.val (.long p1), .second, .val (.long (10 : Int64)), .second, .val (.long x1), .second, .val (.long x0), .second, .val (.long y1), .second, .val (.long y0), .second, .val (.long z0), .second, .val (.long tt), .second, .val (.long zz), .second, .val (.long z2), .second] [(.long zz), (.long ((x1 * y1) + z2))])) (fun t k => XS.lload X0.here hx rfl (hb hby d9_79) rfl k) ?_
  refine own_by (T' := s₁) (f' := (mkF m 83 #[.val (.long p1), .second, .val (.long (10 : Int64)), .second, .val (.long x1), .second, .val (.long x0), .second, .val (.long y1), .second, .val (.long y0), .second, .val (.long z0), .second, .val (.long tt), .second, .val (.long zz), .second, .val (.long z2), .second] [(.int (32 : Int32)), (.long zz), (.long ((x1 * y1) + z2))])) (fun t k => XS.bipush X0.here hx rfl (hb hby d9_81) k) ?_
  refine own_by (T' := s₁) (f' := (mkF m 84 #[.val (.long p1), .second, .val (.long (10 : Int64)), .second, .val (.long x1), .second, .val (.long x0), .second, .val (.long y1), .second, .val (.long y0), .second, .val (.long z0), .second, .val (.long tt), .second, .val (.long zz), .second, .val (.long z2), .second] [(.long (zz >>> ((32 : Int32) &&& 0x3f).toInt64)), (.long ((x1 * y1) + z2))])) (fun t k => XS.lshr X0.here hx rfl (hb hby d9_83) rfl k) ?_
  refine own_by (T' := s₁) (f' := (mkF m 85 #[.val (.long p1), .second, .val (.long (10 : Int64)), .second, .val (.long x1), .second, .val (.long x0), .second, .val (.long y1), .second, .val (.long y0), .second, .val (.long z0), .second, .val (.long tt), .second, .val (.long zz), .second, .val (.long z2), .second] [(.long (((x1 * y1) + z2) + (zz >>> ((32 : Int32) &&& 0x3f).toInt64)))])) (fun t k => XS.ladd X0.here hx rfl (hb hby d9_84) rfl k) ?_
  obtain ⟨rr, hrr⟩ : ∃ z : Int64, z = (((x1 * y1) + z2) + (zz >>> ((32 : Int32) &&& 0x3f).toInt64)) := ⟨_, rfl⟩
  rw [← hrr]
  show own_Go p e below _ s₁ (mkF m 85 #[.val (.long p1), .second, .val (.long (10 : Int64)), .second, .val (.long x1), .second, .val (.long x0), .second, .val (.long y1), .second, .val (.long y0), .second, .val (.long z0), .second, .val (.long tt), .second, .val (.long zz), .second, .val (.long z2), .second] [(.long rr)])
  refine own_retJ X0 hx hret hlk (hb hby d9_85) (by decide) (by decide) ?_
  try rw [e0]
  exact ⟨_, rfl, own_mh hx1 hx0 hy1 hy0 hz0 htt hz1 hz2 hzz hrr, rfl, rfl⟩
theorem ef_rmCM (m : MethodId) (x0 : Int64) (x1 : Int64) : entryFrame m #[(.long x0), (.long x1)] 4 = mkF m 0 #[.val (.long x0), .second, .val (.long x1), .second] [] := by first | (simp [entryFrame, mkF, argsToLocals, Value.category]; done) | rfl
set_option maxRecDepth 65536 in
set_option maxHeartbeats 40000000 in
theorem rmCM (l : Launch) (Z : State) (a0 : Array Value) (hw : ∀ d ∈ tables_1, d.before a0 Z = true) (ws : List Jvm.Cond) (p1 p2 : Int64) (h0 : Heap)  :
    own_Ct l Z (⟨"java/lang/Long", "compare", "(JJ)I"⟩ : MethodName) jdk_35_method_42_code 4 (some .int) ws ({ frames := 0, cells := 0, slots := 0, locals := 0 } : Room) #[(.long p1), (.long p2)] h0 (fun v h L => ∃ r : Int32, v = some (.int r) ∧ (r < 0 ↔ p1 < p2) ∧ L = [] ∧ h = h0) := by
  refine own_of (plainFor_of_name pn_java_lang_Long) ?_
  intro p e s m below meth c s₁ hx hby hml hown hnm hret hlk hZ X0 e0
  rw [ef_rmCM]
  refine own_by (T' := s₁) (f' := (mkF m 1 #[.val (.long p1), .second, .val (.long p2), .second] [(.long p1)])) (fun t k => XS.lloadN X0.here hx rfl (hb hby d11_0) rfl k) ?_
  refine own_by (T' := s₁) (f' := (mkF m 2 #[.val (.long p1), .second, .val (.long p2), .second] [(.long p2), (.long p1)])) (fun t k => XS.lloadN X0.here hx rfl (hb hby d11_1) rfl k) ?_
  refine own_by (T' := s₁) (f' := (mkF m 3 #[.val (.long p1), .second, .val (.long p2), .second] [(.int (lcmpW p1 p2))])) (fun t k => XS.lcmp X0.here hx rfl (hb hby d11_2) rfl k) ?_
  by_cases hc3_11 : p1 < p2
  · have _ := X0
    refine own_by (T' := s₁) (f' := (mkF m 6 #[.val (.long p1), .second, .val (.long p2), .second] [])) (fun t k => XS.ifNo X0.here hx rfl (hb hby d11_3) rfl ((if0 _ _).trans (tlt ((lw_lt _ _).mpr hc3_11)).2.1) k) ?_
    refine own_by (T' := s₁) (f' := (mkF m 7 #[.val (.long p1), .second, .val (.long p2), .second] [(.int (-1 : Int32))])) (fun t k => XS.iconst X0.here hx rfl (hb hby d11_6) k) ?_
    refine own_by (T' := s₁) (f' := (mkF m 21 #[.val (.long p1), .second, .val (.long p2), .second] [(.int (-1 : Int32))])) (fun t k => XS.goto X0.here hx rfl (pc0 := 7) (pc' := 21) rfl (hb hby d11_7) (by decide) (by decide) k) ?_
    refine own_retI X0 hx hret hlk (hb hby d11_21) (by decide) (by decide) ?_
    try rw [e0]
    exact ⟨_, rfl, ⟨fun _ => hc3_11, fun _ => by decide⟩, rfl, rfl⟩
  · have _ := X0
    refine own_by (T' := s₁) (f' := (mkF m 10 #[.val (.long p1), .second, .val (.long p2), .second] [])) (fun t k => XS.ifYes X0.here hx rfl (pc0 := 3) (pc' := 10) rfl (hb hby d11_3) rfl ((if0 _ _).trans (flt (mt (lw_lt _ _).mp hc3_11)).2.1) (by decide) (by decide) k) ?_
    refine own_by (T' := s₁) (f' := (mkF m 11 #[.val (.long p1), .second, .val (.long p2), .second] [(.long p1)])) (fun t k => XS.lloadN X0.here hx rfl (hb hby d11_10) rfl k) ?_
    refine own_by (T' := s₁) (f' := (mkF m 12 #[.val (.long p1), .second, .val (.long p2), .second] [(.long p2), (.long p1)])) (fun t k => XS.lloadN X0.here hx rfl (hb hby d11_11) rfl k) ?_
    refine own_by (T' := s₁) (f' := (mkF m 13 #[.val (.long p1), .second, .val (.long p2), .second] [(.int (lcmpW p1 p2))])) (fun t k => XS.lcmp X0.here hx rfl (hb hby d11_12) rfl k) ?_
    by_cases hc13_12 : p1 = p2
    · have _ := X0
      refine own_by (T' := s₁) (f' := (mkF m 16 #[.val (.long p1), .second, .val (.long p2), .second] [])) (fun t k => XS.ifNo X0.here hx rfl (hb hby d11_13) rfl ((if0 _ _).trans (teq ((lw_eq _ _).mpr hc13_12)).2) k) ?_
      refine own_by (T' := s₁) (f' := (mkF m 17 #[.val (.long p1), .second, .val (.long p2), .second] [(.int (0 : Int32))])) (fun t k => XS.iconst X0.here hx rfl (hb hby d11_16) k) ?_
      refine own_by (T' := s₁) (f' := (mkF m 21 #[.val (.long p1), .second, .val (.long p2), .second] [(.int (0 : Int32))])) (fun t k => XS.goto X0.here hx rfl (pc0 := 17) (pc' := 21) rfl (hb hby d11_17) (by decide) (by decide) k) ?_
      refine own_retI X0 hx hret hlk (hb hby d11_21) (by decide) (by decide) ?_
      try rw [e0]
      exact ⟨_, rfl, ⟨fun z => absurd z (by decide), fun z => absurd z hc3_11⟩, rfl, rfl⟩
    · have _ := X0
      refine own_by (T' := s₁) (f' := (mkF m 20 #[.val (.long p1), .second, .val (.long p2), .second] [])) (fun t k => XS.ifYes X0.here hx rfl (pc0 := 13) (pc' := 20) rfl (hb hby d11_13) rfl ((if0 _ _).trans (feq (mt (lw_eq _ _).mp hc13_12)).2) (by decide) (by decide) k) ?_
      refine own_by (T' := s₁) (f' := (mkF m 21 #[.val (.long p1), .second, .val (.long p2), .second] [(.int (1 : Int32))])) (fun t k => XS.iconst X0.here hx rfl (hb hby d11_20) k) ?_
      refine own_retI X0 hx hret hlk (hb hby d11_21) (by decide) (by decide) ?_
      try rw [e0]
      exact ⟨_, rfl, ⟨fun z => absurd z (by decide), fun z => absurd z hc3_11⟩, rfl, rfl⟩
theorem ef_rmCU (m : MethodId) (x0 : Int64) (x1 : Int64) : entryFrame m #[(.long x0), (.long x1)] 4 = mkF m 0 #[.val (.long x0), .second, .val (.long x1), .second] [] := by first | (simp [entryFrame, mkF, argsToLocals, Value.category]; done) | rfl
set_option maxRecDepth 65536 in
set_option maxHeartbeats 40000000 in
theorem rmCU (l : Launch) (Z : State) (a0 : Array Value) (hw : ∀ d ∈ tables_1, d.before a0 Z = true) (ws : List Jvm.Cond) (p1 p2 : Int64) (h0 : Heap)  :
    own_Ct l Z (⟨"java/lang/Long", "compareUnsigned", "(JJ)I"⟩ : MethodName) jdk_35_method_43_code 4 (some .int) ws ({ frames := 1, cells := 0, slots := 0, locals := 15 } : Room) #[(.long p1), (.long p2)] h0 (fun v h L => ∃ r : Int32, v = some (.int r) ∧ (r < 0 ↔ own_u p1 < own_u p2) ∧ L = [] ∧ h = h0) := by
  refine own_of (plainFor_of_name pn_java_lang_Long) ?_
  intro p e s m below meth c s₁ hx hby hml hown hnm hret hlk hZ X0 e0
  rw [ef_rmCU]
  refine own_by (T' := s₁) (f' := (mkF m 1 #[.val (.long p1), .second, .val (.long p2), .second] [(.long p1)])) (fun t k => XS.lloadN X0.here hx rfl (hb hby d10_0) rfl k) ?_
  refine own_by (T' := s₁) (f' := (mkF m 4 #[.val (.long p1), .second, .val (.long p2), .second] [(.long (-9223372036854775808 : Int64)), (.long p1)])) (fun t k => X0.ldc2Long hx hown (mvT hZ (own_w hw 85 rfl)) (g := (mkF m 1 #[.val (.long p1), .second, .val (.long p2), .second] [(.long p1)])) rfl (hb hby d10_1) _ k) ?_
  refine own_by (T' := s₁) (f' := (mkF m 5 #[.val (.long p1), .second, .val (.long p2), .second] [(.long (p1 + (-9223372036854775808 : Int64)))])) (fun t k => XS.ladd X0.here hx rfl (hb hby d10_4) rfl k) ?_
  refine own_by (T' := s₁) (f' := (mkF m 6 #[.val (.long p1), .second, .val (.long p2), .second] [(.long p2), (.long (p1 + (-9223372036854775808 : Int64)))])) (fun t k => XS.lloadN X0.here hx rfl (hb hby d10_5) rfl k) ?_
  refine own_by (T' := s₁) (f' := (mkF m 9 #[.val (.long p1), .second, .val (.long p2), .second] [(.long (-9223372036854775808 : Int64)), (.long p2), (.long (p1 + (-9223372036854775808 : Int64)))])) (fun t k => X0.ldc2Long hx hown (mvT hZ (own_w hw 85 rfl)) (g := (mkF m 6 #[.val (.long p1), .second, .val (.long p2), .second] [(.long p2), (.long (p1 + (-9223372036854775808 : Int64)))])) rfl (hb hby d10_6) _ k) ?_
  refine own_by (T' := s₁) (f' := (mkF m 10 #[.val (.long p1), .second, .val (.long p2), .second] [(.long (p2 + (-9223372036854775808 : Int64))), (.long (p1 + (-9223372036854775808 : Int64)))])) (fun t k => XS.ladd X0.here hx rfl (hb hby d10_9) rfl k) ?_
  refine own_callS X0 hx hZ hown e0 (hb hby d10_10) [(.long (p1 + (-9223372036854775808 : Int64))), (.long (p2 + (-9223372036854775808 : Int64)))] [] 0 (rmCM l Z a0 hw [] (p1 + (-9223372036854775808 : Int64)) (p2 + (-9223372036854775808 : Int64)) h0) (own_w hw 86 rfl) (own_w hw 87 rfl) (own_w hw 83 rfl) (own_w hw 88 rfl) (by decide) pd__JJ_I (by rw [hml]; rfl) rfl rfl (Nat.le_of_eq rfl) (by decide) (by decide) (by decide) (by decide) ?_
  rintro T11 _ L11 X11 ⟨r11, rfl, hr11, rfl, e11⟩
  rw [List.append_nil] at X11
  show own_Go p e below _ T11 (mkF m 13 #[.val (.long p1), .second, .val (.long p2), .second] [(.int r11)])
  refine own_retI X11 hx hret hlk (hb hby d10_13) (by decide) (by decide) ?_
  try rw [e11]
  exact ⟨_, rfl, hr11.trans (own_cuu p1 p2), rfl, rfl⟩
theorem ef_rmAP (m : MethodId) (x0 : Addr) (x1 : Int32) : entryFrame m #[(.ref x0), (.int x1)] 8 = mkF m 0 #[.val (.ref x0), .val (.int x1), .unset, .unset, .unset, .unset, .unset, .unset] [] := by first | (simp [entryFrame, mkF, argsToLocals, Value.category]; done) | rfl
set_option maxRecDepth 65536 in
set_option maxHeartbeats 40000000 in
theorem rmAP (l : Launch) (Z : State) (a0 : Array Value) (hw : ∀ d ∈ tables_1, d.before a0 Z = true) (ws : List Jvm.Cond) (o : Addr) (g0 : Int32) (v9 v10 : Int64) (W d : Nat) (u0 u1 u2 u3 u4 u5 u6 u7 u8 u11 u12 u13 : Value) (h0 : Heap) (n0 : Nat) (Z0 : n0 ≤ h0.size) (go : n0 ≤ o) (hW : own_rep v9 v10 W) (hWb : W < 10000000000000000000000000000000000000) (hg : g0.toInt = (d : Int)) (hd : d ≤ 9) (EO : Exa Z h0 o "com/example/tally_of_atoms/tallyofatoms/Numeral") (F0 : Fld Z h0 o "com/example/tally_of_atoms/tallyofatoms/Numeral" "characters" "[C" u0) (F1 : Fld Z h0 o "com/example/tally_of_atoms/tallyofatoms/Numeral" "start" "I" u1) (F2 : Fld Z h0 o "com/example/tally_of_atoms/tallyofatoms/Numeral" "end" "I" u2) (F3 : Fld Z h0 o "com/example/tally_of_atoms/tallyofatoms/Numeral" "digits" "I" u3) (F4 : Fld Z h0 o "com/example/tally_of_atoms/tallyofatoms/Numeral" "point" "Z" u4) (F5 : Fld Z h0 o "com/example/tally_of_atoms/tallyofatoms/Numeral" "exponent" "Z" u5) (F6 : Fld Z h0 o "com/example/tally_of_atoms/tallyofatoms/Numeral" "exponentDigits" "Z" u6) (F7 : Fld Z h0 o "com/example/tally_of_atoms/tallyofatoms/Numeral" "special" "I" u7) (F8 : Fld Z h0 o "com/example/tally_of_atoms/tallyofatoms/Numeral" "negative" "Z" u8) (F9 : Fld Z h0 o "com/example/tally_of_atoms/tallyofatoms/Numeral" "significand" "J" (.long v9)) (F10 : Fld Z h0 o "com/example/tally_of_atoms/tallyofatoms/Numeral" "significandHigh" "J" (.long v10)) (F11 : Fld Z h0 o "com/example/tally_of_atoms/tallyofatoms/Numeral" "significantDigits" "I" u11) (F12 : Fld Z h0 o "com/example/tally_of_atoms/tallyofatoms/Numeral" "scale" "I" u12) (F13 : Fld Z h0 o "com/example/tally_of_atoms/tallyofatoms/Numeral" "exponentValue" "I" u13) :
    own_Ct l Z (⟨"com/example/tally_of_atoms/tallyofatoms/Numeral", "appendTo128Bits", "(I)V"⟩ : MethodName) prog_102_method_25_code 8 none ws ({ frames := 2, cells := 0, slots := 0, locals := 40 } : Room) #[(.ref o), (.int g0)] h0 (fun v h L => v = none ∧ Fr n0 L ∧ Keep h0 h [o] ∧ ∃ v9 v10 : Int64, own_rep v9 v10 (10 * W + d) ∧ Fld Z h o "com/example/tally_of_atoms/tallyofatoms/Numeral" "characters" "[C" u0 ∧ Fld Z h o "com/example/tally_of_atoms/tallyofatoms/Numeral" "start" "I" u1 ∧ Fld Z h o "com/example/tally_of_atoms/tallyofatoms/Numeral" "end" "I" u2 ∧ Fld Z h o "com/example/tally_of_atoms/tallyofatoms/Numeral" "digits" "I" u3 ∧ Fld Z h o "com/example/tally_of_atoms/tallyofatoms/Numeral" "point" "Z" u4 ∧ Fld Z h o "com/example/tally_of_atoms/tallyofatoms/Numeral" "exponent" "Z" u5 ∧ Fld Z h o "com/example/tally_of_atoms/tallyofatoms/Numeral" "exponentDigits" "Z" u6 ∧ Fld Z h o "com/example/tally_of_atoms/tallyofatoms/Numeral" "special" "I" u7 ∧ Fld Z h o "com/example/tally_of_atoms/tallyofatoms/Numeral" "negative" "Z" u8 ∧ Fld Z h o "com/example/tally_of_atoms/tallyofatoms/Numeral" "significand" "J" (.long v9) ∧ Fld Z h o "com/example/tally_of_atoms/tallyofatoms/Numeral" "significandHigh" "J" (.long v10) ∧ Fld Z h o "com/example/tally_of_atoms/tallyofatoms/Numeral" "significantDigits" "I" u11 ∧ Fld Z h o "com/example/tally_of_atoms/tallyofatoms/Numeral" "scale" "I" u12 ∧ Fld Z h o "com/example/tally_of_atoms/tallyofatoms/Numeral" "exponentValue" "I" u13) := by
  refine own_of (plainFor_of_name pn_com_example_tally_of_atoms_tallyofatoms_Numeral) ?_
  intro p e s m below meth c s₁ hx hby hml hown hnm hret hlk hZ X0 e0
  have N0 := Fr.nil n0
  have K0 := Keep.refl h0 [o]
  rw [ef_rmAP]
  refine own_by (T' := s₁) (f' := (mkF m 1 #[.val (.ref o), .val (.int g0), .unset, .unset, .unset, .unset, .unset, .unset] [(.ref o)])) (fun t k => XS.aloadN X0.here hx rfl (hb hby d8_0) rfl rfl k) ?_
  refine own_getF (host := "") X0 hx hZ hown e0 (hb hby d8_1) (Or.inl (own_w hw 53 rfl)) Via.refl F9 ?_
  intro T21 X21 e21
  show own_Go p e below _ T21 (mkF m 4 #[.val (.ref o), .val (.int g0), .unset, .unset, .unset, .unset, .unset, .unset] [(.long v9)])
  refine own_by (T' := T21) (f' := (mkF m 7 #[.val (.ref o), .val (.int g0), .unset, .unset, .unset, .unset, .unset, .unset] [(.long (10 : Int64)), (.long v9)])) (fun t k => X21.ldc2Long hx hown (mvT hZ (own_w hw 70 rfl)) (g := (mkF m 4 #[.val (.ref o), .val (.int g0), .unset, .unset, .unset, .unset, .unset, .unset] [(.long v9)])) rfl (hb hby d8_4) _ k) ?_
  refine own_callS X21 hx hZ hown e21 (hb hby d8_7) [(.long v9), (.long (10 : Int64))] [] 0 (rmMH l Z a0 hw [] v9 h0) (own_w hw 76 rfl) (own_w hw 77 rfl) (own_w hw 78 rfl) (own_w hw 79 rfl) (by decide) pd__JJ_J (by rw [hml]; rfl) rfl rfl (Nat.le_of_eq rfl) (by decide) (by decide) (by decide) (by decide) ?_
  rintro T22 _ L22 X22 ⟨mh, rfl, hmh, rfl, e22⟩
  rw [List.append_nil] at X22
  show own_Go p e below _ T22 (mkF m 10 #[.val (.ref o), .val (.int g0), .unset, .unset, .unset, .unset, .unset, .unset] [(.long mh)])
  refine own_by (T' := T22) (f' := (mkF m 11 #[.val (.ref o), .val (.int g0), .unset, .unset, .unset, .unset, .unset, .unset] [(.ref o), (.long mh)])) (fun t k => XS.aloadN X22.here hx rfl (hb hby d8_10) rfl rfl k) ?_
  refine own_getF (host := "") X22 hx hZ hown e22 (hb hby d8_11) (Or.inl (own_w hw 53 rfl)) Via.refl F9 ?_
  intro T23 X23 e23
  show own_Go p e below _ T23 (mkF m 14 #[.val (.ref o), .val (.int g0), .unset, .unset, .unset, .unset, .unset, .unset] [(.long v9), (.long mh)])
  refine own_by (T' := T23) (f' := (mkF m 16 #[.val (.ref o), .val (.int g0), .unset, .unset, .unset, .unset, .unset, .unset] [(.int (63 : Int32)), (.long v9), (.long mh)])) (fun t k => XS.bipush X23.here hx rfl (hb hby d8_14) k) ?_
  refine own_by (T' := T23) (f' := (mkF m 17 #[.val (.ref o), .val (.int g0), .unset, .unset, .unset, .unset, .unset, .unset] [(.long (v9 >>> ((63 : Int32) &&& 0x3f).toInt64)), (.long mh)])) (fun t k => XS.lshr X23.here hx rfl (hb hby d8_16) rfl k) ?_
  refine own_by (T' := T23) (f' := (mkF m 20 #[.val (.ref o), .val (.int g0), .unset, .unset, .unset, .unset, .unset, .unset] [(.long (10 : Int64)), (.long (v9 >>> ((63 : Int32) &&& 0x3f).toInt64)), (.long mh)])) (fun t k => X23.ldc2Long hx hown (mvT hZ (own_w hw 70 rfl)) (g := (mkF m 17 #[.val (.ref o), .val (.int g0), .unset, .unset, .unset, .unset, .unset, .unset] [(.long (v9 >>> ((63 : Int32) &&& 0x3f).toInt64)), (.long mh)])) rfl (hb hby d8_17) _ k) ?_
  refine own_by (T' := T23) (f' := (mkF m 21 #[.val (.ref o), .val (.int g0), .unset, .unset, .unset, .unset, .unset, .unset] [(.long ((v9 >>> ((63 : Int32) &&& 0x3f).toInt64) &&& (10 : Int64))), (.long mh)])) (fun t k => XS.land X23.here hx rfl (hb hby d8_20) rfl k) ?_
  refine own_by (T' := T23) (f' := (mkF m 22 #[.val (.ref o), .val (.int g0), .unset, .unset, .unset, .unset, .unset, .unset] [(.long (mh + ((v9 >>> ((63 : Int32) &&& 0x3f).toInt64) &&& (10 : Int64))))])) (fun t k => XS.ladd X23.here hx rfl (hb hby d8_21) rfl k) ?_
  obtain ⟨ch, hch⟩ : ∃ z : Int64, z = (mh + ((v9 >>> ((63 : Int32) &&& 0x3f).toInt64) &&& (10 : Int64))) := ⟨_, rfl⟩
  rw [← hch]
  show own_Go p e below _ T23 (mkF m 22 #[.val (.ref o), .val (.int g0), .unset, .unset, .unset, .unset, .unset, .unset] [(.long ch)])
  refine own_by (T' := T23) (f' := (mkF m 23 #[.val (.ref o), .val (.int g0), .val (.long ch), .second, .unset, .unset, .unset, .unset] [])) (fun t k => XS.lstoreN X23.here hx rfl (hb hby d8_22) rfl (l' := #[.val (.ref o), .val (.int g0), .val (.long ch), .second, .unset, .unset, .unset, .unset]) rfl k) ?_
  refine own_by (T' := T23) (f' := (mkF m 24 #[.val (.ref o), .val (.int g0), .val (.long ch), .second, .unset, .unset, .unset, .unset] [(.ref o)])) (fun t k => XS.aloadN X23.here hx rfl (hb hby d8_23) rfl rfl k) ?_
  refine own_getF (host := "") X23 hx hZ hown e23 (hb hby d8_24) (Or.inl (own_w hw 53 rfl)) Via.refl F9 ?_
  intro T24 X24 e24
  show own_Go p e below _ T24 (mkF m 27 #[.val (.ref o), .val (.int g0), .val (.long ch), .second, .unset, .unset, .unset, .unset] [(.long v9)])
  refine own_by (T' := T24) (f' := (mkF m 30 #[.val (.ref o), .val (.int g0), .val (.long ch), .second, .unset, .unset, .unset, .unset] [(.long (10 : Int64)), (.long v9)])) (fun t k => X24.ldc2Long hx hown (mvT hZ (own_w hw 70 rfl)) (g := (mkF m 27 #[.val (.ref o), .val (.int g0), .val (.long ch), .second, .unset, .unset, .unset, .unset] [(.long v9)])) rfl (hb hby d8_27) _ k) ?_
  refine own_by (T' := T24) (f' := (mkF m 31 #[.val (.ref o), .val (.int g0), .val (.long ch), .second, .unset, .unset, .unset, .unset] [(.long (v9 * (10 : Int64)))])) (fun t k => XS.lmul X24.here hx rfl (hb hby d8_30) rfl k) ?_
  obtain ⟨lw, hlw⟩ : ∃ z : Int64, z = (v9 * (10 : Int64)) := ⟨_, rfl⟩
  rw [← hlw]
  show own_Go p e below _ T24 (mkF m 31 #[.val (.ref o), .val (.int g0), .val (.long ch), .second, .unset, .unset, .unset, .unset] [(.long lw)])
  refine own_by (T' := T24) (f' := (mkF m 33 #[.val (.ref o), .val (.int g0), .val (.long ch), .second, .val (.long lw), .second, .unset, .unset] [])) (fun t k => XS.lstore X24.here hx rfl (hb hby d8_31) rfl (l' := #[.val (.ref o), .val (.int g0), .val (.long ch), .second, .val (.long lw), .second, .unset, .unset]) rfl k) ?_
  refine own_by (T' := T24) (f' := (mkF m 35 #[.val (.ref o), .val (.int g0), .val (.long ch), .second, .val (.long lw), .second, .unset, .unset] [(.long lw)])) (fun t k => XS.lload X24.here hx rfl (hb hby d8_33) rfl k) ?_
  refine own_by (T' := T24) (f' := (mkF m 36 #[.val (.ref o), .val (.int g0), .val (.long ch), .second, .val (.long lw), .second, .unset, .unset] [(.int g0), (.long lw)])) (fun t k => XS.iloadN X24.here hx rfl (hb hby d8_35) rfl k) ?_
  refine own_by (T' := T24) (f' := (mkF m 37 #[.val (.ref o), .val (.int g0), .val (.long ch), .second, .val (.long lw), .second, .unset, .unset] [(.long (g0.toInt64)), (.long lw)])) (fun t k => XS.i2l X24.here hx rfl (hb hby d8_36) rfl k) ?_
  refine own_by (T' := T24) (f' := (mkF m 38 #[.val (.ref o), .val (.int g0), .val (.long ch), .second, .val (.long lw), .second, .unset, .unset] [(.long (lw + (g0.toInt64)))])) (fun t k => XS.ladd X24.here hx rfl (hb hby d8_37) rfl k) ?_
  obtain ⟨sm, hsm⟩ : ∃ z : Int64, z = (lw + (g0.toInt64)) := ⟨_, rfl⟩
  rw [← hsm]
  show own_Go p e below _ T24 (mkF m 38 #[.val (.ref o), .val (.int g0), .val (.long ch), .second, .val (.long lw), .second, .unset, .unset] [(.long sm)])
  refine own_by (T' := T24) (f' := (mkF m 40 #[.val (.ref o), .val (.int g0), .val (.long ch), .second, .val (.long lw), .second, .val (.long sm), .second] [])) (fun t k => XS.lstore X24.here hx rfl (hb hby d8_38) rfl (l' := #[.val (.ref o), .val (.int g0), .val (.long ch), .second, .val (.long lw), .second, .val (.long sm), .second]) rfl k) ?_
  refine own_by (T' := T24) (f' := (mkF m 41 #[.val (.ref o), .val (.int g0), .val (.long ch), .second, .val (.long lw), .second, .val (.long sm), .second] [(.ref o)])) (fun t k => XS.aloadN X24.here hx rfl (hb hby d8_40) rfl rfl k) ?_
  refine own_by (T' := T24) (f' := (mkF m 42 #[.val (.ref o), .val (.int g0), .val (.long ch), .second, .val (.long lw), .second, .val (.long sm), .second] [(.ref o), (.ref o)])) (fun t k => XS.aloadN X24.here hx rfl (hb hby d8_41) rfl rfl k) ?_
  refine own_getF (host := "") X24 hx hZ hown e24 (hb hby d8_42) (Or.inl (own_w hw 55 rfl)) Via.refl F10 ?_
  intro T25 X25 e25
  show own_Go p e below _ T25 (mkF m 45 #[.val (.ref o), .val (.int g0), .val (.long ch), .second, .val (.long lw), .second, .val (.long sm), .second] [(.long v10), (.ref o)])
  refine own_by (T' := T25) (f' := (mkF m 48 #[.val (.ref o), .val (.int g0), .val (.long ch), .second, .val (.long lw), .second, .val (.long sm), .second] [(.long (10 : Int64)), (.long v10), (.ref o)])) (fun t k => X25.ldc2Long hx hown (mvT hZ (own_w hw 70 rfl)) (g := (mkF m 45 #[.val (.ref o), .val (.int g0), .val (.long ch), .second, .val (.long lw), .second, .val (.long sm), .second] [(.long v10), (.ref o)])) rfl (hb hby d8_45) _ k) ?_
  refine own_by (T' := T25) (f' := (mkF m 49 #[.val (.ref o), .val (.int g0), .val (.long ch), .second, .val (.long lw), .second, .val (.long sm), .second] [(.long (v10 * (10 : Int64))), (.ref o)])) (fun t k => XS.lmul X25.here hx rfl (hb hby d8_48) rfl k) ?_
  refine own_by (T' := T25) (f' := (mkF m 50 #[.val (.ref o), .val (.int g0), .val (.long ch), .second, .val (.long lw), .second, .val (.long sm), .second] [(.long ch), (.long (v10 * (10 : Int64))), (.ref o)])) (fun t k => XS.lloadN X25.here hx rfl (hb hby d8_49) rfl k) ?_
  refine own_by (T' := T25) (f' := (mkF m 51 #[.val (.ref o), .val (.int g0), .val (.long ch), .second, .val (.long lw), .second, .val (.long sm), .second] [(.long ((v10 * (10 : Int64)) + ch)), (.ref o)])) (fun t k => XS.ladd X25.here hx rfl (hb hby d8_50) rfl k) ?_
  refine own_by (T' := T25) (f' := (mkF m 53 #[.val (.ref o), .val (.int g0), .val (.long ch), .second, .val (.long lw), .second, .val (.long sm), .second] [(.long sm), (.long ((v10 * (10 : Int64)) + ch)), (.ref o)])) (fun t k => XS.lload X25.here hx rfl (hb hby d8_51) rfl k) ?_
  refine own_by (T' := T25) (f' := (mkF m 55 #[.val (.ref o), .val (.int g0), .val (.long ch), .second, .val (.long lw), .second, .val (.long sm), .second] [(.long lw), (.long sm), (.long ((v10 * (10 : Int64)) + ch)), (.ref o)])) (fun t k => XS.lload X25.here hx rfl (hb hby d8_53) rfl k) ?_
  refine own_callS X25 hx hZ hown e25 (hb hby d8_55) [(.long sm), (.long lw)] [(.long ((v10 * (10 : Int64)) + ch)), (.ref o)] 3 (rmCU l Z a0 hw [] sm lw h0) (own_w hw 81 rfl) (own_w hw 82 rfl) (own_w hw 83 rfl) (own_w hw 84 rfl) (by decide) pd__JJ_I (by rw [hml]; rfl) rfl rfl (Nat.le_of_eq rfl) (by decide) (by decide) (by decide) (by decide) ?_
  rintro T26 _ L26 X26 ⟨cu, rfl, hcu, rfl, e26⟩
  rw [List.append_nil] at X26
  show own_Go p e below _ T26 (mkF m 58 #[.val (.ref o), .val (.int g0), .val (.long ch), .second, .val (.long lw), .second, .val (.long sm), .second] [(.int cu), (.long ((v10 * (10 : Int64)) + ch)), (.ref o)])
  have mg28 : ∀ t, Steps p.tables e below (T26.setTop (mkF m 66 #[.val (.ref o), .val (.int g0), .val (.long ch), .second, .val (.long lw), .second, .val (.long sm), .second] [(.int (if cu < (0 : Int32) then (1 : Int32) else (0 : Int32))), (.long ((v10 * (10 : Int64)) + ch)), (.ref o)])) t → Steps p.tables e below (T26.setTop (mkF m 58 #[.val (.ref o), .val (.int g0), .val (.long ch), .second, .val (.long lw), .second, .val (.long sm), .second] [(.int cu), (.long ((v10 * (10 : Int64)) + ch)), (.ref o)])) t := by
    intro t k0
    by_cases hm27 : cu < (0 : Int32)
    · skip
      refine XS.ifNo X26.here hx rfl (hb hby d8_58) rfl ((if0 _ _).trans (tlt hm27).2.1) ?_
      show Steps p.tables e below (T26.setTop (mkF m 61 #[.val (.ref o), .val (.int g0), .val (.long ch), .second, .val (.long lw), .second, .val (.long sm), .second] [(.long ((v10 * (10 : Int64)) + ch)), (.ref o)])) _
      refine XS.iconst X26.here hx rfl (hb hby d8_61) ?_
      show Steps p.tables e below (T26.setTop (mkF m 62 #[.val (.ref o), .val (.int g0), .val (.long ch), .second, .val (.long lw), .second, .val (.long sm), .second] [(.int (1 : Int32)), (.long ((v10 * (10 : Int64)) + ch)), (.ref o)])) _
      refine XS.goto X26.here hx rfl (pc0 := 62) (pc' := 66) rfl (hb hby d8_62) (by decide) (by decide) ?_
      show Steps p.tables e below (T26.setTop (mkF m 66 #[.val (.ref o), .val (.int g0), .val (.long ch), .second, .val (.long lw), .second, .val (.long sm), .second] [(.int (1 : Int32)), (.long ((v10 * (10 : Int64)) + ch)), (.ref o)])) _
      try simp only [if_pos hm27] at k0
      exact k0
    · skip
      refine XS.ifYes X26.here hx rfl (pc0 := 58) (pc' := 65) rfl (hb hby d8_58) rfl ((if0 _ _).trans (flt hm27).2.1) (by decide) (by decide) ?_
      show Steps p.tables e below (T26.setTop (mkF m 65 #[.val (.ref o), .val (.int g0), .val (.long ch), .second, .val (.long lw), .second, .val (.long sm), .second] [(.long ((v10 * (10 : Int64)) + ch)), (.ref o)])) _
      refine XS.iconst X26.here hx rfl (hb hby d8_65) ?_
      show Steps p.tables e below (T26.setTop (mkF m 66 #[.val (.ref o), .val (.int g0), .val (.long ch), .second, .val (.long lw), .second, .val (.long sm), .second] [(.int (0 : Int32)), (.long ((v10 * (10 : Int64)) + ch)), (.ref o)])) _
      try simp only [if_neg hm27] at k0
      exact k0
  refine own_by mg28 ?_
  obtain ⟨cr, hcr⟩ : ∃ z : Int32, z = (if cu < (0 : Int32) then (1 : Int32) else (0 : Int32)) := ⟨_, rfl⟩
  rw [← hcr]
  show own_Go p e below _ T26 (mkF m 66 #[.val (.ref o), .val (.int g0), .val (.long ch), .second, .val (.long lw), .second, .val (.long sm), .second] [(.int cr), (.long ((v10 * (10 : Int64)) + ch)), (.ref o)])
  refine own_by (T' := T26) (f' := (mkF m 67 #[.val (.ref o), .val (.int g0), .val (.long ch), .second, .val (.long lw), .second, .val (.long sm), .second] [(.long (cr.toInt64)), (.long ((v10 * (10 : Int64)) + ch)), (.ref o)])) (fun t k => XS.i2l X26.here hx rfl (hb hby d8_66) rfl k) ?_
  refine own_by (T' := T26) (f' := (mkF m 68 #[.val (.ref o), .val (.int g0), .val (.long ch), .second, .val (.long lw), .second, .val (.long sm), .second] [(.long (((v10 * (10 : Int64)) + ch) + (cr.toInt64))), (.ref o)])) (fun t k => XS.ladd X26.here hx rfl (hb hby d8_67) rfl k) ?_
  obtain ⟨vh, hvh⟩ : ∃ z : Int64, z = (((v10 * (10 : Int64)) + ch) + (cr.toInt64)) := ⟨_, rfl⟩
  rw [← hvh]
  show own_Go p e below _ T26 (mkF m 68 #[.val (.ref o), .val (.int g0), .val (.long ch), .second, .val (.long lw), .second, .val (.long sm), .second] [(.long vh), (.ref o)])
  refine own_putF (host := "") X26 hx hZ hown e26 (hb hby d8_68) (Or.inl (own_w hw 55 rfl)) Via.refl F10 EO (Or.inl (own_w hw 56 rfl)) (own_w hw 32 rfl) (ty := .long) (by decide) rfl rfl ?_
  intro T29 h29 X29 e29 W29
  show own_Go p e below _ T29 (mkF m 71 #[.val (.ref o), .val (.int g0), .val (.long ch), .second, .val (.long lw), .second, .val (.long sm), .second] [])
  have F29 := F10.same W29
  have sz30 : n0 ≤ h29.size := by rw [W29.size]; exact Z0
  have K31 := K0.wr W29 (Or.inl (List.mem_of_getElem? (i := 0) rfl))
  have N29 := Fr.snoc X29 N0 go
  refine own_by (T' := T29) (f' := (mkF m 72 #[.val (.ref o), .val (.int g0), .val (.long ch), .second, .val (.long lw), .second, .val (.long sm), .second] [(.ref o)])) (fun t k => XS.aloadN X29.here hx rfl (hb hby d8_71) rfl rfl k) ?_
  refine own_by (T' := T29) (f' := (mkF m 74 #[.val (.ref o), .val (.int g0), .val (.long ch), .second, .val (.long lw), .second, .val (.long sm), .second] [(.long sm), (.ref o)])) (fun t k => XS.lload X29.here hx rfl (hb hby d8_72) rfl k) ?_
  have f32 := (F9.other W29 (Or.inr (sn_0 hw)))
  have f33 := (EO.wr W29)
  refine own_putF (host := "") X29 hx hZ hown e29 (hb hby d8_74) (Or.inl (own_w hw 53 rfl)) Via.refl f32 f33 (Or.inl (own_w hw 54 rfl)) (own_w hw 32 rfl) (ty := .long) (by decide) rfl rfl ?_
  intro T34 h34 X34 e34 W34
  show own_Go p e below _ T34 (mkF m 77 #[.val (.ref o), .val (.int g0), .val (.long ch), .second, .val (.long lw), .second, .val (.long sm), .second] [])
  have F34 := f32.same W34
  have sz35 : n0 ≤ h34.size := by rw [W34.size]; exact sz30
  have K36 := K31.wr W34 (Or.inl (List.mem_of_getElem? (i := 0) rfl))
  have N34 := Fr.snoc X34 N29 go
  have f37 := ((F0.other W29 (Or.inr (sn_1 hw))).other W34 (Or.inr (sn_2 hw)))
  have f38 := ((F1.other W29 (Or.inr (sn_3 hw))).other W34 (Or.inr (sn_4 hw)))
  have f39 := ((F2.other W29 (Or.inr (sn_5 hw))).other W34 (Or.inr (sn_6 hw)))
  have f40 := ((F3.other W29 (Or.inr (sn_7 hw))).other W34 (Or.inr (sn_8 hw)))
  have f41 := ((F4.other W29 (Or.inr (sn_9 hw))).other W34 (Or.inr (sn_10 hw)))
  have f42 := ((F5.other W29 (Or.inr (sn_11 hw))).other W34 (Or.inr (sn_12 hw)))
  have f43 := ((F6.other W29 (Or.inr (sn_13 hw))).other W34 (Or.inr (sn_14 hw)))
  have f44 := ((F7.other W29 (Or.inr (sn_15 hw))).other W34 (Or.inr (sn_16 hw)))
  have f45 := ((F8.other W29 (Or.inr (sn_17 hw))).other W34 (Or.inr (sn_18 hw)))
  have f46 := (F29.other W34 (Or.inr (sn_19 hw)))
  have f47 := ((F11.other W29 (Or.inr (sn_20 hw))).other W34 (Or.inr (sn_21 hw)))
  have f48 := ((F12.other W29 (Or.inr (sn_22 hw))).other W34 (Or.inr (sn_23 hw)))
  have f49 := ((F13.other W29 (Or.inr (sn_24 hw))).other W34 (Or.inr (sn_25 hw)))
  refine own_retV X34 hx hret hlk (hb hby d8_77) (by decide) (by decide) ?_
  try rw [e34]
  exact ⟨rfl, N34, K36, _, _, own_ap hW hWb hg hd hmh hch hlw hsm hvh (by rw [hcr]; exact own_ifc hcu), f37, f38, f39, f40, f41, f42, f43, f44, f45, F34, f46, f47, f48, f49⟩
theorem ef_rmRD (m : MethodId) (x0 : Addr) (x1 : Addr) (x2 : Int32) (x3 : Int32) : entryFrame m #[(.ref x0), (.ref x1), (.int x2), (.int x3)] 5 = mkF m 0 #[.val (.ref x0), .val (.ref x1), .val (.int x2), .val (.int x3), .unset] [] := by first | (simp [entryFrame, mkF, argsToLocals, Value.category]; done) | rfl
set_option maxRecDepth 65536 in
set_option maxHeartbeats 40000000 in
theorem rmRD (l : Launch) (Z : State) (a0 : Array Value) (hw : ∀ d ∈ tables_1, d.before a0 Z = true) (ws : List Jvm.Cond) (o ca : Addr) (iv0 lv sv : Int32) (j0 lim sd0 W0 : Nat) (f : Nat → Int32) (v9 v10 : Int64) (u0 u1 u2 u3 u4 u5 u6 u7 u8 u12 u13 : Value) (h0 : Heap) (n0 : Nat) (Z0 : n0 ≤ h0.size) (go : n0 ≤ o) (nco : ca ≠ o) (hj : iv0.toInt = (j0 : Nat)) (hl : lv.toInt = (lim : Nat)) (hjl : j0 ≤ lim) (hlim : lim ≤ 37) (hsd : sv.toInt = (sd0 : Nat)) (hsb : sd0 + (lim - j0) ≤ 38) (hW0 : own_rep v9 v10 W0) (hWb0 : W0 < 10 ^ sd0) (A1 : own_A Z h0 ca .char 37 f) (EO : Exa Z h0 o "com/example/tally_of_atoms/tallyofatoms/Numeral") (F0 : Fld Z h0 o "com/example/tally_of_atoms/tallyofatoms/Numeral" "characters" "[C" u0) (F1 : Fld Z h0 o "com/example/tally_of_atoms/tallyofatoms/Numeral" "start" "I" u1) (F2 : Fld Z h0 o "com/example/tally_of_atoms/tallyofatoms/Numeral" "end" "I" u2) (F3 : Fld Z h0 o "com/example/tally_of_atoms/tallyofatoms/Numeral" "digits" "I" u3) (F4 : Fld Z h0 o "com/example/tally_of_atoms/tallyofatoms/Numeral" "point" "Z" u4) (F5 : Fld Z h0 o "com/example/tally_of_atoms/tallyofatoms/Numeral" "exponent" "Z" u5) (F6 : Fld Z h0 o "com/example/tally_of_atoms/tallyofatoms/Numeral" "exponentDigits" "Z" u6) (F7 : Fld Z h0 o "com/example/tally_of_atoms/tallyofatoms/Numeral" "special" "I" u7) (F8 : Fld Z h0 o "com/example/tally_of_atoms/tallyofatoms/Numeral" "negative" "Z" u8) (F9 : Fld Z h0 o "com/example/tally_of_atoms/tallyofatoms/Numeral" "significand" "J" (.long v9)) (F10 : Fld Z h0 o "com/example/tally_of_atoms/tallyofatoms/Numeral" "significandHigh" "J" (.long v10)) (F11 : Fld Z h0 o "com/example/tally_of_atoms/tallyofatoms/Numeral" "significantDigits" "I" (.int sv)) (F12 : Fld Z h0 o "com/example/tally_of_atoms/tallyofatoms/Numeral" "scale" "I" u12) (F13 : Fld Z h0 o "com/example/tally_of_atoms/tallyofatoms/Numeral" "exponentValue" "I" u13) :
    own_Ct l Z (⟨"com/example/tally_of_atoms/tallyofatoms/Numeral", "readDigits", "([CII)I"⟩ : MethodName) prog_102_method_24_code 5 (some .int) ws ({ frames := 3, cells := 0, slots := 0, locals := 60 } : Room) #[(.ref o), (.ref ca), (.int iv0), (.int lv)] h0 (fun v h L => ∃ r : Int32, v = some (.int r) ∧ r.toInt = ((own_rp f (lim - j0) j0 : Nat) : Int) ∧ Fr n0 L ∧ Keep h0 h [o] ∧ ∃ (v9 v10 : Int64) (sv : Int32), sv.toInt = ((own_rs f (lim - j0) j0 sd0 : Nat) : Int) ∧ own_rep v9 v10 (own_rv f (lim - j0) j0 W0) ∧ own_rv f (lim - j0) j0 W0 < 10 ^ own_rs f (lim - j0) j0 sd0 ∧ Fld Z h o "com/example/tally_of_atoms/tallyofatoms/Numeral" "characters" "[C" u0 ∧ Fld Z h o "com/example/tally_of_atoms/tallyofatoms/Numeral" "start" "I" u1 ∧ Fld Z h o "com/example/tally_of_atoms/tallyofatoms/Numeral" "end" "I" u2 ∧ Fld Z h o "com/example/tally_of_atoms/tallyofatoms/Numeral" "digits" "I" u3 ∧ Fld Z h o "com/example/tally_of_atoms/tallyofatoms/Numeral" "point" "Z" u4 ∧ Fld Z h o "com/example/tally_of_atoms/tallyofatoms/Numeral" "exponent" "Z" u5 ∧ Fld Z h o "com/example/tally_of_atoms/tallyofatoms/Numeral" "exponentDigits" "Z" u6 ∧ Fld Z h o "com/example/tally_of_atoms/tallyofatoms/Numeral" "special" "I" u7 ∧ Fld Z h o "com/example/tally_of_atoms/tallyofatoms/Numeral" "negative" "Z" u8 ∧ Fld Z h o "com/example/tally_of_atoms/tallyofatoms/Numeral" "significand" "J" (.long v9) ∧ Fld Z h o "com/example/tally_of_atoms/tallyofatoms/Numeral" "significandHigh" "J" (.long v10) ∧ Fld Z h o "com/example/tally_of_atoms/tallyofatoms/Numeral" "significantDigits" "I" (.int sv) ∧ Fld Z h o "com/example/tally_of_atoms/tallyofatoms/Numeral" "scale" "I" u12 ∧ Fld Z h o "com/example/tally_of_atoms/tallyofatoms/Numeral" "exponentValue" "I" u13) := by
  refine own_of (plainFor_of_name pn_com_example_tally_of_atoms_tallyofatoms_Numeral) ?_
  intro p e s m below meth c s₁ hx hby hml hown hnm hret hlk hZ X0 e0
  have loop : ∀ (k j sd W : Nat) (iv sv : Int32) (v9 v10 : Int64) (s4 : Slot) (TL : State) (hL : Heap) (LL : List Loc), One s4 → j + k = lim → iv.toInt = (j : Nat) → sv.toInt = (sd : Nat) → sd + k ≤ 38 → own_rep v9 v10 W → W < 10 ^ sd → own_rp f (lim - j0) j0 = own_rp f k j → own_rs f (lim - j0) j0 sd0 = own_rs f k j sd → own_rv f (lim - j0) j0 W0 = own_rv f k j W → Stand p l e ({ frames := 3, cells := 0, slots := 0, locals := 60 } : Room) s m #[(.ref o), (.ref ca), (.int iv0), (.int lv)] below meth c TL LL 0 0 → TL.heap = hL → own_A Z hL ca .char 37 f → Exa Z hL o "com/example/tally_of_atoms/tallyofatoms/Numeral" → Fld Z hL o "com/example/tally_of_atoms/tallyofatoms/Numeral" "characters" "[C" u0 → Fld Z hL o "com/example/tally_of_atoms/tallyofatoms/Numeral" "start" "I" u1 → Fld Z hL o "com/example/tally_of_atoms/tallyofatoms/Numeral" "end" "I" u2 → Fld Z hL o "com/example/tally_of_atoms/tallyofatoms/Numeral" "digits" "I" u3 → Fld Z hL o "com/example/tally_of_atoms/tallyofatoms/Numeral" "point" "Z" u4 → Fld Z hL o "com/example/tally_of_atoms/tallyofatoms/Numeral" "exponent" "Z" u5 → Fld Z hL o "com/example/tally_of_atoms/tallyofatoms/Numeral" "exponentDigits" "Z" u6 → Fld Z hL o "com/example/tally_of_atoms/tallyofatoms/Numeral" "special" "I" u7 → Fld Z hL o "com/example/tally_of_atoms/tallyofatoms/Numeral" "negative" "Z" u8 → Fld Z hL o "com/example/tally_of_atoms/tallyofatoms/Numeral" "significand" "J" (.long v9) → Fld Z hL o "com/example/tally_of_atoms/tallyofatoms/Numeral" "significandHigh" "J" (.long v10) → Fld Z hL o "com/example/tally_of_atoms/tallyofatoms/Numeral" "significantDigits" "I" (.int sv) → Fld Z hL o "com/example/tally_of_atoms/tallyofatoms/Numeral" "scale" "I" u12 → Fld Z hL o "com/example/tally_of_atoms/tallyofatoms/Numeral" "exponentValue" "I" u13 → Keep h0 hL [o] → Fr n0 LL → n0 ≤ hL.size → own_Go p e below (own_Ends s ({ frames := 3, cells := 0, slots := 0, locals := 60 } : Room) (fun v h L => ∃ r : Int32, v = some (.int r) ∧ r.toInt = ((own_rp f (lim - j0) j0 : Nat) : Int) ∧ Fr n0 L ∧ Keep h0 h [o] ∧ ∃ (v9 v10 : Int64) (sv : Int32), sv.toInt = ((own_rs f (lim - j0) j0 sd0 : Nat) : Int) ∧ own_rep v9 v10 (own_rv f (lim - j0) j0 W0) ∧ own_rv f (lim - j0) j0 W0 < 10 ^ own_rs f (lim - j0) j0 sd0 ∧ Fld Z h o "com/example/tally_of_atoms/tallyofatoms/Numeral" "characters" "[C" u0 ∧ Fld Z h o "com/example/tally_of_atoms/tallyofatoms/Numeral" "start" "I" u1 ∧ Fld Z h o "com/example/tally_of_atoms/tallyofatoms/Numeral" "end" "I" u2 ∧ Fld Z h o "com/example/tally_of_atoms/tallyofatoms/Numeral" "digits" "I" u3 ∧ Fld Z h o "com/example/tally_of_atoms/tallyofatoms/Numeral" "point" "Z" u4 ∧ Fld Z h o "com/example/tally_of_atoms/tallyofatoms/Numeral" "exponent" "Z" u5 ∧ Fld Z h o "com/example/tally_of_atoms/tallyofatoms/Numeral" "exponentDigits" "Z" u6 ∧ Fld Z h o "com/example/tally_of_atoms/tallyofatoms/Numeral" "special" "I" u7 ∧ Fld Z h o "com/example/tally_of_atoms/tallyofatoms/Numeral" "negative" "Z" u8 ∧ Fld Z h o "com/example/tally_of_atoms/tallyofatoms/Numeral" "significand" "J" (.long v9) ∧ Fld Z h o "com/example/tally_of_atoms/tallyofatoms/Numeral" "significandHigh" "J" (.long v10) ∧ Fld Z h o "com/example/tally_of_atoms/tallyofatoms/Numeral" "significantDigits" "I" (.int sv) ∧ Fld Z h o "com/example/tally_of_atoms/tallyofatoms/Numeral" "scale" "I" u12 ∧ Fld Z h o "com/example/tally_of_atoms/tallyofatoms/Numeral" "exponentValue" "I" u13)) TL (mkF m 0 #[.val (.ref o), .val (.ref ca), .val (.int iv), .val (.int lv), s4] []) := by
    intro k
    induction k with
    | zero =>
      intro j sd W iv sv v9 v10 s4 TL hL LL hs4 hjk hiv hsv hbd hW hWb hP hS hV XL eL AL EL G0 G1 G2 G3 G4 G5 G6 G7 G8 G9 G10 G11 G12 G13 KL NL ZL
      refine own_by (T' := TL) (f' := (mkF m 1 #[.val (.ref o), .val (.ref ca), .val (.int iv), .val (.int lv), s4] [(.int iv)])) (fun t k => XS.iloadN XL.here hx rfl (hb hby d6_0) rfl k) ?_
      refine own_by (T' := TL) (f' := (mkF m 2 #[.val (.ref o), .val (.ref ca), .val (.int iv), .val (.int lv), s4] [(.int lv), (.int iv)])) (fun t k => XS.iloadN XL.here hx rfl (hb hby d6_1) rfl k) ?_
      have hc2_51 : ¬ (iv < lv) := (by rw [Int32.lt_iff_toInt_lt]; omega)
      refine own_by (T' := TL) (f' := (mkF m 101 #[.val (.ref o), .val (.ref ca), .val (.int iv), .val (.int lv), s4] [])) (fun t k => XS.icmpYes XL.here hx rfl (pc0 := 2) (pc' := 101) rfl (hb hby d6_2) rfl (flt hc2_51).2.1 (by decide) (by decide) k) ?_
      refine own_by (T' := TL) (f' := (mkF m 102 #[.val (.ref o), .val (.ref ca), .val (.int iv), .val (.int lv), s4] [(.int iv)])) (fun t k => XS.iloadN XL.here hx rfl (hb hby d6_101) rfl k) ?_
      refine own_retI XL hx hret hlk (hb hby d6_102) (by decide) (by decide) ?_
      try rw [eL]
      exact ⟨_, rfl, by rw [hP]; exact hiv, NL, KL, _, _, _, by rw [hS]; exact hsv, by rw [hV]; exact hW, by rw [hV, hS]; exact hWb, G0, G1, G2, G3, G4, G5, G6, G7, G8, G9, G10, G11, G12, G13⟩
    | succ k ih =>
      intro j sd W iv sv v9 v10 s4 TL hL LL hs4 hjk hiv hsv hbd hW hWb hP hS hV XL eL AL EL G0 G1 G2 G3 G4 G5 G6 G7 G8 G9 G10 G11 G12 G13 KL NL ZL
      refine own_by (T' := TL) (f' := (mkF m 1 #[.val (.ref o), .val (.ref ca), .val (.int iv), .val (.int lv), s4] [(.int iv)])) (fun t k => XS.iloadN XL.here hx rfl (hb hby d6_0) rfl k) ?_
      refine own_by (T' := TL) (f' := (mkF m 2 #[.val (.ref o), .val (.ref ca), .val (.int iv), .val (.int lv), s4] [(.int lv), (.int iv)])) (fun t k => XS.iloadN XL.here hx rfl (hb hby d6_1) rfl k) ?_
      have hc2_51 : iv < lv := (by rw [Int32.lt_iff_toInt_lt]; omega)
      refine own_by (T' := TL) (f' := (mkF m 5 #[.val (.ref o), .val (.ref ca), .val (.int iv), .val (.int lv), s4] [])) (fun t k => XS.icmpNo XL.here hx rfl (hb hby d6_2) rfl (tlt hc2_51).2.1 k) ?_
      refine own_by (T' := TL) (f' := (mkF m 6 #[.val (.ref o), .val (.ref ca), .val (.int iv), .val (.int lv), s4] [(.ref ca)])) (fun t k => XS.aloadN XL.here hx rfl (hb hby d6_5) rfl rfl k) ?_
      refine own_by (T' := TL) (f' := (mkF m 7 #[.val (.ref o), .val (.ref ca), .val (.int iv), .val (.int lv), s4] [(.int iv), (.ref ca)])) (fun t k => XS.iloadN XL.here hx rfl (hb hby d6_6) rfl k) ?_
      refine own_ldC XL hx hZ eL (hb hby d6_7) AL (by omega) (by omega) ?_
      rw [show iv.toInt.toNat = j from by omega]
      show own_Go p e below _ TL (mkF m 8 #[.val (.ref o), .val (.ref ca), .val (.int iv), .val (.int lv), s4] [(.int (f j))])
      refine own_by (T' := TL) (f' := (mkF m 10 #[.val (.ref o), .val (.ref ca), .val (.int iv), .val (.int lv), .val (.int (f j))] [])) (fun t k => XS.istore XL.here hx rfl (hb hby d6_8) rfl (l' := #[.val (.ref o), .val (.ref ca), .val (.int iv), .val (.int lv), .val (.int (f j))]) (os_b_6_8 hs4) k) ?_
      refine own_by (T' := TL) (f' := (mkF m 12 #[.val (.ref o), .val (.ref ca), .val (.int iv), .val (.int lv), .val (.int (f j))] [(.int (f j))])) (fun t k => XS.iload XL.here hx rfl (hb hby d6_10) rfl k) ?_
      refine own_callS XL hx hZ hown eL (hb hby d6_12) [(.int (f j))] [] 0 (rmDI l Z a0 hw [] (f j) hL) (own_w hw 67 rfl) (own_w hw 68 rfl) (own_w hw 33 rfl) (own_w hw 69 rfl) (by decide) pd__C_Z (by rw [hml]; rfl) rfl rfl (Nat.le_of_eq rfl) (by decide) (by decide) (by decide) (by decide) ?_
      rintro T52 _ L52 X52 ⟨rfl, rfl, e52⟩
      show own_Go p e below _ T52 (mkF m 15 #[.val (.ref o), .val (.ref ca), .val (.int iv), .val (.int lv), .val (.int (f j))] [(.int (own_dig (f j)))])
      rw [List.append_nil] at X52
      by_cases hc15_53 : (own_dig (f j)) = (0 : Int32)
      · have _ := X52
        refine own_by (T' := T52) (f' := (mkF m 18 #[.val (.ref o), .val (.ref ca), .val (.int iv), .val (.int lv), .val (.int (f j))] [])) (fun t k => XS.ifNo X52.here hx rfl (hb hby d6_15) rfl ((if0 _ _).trans (teq hc15_53).2) k) ?_
        refine own_by (T' := T52) (f' := (mkF m 101 #[.val (.ref o), .val (.ref ca), .val (.int iv), .val (.int lv), .val (.int (f j))] [])) (fun t k => XS.goto X52.here hx rfl (pc0 := 18) (pc' := 101) rfl (hb hby d6_18) (by decide) (by decide) k) ?_
        refine own_by (T' := T52) (f' := (mkF m 102 #[.val (.ref o), .val (.ref ca), .val (.int iv), .val (.int lv), .val (.int (f j))] [(.int iv)])) (fun t k => XS.iloadN X52.here hx rfl (hb hby d6_101) rfl k) ?_
        refine own_retI X52 hx hret hlk (hb hby d6_102) (by decide) (by decide) ?_
        try rw [e52]
        exact ⟨_, rfl, by rw [hP, own_rp, if_pos hc15_53]; exact hiv, NL, KL, _, _, _, by rw [hS, own_rs, if_pos hc15_53]; exact hsv, by rw [hV, own_rv, if_pos hc15_53]; exact hW, by rw [hV, hS, own_rv, own_rs, if_pos hc15_53, if_pos hc15_53]; exact hWb, G0, G1, G2, G3, G4, G5, G6, G7, G8, G9, G10, G11, G12, G13⟩
      · have _ := X52
        refine own_by (T' := T52) (f' := (mkF m 21 #[.val (.ref o), .val (.ref ca), .val (.int iv), .val (.int lv), .val (.int (f j))] [])) (fun t k => XS.ifYes X52.here hx rfl (pc0 := 15) (pc' := 21) rfl (hb hby d6_15) rfl ((if0 _ _).trans (feq hc15_53).2) (by decide) (by decide) k) ?_
        obtain ⟨d, hd, hd9, hdn⟩ := own_dig_rng hc15_53
        have z0 : (0 : Int32).toInt = ((0 : Nat) : Int) := by decide
        have z18 : (18 : Int32).toInt = ((18 : Nat) : Int) := by decide
        have z38 : (38 : Int32).toInt = ((38 : Nat) : Int) := by decide
        have z48 : (48 : Int32).toInt = ((48 : Nat) : Int) := by decide
        refine own_by (T' := T52) (f' := (mkF m 22 #[.val (.ref o), .val (.ref ca), .val (.int iv), .val (.int lv), .val (.int (f j))] [(.ref o)])) (fun t k => XS.aloadN X52.here hx rfl (hb hby d6_21) rfl rfl k) ?_
        refine own_getF (host := "") X52 hx hZ hown e52 (hb hby d6_22) (Or.inl (own_w hw 57 rfl)) Via.refl G11 ?_
        intro T54 X54 e54
        show own_Go p e below _ T54 (mkF m 25 #[.val (.ref o), .val (.ref ca), .val (.int iv), .val (.int lv), .val (.int (f j))] [(.int sv)])
        by_cases hc25_55 : (0 : Int32) < sv
        · have _ := X54
          refine own_by (T' := T54) (f' := (mkF m 35 #[.val (.ref o), .val (.ref ca), .val (.int iv), .val (.int lv), .val (.int (f j))] [])) (fun t k => XS.ifYes X54.here hx rfl (pc0 := 25) (pc' := 35) rfl (hb hby d6_25) rfl ((if0 _ _).trans (tlt hc25_55).2.2.1) (by decide) (by decide) k) ?_
          refine own_by (T' := T54) (f' := (mkF m 36 #[.val (.ref o), .val (.ref ca), .val (.int iv), .val (.int lv), .val (.int (f j))] [(.ref o)])) (fun t k => XS.aloadN X54.here hx rfl (hb hby d6_35) rfl rfl k) ?_
          refine own_by (T' := T54) (f' := (mkF m 37 #[.val (.ref o), .val (.ref ca), .val (.int iv), .val (.int lv), .val (.int (f j))] [(.ref o), (.ref o)])) (fun t k => XS.dup X54.here hx rfl (hb hby d6_36) rfl rfl k) ?_
          refine own_getF (host := "") X54 hx hZ hown e54 (hb hby d6_37) (Or.inl (own_w hw 57 rfl)) Via.refl G11 ?_
          intro T56 X56 e56
          show own_Go p e below _ T56 (mkF m 40 #[.val (.ref o), .val (.ref ca), .val (.int iv), .val (.int lv), .val (.int (f j))] [(.int sv), (.ref o)])
          refine own_by (T' := T56) (f' := (mkF m 41 #[.val (.ref o), .val (.ref ca), .val (.int iv), .val (.int lv), .val (.int (f j))] [(.int (1 : Int32)), (.int sv), (.ref o)])) (fun t k => XS.iconst X56.here hx rfl (hb hby d6_40) k) ?_
          refine own_by (T' := T56) (f' := (mkF m 42 #[.val (.ref o), .val (.ref ca), .val (.int iv), .val (.int lv), .val (.int (f j))] [(.int (sv + (1 : Int32))), (.ref o)])) (fun t k => XS.iadd X56.here hx rfl (hb hby d6_41) rfl k) ?_
          have hs1 := own_inc hsv (by omega : sd < 1000) (by omega)
          refine own_putF (host := "") X56 hx hZ hown e56 (hb hby d6_42) (Or.inl (own_w hw 57 rfl)) Via.refl G11 EL (Or.inl (own_w hw 58 rfl)) (own_w hw 32 rfl) (ty := .int) (by decide) rfl rfl ?_
          intro T57 h57 X57 e57 W57
          show own_Go p e below _ T57 (mkF m 45 #[.val (.ref o), .val (.ref ca), .val (.int iv), .val (.int lv), .val (.int (f j))] [])
          have F57 := G11.same W57
          have sz58 : n0 ≤ h57.size := by rw [W57.size]; exact ZL
          have K59 := KL.wr W57 (Or.inl (List.mem_of_getElem? (i := 0) rfl))
          have N57 := Fr.snoc X57 NL go
          refine own_by (T' := T57) (f' := (mkF m 46 #[.val (.ref o), .val (.ref ca), .val (.int iv), .val (.int lv), .val (.int (f j))] [(.ref o)])) (fun t k => XS.aloadN X57.here hx rfl (hb hby d6_45) rfl rfl k) ?_
          refine own_getF (host := "") X57 hx hZ hown e57 (hb hby d6_46) (Or.inl (own_w hw 57 rfl)) Via.refl F57 ?_
          intro T60 X60 e60
          show own_Go p e below _ T60 (mkF m 49 #[.val (.ref o), .val (.ref ca), .val (.int iv), .val (.int lv), .val (.int (f j))] [(.int (sv + (1 : Int32)))])
          refine own_by (T' := T60) (f' := (mkF m 51 #[.val (.ref o), .val (.ref ca), .val (.int iv), .val (.int lv), .val (.int (f j))] [(.int (18 : Int32)), (.int (sv + (1 : Int32)))])) (fun t k => XS.bipush X60.here hx rfl (hb hby d6_49) k) ?_
          by_cases hc51_61 : (18 : Int32) < (sv + (1 : Int32))
          · have _ := X60
            refine own_by (T' := T60) (f' := (mkF m 77 #[.val (.ref o), .val (.ref ca), .val (.int iv), .val (.int lv), .val (.int (f j))] [])) (fun t k => XS.icmpYes X60.here hx rfl (pc0 := 51) (pc' := 77) rfl (hb hby d6_51) rfl (tlt hc51_61).2.2.1 (by decide) (by decide) k) ?_
            refine own_by (T' := T60) (f' := (mkF m 78 #[.val (.ref o), .val (.ref ca), .val (.int iv), .val (.int lv), .val (.int (f j))] [(.ref o)])) (fun t k => XS.aloadN X60.here hx rfl (hb hby d6_77) rfl rfl k) ?_
            refine own_getF (host := "") X60 hx hZ hown e60 (hb hby d6_78) (Or.inl (own_w hw 57 rfl)) Via.refl F57 ?_
            intro T62 X62 e62
            show own_Go p e below _ T62 (mkF m 81 #[.val (.ref o), .val (.ref ca), .val (.int iv), .val (.int lv), .val (.int (f j))] [(.int (sv + (1 : Int32)))])
            refine own_by (T' := T62) (f' := (mkF m 83 #[.val (.ref o), .val (.ref ca), .val (.int iv), .val (.int lv), .val (.int (f j))] [(.int (38 : Int32)), (.int (sv + (1 : Int32)))])) (fun t k => XS.bipush X62.here hx rfl (hb hby d6_81) k) ?_
            have hc83_63 : ¬ ((38 : Int32) < (sv + (1 : Int32))) := (fun z => by have := own_ltn z38 hs1 z; omega)
            refine own_by (T' := T62) (f' := (mkF m 86 #[.val (.ref o), .val (.ref ca), .val (.int iv), .val (.int lv), .val (.int (f j))] [])) (fun t k => XS.icmpNo X62.here hx rfl (hb hby d6_83) rfl (flt hc83_63).2.2.1 k) ?_
            refine own_by (T' := T62) (f' := (mkF m 87 #[.val (.ref o), .val (.ref ca), .val (.int iv), .val (.int lv), .val (.int (f j))] [(.ref o)])) (fun t k => XS.aloadN X62.here hx rfl (hb hby d6_86) rfl rfl k) ?_
            refine own_by (T' := T62) (f' := (mkF m 89 #[.val (.ref o), .val (.ref ca), .val (.int iv), .val (.int lv), .val (.int (f j))] [(.int (f j)), (.ref o)])) (fun t k => XS.iload X62.here hx rfl (hb hby d6_87) rfl k) ?_
            refine own_by (T' := T62) (f' := (mkF m 91 #[.val (.ref o), .val (.ref ca), .val (.int iv), .val (.int lv), .val (.int (f j))] [(.int (48 : Int32)), (.int (f j)), (.ref o)])) (fun t k => XS.bipush X62.here hx rfl (hb hby d6_89) k) ?_
            refine own_by (T' := T62) (f' := (mkF m 92 #[.val (.ref o), .val (.ref ca), .val (.int iv), .val (.int lv), .val (.int (f j))] [(.int ((f j) - (48 : Int32))), (.ref o)])) (fun t k => XS.isub X62.here hx rfl (hb hby d6_91) rfl k) ?_
            have f64 := (EL.wr W57)
            have q65 : ∀ x ∈ [o], ∃ c : Cell, h57[x]? = some c ∧ c.vm.isStatics = false := (allS (own_ns f64) all0)
            have hdd : ((f j) - (48 : Int32)).toInt = ((d : Nat) : Int) := by rw [own_sub hd z48 (by omega)]; omega
            have f66 := (G0.other W57 (Or.inr (sn_26 hw)))
            have f67 := (G1.other W57 (Or.inr (sn_27 hw)))
            have f68 := (G2.other W57 (Or.inr (sn_28 hw)))
            have f69 := (G3.other W57 (Or.inr (sn_29 hw)))
            have f70 := (G4.other W57 (Or.inr (sn_30 hw)))
            have f71 := (G5.other W57 (Or.inr (sn_31 hw)))
            have f72 := (G6.other W57 (Or.inr (sn_32 hw)))
            have f73 := (G7.other W57 (Or.inr (sn_33 hw)))
            have f74 := (G8.other W57 (Or.inr (sn_34 hw)))
            have f75 := (G9.other W57 (Or.inr (sn_35 hw)))
            have f76 := (G10.other W57 (Or.inr (sn_36 hw)))
            have f77 := (G12.other W57 (Or.inr (sn_37 hw)))
            have f78 := (G13.other W57 (Or.inr (sn_38 hw)))
            refine own_callP X62 hx hZ hown e62 (hb hby d6_92) [(.int ((f j) - (48 : Int32)))] [] 0 (rmAP l Z a0 hw [] o ((f j) - (48 : Int32)) v9 v10 W d u0 u1 u2 u3 u4 u5 u6 u7 u8 (.int (sv + (1 : Int32))) u12 u13 h57 n0 sz58 go hW (own_pw37 hWb (by omega)) hdd hd9 f64 f66 f67 f68 f69 f70 f71 f72 f73 f74 f75 f76 F57 f77 f78) f64 (own_w hw 72 rfl) (own_w hw 73 rfl) (own_selP (y := (⟨"com/example/tally_of_atoms/tallyofatoms/Numeral", "appendTo128Bits", "(I)V"⟩ : MethodName)) (own_w hw 32 rfl) (own_w hw 73 rfl) (own_w hw 74 rfl) (by decide)) (own_w hw 74 rfl) (own_w hw 33 rfl) (own_w hw 75 rfl) (by decide) pd__I_V (by rw [hml]; rfl) rfl rfl (Nat.le_of_eq rfl) (by decide) (by decide) (by decide) (by decide) ?_
            rintro T79 _ L79 X79 ⟨rfl, N79q, K79, x9, x10, hW3, P0, P1, P2, P3, P4, P5, P6, P7, P8, P9, P10, P11, P12, P13⟩
            show own_Go p e below _ T79 (mkF m 95 #[.val (.ref o), .val (.ref ca), .val (.int iv), .val (.int lv), .val (.int (f j))] [])
            have N79 := Fr.app N57 N79q
            have sz80 : n0 ≤ T79.heap.size := Nat.le_trans sz58 K79.1
            have K81 := K59.trans K79 (allS (Or.inl (List.mem_of_getElem? (i := 0) rfl)) all0)
            refine own_by (T' := T79) (f' := (mkF m 98 #[.val (.ref o), .val (.ref ca), .val (.int (iv + (1 : Int32))), .val (.int lv), .val (.int (f j))] [])) (fun t k => XS.iinc X79.here hx rfl (hb hby d6_95) rfl (l' := #[.val (.ref o), .val (.ref ca), .val (.int (iv + (1 : Int32))), .val (.int lv), .val (.int (f j))]) rfl k) ?_
            refine own_by (T' := T79) (f' := (mkF m 0 #[.val (.ref o), .val (.ref ca), .val (.int (iv + (1 : Int32))), .val (.int lv), .val (.int (f j))] [])) (fun t k => XS.goto X79.here hx rfl (pc0 := 98) (pc' := 0) rfl (hb hby d6_98) (by decide) (by decide) k) ?_
            have cnd : 0 < sd ∨ ¬ f j = (48 : Int32) := Or.inl (own_ltn z0 hsv hc25_55)
            have f82 := ((AL.other W57 nco).keep K79 (ninS nco nin0))
            have f83 := (f64.keep K79)
            exact ih (j + 1) (sd + 1) (10 * W + d) (iv + (1 : Int32)) (sv + (1 : Int32)) x9 x10 (.val (.int (f j))) T79 T79.heap _ (Or.inr ⟨_, rfl, rfl⟩) (by omega) (own_inc hiv (by omega : j < 1000) (by omega)) hs1 (by omega) hW3 (own_pw hWb hd9) (by rw [hP, own_rp, if_neg hc15_53]) (by rw [hS, own_rs, if_neg hc15_53, if_pos cnd]) (by rw [hV, own_rv, if_neg hc15_53, hdn]) X79 rfl f82 f83 P0 P1 P2 P3 P4 P5 P6 P7 P8 P9 P10 P11 P12 P13 K81 N79 sz80
          · have _ := X60
            refine own_by (T' := T60) (f' := (mkF m 54 #[.val (.ref o), .val (.ref ca), .val (.int iv), .val (.int lv), .val (.int (f j))] [])) (fun t k => XS.icmpNo X60.here hx rfl (hb hby d6_51) rfl (flt hc51_61).2.2.1 k) ?_
            refine own_by (T' := T60) (f' := (mkF m 55 #[.val (.ref o), .val (.ref ca), .val (.int iv), .val (.int lv), .val (.int (f j))] [(.ref o)])) (fun t k => XS.aloadN X60.here hx rfl (hb hby d6_54) rfl rfl k) ?_
            refine own_by (T' := T60) (f' := (mkF m 56 #[.val (.ref o), .val (.ref ca), .val (.int iv), .val (.int lv), .val (.int (f j))] [(.ref o), (.ref o)])) (fun t k => XS.aloadN X60.here hx rfl (hb hby d6_55) rfl rfl k) ?_
            have f84 := (G9.other W57 (Or.inr (sn_35 hw)))
            refine own_getF (host := "") X60 hx hZ hown e60 (hb hby d6_56) (Or.inl (own_w hw 53 rfl)) Via.refl f84 ?_
            intro T85 X85 e85
            show own_Go p e below _ T85 (mkF m 59 #[.val (.ref o), .val (.ref ca), .val (.int iv), .val (.int lv), .val (.int (f j))] [(.long v9), (.ref o)])
            refine own_by (T' := T85) (f' := (mkF m 62 #[.val (.ref o), .val (.ref ca), .val (.int iv), .val (.int lv), .val (.int (f j))] [(.long (10 : Int64)), (.long v9), (.ref o)])) (fun t k => X85.ldc2Long hx hown (mvT hZ (own_w hw 70 rfl)) (g := (mkF m 59 #[.val (.ref o), .val (.ref ca), .val (.int iv), .val (.int lv), .val (.int (f j))] [(.long v9), (.ref o)])) rfl (hb hby d6_59) _ k) ?_
            refine own_by (T' := T85) (f' := (mkF m 63 #[.val (.ref o), .val (.ref ca), .val (.int iv), .val (.int lv), .val (.int (f j))] [(.long (v9 * (10 : Int64))), (.ref o)])) (fun t k => XS.lmul X85.here hx rfl (hb hby d6_62) rfl k) ?_
            refine own_by (T' := T85) (f' := (mkF m 65 #[.val (.ref o), .val (.ref ca), .val (.int iv), .val (.int lv), .val (.int (f j))] [(.int (f j)), (.long (v9 * (10 : Int64))), (.ref o)])) (fun t k => XS.iload X85.here hx rfl (hb hby d6_63) rfl k) ?_
            refine own_by (T' := T85) (f' := (mkF m 66 #[.val (.ref o), .val (.ref ca), .val (.int iv), .val (.int lv), .val (.int (f j))] [(.long ((f j).toInt64)), (.long (v9 * (10 : Int64))), (.ref o)])) (fun t k => XS.i2l X85.here hx rfl (hb hby d6_65) rfl k) ?_
            refine own_by (T' := T85) (f' := (mkF m 67 #[.val (.ref o), .val (.ref ca), .val (.int iv), .val (.int lv), .val (.int (f j))] [(.long ((v9 * (10 : Int64)) + ((f j).toInt64))), (.ref o)])) (fun t k => XS.ladd X85.here hx rfl (hb hby d6_66) rfl k) ?_
            refine own_by (T' := T85) (f' := (mkF m 70 #[.val (.ref o), .val (.ref ca), .val (.int iv), .val (.int lv), .val (.int (f j))] [(.long (48 : Int64)), (.long ((v9 * (10 : Int64)) + ((f j).toInt64))), (.ref o)])) (fun t k => X85.ldc2Long hx hown (mvT hZ (own_w hw 71 rfl)) (g := (mkF m 67 #[.val (.ref o), .val (.ref ca), .val (.int iv), .val (.int lv), .val (.int (f j))] [(.long ((v9 * (10 : Int64)) + ((f j).toInt64))), (.ref o)])) rfl (hb hby d6_67) _ k) ?_
            refine own_by (T' := T85) (f' := (mkF m 71 #[.val (.ref o), .val (.ref ca), .val (.int iv), .val (.int lv), .val (.int (f j))] [(.long (((v9 * (10 : Int64)) + ((f j).toInt64)) - (48 : Int64))), (.ref o)])) (fun t k => XS.lsub X85.here hx rfl (hb hby d6_70) rfl k) ?_
            obtain ⟨vs, hvs⟩ : ∃ z : Int64, z = (((v9 * (10 : Int64)) + ((f j).toInt64)) - (48 : Int64)) := ⟨_, rfl⟩
            rw [← hvs]
            show own_Go p e below _ T85 (mkF m 71 #[.val (.ref o), .val (.ref ca), .val (.int iv), .val (.int lv), .val (.int (f j))] [(.long vs), (.ref o)])
            have l18 := own_nltn z18 hs1 hc51_61
            have hW2 := own_ap1 hW (own_pw17 hWb (by omega)) hd hd9 hvs
            have f86 := (EL.wr W57)
            refine own_putF (host := "") X85 hx hZ hown e85 (hb hby d6_71) (Or.inl (own_w hw 53 rfl)) Via.refl f84 f86 (Or.inl (own_w hw 54 rfl)) (own_w hw 32 rfl) (ty := .long) (by decide) rfl rfl ?_
            intro T87 h87 X87 e87 W87
            show own_Go p e below _ T87 (mkF m 74 #[.val (.ref o), .val (.ref ca), .val (.int iv), .val (.int lv), .val (.int (f j))] [])
            have F87 := f84.same W87
            have sz88 : n0 ≤ h87.size := by rw [W87.size]; exact sz58
            have K89 := K59.wr W87 (Or.inl (List.mem_of_getElem? (i := 0) rfl))
            have N87 := Fr.snoc X87 N57 go
            refine own_by (T' := T87) (f' := (mkF m 95 #[.val (.ref o), .val (.ref ca), .val (.int iv), .val (.int lv), .val (.int (f j))] [])) (fun t k => XS.goto X87.here hx rfl (pc0 := 74) (pc' := 95) rfl (hb hby d6_74) (by decide) (by decide) k) ?_
            refine own_by (T' := T87) (f' := (mkF m 98 #[.val (.ref o), .val (.ref ca), .val (.int (iv + (1 : Int32))), .val (.int lv), .val (.int (f j))] [])) (fun t k => XS.iinc X87.here hx rfl (hb hby d6_95) rfl (l' := #[.val (.ref o), .val (.ref ca), .val (.int (iv + (1 : Int32))), .val (.int lv), .val (.int (f j))]) rfl k) ?_
            refine own_by (T' := T87) (f' := (mkF m 0 #[.val (.ref o), .val (.ref ca), .val (.int (iv + (1 : Int32))), .val (.int lv), .val (.int (f j))] [])) (fun t k => XS.goto X87.here hx rfl (pc0 := 98) (pc' := 0) rfl (hb hby d6_98) (by decide) (by decide) k) ?_
            have cnd : 0 < sd ∨ ¬ f j = (48 : Int32) := Or.inl (own_ltn z0 hsv hc25_55)
            have f90 := ((AL.other W57 nco).other W87 nco)
            have f91 := (f86.wr W87)
            have f92 := ((G0.other W57 (Or.inr (sn_26 hw))).other W87 (Or.inr (sn_2 hw)))
            have f93 := ((G1.other W57 (Or.inr (sn_27 hw))).other W87 (Or.inr (sn_4 hw)))
            have f94 := ((G2.other W57 (Or.inr (sn_28 hw))).other W87 (Or.inr (sn_6 hw)))
            have f95 := ((G3.other W57 (Or.inr (sn_29 hw))).other W87 (Or.inr (sn_8 hw)))
            have f96 := ((G4.other W57 (Or.inr (sn_30 hw))).other W87 (Or.inr (sn_10 hw)))
            have f97 := ((G5.other W57 (Or.inr (sn_31 hw))).other W87 (Or.inr (sn_12 hw)))
            have f98 := ((G6.other W57 (Or.inr (sn_32 hw))).other W87 (Or.inr (sn_14 hw)))
            have f99 := ((G7.other W57 (Or.inr (sn_33 hw))).other W87 (Or.inr (sn_16 hw)))
            have f100 := ((G8.other W57 (Or.inr (sn_34 hw))).other W87 (Or.inr (sn_18 hw)))
            have f101 := ((G10.other W57 (Or.inr (sn_36 hw))).other W87 (Or.inr (sn_19 hw)))
            have f102 := (F57.other W87 (Or.inr (sn_21 hw)))
            have f103 := ((G12.other W57 (Or.inr (sn_37 hw))).other W87 (Or.inr (sn_23 hw)))
            have f104 := ((G13.other W57 (Or.inr (sn_38 hw))).other W87 (Or.inr (sn_25 hw)))
            exact ih (j + 1) (sd + 1) (10 * W + d) (iv + (1 : Int32)) (sv + (1 : Int32)) vs v10 (.val (.int (f j))) T87 h87 _ (Or.inr ⟨_, rfl, rfl⟩) (by omega) (own_inc hiv (by omega : j < 1000) (by omega)) hs1 (by omega) hW2 (own_pw hWb hd9) (by rw [hP, own_rp, if_neg hc15_53]) (by rw [hS, own_rs, if_neg hc15_53, if_pos cnd]) (by rw [hV, own_rv, if_neg hc15_53, hdn]) X87 e87 f90 f91 f92 f93 f94 f95 f96 f97 f98 f99 f100 F87 f101 f102 f103 f104 K89 N87 sz88
        · have _ := X54
          refine own_by (T' := T54) (f' := (mkF m 28 #[.val (.ref o), .val (.ref ca), .val (.int iv), .val (.int lv), .val (.int (f j))] [])) (fun t k => XS.ifNo X54.here hx rfl (hb hby d6_25) rfl ((if0 _ _).trans (flt hc25_55).2.2.1) k) ?_
          refine own_by (T' := T54) (f' := (mkF m 30 #[.val (.ref o), .val (.ref ca), .val (.int iv), .val (.int lv), .val (.int (f j))] [(.int (f j))])) (fun t k => XS.iload X54.here hx rfl (hb hby d6_28) rfl k) ?_
          refine own_by (T' := T54) (f' := (mkF m 32 #[.val (.ref o), .val (.ref ca), .val (.int iv), .val (.int lv), .val (.int (f j))] [(.int (48 : Int32)), (.int (f j))])) (fun t k => XS.bipush X54.here hx rfl (hb hby d6_30) k) ?_
          by_cases hc32_105 : (f j) = (48 : Int32)
          · have _ := X54
            refine own_by (T' := T54) (f' := (mkF m 95 #[.val (.ref o), .val (.ref ca), .val (.int iv), .val (.int lv), .val (.int (f j))] [])) (fun t k => XS.icmpYes X54.here hx rfl (pc0 := 32) (pc' := 95) rfl (hb hby d6_32) rfl (teq hc32_105).1 (by decide) (by decide) k) ?_
            refine own_by (T' := T54) (f' := (mkF m 98 #[.val (.ref o), .val (.ref ca), .val (.int (iv + (1 : Int32))), .val (.int lv), .val (.int (f j))] [])) (fun t k => XS.iinc X54.here hx rfl (hb hby d6_95) rfl (l' := #[.val (.ref o), .val (.ref ca), .val (.int (iv + (1 : Int32))), .val (.int lv), .val (.int (f j))]) rfl k) ?_
            refine own_by (T' := T54) (f' := (mkF m 0 #[.val (.ref o), .val (.ref ca), .val (.int (iv + (1 : Int32))), .val (.int lv), .val (.int (f j))] [])) (fun t k => XS.goto X54.here hx rfl (pc0 := 98) (pc' := 0) rfl (hb hby d6_98) (by decide) (by decide) k) ?_
            have cnd : ¬ (0 < sd ∨ ¬ f j = (48 : Int32)) := fun q => q.elim (own_nltn z0 hsv hc25_55) (fun q => q hc32_105)
            have sd0' : sd = 0 := Nat.eq_zero_of_not_pos (own_nltn z0 hsv hc25_55)
            have d0' : d = 0 := by rw [hc32_105, z48] at hd; omega
            have W0' : 10 * W + d = W := by rw [sd0', Nat.pow_zero] at hWb; omega
            exact ih (j + 1) sd (10 * W + d) (iv + (1 : Int32)) sv v9 v10 (.val (.int (f j))) T54 hL _ (Or.inr ⟨_, rfl, rfl⟩) (by omega) (own_inc hiv (by omega : j < 1000) (by omega)) hsv (by omega) (by rw [W0']; exact hW) (by rw [W0']; exact hWb) (by rw [hP, own_rp, if_neg hc15_53]) (by rw [hS, own_rs, if_neg hc15_53, if_neg cnd]) (by rw [hV, own_rv, if_neg hc15_53, hdn]) X54 e54 AL EL G0 G1 G2 G3 G4 G5 G6 G7 G8 G9 G10 G11 G12 G13 KL NL ZL
          · have _ := X54
            refine own_by (T' := T54) (f' := (mkF m 35 #[.val (.ref o), .val (.ref ca), .val (.int iv), .val (.int lv), .val (.int (f j))] [])) (fun t k => XS.icmpNo X54.here hx rfl (hb hby d6_32) rfl (feq hc32_105).1 k) ?_
            refine own_by (T' := T54) (f' := (mkF m 36 #[.val (.ref o), .val (.ref ca), .val (.int iv), .val (.int lv), .val (.int (f j))] [(.ref o)])) (fun t k => XS.aloadN X54.here hx rfl (hb hby d6_35) rfl rfl k) ?_
            refine own_by (T' := T54) (f' := (mkF m 37 #[.val (.ref o), .val (.ref ca), .val (.int iv), .val (.int lv), .val (.int (f j))] [(.ref o), (.ref o)])) (fun t k => XS.dup X54.here hx rfl (hb hby d6_36) rfl rfl k) ?_
            refine own_getF (host := "") X54 hx hZ hown e54 (hb hby d6_37) (Or.inl (own_w hw 57 rfl)) Via.refl G11 ?_
            intro T106 X106 e106
            show own_Go p e below _ T106 (mkF m 40 #[.val (.ref o), .val (.ref ca), .val (.int iv), .val (.int lv), .val (.int (f j))] [(.int sv), (.ref o)])
            refine own_by (T' := T106) (f' := (mkF m 41 #[.val (.ref o), .val (.ref ca), .val (.int iv), .val (.int lv), .val (.int (f j))] [(.int (1 : Int32)), (.int sv), (.ref o)])) (fun t k => XS.iconst X106.here hx rfl (hb hby d6_40) k) ?_
            refine own_by (T' := T106) (f' := (mkF m 42 #[.val (.ref o), .val (.ref ca), .val (.int iv), .val (.int lv), .val (.int (f j))] [(.int (sv + (1 : Int32))), (.ref o)])) (fun t k => XS.iadd X106.here hx rfl (hb hby d6_41) rfl k) ?_
            have hs1 := own_inc hsv (by omega : sd < 1000) (by omega)
            refine own_putF (host := "") X106 hx hZ hown e106 (hb hby d6_42) (Or.inl (own_w hw 57 rfl)) Via.refl G11 EL (Or.inl (own_w hw 58 rfl)) (own_w hw 32 rfl) (ty := .int) (by decide) rfl rfl ?_
            intro T107 h107 X107 e107 W107
            show own_Go p e below _ T107 (mkF m 45 #[.val (.ref o), .val (.ref ca), .val (.int iv), .val (.int lv), .val (.int (f j))] [])
            have F107 := G11.same W107
            have sz108 : n0 ≤ h107.size := by rw [W107.size]; exact ZL
            have K109 := KL.wr W107 (Or.inl (List.mem_of_getElem? (i := 0) rfl))
            have N107 := Fr.snoc X107 NL go
            refine own_by (T' := T107) (f' := (mkF m 46 #[.val (.ref o), .val (.ref ca), .val (.int iv), .val (.int lv), .val (.int (f j))] [(.ref o)])) (fun t k => XS.aloadN X107.here hx rfl (hb hby d6_45) rfl rfl k) ?_
            refine own_getF (host := "") X107 hx hZ hown e107 (hb hby d6_46) (Or.inl (own_w hw 57 rfl)) Via.refl F107 ?_
            intro T110 X110 e110
            show own_Go p e below _ T110 (mkF m 49 #[.val (.ref o), .val (.ref ca), .val (.int iv), .val (.int lv), .val (.int (f j))] [(.int (sv + (1 : Int32)))])
            refine own_by (T' := T110) (f' := (mkF m 51 #[.val (.ref o), .val (.ref ca), .val (.int iv), .val (.int lv), .val (.int (f j))] [(.int (18 : Int32)), (.int (sv + (1 : Int32)))])) (fun t k => XS.bipush X110.here hx rfl (hb hby d6_49) k) ?_
            by_cases hc51_111 : (18 : Int32) < (sv + (1 : Int32))
            · have _ := X110
              refine own_by (T' := T110) (f' := (mkF m 77 #[.val (.ref o), .val (.ref ca), .val (.int iv), .val (.int lv), .val (.int (f j))] [])) (fun t k => XS.icmpYes X110.here hx rfl (pc0 := 51) (pc' := 77) rfl (hb hby d6_51) rfl (tlt hc51_111).2.2.1 (by decide) (by decide) k) ?_
              refine own_by (T' := T110) (f' := (mkF m 78 #[.val (.ref o), .val (.ref ca), .val (.int iv), .val (.int lv), .val (.int (f j))] [(.ref o)])) (fun t k => XS.aloadN X110.here hx rfl (hb hby d6_77) rfl rfl k) ?_
              refine own_getF (host := "") X110 hx hZ hown e110 (hb hby d6_78) (Or.inl (own_w hw 57 rfl)) Via.refl F107 ?_
              intro T112 X112 e112
              show own_Go p e below _ T112 (mkF m 81 #[.val (.ref o), .val (.ref ca), .val (.int iv), .val (.int lv), .val (.int (f j))] [(.int (sv + (1 : Int32)))])
              refine own_by (T' := T112) (f' := (mkF m 83 #[.val (.ref o), .val (.ref ca), .val (.int iv), .val (.int lv), .val (.int (f j))] [(.int (38 : Int32)), (.int (sv + (1 : Int32)))])) (fun t k => XS.bipush X112.here hx rfl (hb hby d6_81) k) ?_
              have hc83_113 : ¬ ((38 : Int32) < (sv + (1 : Int32))) := (fun z => by have := own_ltn z38 hs1 z; omega)
              refine own_by (T' := T112) (f' := (mkF m 86 #[.val (.ref o), .val (.ref ca), .val (.int iv), .val (.int lv), .val (.int (f j))] [])) (fun t k => XS.icmpNo X112.here hx rfl (hb hby d6_83) rfl (flt hc83_113).2.2.1 k) ?_
              refine own_by (T' := T112) (f' := (mkF m 87 #[.val (.ref o), .val (.ref ca), .val (.int iv), .val (.int lv), .val (.int (f j))] [(.ref o)])) (fun t k => XS.aloadN X112.here hx rfl (hb hby d6_86) rfl rfl k) ?_
              refine own_by (T' := T112) (f' := (mkF m 89 #[.val (.ref o), .val (.ref ca), .val (.int iv), .val (.int lv), .val (.int (f j))] [(.int (f j)), (.ref o)])) (fun t k => XS.iload X112.here hx rfl (hb hby d6_87) rfl k) ?_
              refine own_by (T' := T112) (f' := (mkF m 91 #[.val (.ref o), .val (.ref ca), .val (.int iv), .val (.int lv), .val (.int (f j))] [(.int (48 : Int32)), (.int (f j)), (.ref o)])) (fun t k => XS.bipush X112.here hx rfl (hb hby d6_89) k) ?_
              refine own_by (T' := T112) (f' := (mkF m 92 #[.val (.ref o), .val (.ref ca), .val (.int iv), .val (.int lv), .val (.int (f j))] [(.int ((f j) - (48 : Int32))), (.ref o)])) (fun t k => XS.isub X112.here hx rfl (hb hby d6_91) rfl k) ?_
              have f114 := (EL.wr W107)
              have q115 : ∀ x ∈ [o], ∃ c : Cell, h107[x]? = some c ∧ c.vm.isStatics = false := (allS (own_ns f114) all0)
              have hdd : ((f j) - (48 : Int32)).toInt = ((d : Nat) : Int) := by rw [own_sub hd z48 (by omega)]; omega
              have f116 := (G0.other W107 (Or.inr (sn_26 hw)))
              have f117 := (G1.other W107 (Or.inr (sn_27 hw)))
              have f118 := (G2.other W107 (Or.inr (sn_28 hw)))
              have f119 := (G3.other W107 (Or.inr (sn_29 hw)))
              have f120 := (G4.other W107 (Or.inr (sn_30 hw)))
              have f121 := (G5.other W107 (Or.inr (sn_31 hw)))
              have f122 := (G6.other W107 (Or.inr (sn_32 hw)))
              have f123 := (G7.other W107 (Or.inr (sn_33 hw)))
              have f124 := (G8.other W107 (Or.inr (sn_34 hw)))
              have f125 := (G9.other W107 (Or.inr (sn_35 hw)))
              have f126 := (G10.other W107 (Or.inr (sn_36 hw)))
              have f127 := (G12.other W107 (Or.inr (sn_37 hw)))
              have f128 := (G13.other W107 (Or.inr (sn_38 hw)))
              refine own_callP X112 hx hZ hown e112 (hb hby d6_92) [(.int ((f j) - (48 : Int32)))] [] 0 (rmAP l Z a0 hw [] o ((f j) - (48 : Int32)) v9 v10 W d u0 u1 u2 u3 u4 u5 u6 u7 u8 (.int (sv + (1 : Int32))) u12 u13 h107 n0 sz108 go hW (own_pw37 hWb (by omega)) hdd hd9 f114 f116 f117 f118 f119 f120 f121 f122 f123 f124 f125 f126 F107 f127 f128) f114 (own_w hw 72 rfl) (own_w hw 73 rfl) (own_selP (y := (⟨"com/example/tally_of_atoms/tallyofatoms/Numeral", "appendTo128Bits", "(I)V"⟩ : MethodName)) (own_w hw 32 rfl) (own_w hw 73 rfl) (own_w hw 74 rfl) (by decide)) (own_w hw 74 rfl) (own_w hw 33 rfl) (own_w hw 75 rfl) (by decide) pd__I_V (by rw [hml]; rfl) rfl rfl (Nat.le_of_eq rfl) (by decide) (by decide) (by decide) (by decide) ?_
              rintro T129 _ L129 X129 ⟨rfl, N129q, K129, x9, x10, hW3, P0, P1, P2, P3, P4, P5, P6, P7, P8, P9, P10, P11, P12, P13⟩
              show own_Go p e below _ T129 (mkF m 95 #[.val (.ref o), .val (.ref ca), .val (.int iv), .val (.int lv), .val (.int (f j))] [])
              have N129 := Fr.app N107 N129q
              have sz130 : n0 ≤ T129.heap.size := Nat.le_trans sz108 K129.1
              have K131 := K109.trans K129 (allS (Or.inl (List.mem_of_getElem? (i := 0) rfl)) all0)
              refine own_by (T' := T129) (f' := (mkF m 98 #[.val (.ref o), .val (.ref ca), .val (.int (iv + (1 : Int32))), .val (.int lv), .val (.int (f j))] [])) (fun t k => XS.iinc X129.here hx rfl (hb hby d6_95) rfl (l' := #[.val (.ref o), .val (.ref ca), .val (.int (iv + (1 : Int32))), .val (.int lv), .val (.int (f j))]) rfl k) ?_
              refine own_by (T' := T129) (f' := (mkF m 0 #[.val (.ref o), .val (.ref ca), .val (.int (iv + (1 : Int32))), .val (.int lv), .val (.int (f j))] [])) (fun t k => XS.goto X129.here hx rfl (pc0 := 98) (pc' := 0) rfl (hb hby d6_98) (by decide) (by decide) k) ?_
              have cnd : 0 < sd ∨ ¬ f j = (48 : Int32) := Or.inr hc32_105
              have f132 := ((AL.other W107 nco).keep K129 (ninS nco nin0))
              have f133 := (f114.keep K129)
              exact ih (j + 1) (sd + 1) (10 * W + d) (iv + (1 : Int32)) (sv + (1 : Int32)) x9 x10 (.val (.int (f j))) T129 T129.heap _ (Or.inr ⟨_, rfl, rfl⟩) (by omega) (own_inc hiv (by omega : j < 1000) (by omega)) hs1 (by omega) hW3 (own_pw hWb hd9) (by rw [hP, own_rp, if_neg hc15_53]) (by rw [hS, own_rs, if_neg hc15_53, if_pos cnd]) (by rw [hV, own_rv, if_neg hc15_53, hdn]) X129 rfl f132 f133 P0 P1 P2 P3 P4 P5 P6 P7 P8 P9 P10 P11 P12 P13 K131 N129 sz130
            · have _ := X110
              refine own_by (T' := T110) (f' := (mkF m 54 #[.val (.ref o), .val (.ref ca), .val (.int iv), .val (.int lv), .val (.int (f j))] [])) (fun t k => XS.icmpNo X110.here hx rfl (hb hby d6_51) rfl (flt hc51_111).2.2.1 k) ?_
              refine own_by (T' := T110) (f' := (mkF m 55 #[.val (.ref o), .val (.ref ca), .val (.int iv), .val (.int lv), .val (.int (f j))] [(.ref o)])) (fun t k => XS.aloadN X110.here hx rfl (hb hby d6_54) rfl rfl k) ?_
              refine own_by (T' := T110) (f' := (mkF m 56 #[.val (.ref o), .val (.ref ca), .val (.int iv), .val (.int lv), .val (.int (f j))] [(.ref o), (.ref o)])) (fun t k => XS.aloadN X110.here hx rfl (hb hby d6_55) rfl rfl k) ?_
              have f134 := (G9.other W107 (Or.inr (sn_35 hw)))
              refine own_getF (host := "") X110 hx hZ hown e110 (hb hby d6_56) (Or.inl (own_w hw 53 rfl)) Via.refl f134 ?_
              intro T135 X135 e135
              show own_Go p e below _ T135 (mkF m 59 #[.val (.ref o), .val (.ref ca), .val (.int iv), .val (.int lv), .val (.int (f j))] [(.long v9), (.ref o)])
              refine own_by (T' := T135) (f' := (mkF m 62 #[.val (.ref o), .val (.ref ca), .val (.int iv), .val (.int lv), .val (.int (f j))] [(.long (10 : Int64)), (.long v9), (.ref o)])) (fun t k => X135.ldc2Long hx hown (mvT hZ (own_w hw 70 rfl)) (g := (mkF m 59 #[.val (.ref o), .val (.ref ca), .val (.int iv), .val (.int lv), .val (.int (f j))] [(.long v9), (.ref o)])) rfl (hb hby d6_59) _ k) ?_
              refine own_by (T' := T135) (f' := (mkF m 63 #[.val (.ref o), .val (.ref ca), .val (.int iv), .val (.int lv), .val (.int (f j))] [(.long (v9 * (10 : Int64))), (.ref o)])) (fun t k => XS.lmul X135.here hx rfl (hb hby d6_62) rfl k) ?_
              refine own_by (T' := T135) (f' := (mkF m 65 #[.val (.ref o), .val (.ref ca), .val (.int iv), .val (.int lv), .val (.int (f j))] [(.int (f j)), (.long (v9 * (10 : Int64))), (.ref o)])) (fun t k => XS.iload X135.here hx rfl (hb hby d6_63) rfl k) ?_
              refine own_by (T' := T135) (f' := (mkF m 66 #[.val (.ref o), .val (.ref ca), .val (.int iv), .val (.int lv), .val (.int (f j))] [(.long ((f j).toInt64)), (.long (v9 * (10 : Int64))), (.ref o)])) (fun t k => XS.i2l X135.here hx rfl (hb hby d6_65) rfl k) ?_
              refine own_by (T' := T135) (f' := (mkF m 67 #[.val (.ref o), .val (.ref ca), .val (.int iv), .val (.int lv), .val (.int (f j))] [(.long ((v9 * (10 : Int64)) + ((f j).toInt64))), (.ref o)])) (fun t k => XS.ladd X135.here hx rfl (hb hby d6_66) rfl k) ?_
              refine own_by (T' := T135) (f' := (mkF m 70 #[.val (.ref o), .val (.ref ca), .val (.int iv), .val (.int lv), .val (.int (f j))] [(.long (48 : Int64)), (.long ((v9 * (10 : Int64)) + ((f j).toInt64))), (.ref o)])) (fun t k => X135.ldc2Long hx hown (mvT hZ (own_w hw 71 rfl)) (g := (mkF m 67 #[.val (.ref o), .val (.ref ca), .val (.int iv), .val (.int lv), .val (.int (f j))] [(.long ((v9 * (10 : Int64)) + ((f j).toInt64))), (.ref o)])) rfl (hb hby d6_67) _ k) ?_
              refine own_by (T' := T135) (f' := (mkF m 71 #[.val (.ref o), .val (.ref ca), .val (.int iv), .val (.int lv), .val (.int (f j))] [(.long (((v9 * (10 : Int64)) + ((f j).toInt64)) - (48 : Int64))), (.ref o)])) (fun t k => XS.lsub X135.here hx rfl (hb hby d6_70) rfl k) ?_
              obtain ⟨vs, hvs⟩ : ∃ z : Int64, z = (((v9 * (10 : Int64)) + ((f j).toInt64)) - (48 : Int64)) := ⟨_, rfl⟩
              rw [← hvs]
              show own_Go p e below _ T135 (mkF m 71 #[.val (.ref o), .val (.ref ca), .val (.int iv), .val (.int lv), .val (.int (f j))] [(.long vs), (.ref o)])
              have l18 := own_nltn z18 hs1 hc51_111
              have hW2 := own_ap1 hW (own_pw17 hWb (by omega)) hd hd9 hvs
              have f136 := (EL.wr W107)
              refine own_putF (host := "") X135 hx hZ hown e135 (hb hby d6_71) (Or.inl (own_w hw 53 rfl)) Via.refl f134 f136 (Or.inl (own_w hw 54 rfl)) (own_w hw 32 rfl) (ty := .long) (by decide) rfl rfl ?_
              intro T137 h137 X137 e137 W137
              show own_Go p e below _ T137 (mkF m 74 #[.val (.ref o), .val (.ref ca), .val (.int iv), .val (.int lv), .val (.int (f j))] [])
              have F137 := f134.same W137
              have sz138 : n0 ≤ h137.size := by rw [W137.size]; exact sz108
              have K139 := K109.wr W137 (Or.inl (List.mem_of_getElem? (i := 0) rfl))
              have N137 := Fr.snoc X137 N107 go
              refine own_by (T' := T137) (f' := (mkF m 95 #[.val (.ref o), .val (.ref ca), .val (.int iv), .val (.int lv), .val (.int (f j))] [])) (fun t k => XS.goto X137.here hx rfl (pc0 := 74) (pc' := 95) rfl (hb hby d6_74) (by decide) (by decide) k) ?_
              refine own_by (T' := T137) (f' := (mkF m 98 #[.val (.ref o), .val (.ref ca), .val (.int (iv + (1 : Int32))), .val (.int lv), .val (.int (f j))] [])) (fun t k => XS.iinc X137.here hx rfl (hb hby d6_95) rfl (l' := #[.val (.ref o), .val (.ref ca), .val (.int (iv + (1 : Int32))), .val (.int lv), .val (.int (f j))]) rfl k) ?_
              refine own_by (T' := T137) (f' := (mkF m 0 #[.val (.ref o), .val (.ref ca), .val (.int (iv + (1 : Int32))), .val (.int lv), .val (.int (f j))] [])) (fun t k => XS.goto X137.here hx rfl (pc0 := 98) (pc' := 0) rfl (hb hby d6_98) (by decide) (by decide) k) ?_
              have cnd : 0 < sd ∨ ¬ f j = (48 : Int32) := Or.inr hc32_105
              have f140 := ((AL.other W107 nco).other W137 nco)
              have f141 := (f136.wr W137)
              have f142 := ((G0.other W107 (Or.inr (sn_26 hw))).other W137 (Or.inr (sn_2 hw)))
              have f143 := ((G1.other W107 (Or.inr (sn_27 hw))).other W137 (Or.inr (sn_4 hw)))
              have f144 := ((G2.other W107 (Or.inr (sn_28 hw))).other W137 (Or.inr (sn_6 hw)))
              have f145 := ((G3.other W107 (Or.inr (sn_29 hw))).other W137 (Or.inr (sn_8 hw)))
              have f146 := ((G4.other W107 (Or.inr (sn_30 hw))).other W137 (Or.inr (sn_10 hw)))
              have f147 := ((G5.other W107 (Or.inr (sn_31 hw))).other W137 (Or.inr (sn_12 hw)))
              have f148 := ((G6.other W107 (Or.inr (sn_32 hw))).other W137 (Or.inr (sn_14 hw)))
              have f149 := ((G7.other W107 (Or.inr (sn_33 hw))).other W137 (Or.inr (sn_16 hw)))
              have f150 := ((G8.other W107 (Or.inr (sn_34 hw))).other W137 (Or.inr (sn_18 hw)))
              have f151 := ((G10.other W107 (Or.inr (sn_36 hw))).other W137 (Or.inr (sn_19 hw)))
              have f152 := (F107.other W137 (Or.inr (sn_21 hw)))
              have f153 := ((G12.other W107 (Or.inr (sn_37 hw))).other W137 (Or.inr (sn_23 hw)))
              have f154 := ((G13.other W107 (Or.inr (sn_38 hw))).other W137 (Or.inr (sn_25 hw)))
              exact ih (j + 1) (sd + 1) (10 * W + d) (iv + (1 : Int32)) (sv + (1 : Int32)) vs v10 (.val (.int (f j))) T137 h137 _ (Or.inr ⟨_, rfl, rfl⟩) (by omega) (own_inc hiv (by omega : j < 1000) (by omega)) hs1 (by omega) hW2 (own_pw hWb hd9) (by rw [hP, own_rp, if_neg hc15_53]) (by rw [hS, own_rs, if_neg hc15_53, if_pos cnd]) (by rw [hV, own_rv, if_neg hc15_53, hdn]) X137 e137 f140 f141 f142 f143 f144 f145 f146 f147 f148 f149 f150 F137 f151 f152 f153 f154 K139 N137 sz138
  rw [ef_rmRD]
  exact loop (lim - j0) j0 sd0 W0 iv0 sv v9 v10 .unset s₁ h0 _ (Or.inl rfl) (by omega) hj hsd (by omega) hW0 hWb0 rfl rfl rfl X0 e0 A1 EO F0 F1 F2 F3 F4 F5 F6 F7 F8 F9 F10 F11 F12 F13 (Keep.refl h0 [o]) (Fr.nil n0) Z0
theorem ef_rmSC (m : MethodId) (x0 : Addr) (x1 : Addr) (x2 : Int32) (x3 : Int32) : entryFrame m #[(.ref x0), (.ref x1), (.int x2), (.int x3)] 9 = mkF m 0 #[.val (.ref x0), .val (.ref x1), .val (.int x2), .val (.int x3), .unset, .unset, .unset, .unset, .unset] [] := by first | (simp [entryFrame, mkF, argsToLocals, Value.category]; done) | rfl
set_option maxRecDepth 65536 in
set_option maxHeartbeats 40000000 in
theorem rmSC (l : Launch) (Z : State) (a0 : Array Value) (hw : ∀ d ∈ tables_1, d.before a0 Z = true) (ws : List Jvm.Cond) (o ca : Addr) (iv0 lv : Int32) (j0 lim : Nat) (f : Nat → Int32) (u0 u1 u2 u3 u4 u5 u6 u7 u8 u9 u10 u11 u12 u13 : Value) (h0 : Heap) (n0 : Nat) (Z0 : n0 ≤ h0.size) (go : n0 ≤ o) (nco : ca ≠ o) (hj : iv0.toInt = (j0 : Nat)) (hl : lv.toInt = (lim : Nat)) (hjl : j0 ≤ lim) (hlim : lim ≤ 37) (hnx : ¬ own_exq f j0 lim) (A1 : own_A Z h0 ca .char 37 f) (EO : Exa Z h0 o "com/example/tally_of_atoms/tallyofatoms/Numeral") (F0 : Fld Z h0 o "com/example/tally_of_atoms/tallyofatoms/Numeral" "characters" "[C" u0) (F1 : Fld Z h0 o "com/example/tally_of_atoms/tallyofatoms/Numeral" "start" "I" u1) (F2 : Fld Z h0 o "com/example/tally_of_atoms/tallyofatoms/Numeral" "end" "I" u2) (F3 : Fld Z h0 o "com/example/tally_of_atoms/tallyofatoms/Numeral" "digits" "I" u3) (F4 : Fld Z h0 o "com/example/tally_of_atoms/tallyofatoms/Numeral" "point" "Z" u4) (F5 : Fld Z h0 o "com/example/tally_of_atoms/tallyofatoms/Numeral" "exponent" "Z" u5) (F6 : Fld Z h0 o "com/example/tally_of_atoms/tallyofatoms/Numeral" "exponentDigits" "Z" u6) (F7 : Fld Z h0 o "com/example/tally_of_atoms/tallyofatoms/Numeral" "special" "I" u7) (F8 : Fld Z h0 o "com/example/tally_of_atoms/tallyofatoms/Numeral" "negative" "Z" u8) (F9 : Fld Z h0 o "com/example/tally_of_atoms/tallyofatoms/Numeral" "significand" "J" u9) (F10 : Fld Z h0 o "com/example/tally_of_atoms/tallyofatoms/Numeral" "significandHigh" "J" u10) (F11 : Fld Z h0 o "com/example/tally_of_atoms/tallyofatoms/Numeral" "significantDigits" "I" u11) (F12 : Fld Z h0 o "com/example/tally_of_atoms/tallyofatoms/Numeral" "scale" "I" u12) (F13 : Fld Z h0 o "com/example/tally_of_atoms/tallyofatoms/Numeral" "exponentValue" "I" u13) :
    own_Ct l Z (⟨"com/example/tally_of_atoms/tallyofatoms/Numeral", "scan", "([CII)Lcom/example/tally_of_atoms/tallyofatoms/Numeral;"⟩ : MethodName) prog_102_method_2_code 9 (some (.object "com/example/tally_of_atoms/tallyofatoms/Numeral")) ws ({ frames := 4, cells := 0, slots := 0, locals := 90 } : Room) #[(.ref o), (.ref ca), (.int iv0), (.int lv)] h0 (fun v h L => v = some (.ref o) ∧ Fr n0 L ∧ Keep h0 h [o] ∧ ∃ (v9 v10 : Int64), own_rep v9 v10 (own_v2 f j0 lim) ∧ ∃ u0 u1 u2 u3 u4 u5 u6 u7 u11 u12 u13 : Value, Fld Z h o "com/example/tally_of_atoms/tallyofatoms/Numeral" "characters" "[C" u0 ∧ Fld Z h o "com/example/tally_of_atoms/tallyofatoms/Numeral" "start" "I" u1 ∧ Fld Z h o "com/example/tally_of_atoms/tallyofatoms/Numeral" "end" "I" u2 ∧ Fld Z h o "com/example/tally_of_atoms/tallyofatoms/Numeral" "digits" "I" u3 ∧ Fld Z h o "com/example/tally_of_atoms/tallyofatoms/Numeral" "point" "Z" u4 ∧ Fld Z h o "com/example/tally_of_atoms/tallyofatoms/Numeral" "exponent" "Z" u5 ∧ Fld Z h o "com/example/tally_of_atoms/tallyofatoms/Numeral" "exponentDigits" "Z" u6 ∧ Fld Z h o "com/example/tally_of_atoms/tallyofatoms/Numeral" "special" "I" u7 ∧ Fld Z h o "com/example/tally_of_atoms/tallyofatoms/Numeral" "negative" "Z" (.int 0) ∧ Fld Z h o "com/example/tally_of_atoms/tallyofatoms/Numeral" "significand" "J" (.long v9) ∧ Fld Z h o "com/example/tally_of_atoms/tallyofatoms/Numeral" "significandHigh" "J" (.long v10) ∧ Fld Z h o "com/example/tally_of_atoms/tallyofatoms/Numeral" "significantDigits" "I" u11 ∧ Fld Z h o "com/example/tally_of_atoms/tallyofatoms/Numeral" "scale" "I" u12 ∧ Fld Z h o "com/example/tally_of_atoms/tallyofatoms/Numeral" "exponentValue" "I" u13) := by
  refine own_of (plainFor_of_name pn_com_example_tally_of_atoms_tallyofatoms_Numeral) ?_
  intro p e s m below meth c s₁ hx hby hml hown hnm hret hlk hZ X0 e0
  have N0 := Fr.nil n0
  have K0 := Keep.refl h0 [o]
  rw [ef_rmSC]
  refine own_by (T' := s₁) (f' := (mkF m 1 #[.val (.ref o), .val (.ref ca), .val (.int iv0), .val (.int lv), .unset, .unset, .unset, .unset, .unset] [(.ref o)])) (fun t k => XS.aloadN X0.here hx rfl (hb hby d5_0) rfl rfl k) ?_
  refine own_by (T' := s₁) (f' := (mkF m 2 #[.val (.ref o), .val (.ref ca), .val (.int iv0), .val (.int lv), .unset, .unset, .unset, .unset, .unset] [(.ref ca), (.ref o)])) (fun t k => XS.aloadN X0.here hx rfl (hb hby d5_1) rfl rfl k) ?_
  refine own_putF (host := "") X0 hx hZ hown e0 (hb hby d5_2) (Or.inl (own_w hw 45 rfl)) Via.refl F0 EO (Or.inl (own_w hw 46 rfl)) (own_w hw 32 rfl) (ty := (.array .char)) (by decide) rfl rfl ?_
  intro T101 h101 X101 e101 W101
  show own_Go p e below _ T101 (mkF m 5 #[.val (.ref o), .val (.ref ca), .val (.int iv0), .val (.int lv), .unset, .unset, .unset, .unset, .unset] [])
  have F101 := F0.same W101
  have sz102 : n0 ≤ h101.size := by rw [W101.size]; exact Z0
  have K103 := K0.wr W101 (Or.inl (List.mem_of_getElem? (i := 0) rfl))
  have N101 := Fr.snoc X101 N0 go
  refine own_by (T' := T101) (f' := (mkF m 6 #[.val (.ref o), .val (.ref ca), .val (.int iv0), .val (.int lv), .unset, .unset, .unset, .unset, .unset] [(.ref o)])) (fun t k => XS.aloadN X101.here hx rfl (hb hby d5_5) rfl rfl k) ?_
  refine own_by (T' := T101) (f' := (mkF m 7 #[.val (.ref o), .val (.ref ca), .val (.int iv0), .val (.int lv), .unset, .unset, .unset, .unset, .unset] [(.int iv0), (.ref o)])) (fun t k => XS.iloadN X101.here hx rfl (hb hby d5_6) rfl k) ?_
  have f104 := (F1.other W101 (Or.inr (sn_39 hw)))
  have f105 := (EO.wr W101)
  refine own_putF (host := "") X101 hx hZ hown e101 (hb hby d5_7) (Or.inl (own_w hw 47 rfl)) Via.refl f104 f105 (Or.inl (own_w hw 48 rfl)) (own_w hw 32 rfl) (ty := .int) (by decide) rfl rfl ?_
  intro T106 h106 X106 e106 W106
  show own_Go p e below _ T106 (mkF m 10 #[.val (.ref o), .val (.ref ca), .val (.int iv0), .val (.int lv), .unset, .unset, .unset, .unset, .unset] [])
  have F106 := f104.same W106
  have sz107 : n0 ≤ h106.size := by rw [W106.size]; exact sz102
  have K108 := K103.wr W106 (Or.inl (List.mem_of_getElem? (i := 0) rfl))
  have N106 := Fr.snoc X106 N101 go
  refine own_by (T' := T106) (f' := (mkF m 11 #[.val (.ref o), .val (.ref ca), .val (.int iv0), .val (.int lv), .unset, .unset, .unset, .unset, .unset] [(.ref o)])) (fun t k => XS.aloadN X106.here hx rfl (hb hby d5_10) rfl rfl k) ?_
  refine own_by (T' := T106) (f' := (mkF m 12 #[.val (.ref o), .val (.ref ca), .val (.int iv0), .val (.int lv), .unset, .unset, .unset, .unset, .unset] [(.int (-1 : Int32)), (.ref o)])) (fun t k => XS.iconst X106.here hx rfl (hb hby d5_11) k) ?_
  have f109 := ((F7.other W101 (Or.inr (sn_40 hw))).other W106 (Or.inr (sn_41 hw)))
  have f110 := (f105.wr W106)
  refine own_putF (host := "") X106 hx hZ hown e106 (hb hby d5_12) (Or.inl (own_w hw 49 rfl)) Via.refl f109 f110 (Or.inl (own_w hw 50 rfl)) (own_w hw 32 rfl) (ty := .int) (by decide) rfl rfl ?_
  intro T111 h111 X111 e111 W111
  show own_Go p e below _ T111 (mkF m 15 #[.val (.ref o), .val (.ref ca), .val (.int iv0), .val (.int lv), .unset, .unset, .unset, .unset, .unset] [])
  have F111 := f109.same W111
  have sz112 : n0 ≤ h111.size := by rw [W111.size]; exact sz107
  have K113 := K108.wr W111 (Or.inl (List.mem_of_getElem? (i := 0) rfl))
  have N111 := Fr.snoc X111 N106 go
  refine own_by (T' := T111) (f' := (mkF m 16 #[.val (.ref o), .val (.ref ca), .val (.int iv0), .val (.int lv), .unset, .unset, .unset, .unset, .unset] [(.ref o)])) (fun t k => XS.aloadN X111.here hx rfl (hb hby d5_15) rfl rfl k) ?_
  refine own_by (T' := T111) (f' := (mkF m 17 #[.val (.ref o), .val (.ref ca), .val (.int iv0), .val (.int lv), .unset, .unset, .unset, .unset, .unset] [(.int (0 : Int32)), (.ref o)])) (fun t k => XS.iconst X111.here hx rfl (hb hby d5_16) k) ?_
  have f114 := (((F8.other W101 (Or.inr (sn_42 hw))).other W106 (Or.inr (sn_43 hw))).other W111 (Or.inr (sn_44 hw)))
  have f115 := (f110.wr W111)
  refine own_putF (host := "") X111 hx hZ hown e111 (hb hby d5_17) (Or.inl (own_w hw 51 rfl)) Via.refl f114 f115 (Or.inl (own_w hw 52 rfl)) (own_w hw 32 rfl) (ty := .boolean) (by decide) rfl rfl ?_
  intro T116 h116 X116 e116 W116
  show own_Go p e below _ T116 (mkF m 20 #[.val (.ref o), .val (.ref ca), .val (.int iv0), .val (.int lv), .unset, .unset, .unset, .unset, .unset] [])
  have F116 := f114.same W116
  have sz117 : n0 ≤ h116.size := by rw [W116.size]; exact sz112
  have K118 := K113.wr W116 (Or.inl (List.mem_of_getElem? (i := 0) rfl))
  have N116 := Fr.snoc X116 N111 go
  refine own_by (T' := T116) (f' := (mkF m 21 #[.val (.ref o), .val (.ref ca), .val (.int iv0), .val (.int lv), .unset, .unset, .unset, .unset, .unset] [(.ref o)])) (fun t k => XS.aloadN X116.here hx rfl (hb hby d5_20) rfl rfl k) ?_
  refine own_by (T' := T116) (f' := (mkF m 22 #[.val (.ref o), .val (.ref ca), .val (.int iv0), .val (.int lv), .unset, .unset, .unset, .unset, .unset] [(.long (0 : Int64)), (.ref o)])) (fun t k => XS.lconst X116.here hx rfl (hb hby d5_21) k) ?_
  have f119 := ((((F9.other W101 (Or.inr (sn_45 hw))).other W106 (Or.inr (sn_46 hw))).other W111 (Or.inr (sn_47 hw))).other W116 (Or.inr (sn_48 hw)))
  have f120 := (f115.wr W116)
  refine own_putF (host := "") X116 hx hZ hown e116 (hb hby d5_22) (Or.inl (own_w hw 53 rfl)) Via.refl f119 f120 (Or.inl (own_w hw 54 rfl)) (own_w hw 32 rfl) (ty := .long) (by decide) rfl rfl ?_
  intro T121 h121 X121 e121 W121
  show own_Go p e below _ T121 (mkF m 25 #[.val (.ref o), .val (.ref ca), .val (.int iv0), .val (.int lv), .unset, .unset, .unset, .unset, .unset] [])
  have F121 := f119.same W121
  have sz122 : n0 ≤ h121.size := by rw [W121.size]; exact sz117
  have K123 := K118.wr W121 (Or.inl (List.mem_of_getElem? (i := 0) rfl))
  have N121 := Fr.snoc X121 N116 go
  refine own_by (T' := T121) (f' := (mkF m 26 #[.val (.ref o), .val (.ref ca), .val (.int iv0), .val (.int lv), .unset, .unset, .unset, .unset, .unset] [(.ref o)])) (fun t k => XS.aloadN X121.here hx rfl (hb hby d5_25) rfl rfl k) ?_
  refine own_by (T' := T121) (f' := (mkF m 27 #[.val (.ref o), .val (.ref ca), .val (.int iv0), .val (.int lv), .unset, .unset, .unset, .unset, .unset] [(.long (0 : Int64)), (.ref o)])) (fun t k => XS.lconst X121.here hx rfl (hb hby d5_26) k) ?_
  have f124 := (((((F10.other W101 (Or.inr (sn_49 hw))).other W106 (Or.inr (sn_50 hw))).other W111 (Or.inr (sn_51 hw))).other W116 (Or.inr (sn_52 hw))).other W121 (Or.inr (sn_19 hw)))
  have f125 := (f120.wr W121)
  refine own_putF (host := "") X121 hx hZ hown e121 (hb hby d5_27) (Or.inl (own_w hw 55 rfl)) Via.refl f124 f125 (Or.inl (own_w hw 56 rfl)) (own_w hw 32 rfl) (ty := .long) (by decide) rfl rfl ?_
  intro T126 h126 X126 e126 W126
  show own_Go p e below _ T126 (mkF m 30 #[.val (.ref o), .val (.ref ca), .val (.int iv0), .val (.int lv), .unset, .unset, .unset, .unset, .unset] [])
  have F126 := f124.same W126
  have sz127 : n0 ≤ h126.size := by rw [W126.size]; exact sz122
  have K128 := K123.wr W126 (Or.inl (List.mem_of_getElem? (i := 0) rfl))
  have N126 := Fr.snoc X126 N121 go
  refine own_by (T' := T126) (f' := (mkF m 31 #[.val (.ref o), .val (.ref ca), .val (.int iv0), .val (.int lv), .unset, .unset, .unset, .unset, .unset] [(.ref o)])) (fun t k => XS.aloadN X126.here hx rfl (hb hby d5_30) rfl rfl k) ?_
  refine own_by (T' := T126) (f' := (mkF m 32 #[.val (.ref o), .val (.ref ca), .val (.int iv0), .val (.int lv), .unset, .unset, .unset, .unset, .unset] [(.int (0 : Int32)), (.ref o)])) (fun t k => XS.iconst X126.here hx rfl (hb hby d5_31) k) ?_
  have f129 := ((((((F11.other W101 (Or.inr (sn_53 hw))).other W106 (Or.inr (sn_54 hw))).other W111 (Or.inr (sn_55 hw))).other W116 (Or.inr (sn_56 hw))).other W121 (Or.inr (sn_21 hw))).other W126 (Or.inr (sn_20 hw)))
  have f130 := (f125.wr W126)
  refine own_putF (host := "") X126 hx hZ hown e126 (hb hby d5_32) (Or.inl (own_w hw 57 rfl)) Via.refl f129 f130 (Or.inl (own_w hw 58 rfl)) (own_w hw 32 rfl) (ty := .int) (by decide) rfl rfl ?_
  intro T131 h131 X131 e131 W131
  show own_Go p e below _ T131 (mkF m 35 #[.val (.ref o), .val (.ref ca), .val (.int iv0), .val (.int lv), .unset, .unset, .unset, .unset, .unset] [])
  have F131 := f129.same W131
  have sz132 : n0 ≤ h131.size := by rw [W131.size]; exact sz127
  have K133 := K128.wr W131 (Or.inl (List.mem_of_getElem? (i := 0) rfl))
  have N131 := Fr.snoc X131 N126 go
  refine own_by (T' := T131) (f' := (mkF m 36 #[.val (.ref o), .val (.ref ca), .val (.int iv0), .val (.int lv), .unset, .unset, .unset, .unset, .unset] [(.ref o)])) (fun t k => XS.aloadN X131.here hx rfl (hb hby d5_35) rfl rfl k) ?_
  refine own_by (T' := T131) (f' := (mkF m 37 #[.val (.ref o), .val (.ref ca), .val (.int iv0), .val (.int lv), .unset, .unset, .unset, .unset, .unset] [(.int (0 : Int32)), (.ref o)])) (fun t k => XS.iconst X131.here hx rfl (hb hby d5_36) k) ?_
  have f134 := (((((((F12.other W101 (Or.inr (sn_57 hw))).other W106 (Or.inr (sn_58 hw))).other W111 (Or.inr (sn_59 hw))).other W116 (Or.inr (sn_60 hw))).other W121 (Or.inr (sn_23 hw))).other W126 (Or.inr (sn_22 hw))).other W131 (Or.inr (sn_37 hw)))
  have f135 := (f130.wr W131)
  refine own_putF (host := "") X131 hx hZ hown e131 (hb hby d5_37) (Or.inl (own_w hw 59 rfl)) Via.refl f134 f135 (Or.inl (own_w hw 60 rfl)) (own_w hw 32 rfl) (ty := .int) (by decide) rfl rfl ?_
  intro T136 h136 X136 e136 W136
  show own_Go p e below _ T136 (mkF m 40 #[.val (.ref o), .val (.ref ca), .val (.int iv0), .val (.int lv), .unset, .unset, .unset, .unset, .unset] [])
  have F136 := f134.same W136
  have sz137 : n0 ≤ h136.size := by rw [W136.size]; exact sz132
  have K138 := K133.wr W136 (Or.inl (List.mem_of_getElem? (i := 0) rfl))
  have N136 := Fr.snoc X136 N131 go
  refine own_by (T' := T136) (f' := (mkF m 41 #[.val (.ref o), .val (.ref ca), .val (.int iv0), .val (.int lv), .unset, .unset, .unset, .unset, .unset] [(.ref o)])) (fun t k => XS.aloadN X136.here hx rfl (hb hby d5_40) rfl rfl k) ?_
  refine own_by (T' := T136) (f' := (mkF m 42 #[.val (.ref o), .val (.ref ca), .val (.int iv0), .val (.int lv), .unset, .unset, .unset, .unset, .unset] [(.int (0 : Int32)), (.ref o)])) (fun t k => XS.iconst X136.here hx rfl (hb hby d5_41) k) ?_
  have f139 := ((((((((F13.other W101 (Or.inr (sn_61 hw))).other W106 (Or.inr (sn_62 hw))).other W111 (Or.inr (sn_63 hw))).other W116 (Or.inr (sn_64 hw))).other W121 (Or.inr (sn_25 hw))).other W126 (Or.inr (sn_24 hw))).other W131 (Or.inr (sn_38 hw))).other W136 (Or.inr (sn_65 hw)))
  have f140 := (f135.wr W136)
  refine own_putF (host := "") X136 hx hZ hown e136 (hb hby d5_42) (Or.inl (own_w hw 61 rfl)) Via.refl f139 f140 (Or.inl (own_w hw 62 rfl)) (own_w hw 32 rfl) (ty := .int) (by decide) rfl rfl ?_
  intro T141 h141 X141 e141 W141
  show own_Go p e below _ T141 (mkF m 45 #[.val (.ref o), .val (.ref ca), .val (.int iv0), .val (.int lv), .unset, .unset, .unset, .unset, .unset] [])
  have F141 := f139.same W141
  have sz142 : n0 ≤ h141.size := by rw [W141.size]; exact sz137
  have K143 := K138.wr W141 (Or.inl (List.mem_of_getElem? (i := 0) rfl))
  have N141 := Fr.snoc X141 N136 go
  refine own_by (T' := T141) (f' := (mkF m 46 #[.val (.ref o), .val (.ref ca), .val (.int iv0), .val (.int lv), .unset, .unset, .unset, .unset, .unset] [(.ref o)])) (fun t k => XS.aloadN X141.here hx rfl (hb hby d5_45) rfl rfl k) ?_
  refine own_by (T' := T141) (f' := (mkF m 47 #[.val (.ref o), .val (.ref ca), .val (.int iv0), .val (.int lv), .unset, .unset, .unset, .unset, .unset] [(.ref ca), (.ref o)])) (fun t k => XS.aloadN X141.here hx rfl (hb hby d5_46) rfl rfl k) ?_
  refine own_by (T' := T141) (f' := (mkF m 48 #[.val (.ref o), .val (.ref ca), .val (.int iv0), .val (.int lv), .unset, .unset, .unset, .unset, .unset] [(.int iv0), (.ref ca), (.ref o)])) (fun t k => XS.iloadN X141.here hx rfl (hb hby d5_47) rfl k) ?_
  refine own_by (T' := T141) (f' := (mkF m 49 #[.val (.ref o), .val (.ref ca), .val (.int iv0), .val (.int lv), .unset, .unset, .unset, .unset, .unset] [(.int lv), (.int iv0), (.ref ca), (.ref o)])) (fun t k => XS.iloadN X141.here hx rfl (hb hby d5_48) rfl k) ?_
  have f144 := (f140.wr W141)
  have q145 : ∀ x ∈ [o], ∃ c : Cell, h141[x]? = some c ∧ c.vm.isStatics = false := (allS (own_ns f144) all0)
  have f146 := (((((((((A1.other W101 nco).other W106 nco).other W111 nco).other W116 nco).other W121 nco).other W126 nco).other W131 nco).other W136 nco).other W141 nco)
  have f147 := ((((((((F101.other W106 (Or.inr (sn_66 hw))).other W111 (Or.inr (sn_67 hw))).other W116 (Or.inr (sn_68 hw))).other W121 (Or.inr (sn_2 hw))).other W126 (Or.inr (sn_1 hw))).other W131 (Or.inr (sn_26 hw))).other W136 (Or.inr (sn_69 hw))).other W141 (Or.inr (sn_70 hw)))
  have f148 := (((((((F106.other W111 (Or.inr (sn_71 hw))).other W116 (Or.inr (sn_72 hw))).other W121 (Or.inr (sn_4 hw))).other W126 (Or.inr (sn_3 hw))).other W131 (Or.inr (sn_27 hw))).other W136 (Or.inr (sn_73 hw))).other W141 (Or.inr (sn_74 hw)))
  have f149 := (((((((((F2.other W101 (Or.inr (sn_75 hw))).other W106 (Or.inr (sn_76 hw))).other W111 (Or.inr (sn_77 hw))).other W116 (Or.inr (sn_78 hw))).other W121 (Or.inr (sn_6 hw))).other W126 (Or.inr (sn_5 hw))).other W131 (Or.inr (sn_28 hw))).other W136 (Or.inr (sn_79 hw))).other W141 (Or.inr (sn_80 hw)))
  have f150 := (((((((((F3.other W101 (Or.inr (sn_81 hw))).other W106 (Or.inr (sn_82 hw))).other W111 (Or.inr (sn_83 hw))).other W116 (Or.inr (sn_84 hw))).other W121 (Or.inr (sn_8 hw))).other W126 (Or.inr (sn_7 hw))).other W131 (Or.inr (sn_29 hw))).other W136 (Or.inr (sn_85 hw))).other W141 (Or.inr (sn_86 hw)))
  have f151 := (((((((((F4.other W101 (Or.inr (sn_87 hw))).other W106 (Or.inr (sn_88 hw))).other W111 (Or.inr (sn_89 hw))).other W116 (Or.inr (sn_90 hw))).other W121 (Or.inr (sn_10 hw))).other W126 (Or.inr (sn_9 hw))).other W131 (Or.inr (sn_30 hw))).other W136 (Or.inr (sn_91 hw))).other W141 (Or.inr (sn_92 hw)))
  have f152 := (((((((((F5.other W101 (Or.inr (sn_93 hw))).other W106 (Or.inr (sn_94 hw))).other W111 (Or.inr (sn_95 hw))).other W116 (Or.inr (sn_96 hw))).other W121 (Or.inr (sn_12 hw))).other W126 (Or.inr (sn_11 hw))).other W131 (Or.inr (sn_31 hw))).other W136 (Or.inr (sn_97 hw))).other W141 (Or.inr (sn_98 hw)))
  have f153 := (((((((((F6.other W101 (Or.inr (sn_99 hw))).other W106 (Or.inr (sn_100 hw))).other W111 (Or.inr (sn_101 hw))).other W116 (Or.inr (sn_102 hw))).other W121 (Or.inr (sn_14 hw))).other W126 (Or.inr (sn_13 hw))).other W131 (Or.inr (sn_32 hw))).other W136 (Or.inr (sn_103 hw))).other W141 (Or.inr (sn_104 hw)))
  have f154 := ((((((F111.other W116 (Or.inr (sn_105 hw))).other W121 (Or.inr (sn_16 hw))).other W126 (Or.inr (sn_15 hw))).other W131 (Or.inr (sn_33 hw))).other W136 (Or.inr (sn_106 hw))).other W141 (Or.inr (sn_107 hw)))
  have f155 := (((((F116.other W121 (Or.inr (sn_18 hw))).other W126 (Or.inr (sn_17 hw))).other W131 (Or.inr (sn_34 hw))).other W136 (Or.inr (sn_108 hw))).other W141 (Or.inr (sn_109 hw)))
  have f156 := ((((F121.other W126 (Or.inr (sn_0 hw))).other W131 (Or.inr (sn_35 hw))).other W136 (Or.inr (sn_110 hw))).other W141 (Or.inr (sn_111 hw)))
  have f157 := (((F126.other W131 (Or.inr (sn_36 hw))).other W136 (Or.inr (sn_112 hw))).other W141 (Or.inr (sn_113 hw)))
  have f158 := ((F131.other W136 (Or.inr (sn_114 hw))).other W141 (Or.inr (sn_115 hw)))
  have f159 := (F136.other W141 (Or.inr (sn_116 hw)))
  refine own_callP X141 hx hZ hown e141 (hb hby d5_49) [(.ref ca), (.int iv0), (.int lv)] [] 0 (rmRD l Z a0 hw [] o ca iv0 lv (0 : Int32) j0 lim 0 0 f (0 : Int64) (0 : Int64) (.ref ca) (.int iv0) u2 u3 u4 u5 u6 (.int (-1 : Int32)) (.int (0 : Int32)) (.int (0 : Int32)) (.int (0 : Int32)) h141 n0 sz142 go nco hj hl hjl hlim (by decide) (by omega) own_rep0 (by decide) f146 f144 f147 f148 f149 f150 f151 f152 f153 f154 f155 f156 f157 f158 f159 F141) f144 (own_w hw 63 rfl) (own_w hw 64 rfl) (own_selP (y := (⟨"com/example/tally_of_atoms/tallyofatoms/Numeral", "readDigits", "([CII)I"⟩ : MethodName)) (own_w hw 32 rfl) (own_w hw 64 rfl) (own_w hw 65 rfl) (by decide)) (own_w hw 65 rfl) (own_w hw 33 rfl) (own_w hw 66 rfl) (by decide) pd___CII_I (by rw [hml]; rfl) rfl rfl (Nat.le_of_eq rfl) (by decide) (by decide) (by decide) (by decide) ?_
  rintro T160 _ L160 X160 ⟨r1, rfl, hr1, N160q, K160, y9_1, y10_1, sv1, hsv1, hW1, hWb1, P1_0, P1_1, P1_2, P1_3, P1_4, P1_5, P1_6, P1_7, P1_8, P1_9, P1_10, P1_11, P1_12, P1_13⟩
  show own_Go p e below _ T160 (mkF m 52 #[.val (.ref o), .val (.ref ca), .val (.int iv0), .val (.int lv), .unset, .unset, .unset, .unset, .unset] [(.int r1)])
  have N160 := Fr.app N141 N160q
  have sz161 : n0 ≤ T160.heap.size := Nat.le_trans sz142 K160.1
  have K162 := K143.trans K160 (allS (Or.inl (List.mem_of_getElem? (i := 0) rfl)) all0)
  have pl1 := own_rp_le f (lim - j0) j0
  have sl1 := own_rs_le2 f (lim - j0) j0 0
  change r1.toInt = ((own_p1 f j0 lim : Nat) : Int) at hr1
  change sv1.toInt = ((own_s1 f j0 lim : Nat) : Int) at hsv1
  change j0 ≤ own_p1 f j0 lim ∧ own_p1 f j0 lim ≤ j0 + (lim - j0) at pl1
  change own_s1 f j0 lim ≤ 0 + (own_p1 f j0 lim - j0) at sl1
  change own_rep y9_1 y10_1 (own_v1 f j0 lim) at hW1
  change own_v1 f j0 lim < 10 ^ own_s1 f j0 lim at hWb1
  refine own_by (T' := T160) (f' := (mkF m 54 #[.val (.ref o), .val (.ref ca), .val (.int iv0), .val (.int lv), .val (.int r1), .unset, .unset, .unset, .unset] [])) (fun t k => XS.istore X160.here hx rfl (hb hby d5_52) rfl (l' := #[.val (.ref o), .val (.ref ca), .val (.int iv0), .val (.int lv), .val (.int r1), .unset, .unset, .unset, .unset]) rfl k) ?_
  refine own_by (T' := T160) (f' := (mkF m 55 #[.val (.ref o), .val (.ref ca), .val (.int iv0), .val (.int lv), .val (.int r1), .unset, .unset, .unset, .unset] [(.ref o)])) (fun t k => XS.aloadN X160.here hx rfl (hb hby d5_54) rfl rfl k) ?_
  refine own_by (T' := T160) (f' := (mkF m 57 #[.val (.ref o), .val (.ref ca), .val (.int iv0), .val (.int lv), .val (.int r1), .unset, .unset, .unset, .unset] [(.int r1), (.ref o)])) (fun t k => XS.iload X160.here hx rfl (hb hby d5_55) rfl k) ?_
  refine own_by (T' := T160) (f' := (mkF m 58 #[.val (.ref o), .val (.ref ca), .val (.int iv0), .val (.int lv), .val (.int r1), .unset, .unset, .unset, .unset] [(.int iv0), (.int r1), (.ref o)])) (fun t k => XS.iloadN X160.here hx rfl (hb hby d5_57) rfl k) ?_
  refine own_by (T' := T160) (f' := (mkF m 59 #[.val (.ref o), .val (.ref ca), .val (.int iv0), .val (.int lv), .val (.int r1), .unset, .unset, .unset, .unset] [(.int (r1 - iv0)), (.ref o)])) (fun t k => XS.isub X160.here hx rfl (hb hby d5_58) rfl k) ?_
  have hd1 := own_sub hr1 hj pl1.1
  obtain ⟨dv1, hdv1⟩ : ∃ z : Int32, z = (r1 - iv0) := ⟨_, rfl⟩
  rw [← hdv1]
  show own_Go p e below _ T160 (mkF m 59 #[.val (.ref o), .val (.ref ca), .val (.int iv0), .val (.int lv), .val (.int r1), .unset, .unset, .unset, .unset] [(.int dv1), (.ref o)])
  rw [← hdv1] at hd1
  have f163 := (f144.keep K160)
  refine own_putF (host := "") X160 hx hZ hown rfl (hb hby d5_59) (Or.inl (own_w hw 89 rfl)) Via.refl P1_3 f163 (Or.inl (own_w hw 90 rfl)) (own_w hw 32 rfl) (ty := .int) (by decide) rfl rfl ?_
  intro T164 h164 X164 e164 W164
  show own_Go p e below _ T164 (mkF m 62 #[.val (.ref o), .val (.ref ca), .val (.int iv0), .val (.int lv), .val (.int r1), .unset, .unset, .unset, .unset] [])
  have F164 := P1_3.same W164
  have sz165 : n0 ≤ h164.size := by rw [W164.size]; exact sz161
  have K166 := K162.wr W164 (Or.inl (List.mem_of_getElem? (i := 0) rfl))
  have N164 := Fr.snoc X164 N160 go
  refine own_by (T' := T164) (f' := (mkF m 63 #[.val (.ref o), .val (.ref ca), .val (.int iv0), .val (.int lv), .val (.int r1), .unset, .unset, .unset, .unset] [(.ref o)])) (fun t k => XS.aloadN X164.here hx rfl (hb hby d5_62) rfl rfl k) ?_
  refine own_by (T' := T164) (f' := (mkF m 65 #[.val (.ref o), .val (.ref ca), .val (.int iv0), .val (.int lv), .val (.int r1), .unset, .unset, .unset, .unset] [(.int r1), (.ref o)])) (fun t k => XS.iload X164.here hx rfl (hb hby d5_63) rfl k) ?_
  refine own_by (T' := T164) (f' := (mkF m 66 #[.val (.ref o), .val (.ref ca), .val (.int iv0), .val (.int lv), .val (.int r1), .unset, .unset, .unset, .unset] [(.int lv), (.int r1), (.ref o)])) (fun t k => XS.iloadN X164.here hx rfl (hb hby d5_65) rfl k) ?_
  by_cases hc66_167 : r1 < lv
  · have _ := X164
    refine own_by (T' := T164) (f' := (mkF m 69 #[.val (.ref o), .val (.ref ca), .val (.int iv0), .val (.int lv), .val (.int r1), .unset, .unset, .unset, .unset] [(.ref o)])) (fun t k => XS.icmpNo X164.here hx rfl (hb hby d5_66) rfl (tlt hc66_167).2.1 k) ?_
    refine own_by (T' := T164) (f' := (mkF m 70 #[.val (.ref o), .val (.ref ca), .val (.int iv0), .val (.int lv), .val (.int r1), .unset, .unset, .unset, .unset] [(.ref ca), (.ref o)])) (fun t k => XS.aloadN X164.here hx rfl (hb hby d5_69) rfl rfl k) ?_
    refine own_by (T' := T164) (f' := (mkF m 72 #[.val (.ref o), .val (.ref ca), .val (.int iv0), .val (.int lv), .val (.int r1), .unset, .unset, .unset, .unset] [(.int r1), (.ref ca), (.ref o)])) (fun t k => XS.iload X164.here hx rfl (hb hby d5_70) rfl k) ?_
    have lq72 := own_ltn hr1 hl hc66_167
    have f168 := ((f146.keep K160 (ninS nco nin0)).other W164 nco)
    refine own_ldC X164 hx hZ e164 (hb hby d5_72) f168 (by omega) (by omega) ?_
    rw [show r1.toInt.toNat = (own_p1 f j0 lim) from by omega]
    show own_Go p e below _ T164 (mkF m 73 #[.val (.ref o), .val (.ref ca), .val (.int iv0), .val (.int lv), .val (.int r1), .unset, .unset, .unset, .unset] [(.int (f (own_p1 f j0 lim))), (.ref o)])
    refine own_by (T' := T164) (f' := (mkF m 75 #[.val (.ref o), .val (.ref ca), .val (.int iv0), .val (.int lv), .val (.int r1), .unset, .unset, .unset, .unset] [(.int (46 : Int32)), (.int (f (own_p1 f j0 lim))), (.ref o)])) (fun t k => XS.bipush X164.here hx rfl (hb hby d5_73) k) ?_
    by_cases hc75_169 : (f (own_p1 f j0 lim)) = (46 : Int32)
    · have _ := X164
      refine own_by (T' := T164) (f' := (mkF m 78 #[.val (.ref o), .val (.ref ca), .val (.int iv0), .val (.int lv), .val (.int r1), .unset, .unset, .unset, .unset] [(.ref o)])) (fun t k => XS.icmpNo X164.here hx rfl (hb hby d5_75) rfl (teq hc75_169).2 k) ?_
      refine own_by (T' := T164) (f' := (mkF m 79 #[.val (.ref o), .val (.ref ca), .val (.int iv0), .val (.int lv), .val (.int r1), .unset, .unset, .unset, .unset] [(.int (1 : Int32)), (.ref o)])) (fun t k => XS.iconst X164.here hx rfl (hb hby d5_78) k) ?_
      refine own_by (T' := T164) (f' := (mkF m 83 #[.val (.ref o), .val (.ref ca), .val (.int iv0), .val (.int lv), .val (.int r1), .unset, .unset, .unset, .unset] [(.int (1 : Int32)), (.ref o)])) (fun t k => XS.goto X164.here hx rfl (pc0 := 79) (pc' := 83) rfl (hb hby d5_79) (by decide) (by decide) k) ?_
      have f170 := (P1_4.other W164 (Or.inr (sn_117 hw)))
      have f171 := (f163.wr W164)
      refine own_putF (host := "") X164 hx hZ hown e164 (hb hby d5_83) (Or.inl (own_w hw 91 rfl)) Via.refl f170 f171 (Or.inl (own_w hw 92 rfl)) (own_w hw 32 rfl) (ty := .boolean) (by decide) rfl rfl ?_
      intro T172 h172 X172 e172 W172
      show own_Go p e below _ T172 (mkF m 86 #[.val (.ref o), .val (.ref ca), .val (.int iv0), .val (.int lv), .val (.int r1), .unset, .unset, .unset, .unset] [])
      have F172 := f170.same W172
      have sz173 : n0 ≤ h172.size := by rw [W172.size]; exact sz165
      have K174 := K166.wr W172 (Or.inl (List.mem_of_getElem? (i := 0) rfl))
      have N172 := Fr.snoc X172 N164 go
      refine own_by (T' := T172) (f' := (mkF m 87 #[.val (.ref o), .val (.ref ca), .val (.int iv0), .val (.int lv), .val (.int r1), .unset, .unset, .unset, .unset] [(.ref o)])) (fun t k => XS.aloadN X172.here hx rfl (hb hby d5_86) rfl rfl k) ?_
      refine own_getF (host := "") X172 hx hZ hown e172 (hb hby d5_87) (Or.inl (own_w hw 91 rfl)) Via.refl F172 ?_
      intro T175 X175 e175
      show own_Go p e below _ T175 (mkF m 90 #[.val (.ref o), .val (.ref ca), .val (.int iv0), .val (.int lv), .val (.int r1), .unset, .unset, .unset, .unset] [(.int (1 : Int32))])
      refine own_by (T' := T175) (f' := (mkF m 93 #[.val (.ref o), .val (.ref ca), .val (.int iv0), .val (.int lv), .val (.int r1), .unset, .unset, .unset, .unset] [])) (fun t k => XS.ifNo X175.here hx rfl (hb hby d5_90) rfl ((if0 _ _).trans (feq (by decide)).1) k) ?_
      refine own_by (T' := T175) (f' := (mkF m 95 #[.val (.ref o), .val (.ref ca), .val (.int iv0), .val (.int lv), .val (.int r1), .unset, .unset, .unset, .unset] [(.int r1)])) (fun t k => XS.iload X175.here hx rfl (hb hby d5_93) rfl k) ?_
      refine own_by (T' := T175) (f' := (mkF m 96 #[.val (.ref o), .val (.ref ca), .val (.int iv0), .val (.int lv), .val (.int r1), .unset, .unset, .unset, .unset] [(.int (1 : Int32)), (.int r1)])) (fun t k => XS.iconst X175.here hx rfl (hb hby d5_95) k) ?_
      refine own_by (T' := T175) (f' := (mkF m 97 #[.val (.ref o), .val (.ref ca), .val (.int iv0), .val (.int lv), .val (.int r1), .unset, .unset, .unset, .unset] [(.int (r1 + (1 : Int32)))])) (fun t k => XS.iadd X175.here hx rfl (hb hby d5_96) rfl k) ?_
      refine own_by (T' := T175) (f' := (mkF m 99 #[.val (.ref o), .val (.ref ca), .val (.int iv0), .val (.int lv), .val (.int r1), .val (.int (r1 + (1 : Int32))), .unset, .unset, .unset] [])) (fun t k => XS.istore X175.here hx rfl (hb hby d5_97) rfl (l' := #[.val (.ref o), .val (.ref ca), .val (.int iv0), .val (.int lv), .val (.int r1), .val (.int (r1 + (1 : Int32))), .unset, .unset, .unset]) rfl k) ?_
      refine own_by (T' := T175) (f' := (mkF m 100 #[.val (.ref o), .val (.ref ca), .val (.int iv0), .val (.int lv), .val (.int r1), .val (.int (r1 + (1 : Int32))), .unset, .unset, .unset] [(.ref o)])) (fun t k => XS.aloadN X175.here hx rfl (hb hby d5_99) rfl rfl k) ?_
      refine own_by (T' := T175) (f' := (mkF m 101 #[.val (.ref o), .val (.ref ca), .val (.int iv0), .val (.int lv), .val (.int r1), .val (.int (r1 + (1 : Int32))), .unset, .unset, .unset] [(.ref ca), (.ref o)])) (fun t k => XS.aloadN X175.here hx rfl (hb hby d5_100) rfl rfl k) ?_
      refine own_by (T' := T175) (f' := (mkF m 103 #[.val (.ref o), .val (.ref ca), .val (.int iv0), .val (.int lv), .val (.int r1), .val (.int (r1 + (1 : Int32))), .unset, .unset, .unset] [(.int (r1 + (1 : Int32))), (.ref ca), (.ref o)])) (fun t k => XS.iload X175.here hx rfl (hb hby d5_101) rfl k) ?_
      refine own_by (T' := T175) (f' := (mkF m 104 #[.val (.ref o), .val (.ref ca), .val (.int iv0), .val (.int lv), .val (.int r1), .val (.int (r1 + (1 : Int32))), .unset, .unset, .unset] [(.int lv), (.int (r1 + (1 : Int32))), (.ref ca), (.ref o)])) (fun t k => XS.iloadN X175.here hx rfl (hb hby d5_103) rfl k) ?_
      have lt176 := own_ltn hr1 hl hc66_167
      have hi176 := own_inc hr1 lt176 (by omega)
      have le176 : (own_p1 f j0 lim) + 1 ≤ lim := lt176
      have f177 := (f171.wr W172)
      have q178 : ∀ x ∈ [o], ∃ c : Cell, h172[x]? = some c ∧ c.vm.isStatics = false := (allS (own_ns f177) all0)
      have f179 := (f168.other W172 nco)
      have f180 := ((P1_0.other W164 (Or.inr (sn_118 hw))).other W172 (Or.inr (sn_119 hw)))
      have f181 := ((P1_1.other W164 (Or.inr (sn_120 hw))).other W172 (Or.inr (sn_121 hw)))
      have f182 := ((P1_2.other W164 (Or.inr (sn_122 hw))).other W172 (Or.inr (sn_123 hw)))
      have f183 := (F164.other W172 (Or.inr (sn_124 hw)))
      have f184 := ((P1_5.other W164 (Or.inr (sn_125 hw))).other W172 (Or.inr (sn_126 hw)))
      have f185 := ((P1_6.other W164 (Or.inr (sn_127 hw))).other W172 (Or.inr (sn_128 hw)))
      have f186 := ((P1_7.other W164 (Or.inr (sn_129 hw))).other W172 (Or.inr (sn_130 hw)))
      have f187 := ((P1_8.other W164 (Or.inr (sn_131 hw))).other W172 (Or.inr (sn_132 hw)))
      have f188 := ((P1_9.other W164 (Or.inr (sn_133 hw))).other W172 (Or.inr (sn_134 hw)))
      have f189 := ((P1_10.other W164 (Or.inr (sn_135 hw))).other W172 (Or.inr (sn_136 hw)))
      have f190 := ((P1_11.other W164 (Or.inr (sn_137 hw))).other W172 (Or.inr (sn_138 hw)))
      have f191 := ((P1_12.other W164 (Or.inr (sn_139 hw))).other W172 (Or.inr (sn_140 hw)))
      have f192 := ((P1_13.other W164 (Or.inr (sn_141 hw))).other W172 (Or.inr (sn_142 hw)))
      refine own_callP X175 hx hZ hown e175 (hb hby d5_104) [(.ref ca), (.int (r1 + (1 : Int32))), (.int lv)] [] 0 (rmRD l Z a0 hw [] o ca (r1 + (1 : Int32)) lv sv1 ((own_p1 f j0 lim) + 1) lim (own_s1 f j0 lim) (own_v1 f j0 lim) f y9_1 y10_1 (.ref ca) (.int iv0) u2 (.int dv1) (.int (1 : Int32)) u5 u6 (.int (-1 : Int32)) (.int (0 : Int32)) (.int (0 : Int32)) (.int (0 : Int32)) h172 n0 sz173 go nco hi176 hl le176 hlim hsv1 (by omega) hW1 hWb1 f179 f177 f180 f181 f182 f183 F172 f184 f185 f186 f187 f188 f189 f190 f191 f192) f177 (own_w hw 63 rfl) (own_w hw 64 rfl) (own_selP (y := (⟨"com/example/tally_of_atoms/tallyofatoms/Numeral", "readDigits", "([CII)I"⟩ : MethodName)) (own_w hw 32 rfl) (own_w hw 64 rfl) (own_w hw 65 rfl) (by decide)) (own_w hw 65 rfl) (own_w hw 33 rfl) (own_w hw 66 rfl) (by decide) pd___CII_I (by rw [hml]; rfl) rfl rfl (Nat.le_of_eq rfl) (by decide) (by decide) (by decide) (by decide) ?_
      rintro T193 _ L193 X193 ⟨r2, rfl, hr2, N193q, K193, y9_2, y10_2, sv2, hsv2, hW2, hWb2, P2_0, P2_1, P2_2, P2_3, P2_4, P2_5, P2_6, P2_7, P2_8, P2_9, P2_10, P2_11, P2_12, P2_13⟩
      show own_Go p e below _ T193 (mkF m 107 #[.val (.ref o), .val (.ref ca), .val (.int iv0), .val (.int lv), .val (.int r1), .val (.int (r1 + (1 : Int32))), .unset, .unset, .unset] [(.int r2)])
      have N193 := Fr.app N172 N193q
      have sz194 : n0 ≤ T193.heap.size := Nat.le_trans sz173 K193.1
      have K195 := K174.trans K193 (allS (Or.inl (List.mem_of_getElem? (i := 0) rfl)) all0)
      have pl2 := own_rp_le f (lim - ((own_p1 f j0 lim) + 1)) ((own_p1 f j0 lim) + 1)
      have sl2 := own_rs_le2 f (lim - ((own_p1 f j0 lim) + 1)) ((own_p1 f j0 lim) + 1) (own_s1 f j0 lim)
      refine own_by (T' := T193) (f' := (mkF m 109 #[.val (.ref o), .val (.ref ca), .val (.int iv0), .val (.int lv), .val (.int r2), .val (.int (r1 + (1 : Int32))), .unset, .unset, .unset] [])) (fun t k => XS.istore X193.here hx rfl (hb hby d5_107) rfl (l' := #[.val (.ref o), .val (.ref ca), .val (.int iv0), .val (.int lv), .val (.int r2), .val (.int (r1 + (1 : Int32))), .unset, .unset, .unset]) rfl k) ?_
      refine own_by (T' := T193) (f' := (mkF m 110 #[.val (.ref o), .val (.ref ca), .val (.int iv0), .val (.int lv), .val (.int r2), .val (.int (r1 + (1 : Int32))), .unset, .unset, .unset] [(.ref o)])) (fun t k => XS.aloadN X193.here hx rfl (hb hby d5_109) rfl rfl k) ?_
      refine own_by (T' := T193) (f' := (mkF m 112 #[.val (.ref o), .val (.ref ca), .val (.int iv0), .val (.int lv), .val (.int r2), .val (.int (r1 + (1 : Int32))), .unset, .unset, .unset] [(.int r2), (.ref o)])) (fun t k => XS.iload X193.here hx rfl (hb hby d5_110) rfl k) ?_
      refine own_by (T' := T193) (f' := (mkF m 114 #[.val (.ref o), .val (.ref ca), .val (.int iv0), .val (.int lv), .val (.int r2), .val (.int (r1 + (1 : Int32))), .unset, .unset, .unset] [(.int (r1 + (1 : Int32))), (.int r2), (.ref o)])) (fun t k => XS.iload X193.here hx rfl (hb hby d5_112) rfl k) ?_
      refine own_by (T' := T193) (f' := (mkF m 115 #[.val (.ref o), .val (.ref ca), .val (.int iv0), .val (.int lv), .val (.int r2), .val (.int (r1 + (1 : Int32))), .unset, .unset, .unset] [(.int (r2 - (r1 + (1 : Int32)))), (.ref o)])) (fun t k => XS.isub X193.here hx rfl (hb hby d5_114) rfl k) ?_
      have f196 := (f177.keep K193)
      refine own_putF (host := "") X193 hx hZ hown rfl (hb hby d5_115) (Or.inl (own_w hw 59 rfl)) Via.refl P2_12 f196 (Or.inl (own_w hw 60 rfl)) (own_w hw 32 rfl) (ty := .int) (by decide) rfl rfl ?_
      intro T197 h197 X197 e197 W197
      show own_Go p e below _ T197 (mkF m 118 #[.val (.ref o), .val (.ref ca), .val (.int iv0), .val (.int lv), .val (.int r2), .val (.int (r1 + (1 : Int32))), .unset, .unset, .unset] [])
      have F197 := P2_12.same W197
      have sz198 : n0 ≤ h197.size := by rw [W197.size]; exact sz194
      have K199 := K195.wr W197 (Or.inl (List.mem_of_getElem? (i := 0) rfl))
      have N197 := Fr.snoc X197 N193 go
      refine own_by (T' := T197) (f' := (mkF m 119 #[.val (.ref o), .val (.ref ca), .val (.int iv0), .val (.int lv), .val (.int r2), .val (.int (r1 + (1 : Int32))), .unset, .unset, .unset] [(.ref o)])) (fun t k => XS.aloadN X197.here hx rfl (hb hby d5_118) rfl rfl k) ?_
      refine own_by (T' := T197) (f' := (mkF m 120 #[.val (.ref o), .val (.ref ca), .val (.int iv0), .val (.int lv), .val (.int r2), .val (.int (r1 + (1 : Int32))), .unset, .unset, .unset] [(.ref o), (.ref o)])) (fun t k => XS.dup X197.here hx rfl (hb hby d5_119) rfl rfl k) ?_
      have f200 := (P2_3.other W197 (Or.inr (sn_85 hw)))
      refine own_getF (host := "") X197 hx hZ hown e197 (hb hby d5_120) (Or.inl (own_w hw 89 rfl)) Via.refl f200 ?_
      intro T201 X201 e201
      show own_Go p e below _ T201 (mkF m 123 #[.val (.ref o), .val (.ref ca), .val (.int iv0), .val (.int lv), .val (.int r2), .val (.int (r1 + (1 : Int32))), .unset, .unset, .unset] [(.int dv1), (.ref o)])
      refine own_by (T' := T201) (f' := (mkF m 124 #[.val (.ref o), .val (.ref ca), .val (.int iv0), .val (.int lv), .val (.int r2), .val (.int (r1 + (1 : Int32))), .unset, .unset, .unset] [(.ref o), (.int dv1), (.ref o)])) (fun t k => XS.aloadN X201.here hx rfl (hb hby d5_123) rfl rfl k) ?_
      refine own_getF (host := "") X201 hx hZ hown e201 (hb hby d5_124) (Or.inl (own_w hw 59 rfl)) Via.refl F197 ?_
      intro T202 X202 e202
      show own_Go p e below _ T202 (mkF m 127 #[.val (.ref o), .val (.ref ca), .val (.int iv0), .val (.int lv), .val (.int r2), .val (.int (r1 + (1 : Int32))), .unset, .unset, .unset] [(.int (r2 - (r1 + (1 : Int32)))), (.int dv1), (.ref o)])
      refine own_by (T' := T202) (f' := (mkF m 128 #[.val (.ref o), .val (.ref ca), .val (.int iv0), .val (.int lv), .val (.int r2), .val (.int (r1 + (1 : Int32))), .unset, .unset, .unset] [(.int (dv1 + (r2 - (r1 + (1 : Int32))))), (.ref o)])) (fun t k => XS.iadd X202.here hx rfl (hb hby d5_127) rfl k) ?_
      have hd2 := own_add hd1 (own_sub hr2 hi176 pl2.1) (by omega)
      obtain ⟨dv2, hdv2⟩ : ∃ z : Int32, z = (dv1 + (r2 - (r1 + (1 : Int32)))) := ⟨_, rfl⟩
      rw [← hdv2]
      show own_Go p e below _ T202 (mkF m 128 #[.val (.ref o), .val (.ref ca), .val (.int iv0), .val (.int lv), .val (.int r2), .val (.int (r1 + (1 : Int32))), .unset, .unset, .unset] [(.int dv2), (.ref o)])
      rw [← hdv2] at hd2
      have f203 := (f196.wr W197)
      refine own_putF (host := "") X202 hx hZ hown e202 (hb hby d5_128) (Or.inl (own_w hw 89 rfl)) Via.refl f200 f203 (Or.inl (own_w hw 90 rfl)) (own_w hw 32 rfl) (ty := .int) (by decide) rfl rfl ?_
      intro T204 h204 X204 e204 W204
      show own_Go p e below _ T204 (mkF m 131 #[.val (.ref o), .val (.ref ca), .val (.int iv0), .val (.int lv), .val (.int r2), .val (.int (r1 + (1 : Int32))), .unset, .unset, .unset] [])
      have F204 := f200.same W204
      have sz205 : n0 ≤ h204.size := by rw [W204.size]; exact sz198
      have K206 := K199.wr W204 (Or.inl (List.mem_of_getElem? (i := 0) rfl))
      have N204 := Fr.snoc X204 N197 go
      refine own_by (T' := T204) (f' := (mkF m 132 #[.val (.ref o), .val (.ref ca), .val (.int iv0), .val (.int lv), .val (.int r2), .val (.int (r1 + (1 : Int32))), .unset, .unset, .unset] [(.ref o)])) (fun t k => XS.aloadN X204.here hx rfl (hb hby d5_131) rfl rfl k) ?_
      refine own_by (T' := T204) (f' := (mkF m 133 #[.val (.ref o), .val (.ref ca), .val (.int iv0), .val (.int lv), .val (.int r2), .val (.int (r1 + (1 : Int32))), .unset, .unset, .unset] [(.int (0 : Int32)), (.ref o)])) (fun t k => XS.iconst X204.here hx rfl (hb hby d5_132) k) ?_
      have f207 := ((P2_5.other W197 (Or.inr (sn_97 hw))).other W204 (Or.inr (sn_125 hw)))
      have f208 := (f203.wr W204)
      refine own_putF (host := "") X204 hx hZ hown e204 (hb hby d5_133) (Or.inl (own_w hw 93 rfl)) Via.refl f207 f208 (Or.inl (own_w hw 94 rfl)) (own_w hw 32 rfl) (ty := .boolean) (by decide) rfl rfl ?_
      intro T209 h209 X209 e209 W209
      show own_Go p e below _ T209 (mkF m 136 #[.val (.ref o), .val (.ref ca), .val (.int iv0), .val (.int lv), .val (.int r2), .val (.int (r1 + (1 : Int32))), .unset, .unset, .unset] [])
      have F209 := f207.same W209
      have sz210 : n0 ≤ h209.size := by rw [W209.size]; exact sz205
      have K211 := K206.wr W209 (Or.inl (List.mem_of_getElem? (i := 0) rfl))
      have N209 := Fr.snoc X209 N204 go
      refine own_by (T' := T209) (f' := (mkF m 137 #[.val (.ref o), .val (.ref ca), .val (.int iv0), .val (.int lv), .val (.int r2), .val (.int (r1 + (1 : Int32))), .unset, .unset, .unset] [(.ref o)])) (fun t k => XS.aloadN X209.here hx rfl (hb hby d5_136) rfl rfl k) ?_
      refine own_by (T' := T209) (f' := (mkF m 138 #[.val (.ref o), .val (.ref ca), .val (.int iv0), .val (.int lv), .val (.int r2), .val (.int (r1 + (1 : Int32))), .unset, .unset, .unset] [(.int (0 : Int32)), (.ref o)])) (fun t k => XS.iconst X209.here hx rfl (hb hby d5_137) k) ?_
      have f212 := (((P2_6.other W197 (Or.inr (sn_103 hw))).other W204 (Or.inr (sn_127 hw))).other W209 (Or.inr (sn_143 hw)))
      have f213 := (f208.wr W209)
      refine own_putF (host := "") X209 hx hZ hown e209 (hb hby d5_138) (Or.inl (own_w hw 95 rfl)) Via.refl f212 f213 (Or.inl (own_w hw 96 rfl)) (own_w hw 32 rfl) (ty := .boolean) (by decide) rfl rfl ?_
      intro T214 h214 X214 e214 W214
      show own_Go p e below _ T214 (mkF m 141 #[.val (.ref o), .val (.ref ca), .val (.int iv0), .val (.int lv), .val (.int r2), .val (.int (r1 + (1 : Int32))), .unset, .unset, .unset] [])
      have F214 := f212.same W214
      have sz215 : n0 ≤ h214.size := by rw [W214.size]; exact sz210
      have K216 := K211.wr W214 (Or.inl (List.mem_of_getElem? (i := 0) rfl))
      have N214 := Fr.snoc X214 N209 go
      refine own_by (T' := T214) (f' := (mkF m 142 #[.val (.ref o), .val (.ref ca), .val (.int iv0), .val (.int lv), .val (.int r2), .val (.int (r1 + (1 : Int32))), .unset, .unset, .unset] [(.ref o)])) (fun t k => XS.aloadN X214.here hx rfl (hb hby d5_141) rfl rfl k) ?_
      have f217 := ((F204.other W209 (Or.inr (sn_144 hw))).other W214 (Or.inr (sn_145 hw)))
      refine own_getF (host := "") X214 hx hZ hown e214 (hb hby d5_142) (Or.inl (own_w hw 89 rfl)) Via.refl f217 ?_
      intro T218 X218 e218
      show own_Go p e below _ T218 (mkF m 145 #[.val (.ref o), .val (.ref ca), .val (.int iv0), .val (.int lv), .val (.int r2), .val (.int (r1 + (1 : Int32))), .unset, .unset, .unset] [(.int dv2)])
      by_cases hc145_219 : dv2 = (0 : Int32)
      · have _ := X218
        refine own_by (T' := T218) (f' := (mkF m 148 #[.val (.ref o), .val (.ref ca), .val (.int iv0), .val (.int lv), .val (.int r2), .val (.int (r1 + (1 : Int32))), .unset, .unset, .unset] [])) (fun t k => XS.ifNo X218.here hx rfl (hb hby d5_145) rfl ((if0 _ _).trans (teq hc145_219).2) k) ?_
        refine own_by (T' := T218) (f' := (mkF m 149 #[.val (.ref o), .val (.ref ca), .val (.int iv0), .val (.int lv), .val (.int r2), .val (.int (r1 + (1 : Int32))), .unset, .unset, .unset] [(.ref o)])) (fun t k => XS.aloadN X218.here hx rfl (hb hby d5_148) rfl rfl k) ?_
        refine own_by (T' := T218) (f' := (mkF m 150 #[.val (.ref o), .val (.ref ca), .val (.int iv0), .val (.int lv), .val (.int r2), .val (.int (r1 + (1 : Int32))), .unset, .unset, .unset] [(.int (0 : Int32)), (.ref o)])) (fun t k => XS.iconst X218.here hx rfl (hb hby d5_149) k) ?_
        have f220 := ((((P2_4.other W197 (Or.inr (sn_91 hw))).other W204 (Or.inr (sn_117 hw))).other W209 (Or.inr (sn_146 hw))).other W214 (Or.inr (sn_147 hw)))
        have f221 := (f213.wr W214)
        refine own_putF (host := "") X218 hx hZ hown e218 (hb hby d5_150) (Or.inl (own_w hw 91 rfl)) Via.refl f220 f221 (Or.inl (own_w hw 92 rfl)) (own_w hw 32 rfl) (ty := .boolean) (by decide) rfl rfl ?_
        intro T222 h222 X222 e222 W222
        show own_Go p e below _ T222 (mkF m 153 #[.val (.ref o), .val (.ref ca), .val (.int iv0), .val (.int lv), .val (.int r2), .val (.int (r1 + (1 : Int32))), .unset, .unset, .unset] [])
        have F222 := f220.same W222
        have sz223 : n0 ≤ h222.size := by rw [W222.size]; exact sz215
        have K224 := K216.wr W222 (Or.inl (List.mem_of_getElem? (i := 0) rfl))
        have N222 := Fr.snoc X222 N214 go
        refine own_by (T' := T222) (f' := (mkF m 154 #[.val (.ref o), .val (.ref ca), .val (.int iv0), .val (.int lv), .val (.int r2), .val (.int (r1 + (1 : Int32))), .unset, .unset, .unset] [(.ref o)])) (fun t k => XS.aloadN X222.here hx rfl (hb hby d5_153) rfl rfl k) ?_
        refine own_by (T' := T222) (f' := (mkF m 155 #[.val (.ref o), .val (.ref ca), .val (.int iv0), .val (.int lv), .val (.int r2), .val (.int (r1 + (1 : Int32))), .unset, .unset, .unset] [(.int iv0), (.ref o)])) (fun t k => XS.iloadN X222.here hx rfl (hb hby d5_154) rfl k) ?_
        have f225 := (((((P2_2.other W197 (Or.inr (sn_79 hw))).other W204 (Or.inr (sn_122 hw))).other W209 (Or.inr (sn_148 hw))).other W214 (Or.inr (sn_149 hw))).other W222 (Or.inr (sn_123 hw)))
        have f226 := (f221.wr W222)
        refine own_putF (host := "") X222 hx hZ hown e222 (hb hby d5_155) (Or.inl (own_w hw 97 rfl)) Via.refl f225 f226 (Or.inl (own_w hw 98 rfl)) (own_w hw 32 rfl) (ty := .int) (by decide) rfl rfl ?_
        intro T227 h227 X227 e227 W227
        show own_Go p e below _ T227 (mkF m 158 #[.val (.ref o), .val (.ref ca), .val (.int iv0), .val (.int lv), .val (.int r2), .val (.int (r1 + (1 : Int32))), .unset, .unset, .unset] [])
        have F227 := f225.same W227
        have sz228 : n0 ≤ h227.size := by rw [W227.size]; exact sz223
        have K229 := K224.wr W227 (Or.inl (List.mem_of_getElem? (i := 0) rfl))
        have N227 := Fr.snoc X227 N222 go
        refine own_by (T' := T227) (f' := (mkF m 159 #[.val (.ref o), .val (.ref ca), .val (.int iv0), .val (.int lv), .val (.int r2), .val (.int (r1 + (1 : Int32))), .unset, .unset, .unset] [(.ref o)])) (fun t k => XS.aloadN X227.here hx rfl (hb hby d5_158) rfl rfl k) ?_
        have hpt : own_pnt f j0 lim := ⟨own_ltn hr1 hl hc66_167, hc75_169⟩
        have ep2 : own_p2 f j0 lim = (own_rp f (lim - (own_p1 f j0 lim + 1)) (own_p1 f j0 lim + 1)) := if_pos hpt
        have ev2 : own_v2 f j0 lim = own_rv f (lim - (own_p1 f j0 lim + 1)) (own_p1 f j0 lim + 1) (own_v1 f j0 lim) := if_pos hpt
        have hD : dv2.toInt = ((own_dgs f j0 lim : Nat) : Int) := by rw [own_dgs, if_pos hpt, ep2]; exact hd2
        have z0 : (0 : Int32).toInt = ((0 : Nat) : Int) := by decide
        have f230 := ((((((P2_0.other W197 (Or.inr (sn_69 hw))).other W204 (Or.inr (sn_118 hw))).other W209 (Or.inr (sn_150 hw))).other W214 (Or.inr (sn_151 hw))).other W222 (Or.inr (sn_119 hw))).other W227 (Or.inr (sn_152 hw)))
        have f231 := ((((((P2_1.other W197 (Or.inr (sn_73 hw))).other W204 (Or.inr (sn_120 hw))).other W209 (Or.inr (sn_153 hw))).other W214 (Or.inr (sn_154 hw))).other W222 (Or.inr (sn_121 hw))).other W227 (Or.inr (sn_155 hw)))
        have f232 := ((f217.other W222 (Or.inr (sn_124 hw))).other W227 (Or.inr (sn_156 hw)))
        have f233 := (F222.other W227 (Or.inr (sn_157 hw)))
        have f234 := (((F209.other W214 (Or.inr (sn_158 hw))).other W222 (Or.inr (sn_126 hw))).other W227 (Or.inr (sn_159 hw)))
        have f235 := ((F214.other W222 (Or.inr (sn_128 hw))).other W227 (Or.inr (sn_160 hw)))
        have f236 := ((((((P2_7.other W197 (Or.inr (sn_106 hw))).other W204 (Or.inr (sn_129 hw))).other W209 (Or.inr (sn_161 hw))).other W214 (Or.inr (sn_162 hw))).other W222 (Or.inr (sn_130 hw))).other W227 (Or.inr (sn_163 hw)))
        have f237 := ((((((P2_8.other W197 (Or.inr (sn_108 hw))).other W204 (Or.inr (sn_131 hw))).other W209 (Or.inr (sn_164 hw))).other W214 (Or.inr (sn_165 hw))).other W222 (Or.inr (sn_132 hw))).other W227 (Or.inr (sn_166 hw)))
        have f238 := ((((((P2_9.other W197 (Or.inr (sn_110 hw))).other W204 (Or.inr (sn_133 hw))).other W209 (Or.inr (sn_167 hw))).other W214 (Or.inr (sn_168 hw))).other W222 (Or.inr (sn_134 hw))).other W227 (Or.inr (sn_169 hw)))
        have f239 := ((((((P2_10.other W197 (Or.inr (sn_112 hw))).other W204 (Or.inr (sn_135 hw))).other W209 (Or.inr (sn_170 hw))).other W214 (Or.inr (sn_171 hw))).other W222 (Or.inr (sn_136 hw))).other W227 (Or.inr (sn_172 hw)))
        have f240 := ((((((P2_11.other W197 (Or.inr (sn_114 hw))).other W204 (Or.inr (sn_137 hw))).other W209 (Or.inr (sn_173 hw))).other W214 (Or.inr (sn_174 hw))).other W222 (Or.inr (sn_138 hw))).other W227 (Or.inr (sn_175 hw)))
        have f241 := (((((F197.other W204 (Or.inr (sn_139 hw))).other W209 (Or.inr (sn_176 hw))).other W214 (Or.inr (sn_177 hw))).other W222 (Or.inr (sn_140 hw))).other W227 (Or.inr (sn_178 hw)))
        have f242 := ((((((P2_13.other W197 (Or.inr (sn_65 hw))).other W204 (Or.inr (sn_141 hw))).other W209 (Or.inr (sn_179 hw))).other W214 (Or.inr (sn_180 hw))).other W222 (Or.inr (sn_142 hw))).other W227 (Or.inr (sn_181 hw)))
        refine own_retA X227 hx hret hlk (hb hby d5_159) rfl rfl rfl (by decide) (by decide) ?_
        try rw [e227]
        exact ⟨rfl, N227, K229, _, _, by rw [ev2]; exact hW2, _, _, _, _, _, _, _, _, _, _, _, f230, f231, F227, f232, f233, f234, f235, f236, f237, f238, f239, f240, f241, f242⟩
      · have _ := X218
        refine own_by (T' := T218) (f' := (mkF m 160 #[.val (.ref o), .val (.ref ca), .val (.int iv0), .val (.int lv), .val (.int r2), .val (.int (r1 + (1 : Int32))), .unset, .unset, .unset] [])) (fun t k => XS.ifYes X218.here hx rfl (pc0 := 145) (pc' := 160) rfl (hb hby d5_145) rfl ((if0 _ _).trans (feq hc145_219).2) (by decide) (by decide) k) ?_
        refine own_by (T' := T218) (f' := (mkF m 162 #[.val (.ref o), .val (.ref ca), .val (.int iv0), .val (.int lv), .val (.int r2), .val (.int (r1 + (1 : Int32))), .unset, .unset, .unset] [(.int r2)])) (fun t k => XS.iload X218.here hx rfl (hb hby d5_160) rfl k) ?_
        refine own_by (T' := T218) (f' := (mkF m 163 #[.val (.ref o), .val (.ref ca), .val (.int iv0), .val (.int lv), .val (.int r2), .val (.int (r1 + (1 : Int32))), .unset, .unset, .unset] [(.int lv), (.int r2)])) (fun t k => XS.iloadN X218.here hx rfl (hb hby d5_162) rfl k) ?_
        by_cases hc163_243 : r2 < lv
        · have _ := X218
          refine own_by (T' := T218) (f' := (mkF m 166 #[.val (.ref o), .val (.ref ca), .val (.int iv0), .val (.int lv), .val (.int r2), .val (.int (r1 + (1 : Int32))), .unset, .unset, .unset] [])) (fun t k => XS.icmpNo X218.here hx rfl (hb hby d5_163) rfl (tlt hc163_243).2.1 k) ?_
          refine own_by (T' := T218) (f' := (mkF m 167 #[.val (.ref o), .val (.ref ca), .val (.int iv0), .val (.int lv), .val (.int r2), .val (.int (r1 + (1 : Int32))), .unset, .unset, .unset] [(.ref ca)])) (fun t k => XS.aloadN X218.here hx rfl (hb hby d5_166) rfl rfl k) ?_
          refine own_by (T' := T218) (f' := (mkF m 169 #[.val (.ref o), .val (.ref ca), .val (.int iv0), .val (.int lv), .val (.int r2), .val (.int (r1 + (1 : Int32))), .unset, .unset, .unset] [(.int r2), (.ref ca)])) (fun t k => XS.iload X218.here hx rfl (hb hby d5_167) rfl k) ?_
          have lq169 := own_ltn hr2 hl hc163_243
          have f244 := (((((f179.keep K193 (ninS nco nin0)).other W197 nco).other W204 nco).other W209 nco).other W214 nco)
          refine own_ldC X218 hx hZ e218 (hb hby d5_169) f244 (by omega) (by omega) ?_
          rw [show r2.toInt.toNat = (own_rp f (lim - (own_p1 f j0 lim + 1)) (own_p1 f j0 lim + 1)) from by omega]
          show own_Go p e below _ T218 (mkF m 170 #[.val (.ref o), .val (.ref ca), .val (.int iv0), .val (.int lv), .val (.int r2), .val (.int (r1 + (1 : Int32))), .unset, .unset, .unset] [(.int (f (own_rp f (lim - (own_p1 f j0 lim + 1)) (own_p1 f j0 lim + 1))))])
          refine own_by (T' := T218) (f' := (mkF m 174 #[.val (.ref o), .val (.ref ca), .val (.int iv0), .val (.int lv), .val (.int r2), .val (.int (r1 + (1 : Int32))), .unset, .unset, .unset] [(.int (f (own_rp f (lim - (own_p1 f j0 lim + 1)) (own_p1 f j0 lim + 1))))])) (fun t k => XS.goto X218.here hx rfl (pc0 := 170) (pc' := 174) rfl (hb hby d5_170) (by decide) (by decide) k) ?_
          refine own_by (T' := T218) (f' := (mkF m 176 #[.val (.ref o), .val (.ref ca), .val (.int iv0), .val (.int lv), .val (.int r2), .val (.int (f (own_rp f (lim - (own_p1 f j0 lim + 1)) (own_p1 f j0 lim + 1)))), .unset, .unset, .unset] [])) (fun t k => XS.istore X218.here hx rfl (hb hby d5_174) rfl (l' := #[.val (.ref o), .val (.ref ca), .val (.int iv0), .val (.int lv), .val (.int r2), .val (.int (f (own_rp f (lim - (own_p1 f j0 lim + 1)) (own_p1 f j0 lim + 1)))), .unset, .unset, .unset]) rfl k) ?_
          refine own_by (T' := T218) (f' := (mkF m 177 #[.val (.ref o), .val (.ref ca), .val (.int iv0), .val (.int lv), .val (.int r2), .val (.int (f (own_rp f (lim - (own_p1 f j0 lim + 1)) (own_p1 f j0 lim + 1)))), .unset, .unset, .unset] [(.ref o)])) (fun t k => XS.aloadN X218.here hx rfl (hb hby d5_176) rfl rfl k) ?_
          refine own_by (T' := T218) (f' := (mkF m 179 #[.val (.ref o), .val (.ref ca), .val (.int iv0), .val (.int lv), .val (.int r2), .val (.int (f (own_rp f (lim - (own_p1 f j0 lim + 1)) (own_p1 f j0 lim + 1)))), .unset, .unset, .unset] [(.int (f (own_rp f (lim - (own_p1 f j0 lim + 1)) (own_p1 f j0 lim + 1)))), (.ref o)])) (fun t k => XS.iload X218.here hx rfl (hb hby d5_177) rfl k) ?_
          refine own_by (T' := T218) (f' := (mkF m 181 #[.val (.ref o), .val (.ref ca), .val (.int iv0), .val (.int lv), .val (.int r2), .val (.int (f (own_rp f (lim - (own_p1 f j0 lim + 1)) (own_p1 f j0 lim + 1)))), .unset, .unset, .unset] [(.int (101 : Int32)), (.int (f (own_rp f (lim - (own_p1 f j0 lim + 1)) (own_p1 f j0 lim + 1)))), (.ref o)])) (fun t k => XS.bipush X218.here hx rfl (hb hby d5_179) k) ?_
          by_cases hc181_245 : (f (own_rp f (lim - (own_p1 f j0 lim + 1)) (own_p1 f j0 lim + 1))) = (101 : Int32)
          · have _ := X218
            refine own_by (T' := T218) (f' := (mkF m 191 #[.val (.ref o), .val (.ref ca), .val (.int iv0), .val (.int lv), .val (.int r2), .val (.int (f (own_rp f (lim - (own_p1 f j0 lim + 1)) (own_p1 f j0 lim + 1)))), .unset, .unset, .unset] [(.ref o)])) (fun t k => XS.icmpYes X218.here hx rfl (pc0 := 181) (pc' := 191) rfl (hb hby d5_181) rfl (teq hc181_245).1 (by decide) (by decide) k) ?_
            refine own_by (T' := T218) (f' := (mkF m 192 #[.val (.ref o), .val (.ref ca), .val (.int iv0), .val (.int lv), .val (.int r2), .val (.int (f (own_rp f (lim - (own_p1 f j0 lim + 1)) (own_p1 f j0 lim + 1)))), .unset, .unset, .unset] [(.int (1 : Int32)), (.ref o)])) (fun t k => XS.iconst X218.here hx rfl (hb hby d5_191) k) ?_
            refine own_by (T' := T218) (f' := (mkF m 196 #[.val (.ref o), .val (.ref ca), .val (.int iv0), .val (.int lv), .val (.int r2), .val (.int (f (own_rp f (lim - (own_p1 f j0 lim + 1)) (own_p1 f j0 lim + 1)))), .unset, .unset, .unset] [(.int (1 : Int32)), (.ref o)])) (fun t k => XS.goto X218.here hx rfl (pc0 := 192) (pc' := 196) rfl (hb hby d5_192) (by decide) (by decide) k) ?_
            have f246 := (F209.other W214 (Or.inr (sn_158 hw)))
            have f247 := (f213.wr W214)
            refine own_putF (host := "") X218 hx hZ hown e218 (hb hby d5_196) (Or.inl (own_w hw 93 rfl)) Via.refl f246 f247 (Or.inl (own_w hw 94 rfl)) (own_w hw 32 rfl) (ty := .boolean) (by decide) rfl rfl ?_
            intro T248 h248 X248 e248 W248
            show own_Go p e below _ T248 (mkF m 199 #[.val (.ref o), .val (.ref ca), .val (.int iv0), .val (.int lv), .val (.int r2), .val (.int (f (own_rp f (lim - (own_p1 f j0 lim + 1)) (own_p1 f j0 lim + 1)))), .unset, .unset, .unset] [])
            have F248 := f246.same W248
            have sz249 : n0 ≤ h248.size := by rw [W248.size]; exact sz215
            have K250 := K216.wr W248 (Or.inl (List.mem_of_getElem? (i := 0) rfl))
            have N248 := Fr.snoc X248 N214 go
            refine own_by (T' := T248) (f' := (mkF m 200 #[.val (.ref o), .val (.ref ca), .val (.int iv0), .val (.int lv), .val (.int r2), .val (.int (f (own_rp f (lim - (own_p1 f j0 lim + 1)) (own_p1 f j0 lim + 1)))), .unset, .unset, .unset] [(.ref o)])) (fun t k => XS.aloadN X248.here hx rfl (hb hby d5_199) rfl rfl k) ?_
            refine own_getF (host := "") X248 hx hZ hown e248 (hb hby d5_200) (Or.inl (own_w hw 93 rfl)) Via.refl F248 ?_
            intro T251 X251 e251
            show own_Go p e below _ T251 (mkF m 203 #[.val (.ref o), .val (.ref ca), .val (.int iv0), .val (.int lv), .val (.int r2), .val (.int (f (own_rp f (lim - (own_p1 f j0 lim + 1)) (own_p1 f j0 lim + 1)))), .unset, .unset, .unset] [(.int (1 : Int32))])
            refine own_by (T' := T251) (f' := (mkF m 206 #[.val (.ref o), .val (.ref ca), .val (.int iv0), .val (.int lv), .val (.int r2), .val (.int (f (own_rp f (lim - (own_p1 f j0 lim + 1)) (own_p1 f j0 lim + 1)))), .unset, .unset, .unset] [])) (fun t k => XS.ifNo X251.here hx rfl (hb hby d5_203) rfl ((if0 _ _).trans (feq (by decide)).1) k) ?_
            have hpt : own_pnt f j0 lim := ⟨own_ltn hr1 hl hc66_167, hc75_169⟩
            have ep2 : own_p2 f j0 lim = (own_rp f (lim - (own_p1 f j0 lim + 1)) (own_p1 f j0 lim + 1)) := if_pos hpt
            have ev2 : own_v2 f j0 lim = own_rv f (lim - (own_p1 f j0 lim + 1)) (own_p1 f j0 lim + 1) (own_v1 f j0 lim) := if_pos hpt
            have hD : dv2.toInt = ((own_dgs f j0 lim : Nat) : Int) := by rw [own_dgs, if_pos hpt, ep2]; exact hd2
            have z0 : (0 : Int32).toInt = ((0 : Nat) : Int) := by decide
            exact absurd ⟨own_neqn hD z0 hc145_219, by rw [ep2]; exact own_ltn hr2 hl hc163_243, by rw [ep2]; exact Or.inl hc181_245⟩ hnx
          · have _ := X218
            refine own_by (T' := T218) (f' := (mkF m 184 #[.val (.ref o), .val (.ref ca), .val (.int iv0), .val (.int lv), .val (.int r2), .val (.int (f (own_rp f (lim - (own_p1 f j0 lim + 1)) (own_p1 f j0 lim + 1)))), .unset, .unset, .unset] [(.ref o)])) (fun t k => XS.icmpNo X218.here hx rfl (hb hby d5_181) rfl (feq hc181_245).1 k) ?_
            refine own_by (T' := T218) (f' := (mkF m 186 #[.val (.ref o), .val (.ref ca), .val (.int iv0), .val (.int lv), .val (.int r2), .val (.int (f (own_rp f (lim - (own_p1 f j0 lim + 1)) (own_p1 f j0 lim + 1)))), .unset, .unset, .unset] [(.int (f (own_rp f (lim - (own_p1 f j0 lim + 1)) (own_p1 f j0 lim + 1)))), (.ref o)])) (fun t k => XS.iload X218.here hx rfl (hb hby d5_184) rfl k) ?_
            refine own_by (T' := T218) (f' := (mkF m 188 #[.val (.ref o), .val (.ref ca), .val (.int iv0), .val (.int lv), .val (.int r2), .val (.int (f (own_rp f (lim - (own_p1 f j0 lim + 1)) (own_p1 f j0 lim + 1)))), .unset, .unset, .unset] [(.int (69 : Int32)), (.int (f (own_rp f (lim - (own_p1 f j0 lim + 1)) (own_p1 f j0 lim + 1)))), (.ref o)])) (fun t k => XS.bipush X218.here hx rfl (hb hby d5_186) k) ?_
            by_cases hc188_252 : (f (own_rp f (lim - (own_p1 f j0 lim + 1)) (own_p1 f j0 lim + 1))) = (69 : Int32)
            · have _ := X218
              refine own_by (T' := T218) (f' := (mkF m 191 #[.val (.ref o), .val (.ref ca), .val (.int iv0), .val (.int lv), .val (.int r2), .val (.int (f (own_rp f (lim - (own_p1 f j0 lim + 1)) (own_p1 f j0 lim + 1)))), .unset, .unset, .unset] [(.ref o)])) (fun t k => XS.icmpNo X218.here hx rfl (hb hby d5_188) rfl (teq hc188_252).2 k) ?_
              refine own_by (T' := T218) (f' := (mkF m 192 #[.val (.ref o), .val (.ref ca), .val (.int iv0), .val (.int lv), .val (.int r2), .val (.int (f (own_rp f (lim - (own_p1 f j0 lim + 1)) (own_p1 f j0 lim + 1)))), .unset, .unset, .unset] [(.int (1 : Int32)), (.ref o)])) (fun t k => XS.iconst X218.here hx rfl (hb hby d5_191) k) ?_
              refine own_by (T' := T218) (f' := (mkF m 196 #[.val (.ref o), .val (.ref ca), .val (.int iv0), .val (.int lv), .val (.int r2), .val (.int (f (own_rp f (lim - (own_p1 f j0 lim + 1)) (own_p1 f j0 lim + 1)))), .unset, .unset, .unset] [(.int (1 : Int32)), (.ref o)])) (fun t k => XS.goto X218.here hx rfl (pc0 := 192) (pc' := 196) rfl (hb hby d5_192) (by decide) (by decide) k) ?_
              have f253 := (F209.other W214 (Or.inr (sn_158 hw)))
              have f254 := (f213.wr W214)
              refine own_putF (host := "") X218 hx hZ hown e218 (hb hby d5_196) (Or.inl (own_w hw 93 rfl)) Via.refl f253 f254 (Or.inl (own_w hw 94 rfl)) (own_w hw 32 rfl) (ty := .boolean) (by decide) rfl rfl ?_
              intro T255 h255 X255 e255 W255
              show own_Go p e below _ T255 (mkF m 199 #[.val (.ref o), .val (.ref ca), .val (.int iv0), .val (.int lv), .val (.int r2), .val (.int (f (own_rp f (lim - (own_p1 f j0 lim + 1)) (own_p1 f j0 lim + 1)))), .unset, .unset, .unset] [])
              have F255 := f253.same W255
              have sz256 : n0 ≤ h255.size := by rw [W255.size]; exact sz215
              have K257 := K216.wr W255 (Or.inl (List.mem_of_getElem? (i := 0) rfl))
              have N255 := Fr.snoc X255 N214 go
              refine own_by (T' := T255) (f' := (mkF m 200 #[.val (.ref o), .val (.ref ca), .val (.int iv0), .val (.int lv), .val (.int r2), .val (.int (f (own_rp f (lim - (own_p1 f j0 lim + 1)) (own_p1 f j0 lim + 1)))), .unset, .unset, .unset] [(.ref o)])) (fun t k => XS.aloadN X255.here hx rfl (hb hby d5_199) rfl rfl k) ?_
              refine own_getF (host := "") X255 hx hZ hown e255 (hb hby d5_200) (Or.inl (own_w hw 93 rfl)) Via.refl F255 ?_
              intro T258 X258 e258
              show own_Go p e below _ T258 (mkF m 203 #[.val (.ref o), .val (.ref ca), .val (.int iv0), .val (.int lv), .val (.int r2), .val (.int (f (own_rp f (lim - (own_p1 f j0 lim + 1)) (own_p1 f j0 lim + 1)))), .unset, .unset, .unset] [(.int (1 : Int32))])
              refine own_by (T' := T258) (f' := (mkF m 206 #[.val (.ref o), .val (.ref ca), .val (.int iv0), .val (.int lv), .val (.int r2), .val (.int (f (own_rp f (lim - (own_p1 f j0 lim + 1)) (own_p1 f j0 lim + 1)))), .unset, .unset, .unset] [])) (fun t k => XS.ifNo X258.here hx rfl (hb hby d5_203) rfl ((if0 _ _).trans (feq (by decide)).1) k) ?_
              have hpt : own_pnt f j0 lim := ⟨own_ltn hr1 hl hc66_167, hc75_169⟩
              have ep2 : own_p2 f j0 lim = (own_rp f (lim - (own_p1 f j0 lim + 1)) (own_p1 f j0 lim + 1)) := if_pos hpt
              have ev2 : own_v2 f j0 lim = own_rv f (lim - (own_p1 f j0 lim + 1)) (own_p1 f j0 lim + 1) (own_v1 f j0 lim) := if_pos hpt
              have hD : dv2.toInt = ((own_dgs f j0 lim : Nat) : Int) := by rw [own_dgs, if_pos hpt, ep2]; exact hd2
              have z0 : (0 : Int32).toInt = ((0 : Nat) : Int) := by decide
              exact absurd ⟨own_neqn hD z0 hc145_219, by rw [ep2]; exact own_ltn hr2 hl hc163_243, by rw [ep2]; exact Or.inr hc188_252⟩ hnx
            · have _ := X218
              refine own_by (T' := T218) (f' := (mkF m 195 #[.val (.ref o), .val (.ref ca), .val (.int iv0), .val (.int lv), .val (.int r2), .val (.int (f (own_rp f (lim - (own_p1 f j0 lim + 1)) (own_p1 f j0 lim + 1)))), .unset, .unset, .unset] [(.ref o)])) (fun t k => XS.icmpYes X218.here hx rfl (pc0 := 188) (pc' := 195) rfl (hb hby d5_188) rfl (feq hc188_252).2 (by decide) (by decide) k) ?_
              refine own_by (T' := T218) (f' := (mkF m 196 #[.val (.ref o), .val (.ref ca), .val (.int iv0), .val (.int lv), .val (.int r2), .val (.int (f (own_rp f (lim - (own_p1 f j0 lim + 1)) (own_p1 f j0 lim + 1)))), .unset, .unset, .unset] [(.int (0 : Int32)), (.ref o)])) (fun t k => XS.iconst X218.here hx rfl (hb hby d5_195) k) ?_
              have f259 := (F209.other W214 (Or.inr (sn_158 hw)))
              have f260 := (f213.wr W214)
              refine own_putF (host := "") X218 hx hZ hown e218 (hb hby d5_196) (Or.inl (own_w hw 93 rfl)) Via.refl f259 f260 (Or.inl (own_w hw 94 rfl)) (own_w hw 32 rfl) (ty := .boolean) (by decide) rfl rfl ?_
              intro T261 h261 X261 e261 W261
              show own_Go p e below _ T261 (mkF m 199 #[.val (.ref o), .val (.ref ca), .val (.int iv0), .val (.int lv), .val (.int r2), .val (.int (f (own_rp f (lim - (own_p1 f j0 lim + 1)) (own_p1 f j0 lim + 1)))), .unset, .unset, .unset] [])
              have F261 := f259.same W261
              have sz262 : n0 ≤ h261.size := by rw [W261.size]; exact sz215
              have K263 := K216.wr W261 (Or.inl (List.mem_of_getElem? (i := 0) rfl))
              have N261 := Fr.snoc X261 N214 go
              refine own_by (T' := T261) (f' := (mkF m 200 #[.val (.ref o), .val (.ref ca), .val (.int iv0), .val (.int lv), .val (.int r2), .val (.int (f (own_rp f (lim - (own_p1 f j0 lim + 1)) (own_p1 f j0 lim + 1)))), .unset, .unset, .unset] [(.ref o)])) (fun t k => XS.aloadN X261.here hx rfl (hb hby d5_199) rfl rfl k) ?_
              refine own_getF (host := "") X261 hx hZ hown e261 (hb hby d5_200) (Or.inl (own_w hw 93 rfl)) Via.refl F261 ?_
              intro T264 X264 e264
              show own_Go p e below _ T264 (mkF m 203 #[.val (.ref o), .val (.ref ca), .val (.int iv0), .val (.int lv), .val (.int r2), .val (.int (f (own_rp f (lim - (own_p1 f j0 lim + 1)) (own_p1 f j0 lim + 1)))), .unset, .unset, .unset] [(.int (0 : Int32))])
              refine own_by (T' := T264) (f' := (mkF m 341 #[.val (.ref o), .val (.ref ca), .val (.int iv0), .val (.int lv), .val (.int r2), .val (.int (f (own_rp f (lim - (own_p1 f j0 lim + 1)) (own_p1 f j0 lim + 1)))), .unset, .unset, .unset] [])) (fun t k => XS.ifYes X264.here hx rfl (pc0 := 203) (pc' := 341) rfl (hb hby d5_203) rfl ((if0 _ _).trans (teq rfl).1) (by decide) (by decide) k) ?_
              refine own_by (T' := T264) (f' := (mkF m 342 #[.val (.ref o), .val (.ref ca), .val (.int iv0), .val (.int lv), .val (.int r2), .val (.int (f (own_rp f (lim - (own_p1 f j0 lim + 1)) (own_p1 f j0 lim + 1)))), .unset, .unset, .unset] [(.ref o)])) (fun t k => XS.aloadN X264.here hx rfl (hb hby d5_341) rfl rfl k) ?_
              refine own_by (T' := T264) (f' := (mkF m 344 #[.val (.ref o), .val (.ref ca), .val (.int iv0), .val (.int lv), .val (.int r2), .val (.int (f (own_rp f (lim - (own_p1 f j0 lim + 1)) (own_p1 f j0 lim + 1)))), .unset, .unset, .unset] [(.int r2), (.ref o)])) (fun t k => XS.iload X264.here hx rfl (hb hby d5_342) rfl k) ?_
              have f265 := (((((P2_2.other W197 (Or.inr (sn_79 hw))).other W204 (Or.inr (sn_122 hw))).other W209 (Or.inr (sn_148 hw))).other W214 (Or.inr (sn_149 hw))).other W261 (Or.inr (sn_148 hw)))
              have f266 := (f260.wr W261)
              refine own_putF (host := "") X264 hx hZ hown e264 (hb hby d5_344) (Or.inl (own_w hw 97 rfl)) Via.refl f265 f266 (Or.inl (own_w hw 98 rfl)) (own_w hw 32 rfl) (ty := .int) (by decide) rfl rfl ?_
              intro T267 h267 X267 e267 W267
              show own_Go p e below _ T267 (mkF m 347 #[.val (.ref o), .val (.ref ca), .val (.int iv0), .val (.int lv), .val (.int r2), .val (.int (f (own_rp f (lim - (own_p1 f j0 lim + 1)) (own_p1 f j0 lim + 1)))), .unset, .unset, .unset] [])
              have F267 := f265.same W267
              have sz268 : n0 ≤ h267.size := by rw [W267.size]; exact sz262
              have K269 := K263.wr W267 (Or.inl (List.mem_of_getElem? (i := 0) rfl))
              have N267 := Fr.snoc X267 N261 go
              refine own_by (T' := T267) (f' := (mkF m 348 #[.val (.ref o), .val (.ref ca), .val (.int iv0), .val (.int lv), .val (.int r2), .val (.int (f (own_rp f (lim - (own_p1 f j0 lim + 1)) (own_p1 f j0 lim + 1)))), .unset, .unset, .unset] [(.ref o)])) (fun t k => XS.aloadN X267.here hx rfl (hb hby d5_347) rfl rfl k) ?_
              have hpt : own_pnt f j0 lim := ⟨own_ltn hr1 hl hc66_167, hc75_169⟩
              have ep2 : own_p2 f j0 lim = (own_rp f (lim - (own_p1 f j0 lim + 1)) (own_p1 f j0 lim + 1)) := if_pos hpt
              have ev2 : own_v2 f j0 lim = own_rv f (lim - (own_p1 f j0 lim + 1)) (own_p1 f j0 lim + 1) (own_v1 f j0 lim) := if_pos hpt
              have hD : dv2.toInt = ((own_dgs f j0 lim : Nat) : Int) := by rw [own_dgs, if_pos hpt, ep2]; exact hd2
              have z0 : (0 : Int32).toInt = ((0 : Nat) : Int) := by decide
              have f270 := ((((((P2_0.other W197 (Or.inr (sn_69 hw))).other W204 (Or.inr (sn_118 hw))).other W209 (Or.inr (sn_150 hw))).other W214 (Or.inr (sn_151 hw))).other W261 (Or.inr (sn_150 hw))).other W267 (Or.inr (sn_152 hw)))
              have f271 := ((((((P2_1.other W197 (Or.inr (sn_73 hw))).other W204 (Or.inr (sn_120 hw))).other W209 (Or.inr (sn_153 hw))).other W214 (Or.inr (sn_154 hw))).other W261 (Or.inr (sn_153 hw))).other W267 (Or.inr (sn_155 hw)))
              have f272 := ((f217.other W261 (Or.inr (sn_144 hw))).other W267 (Or.inr (sn_156 hw)))
              have f273 := ((((((P2_4.other W197 (Or.inr (sn_91 hw))).other W204 (Or.inr (sn_117 hw))).other W209 (Or.inr (sn_146 hw))).other W214 (Or.inr (sn_147 hw))).other W261 (Or.inr (sn_146 hw))).other W267 (Or.inr (sn_157 hw)))
              have f274 := (F261.other W267 (Or.inr (sn_159 hw)))
              have f275 := ((F214.other W261 (Or.inr (sn_143 hw))).other W267 (Or.inr (sn_160 hw)))
              have f276 := ((((((P2_7.other W197 (Or.inr (sn_106 hw))).other W204 (Or.inr (sn_129 hw))).other W209 (Or.inr (sn_161 hw))).other W214 (Or.inr (sn_162 hw))).other W261 (Or.inr (sn_161 hw))).other W267 (Or.inr (sn_163 hw)))
              have f277 := ((((((P2_8.other W197 (Or.inr (sn_108 hw))).other W204 (Or.inr (sn_131 hw))).other W209 (Or.inr (sn_164 hw))).other W214 (Or.inr (sn_165 hw))).other W261 (Or.inr (sn_164 hw))).other W267 (Or.inr (sn_166 hw)))
              have f278 := ((((((P2_9.other W197 (Or.inr (sn_110 hw))).other W204 (Or.inr (sn_133 hw))).other W209 (Or.inr (sn_167 hw))).other W214 (Or.inr (sn_168 hw))).other W261 (Or.inr (sn_167 hw))).other W267 (Or.inr (sn_169 hw)))
              have f279 := ((((((P2_10.other W197 (Or.inr (sn_112 hw))).other W204 (Or.inr (sn_135 hw))).other W209 (Or.inr (sn_170 hw))).other W214 (Or.inr (sn_171 hw))).other W261 (Or.inr (sn_170 hw))).other W267 (Or.inr (sn_172 hw)))
              have f280 := ((((((P2_11.other W197 (Or.inr (sn_114 hw))).other W204 (Or.inr (sn_137 hw))).other W209 (Or.inr (sn_173 hw))).other W214 (Or.inr (sn_174 hw))).other W261 (Or.inr (sn_173 hw))).other W267 (Or.inr (sn_175 hw)))
              have f281 := (((((F197.other W204 (Or.inr (sn_139 hw))).other W209 (Or.inr (sn_176 hw))).other W214 (Or.inr (sn_177 hw))).other W261 (Or.inr (sn_176 hw))).other W267 (Or.inr (sn_178 hw)))
              have f282 := ((((((P2_13.other W197 (Or.inr (sn_65 hw))).other W204 (Or.inr (sn_141 hw))).other W209 (Or.inr (sn_179 hw))).other W214 (Or.inr (sn_180 hw))).other W261 (Or.inr (sn_179 hw))).other W267 (Or.inr (sn_181 hw)))
              refine own_retA X267 hx hret hlk (hb hby d5_348) rfl rfl rfl (by decide) (by decide) ?_
              try rw [e267]
              exact ⟨rfl, N267, K269, _, _, by rw [ev2]; exact hW2, _, _, _, _, _, _, _, _, _, _, _, f270, f271, F267, f272, f273, f274, f275, f276, f277, f278, f279, f280, f281, f282⟩
        · have _ := X218
          refine own_by (T' := T218) (f' := (mkF m 173 #[.val (.ref o), .val (.ref ca), .val (.int iv0), .val (.int lv), .val (.int r2), .val (.int (r1 + (1 : Int32))), .unset, .unset, .unset] [])) (fun t k => XS.icmpYes X218.here hx rfl (pc0 := 163) (pc' := 173) rfl (hb hby d5_163) rfl (flt hc163_243).2.1 (by decide) (by decide) k) ?_
          refine own_by (T' := T218) (f' := (mkF m 174 #[.val (.ref o), .val (.ref ca), .val (.int iv0), .val (.int lv), .val (.int r2), .val (.int (r1 + (1 : Int32))), .unset, .unset, .unset] [(.int (0 : Int32))])) (fun t k => XS.iconst X218.here hx rfl (hb hby d5_173) k) ?_
          refine own_by (T' := T218) (f' := (mkF m 176 #[.val (.ref o), .val (.ref ca), .val (.int iv0), .val (.int lv), .val (.int r2), .val (.int (0 : Int32)), .unset, .unset, .unset] [])) (fun t k => XS.istore X218.here hx rfl (hb hby d5_174) rfl (l' := #[.val (.ref o), .val (.ref ca), .val (.int iv0), .val (.int lv), .val (.int r2), .val (.int (0 : Int32)), .unset, .unset, .unset]) rfl k) ?_
          refine own_by (T' := T218) (f' := (mkF m 177 #[.val (.ref o), .val (.ref ca), .val (.int iv0), .val (.int lv), .val (.int r2), .val (.int (0 : Int32)), .unset, .unset, .unset] [(.ref o)])) (fun t k => XS.aloadN X218.here hx rfl (hb hby d5_176) rfl rfl k) ?_
          refine own_by (T' := T218) (f' := (mkF m 179 #[.val (.ref o), .val (.ref ca), .val (.int iv0), .val (.int lv), .val (.int r2), .val (.int (0 : Int32)), .unset, .unset, .unset] [(.int (0 : Int32)), (.ref o)])) (fun t k => XS.iload X218.here hx rfl (hb hby d5_177) rfl k) ?_
          refine own_by (T' := T218) (f' := (mkF m 181 #[.val (.ref o), .val (.ref ca), .val (.int iv0), .val (.int lv), .val (.int r2), .val (.int (0 : Int32)), .unset, .unset, .unset] [(.int (101 : Int32)), (.int (0 : Int32)), (.ref o)])) (fun t k => XS.bipush X218.here hx rfl (hb hby d5_179) k) ?_
          refine own_by (T' := T218) (f' := (mkF m 184 #[.val (.ref o), .val (.ref ca), .val (.int iv0), .val (.int lv), .val (.int r2), .val (.int (0 : Int32)), .unset, .unset, .unset] [(.ref o)])) (fun t k => XS.icmpNo X218.here hx rfl (hb hby d5_181) rfl (feq (by decide)).1 k) ?_
          refine own_by (T' := T218) (f' := (mkF m 186 #[.val (.ref o), .val (.ref ca), .val (.int iv0), .val (.int lv), .val (.int r2), .val (.int (0 : Int32)), .unset, .unset, .unset] [(.int (0 : Int32)), (.ref o)])) (fun t k => XS.iload X218.here hx rfl (hb hby d5_184) rfl k) ?_
          refine own_by (T' := T218) (f' := (mkF m 188 #[.val (.ref o), .val (.ref ca), .val (.int iv0), .val (.int lv), .val (.int r2), .val (.int (0 : Int32)), .unset, .unset, .unset] [(.int (69 : Int32)), (.int (0 : Int32)), (.ref o)])) (fun t k => XS.bipush X218.here hx rfl (hb hby d5_186) k) ?_
          refine own_by (T' := T218) (f' := (mkF m 195 #[.val (.ref o), .val (.ref ca), .val (.int iv0), .val (.int lv), .val (.int r2), .val (.int (0 : Int32)), .unset, .unset, .unset] [(.ref o)])) (fun t k => XS.icmpYes X218.here hx rfl (pc0 := 188) (pc' := 195) rfl (hb hby d5_188) rfl (feq (by decide)).2 (by decide) (by decide) k) ?_
          refine own_by (T' := T218) (f' := (mkF m 196 #[.val (.ref o), .val (.ref ca), .val (.int iv0), .val (.int lv), .val (.int r2), .val (.int (0 : Int32)), .unset, .unset, .unset] [(.int (0 : Int32)), (.ref o)])) (fun t k => XS.iconst X218.here hx rfl (hb hby d5_195) k) ?_
          have f283 := (F209.other W214 (Or.inr (sn_158 hw)))
          have f284 := (f213.wr W214)
          refine own_putF (host := "") X218 hx hZ hown e218 (hb hby d5_196) (Or.inl (own_w hw 93 rfl)) Via.refl f283 f284 (Or.inl (own_w hw 94 rfl)) (own_w hw 32 rfl) (ty := .boolean) (by decide) rfl rfl ?_
          intro T285 h285 X285 e285 W285
          show own_Go p e below _ T285 (mkF m 199 #[.val (.ref o), .val (.ref ca), .val (.int iv0), .val (.int lv), .val (.int r2), .val (.int (0 : Int32)), .unset, .unset, .unset] [])
          have F285 := f283.same W285
          have sz286 : n0 ≤ h285.size := by rw [W285.size]; exact sz215
          have K287 := K216.wr W285 (Or.inl (List.mem_of_getElem? (i := 0) rfl))
          have N285 := Fr.snoc X285 N214 go
          refine own_by (T' := T285) (f' := (mkF m 200 #[.val (.ref o), .val (.ref ca), .val (.int iv0), .val (.int lv), .val (.int r2), .val (.int (0 : Int32)), .unset, .unset, .unset] [(.ref o)])) (fun t k => XS.aloadN X285.here hx rfl (hb hby d5_199) rfl rfl k) ?_
          refine own_getF (host := "") X285 hx hZ hown e285 (hb hby d5_200) (Or.inl (own_w hw 93 rfl)) Via.refl F285 ?_
          intro T288 X288 e288
          show own_Go p e below _ T288 (mkF m 203 #[.val (.ref o), .val (.ref ca), .val (.int iv0), .val (.int lv), .val (.int r2), .val (.int (0 : Int32)), .unset, .unset, .unset] [(.int (0 : Int32))])
          refine own_by (T' := T288) (f' := (mkF m 341 #[.val (.ref o), .val (.ref ca), .val (.int iv0), .val (.int lv), .val (.int r2), .val (.int (0 : Int32)), .unset, .unset, .unset] [])) (fun t k => XS.ifYes X288.here hx rfl (pc0 := 203) (pc' := 341) rfl (hb hby d5_203) rfl ((if0 _ _).trans (teq rfl).1) (by decide) (by decide) k) ?_
          refine own_by (T' := T288) (f' := (mkF m 342 #[.val (.ref o), .val (.ref ca), .val (.int iv0), .val (.int lv), .val (.int r2), .val (.int (0 : Int32)), .unset, .unset, .unset] [(.ref o)])) (fun t k => XS.aloadN X288.here hx rfl (hb hby d5_341) rfl rfl k) ?_
          refine own_by (T' := T288) (f' := (mkF m 344 #[.val (.ref o), .val (.ref ca), .val (.int iv0), .val (.int lv), .val (.int r2), .val (.int (0 : Int32)), .unset, .unset, .unset] [(.int r2), (.ref o)])) (fun t k => XS.iload X288.here hx rfl (hb hby d5_342) rfl k) ?_
          have f289 := (((((P2_2.other W197 (Or.inr (sn_79 hw))).other W204 (Or.inr (sn_122 hw))).other W209 (Or.inr (sn_148 hw))).other W214 (Or.inr (sn_149 hw))).other W285 (Or.inr (sn_148 hw)))
          have f290 := (f284.wr W285)
          refine own_putF (host := "") X288 hx hZ hown e288 (hb hby d5_344) (Or.inl (own_w hw 97 rfl)) Via.refl f289 f290 (Or.inl (own_w hw 98 rfl)) (own_w hw 32 rfl) (ty := .int) (by decide) rfl rfl ?_
          intro T291 h291 X291 e291 W291
          show own_Go p e below _ T291 (mkF m 347 #[.val (.ref o), .val (.ref ca), .val (.int iv0), .val (.int lv), .val (.int r2), .val (.int (0 : Int32)), .unset, .unset, .unset] [])
          have F291 := f289.same W291
          have sz292 : n0 ≤ h291.size := by rw [W291.size]; exact sz286
          have K293 := K287.wr W291 (Or.inl (List.mem_of_getElem? (i := 0) rfl))
          have N291 := Fr.snoc X291 N285 go
          refine own_by (T' := T291) (f' := (mkF m 348 #[.val (.ref o), .val (.ref ca), .val (.int iv0), .val (.int lv), .val (.int r2), .val (.int (0 : Int32)), .unset, .unset, .unset] [(.ref o)])) (fun t k => XS.aloadN X291.here hx rfl (hb hby d5_347) rfl rfl k) ?_
          have hpt : own_pnt f j0 lim := ⟨own_ltn hr1 hl hc66_167, hc75_169⟩
          have ep2 : own_p2 f j0 lim = (own_rp f (lim - (own_p1 f j0 lim + 1)) (own_p1 f j0 lim + 1)) := if_pos hpt
          have ev2 : own_v2 f j0 lim = own_rv f (lim - (own_p1 f j0 lim + 1)) (own_p1 f j0 lim + 1) (own_v1 f j0 lim) := if_pos hpt
          have hD : dv2.toInt = ((own_dgs f j0 lim : Nat) : Int) := by rw [own_dgs, if_pos hpt, ep2]; exact hd2
          have z0 : (0 : Int32).toInt = ((0 : Nat) : Int) := by decide
          have f294 := ((((((P2_0.other W197 (Or.inr (sn_69 hw))).other W204 (Or.inr (sn_118 hw))).other W209 (Or.inr (sn_150 hw))).other W214 (Or.inr (sn_151 hw))).other W285 (Or.inr (sn_150 hw))).other W291 (Or.inr (sn_152 hw)))
          have f295 := ((((((P2_1.other W197 (Or.inr (sn_73 hw))).other W204 (Or.inr (sn_120 hw))).other W209 (Or.inr (sn_153 hw))).other W214 (Or.inr (sn_154 hw))).other W285 (Or.inr (sn_153 hw))).other W291 (Or.inr (sn_155 hw)))
          have f296 := ((f217.other W285 (Or.inr (sn_144 hw))).other W291 (Or.inr (sn_156 hw)))
          have f297 := ((((((P2_4.other W197 (Or.inr (sn_91 hw))).other W204 (Or.inr (sn_117 hw))).other W209 (Or.inr (sn_146 hw))).other W214 (Or.inr (sn_147 hw))).other W285 (Or.inr (sn_146 hw))).other W291 (Or.inr (sn_157 hw)))
          have f298 := (F285.other W291 (Or.inr (sn_159 hw)))
          have f299 := ((F214.other W285 (Or.inr (sn_143 hw))).other W291 (Or.inr (sn_160 hw)))
          have f300 := ((((((P2_7.other W197 (Or.inr (sn_106 hw))).other W204 (Or.inr (sn_129 hw))).other W209 (Or.inr (sn_161 hw))).other W214 (Or.inr (sn_162 hw))).other W285 (Or.inr (sn_161 hw))).other W291 (Or.inr (sn_163 hw)))
          have f301 := ((((((P2_8.other W197 (Or.inr (sn_108 hw))).other W204 (Or.inr (sn_131 hw))).other W209 (Or.inr (sn_164 hw))).other W214 (Or.inr (sn_165 hw))).other W285 (Or.inr (sn_164 hw))).other W291 (Or.inr (sn_166 hw)))
          have f302 := ((((((P2_9.other W197 (Or.inr (sn_110 hw))).other W204 (Or.inr (sn_133 hw))).other W209 (Or.inr (sn_167 hw))).other W214 (Or.inr (sn_168 hw))).other W285 (Or.inr (sn_167 hw))).other W291 (Or.inr (sn_169 hw)))
          have f303 := ((((((P2_10.other W197 (Or.inr (sn_112 hw))).other W204 (Or.inr (sn_135 hw))).other W209 (Or.inr (sn_170 hw))).other W214 (Or.inr (sn_171 hw))).other W285 (Or.inr (sn_170 hw))).other W291 (Or.inr (sn_172 hw)))
          have f304 := ((((((P2_11.other W197 (Or.inr (sn_114 hw))).other W204 (Or.inr (sn_137 hw))).other W209 (Or.inr (sn_173 hw))).other W214 (Or.inr (sn_174 hw))).other W285 (Or.inr (sn_173 hw))).other W291 (Or.inr (sn_175 hw)))
          have f305 := (((((F197.other W204 (Or.inr (sn_139 hw))).other W209 (Or.inr (sn_176 hw))).other W214 (Or.inr (sn_177 hw))).other W285 (Or.inr (sn_176 hw))).other W291 (Or.inr (sn_178 hw)))
          have f306 := ((((((P2_13.other W197 (Or.inr (sn_65 hw))).other W204 (Or.inr (sn_141 hw))).other W209 (Or.inr (sn_179 hw))).other W214 (Or.inr (sn_180 hw))).other W285 (Or.inr (sn_179 hw))).other W291 (Or.inr (sn_181 hw)))
          refine own_retA X291 hx hret hlk (hb hby d5_348) rfl rfl rfl (by decide) (by decide) ?_
          try rw [e291]
          exact ⟨rfl, N291, K293, _, _, by rw [ev2]; exact hW2, _, _, _, _, _, _, _, _, _, _, _, f294, f295, F291, f296, f297, f298, f299, f300, f301, f302, f303, f304, f305, f306⟩
    · have _ := X164
      refine own_by (T' := T164) (f' := (mkF m 82 #[.val (.ref o), .val (.ref ca), .val (.int iv0), .val (.int lv), .val (.int r1), .unset, .unset, .unset, .unset] [(.ref o)])) (fun t k => XS.icmpYes X164.here hx rfl (pc0 := 75) (pc' := 82) rfl (hb hby d5_75) rfl (feq hc75_169).2 (by decide) (by decide) k) ?_
      refine own_by (T' := T164) (f' := (mkF m 83 #[.val (.ref o), .val (.ref ca), .val (.int iv0), .val (.int lv), .val (.int r1), .unset, .unset, .unset, .unset] [(.int (0 : Int32)), (.ref o)])) (fun t k => XS.iconst X164.here hx rfl (hb hby d5_82) k) ?_
      have f307 := (P1_4.other W164 (Or.inr (sn_117 hw)))
      have f308 := (f163.wr W164)
      refine own_putF (host := "") X164 hx hZ hown e164 (hb hby d5_83) (Or.inl (own_w hw 91 rfl)) Via.refl f307 f308 (Or.inl (own_w hw 92 rfl)) (own_w hw 32 rfl) (ty := .boolean) (by decide) rfl rfl ?_
      intro T309 h309 X309 e309 W309
      show own_Go p e below _ T309 (mkF m 86 #[.val (.ref o), .val (.ref ca), .val (.int iv0), .val (.int lv), .val (.int r1), .unset, .unset, .unset, .unset] [])
      have F309 := f307.same W309
      have sz310 : n0 ≤ h309.size := by rw [W309.size]; exact sz165
      have K311 := K166.wr W309 (Or.inl (List.mem_of_getElem? (i := 0) rfl))
      have N309 := Fr.snoc X309 N164 go
      refine own_by (T' := T309) (f' := (mkF m 87 #[.val (.ref o), .val (.ref ca), .val (.int iv0), .val (.int lv), .val (.int r1), .unset, .unset, .unset, .unset] [(.ref o)])) (fun t k => XS.aloadN X309.here hx rfl (hb hby d5_86) rfl rfl k) ?_
      refine own_getF (host := "") X309 hx hZ hown e309 (hb hby d5_87) (Or.inl (own_w hw 91 rfl)) Via.refl F309 ?_
      intro T312 X312 e312
      show own_Go p e below _ T312 (mkF m 90 #[.val (.ref o), .val (.ref ca), .val (.int iv0), .val (.int lv), .val (.int r1), .unset, .unset, .unset, .unset] [(.int (0 : Int32))])
      refine own_by (T' := T312) (f' := (mkF m 131 #[.val (.ref o), .val (.ref ca), .val (.int iv0), .val (.int lv), .val (.int r1), .unset, .unset, .unset, .unset] [])) (fun t k => XS.ifYes X312.here hx rfl (pc0 := 90) (pc' := 131) rfl (hb hby d5_90) rfl ((if0 _ _).trans (teq rfl).1) (by decide) (by decide) k) ?_
      refine own_by (T' := T312) (f' := (mkF m 132 #[.val (.ref o), .val (.ref ca), .val (.int iv0), .val (.int lv), .val (.int r1), .unset, .unset, .unset, .unset] [(.ref o)])) (fun t k => XS.aloadN X312.here hx rfl (hb hby d5_131) rfl rfl k) ?_
      refine own_by (T' := T312) (f' := (mkF m 133 #[.val (.ref o), .val (.ref ca), .val (.int iv0), .val (.int lv), .val (.int r1), .unset, .unset, .unset, .unset] [(.int (0 : Int32)), (.ref o)])) (fun t k => XS.iconst X312.here hx rfl (hb hby d5_132) k) ?_
      have f313 := ((P1_5.other W164 (Or.inr (sn_125 hw))).other W309 (Or.inr (sn_126 hw)))
      have f314 := (f308.wr W309)
      refine own_putF (host := "") X312 hx hZ hown e312 (hb hby d5_133) (Or.inl (own_w hw 93 rfl)) Via.refl f313 f314 (Or.inl (own_w hw 94 rfl)) (own_w hw 32 rfl) (ty := .boolean) (by decide) rfl rfl ?_
      intro T315 h315 X315 e315 W315
      show own_Go p e below _ T315 (mkF m 136 #[.val (.ref o), .val (.ref ca), .val (.int iv0), .val (.int lv), .val (.int r1), .unset, .unset, .unset, .unset] [])
      have F315 := f313.same W315
      have sz316 : n0 ≤ h315.size := by rw [W315.size]; exact sz310
      have K317 := K311.wr W315 (Or.inl (List.mem_of_getElem? (i := 0) rfl))
      have N315 := Fr.snoc X315 N309 go
      refine own_by (T' := T315) (f' := (mkF m 137 #[.val (.ref o), .val (.ref ca), .val (.int iv0), .val (.int lv), .val (.int r1), .unset, .unset, .unset, .unset] [(.ref o)])) (fun t k => XS.aloadN X315.here hx rfl (hb hby d5_136) rfl rfl k) ?_
      refine own_by (T' := T315) (f' := (mkF m 138 #[.val (.ref o), .val (.ref ca), .val (.int iv0), .val (.int lv), .val (.int r1), .unset, .unset, .unset, .unset] [(.int (0 : Int32)), (.ref o)])) (fun t k => XS.iconst X315.here hx rfl (hb hby d5_137) k) ?_
      have f318 := (((P1_6.other W164 (Or.inr (sn_127 hw))).other W309 (Or.inr (sn_128 hw))).other W315 (Or.inr (sn_143 hw)))
      have f319 := (f314.wr W315)
      refine own_putF (host := "") X315 hx hZ hown e315 (hb hby d5_138) (Or.inl (own_w hw 95 rfl)) Via.refl f318 f319 (Or.inl (own_w hw 96 rfl)) (own_w hw 32 rfl) (ty := .boolean) (by decide) rfl rfl ?_
      intro T320 h320 X320 e320 W320
      show own_Go p e below _ T320 (mkF m 141 #[.val (.ref o), .val (.ref ca), .val (.int iv0), .val (.int lv), .val (.int r1), .unset, .unset, .unset, .unset] [])
      have F320 := f318.same W320
      have sz321 : n0 ≤ h320.size := by rw [W320.size]; exact sz316
      have K322 := K317.wr W320 (Or.inl (List.mem_of_getElem? (i := 0) rfl))
      have N320 := Fr.snoc X320 N315 go
      refine own_by (T' := T320) (f' := (mkF m 142 #[.val (.ref o), .val (.ref ca), .val (.int iv0), .val (.int lv), .val (.int r1), .unset, .unset, .unset, .unset] [(.ref o)])) (fun t k => XS.aloadN X320.here hx rfl (hb hby d5_141) rfl rfl k) ?_
      have f323 := (((F164.other W309 (Or.inr (sn_124 hw))).other W315 (Or.inr (sn_144 hw))).other W320 (Or.inr (sn_145 hw)))
      refine own_getF (host := "") X320 hx hZ hown e320 (hb hby d5_142) (Or.inl (own_w hw 89 rfl)) Via.refl f323 ?_
      intro T324 X324 e324
      show own_Go p e below _ T324 (mkF m 145 #[.val (.ref o), .val (.ref ca), .val (.int iv0), .val (.int lv), .val (.int r1), .unset, .unset, .unset, .unset] [(.int dv1)])
      by_cases hc145_325 : dv1 = (0 : Int32)
      · have _ := X324
        refine own_by (T' := T324) (f' := (mkF m 148 #[.val (.ref o), .val (.ref ca), .val (.int iv0), .val (.int lv), .val (.int r1), .unset, .unset, .unset, .unset] [])) (fun t k => XS.ifNo X324.here hx rfl (hb hby d5_145) rfl ((if0 _ _).trans (teq hc145_325).2) k) ?_
        refine own_by (T' := T324) (f' := (mkF m 149 #[.val (.ref o), .val (.ref ca), .val (.int iv0), .val (.int lv), .val (.int r1), .unset, .unset, .unset, .unset] [(.ref o)])) (fun t k => XS.aloadN X324.here hx rfl (hb hby d5_148) rfl rfl k) ?_
        refine own_by (T' := T324) (f' := (mkF m 150 #[.val (.ref o), .val (.ref ca), .val (.int iv0), .val (.int lv), .val (.int r1), .unset, .unset, .unset, .unset] [(.int (0 : Int32)), (.ref o)])) (fun t k => XS.iconst X324.here hx rfl (hb hby d5_149) k) ?_
        have f326 := ((F309.other W315 (Or.inr (sn_146 hw))).other W320 (Or.inr (sn_147 hw)))
        have f327 := (f319.wr W320)
        refine own_putF (host := "") X324 hx hZ hown e324 (hb hby d5_150) (Or.inl (own_w hw 91 rfl)) Via.refl f326 f327 (Or.inl (own_w hw 92 rfl)) (own_w hw 32 rfl) (ty := .boolean) (by decide) rfl rfl ?_
        intro T328 h328 X328 e328 W328
        show own_Go p e below _ T328 (mkF m 153 #[.val (.ref o), .val (.ref ca), .val (.int iv0), .val (.int lv), .val (.int r1), .unset, .unset, .unset, .unset] [])
        have F328 := f326.same W328
        have sz329 : n0 ≤ h328.size := by rw [W328.size]; exact sz321
        have K330 := K322.wr W328 (Or.inl (List.mem_of_getElem? (i := 0) rfl))
        have N328 := Fr.snoc X328 N320 go
        refine own_by (T' := T328) (f' := (mkF m 154 #[.val (.ref o), .val (.ref ca), .val (.int iv0), .val (.int lv), .val (.int r1), .unset, .unset, .unset, .unset] [(.ref o)])) (fun t k => XS.aloadN X328.here hx rfl (hb hby d5_153) rfl rfl k) ?_
        refine own_by (T' := T328) (f' := (mkF m 155 #[.val (.ref o), .val (.ref ca), .val (.int iv0), .val (.int lv), .val (.int r1), .unset, .unset, .unset, .unset] [(.int iv0), (.ref o)])) (fun t k => XS.iloadN X328.here hx rfl (hb hby d5_154) rfl k) ?_
        have f331 := (((((P1_2.other W164 (Or.inr (sn_122 hw))).other W309 (Or.inr (sn_123 hw))).other W315 (Or.inr (sn_148 hw))).other W320 (Or.inr (sn_149 hw))).other W328 (Or.inr (sn_123 hw)))
        have f332 := (f327.wr W328)
        refine own_putF (host := "") X328 hx hZ hown e328 (hb hby d5_155) (Or.inl (own_w hw 97 rfl)) Via.refl f331 f332 (Or.inl (own_w hw 98 rfl)) (own_w hw 32 rfl) (ty := .int) (by decide) rfl rfl ?_
        intro T333 h333 X333 e333 W333
        show own_Go p e below _ T333 (mkF m 158 #[.val (.ref o), .val (.ref ca), .val (.int iv0), .val (.int lv), .val (.int r1), .unset, .unset, .unset, .unset] [])
        have F333 := f331.same W333
        have sz334 : n0 ≤ h333.size := by rw [W333.size]; exact sz329
        have K335 := K330.wr W333 (Or.inl (List.mem_of_getElem? (i := 0) rfl))
        have N333 := Fr.snoc X333 N328 go
        refine own_by (T' := T333) (f' := (mkF m 159 #[.val (.ref o), .val (.ref ca), .val (.int iv0), .val (.int lv), .val (.int r1), .unset, .unset, .unset, .unset] [(.ref o)])) (fun t k => XS.aloadN X333.here hx rfl (hb hby d5_158) rfl rfl k) ?_
        have hpt : ¬ own_pnt f j0 lim := fun q => hc75_169 q.2
        have ep2 : own_p2 f j0 lim = (own_p1 f j0 lim) := if_neg hpt
        have ev2 : own_v2 f j0 lim = own_v1 f j0 lim := if_neg hpt
        have hD : dv1.toInt = ((own_dgs f j0 lim : Nat) : Int) := by rw [own_dgs, if_neg hpt]; exact hd1
        have z0 : (0 : Int32).toInt = ((0 : Nat) : Int) := by decide
        have f336 := ((((((P1_0.other W164 (Or.inr (sn_118 hw))).other W309 (Or.inr (sn_119 hw))).other W315 (Or.inr (sn_150 hw))).other W320 (Or.inr (sn_151 hw))).other W328 (Or.inr (sn_119 hw))).other W333 (Or.inr (sn_152 hw)))
        have f337 := ((((((P1_1.other W164 (Or.inr (sn_120 hw))).other W309 (Or.inr (sn_121 hw))).other W315 (Or.inr (sn_153 hw))).other W320 (Or.inr (sn_154 hw))).other W328 (Or.inr (sn_121 hw))).other W333 (Or.inr (sn_155 hw)))
        have f338 := ((f323.other W328 (Or.inr (sn_124 hw))).other W333 (Or.inr (sn_156 hw)))
        have f339 := (F328.other W333 (Or.inr (sn_157 hw)))
        have f340 := (((F315.other W320 (Or.inr (sn_158 hw))).other W328 (Or.inr (sn_126 hw))).other W333 (Or.inr (sn_159 hw)))
        have f341 := ((F320.other W328 (Or.inr (sn_128 hw))).other W333 (Or.inr (sn_160 hw)))
        have f342 := ((((((P1_7.other W164 (Or.inr (sn_129 hw))).other W309 (Or.inr (sn_130 hw))).other W315 (Or.inr (sn_161 hw))).other W320 (Or.inr (sn_162 hw))).other W328 (Or.inr (sn_130 hw))).other W333 (Or.inr (sn_163 hw)))
        have f343 := ((((((P1_8.other W164 (Or.inr (sn_131 hw))).other W309 (Or.inr (sn_132 hw))).other W315 (Or.inr (sn_164 hw))).other W320 (Or.inr (sn_165 hw))).other W328 (Or.inr (sn_132 hw))).other W333 (Or.inr (sn_166 hw)))
        have f344 := ((((((P1_9.other W164 (Or.inr (sn_133 hw))).other W309 (Or.inr (sn_134 hw))).other W315 (Or.inr (sn_167 hw))).other W320 (Or.inr (sn_168 hw))).other W328 (Or.inr (sn_134 hw))).other W333 (Or.inr (sn_169 hw)))
        have f345 := ((((((P1_10.other W164 (Or.inr (sn_135 hw))).other W309 (Or.inr (sn_136 hw))).other W315 (Or.inr (sn_170 hw))).other W320 (Or.inr (sn_171 hw))).other W328 (Or.inr (sn_136 hw))).other W333 (Or.inr (sn_172 hw)))
        have f346 := ((((((P1_11.other W164 (Or.inr (sn_137 hw))).other W309 (Or.inr (sn_138 hw))).other W315 (Or.inr (sn_173 hw))).other W320 (Or.inr (sn_174 hw))).other W328 (Or.inr (sn_138 hw))).other W333 (Or.inr (sn_175 hw)))
        have f347 := ((((((P1_12.other W164 (Or.inr (sn_139 hw))).other W309 (Or.inr (sn_140 hw))).other W315 (Or.inr (sn_176 hw))).other W320 (Or.inr (sn_177 hw))).other W328 (Or.inr (sn_140 hw))).other W333 (Or.inr (sn_178 hw)))
        have f348 := ((((((P1_13.other W164 (Or.inr (sn_141 hw))).other W309 (Or.inr (sn_142 hw))).other W315 (Or.inr (sn_179 hw))).other W320 (Or.inr (sn_180 hw))).other W328 (Or.inr (sn_142 hw))).other W333 (Or.inr (sn_181 hw)))
        refine own_retA X333 hx hret hlk (hb hby d5_159) rfl rfl rfl (by decide) (by decide) ?_
        try rw [e333]
        exact ⟨rfl, N333, K335, _, _, by rw [ev2]; exact hW1, _, _, _, _, _, _, _, _, _, _, _, f336, f337, F333, f338, f339, f340, f341, f342, f343, f344, f345, f346, f347, f348⟩
      · have _ := X324
        refine own_by (T' := T324) (f' := (mkF m 160 #[.val (.ref o), .val (.ref ca), .val (.int iv0), .val (.int lv), .val (.int r1), .unset, .unset, .unset, .unset] [])) (fun t k => XS.ifYes X324.here hx rfl (pc0 := 145) (pc' := 160) rfl (hb hby d5_145) rfl ((if0 _ _).trans (feq hc145_325).2) (by decide) (by decide) k) ?_
        refine own_by (T' := T324) (f' := (mkF m 162 #[.val (.ref o), .val (.ref ca), .val (.int iv0), .val (.int lv), .val (.int r1), .unset, .unset, .unset, .unset] [(.int r1)])) (fun t k => XS.iload X324.here hx rfl (hb hby d5_160) rfl k) ?_
        refine own_by (T' := T324) (f' := (mkF m 163 #[.val (.ref o), .val (.ref ca), .val (.int iv0), .val (.int lv), .val (.int r1), .unset, .unset, .unset, .unset] [(.int lv), (.int r1)])) (fun t k => XS.iloadN X324.here hx rfl (hb hby d5_162) rfl k) ?_
        refine own_by (T' := T324) (f' := (mkF m 166 #[.val (.ref o), .val (.ref ca), .val (.int iv0), .val (.int lv), .val (.int r1), .unset, .unset, .unset, .unset] [])) (fun t k => XS.icmpNo X324.here hx rfl (hb hby d5_163) rfl (tlt hc66_167).2.1 k) ?_
        refine own_by (T' := T324) (f' := (mkF m 167 #[.val (.ref o), .val (.ref ca), .val (.int iv0), .val (.int lv), .val (.int r1), .unset, .unset, .unset, .unset] [(.ref ca)])) (fun t k => XS.aloadN X324.here hx rfl (hb hby d5_166) rfl rfl k) ?_
        refine own_by (T' := T324) (f' := (mkF m 169 #[.val (.ref o), .val (.ref ca), .val (.int iv0), .val (.int lv), .val (.int r1), .unset, .unset, .unset, .unset] [(.int r1), (.ref ca)])) (fun t k => XS.iload X324.here hx rfl (hb hby d5_167) rfl k) ?_
        have lq169 := own_ltn hr1 hl hc66_167
        have f349 := (((f168.other W309 nco).other W315 nco).other W320 nco)
        refine own_ldC X324 hx hZ e324 (hb hby d5_169) f349 (by omega) (by omega) ?_
        rw [show r1.toInt.toNat = (own_p1 f j0 lim) from by omega]
        show own_Go p e below _ T324 (mkF m 170 #[.val (.ref o), .val (.ref ca), .val (.int iv0), .val (.int lv), .val (.int r1), .unset, .unset, .unset, .unset] [(.int (f (own_p1 f j0 lim)))])
        refine own_by (T' := T324) (f' := (mkF m 174 #[.val (.ref o), .val (.ref ca), .val (.int iv0), .val (.int lv), .val (.int r1), .unset, .unset, .unset, .unset] [(.int (f (own_p1 f j0 lim)))])) (fun t k => XS.goto X324.here hx rfl (pc0 := 170) (pc' := 174) rfl (hb hby d5_170) (by decide) (by decide) k) ?_
        refine own_by (T' := T324) (f' := (mkF m 176 #[.val (.ref o), .val (.ref ca), .val (.int iv0), .val (.int lv), .val (.int r1), .val (.int (f (own_p1 f j0 lim))), .unset, .unset, .unset] [])) (fun t k => XS.istore X324.here hx rfl (hb hby d5_174) rfl (l' := #[.val (.ref o), .val (.ref ca), .val (.int iv0), .val (.int lv), .val (.int r1), .val (.int (f (own_p1 f j0 lim))), .unset, .unset, .unset]) rfl k) ?_
        refine own_by (T' := T324) (f' := (mkF m 177 #[.val (.ref o), .val (.ref ca), .val (.int iv0), .val (.int lv), .val (.int r1), .val (.int (f (own_p1 f j0 lim))), .unset, .unset, .unset] [(.ref o)])) (fun t k => XS.aloadN X324.here hx rfl (hb hby d5_176) rfl rfl k) ?_
        refine own_by (T' := T324) (f' := (mkF m 179 #[.val (.ref o), .val (.ref ca), .val (.int iv0), .val (.int lv), .val (.int r1), .val (.int (f (own_p1 f j0 lim))), .unset, .unset, .unset] [(.int (f (own_p1 f j0 lim))), (.ref o)])) (fun t k => XS.iload X324.here hx rfl (hb hby d5_177) rfl k) ?_
        refine own_by (T' := T324) (f' := (mkF m 181 #[.val (.ref o), .val (.ref ca), .val (.int iv0), .val (.int lv), .val (.int r1), .val (.int (f (own_p1 f j0 lim))), .unset, .unset, .unset] [(.int (101 : Int32)), (.int (f (own_p1 f j0 lim))), (.ref o)])) (fun t k => XS.bipush X324.here hx rfl (hb hby d5_179) k) ?_
        by_cases hc181_350 : (f (own_p1 f j0 lim)) = (101 : Int32)
        · have _ := X324
          refine own_by (T' := T324) (f' := (mkF m 191 #[.val (.ref o), .val (.ref ca), .val (.int iv0), .val (.int lv), .val (.int r1), .val (.int (f (own_p1 f j0 lim))), .unset, .unset, .unset] [(.ref o)])) (fun t k => XS.icmpYes X324.here hx rfl (pc0 := 181) (pc' := 191) rfl (hb hby d5_181) rfl (teq hc181_350).1 (by decide) (by decide) k) ?_
          refine own_by (T' := T324) (f' := (mkF m 192 #[.val (.ref o), .val (.ref ca), .val (.int iv0), .val (.int lv), .val (.int r1), .val (.int (f (own_p1 f j0 lim))), .unset, .unset, .unset] [(.int (1 : Int32)), (.ref o)])) (fun t k => XS.iconst X324.here hx rfl (hb hby d5_191) k) ?_
          refine own_by (T' := T324) (f' := (mkF m 196 #[.val (.ref o), .val (.ref ca), .val (.int iv0), .val (.int lv), .val (.int r1), .val (.int (f (own_p1 f j0 lim))), .unset, .unset, .unset] [(.int (1 : Int32)), (.ref o)])) (fun t k => XS.goto X324.here hx rfl (pc0 := 192) (pc' := 196) rfl (hb hby d5_192) (by decide) (by decide) k) ?_
          have f351 := (F315.other W320 (Or.inr (sn_158 hw)))
          have f352 := (f319.wr W320)
          refine own_putF (host := "") X324 hx hZ hown e324 (hb hby d5_196) (Or.inl (own_w hw 93 rfl)) Via.refl f351 f352 (Or.inl (own_w hw 94 rfl)) (own_w hw 32 rfl) (ty := .boolean) (by decide) rfl rfl ?_
          intro T353 h353 X353 e353 W353
          show own_Go p e below _ T353 (mkF m 199 #[.val (.ref o), .val (.ref ca), .val (.int iv0), .val (.int lv), .val (.int r1), .val (.int (f (own_p1 f j0 lim))), .unset, .unset, .unset] [])
          have F353 := f351.same W353
          have sz354 : n0 ≤ h353.size := by rw [W353.size]; exact sz321
          have K355 := K322.wr W353 (Or.inl (List.mem_of_getElem? (i := 0) rfl))
          have N353 := Fr.snoc X353 N320 go
          refine own_by (T' := T353) (f' := (mkF m 200 #[.val (.ref o), .val (.ref ca), .val (.int iv0), .val (.int lv), .val (.int r1), .val (.int (f (own_p1 f j0 lim))), .unset, .unset, .unset] [(.ref o)])) (fun t k => XS.aloadN X353.here hx rfl (hb hby d5_199) rfl rfl k) ?_
          refine own_getF (host := "") X353 hx hZ hown e353 (hb hby d5_200) (Or.inl (own_w hw 93 rfl)) Via.refl F353 ?_
          intro T356 X356 e356
          show own_Go p e below _ T356 (mkF m 203 #[.val (.ref o), .val (.ref ca), .val (.int iv0), .val (.int lv), .val (.int r1), .val (.int (f (own_p1 f j0 lim))), .unset, .unset, .unset] [(.int (1 : Int32))])
          refine own_by (T' := T356) (f' := (mkF m 206 #[.val (.ref o), .val (.ref ca), .val (.int iv0), .val (.int lv), .val (.int r1), .val (.int (f (own_p1 f j0 lim))), .unset, .unset, .unset] [])) (fun t k => XS.ifNo X356.here hx rfl (hb hby d5_203) rfl ((if0 _ _).trans (feq (by decide)).1) k) ?_
          have hpt : ¬ own_pnt f j0 lim := fun q => hc75_169 q.2
          have ep2 : own_p2 f j0 lim = (own_p1 f j0 lim) := if_neg hpt
          have ev2 : own_v2 f j0 lim = own_v1 f j0 lim := if_neg hpt
          have hD : dv1.toInt = ((own_dgs f j0 lim : Nat) : Int) := by rw [own_dgs, if_neg hpt]; exact hd1
          have z0 : (0 : Int32).toInt = ((0 : Nat) : Int) := by decide
          exact absurd ⟨own_neqn hD z0 hc145_325, by rw [ep2]; exact own_ltn hr1 hl hc66_167, by rw [ep2]; exact Or.inl hc181_350⟩ hnx
        · have _ := X324
          refine own_by (T' := T324) (f' := (mkF m 184 #[.val (.ref o), .val (.ref ca), .val (.int iv0), .val (.int lv), .val (.int r1), .val (.int (f (own_p1 f j0 lim))), .unset, .unset, .unset] [(.ref o)])) (fun t k => XS.icmpNo X324.here hx rfl (hb hby d5_181) rfl (feq hc181_350).1 k) ?_
          refine own_by (T' := T324) (f' := (mkF m 186 #[.val (.ref o), .val (.ref ca), .val (.int iv0), .val (.int lv), .val (.int r1), .val (.int (f (own_p1 f j0 lim))), .unset, .unset, .unset] [(.int (f (own_p1 f j0 lim))), (.ref o)])) (fun t k => XS.iload X324.here hx rfl (hb hby d5_184) rfl k) ?_
          refine own_by (T' := T324) (f' := (mkF m 188 #[.val (.ref o), .val (.ref ca), .val (.int iv0), .val (.int lv), .val (.int r1), .val (.int (f (own_p1 f j0 lim))), .unset, .unset, .unset] [(.int (69 : Int32)), (.int (f (own_p1 f j0 lim))), (.ref o)])) (fun t k => XS.bipush X324.here hx rfl (hb hby d5_186) k) ?_
          by_cases hc188_357 : (f (own_p1 f j0 lim)) = (69 : Int32)
          · have _ := X324
            refine own_by (T' := T324) (f' := (mkF m 191 #[.val (.ref o), .val (.ref ca), .val (.int iv0), .val (.int lv), .val (.int r1), .val (.int (f (own_p1 f j0 lim))), .unset, .unset, .unset] [(.ref o)])) (fun t k => XS.icmpNo X324.here hx rfl (hb hby d5_188) rfl (teq hc188_357).2 k) ?_
            refine own_by (T' := T324) (f' := (mkF m 192 #[.val (.ref o), .val (.ref ca), .val (.int iv0), .val (.int lv), .val (.int r1), .val (.int (f (own_p1 f j0 lim))), .unset, .unset, .unset] [(.int (1 : Int32)), (.ref o)])) (fun t k => XS.iconst X324.here hx rfl (hb hby d5_191) k) ?_
            refine own_by (T' := T324) (f' := (mkF m 196 #[.val (.ref o), .val (.ref ca), .val (.int iv0), .val (.int lv), .val (.int r1), .val (.int (f (own_p1 f j0 lim))), .unset, .unset, .unset] [(.int (1 : Int32)), (.ref o)])) (fun t k => XS.goto X324.here hx rfl (pc0 := 192) (pc' := 196) rfl (hb hby d5_192) (by decide) (by decide) k) ?_
            have f358 := (F315.other W320 (Or.inr (sn_158 hw)))
            have f359 := (f319.wr W320)
            refine own_putF (host := "") X324 hx hZ hown e324 (hb hby d5_196) (Or.inl (own_w hw 93 rfl)) Via.refl f358 f359 (Or.inl (own_w hw 94 rfl)) (own_w hw 32 rfl) (ty := .boolean) (by decide) rfl rfl ?_
            intro T360 h360 X360 e360 W360
            show own_Go p e below _ T360 (mkF m 199 #[.val (.ref o), .val (.ref ca), .val (.int iv0), .val (.int lv), .val (.int r1), .val (.int (f (own_p1 f j0 lim))), .unset, .unset, .unset] [])
            have F360 := f358.same W360
            have sz361 : n0 ≤ h360.size := by rw [W360.size]; exact sz321
            have K362 := K322.wr W360 (Or.inl (List.mem_of_getElem? (i := 0) rfl))
            have N360 := Fr.snoc X360 N320 go
            refine own_by (T' := T360) (f' := (mkF m 200 #[.val (.ref o), .val (.ref ca), .val (.int iv0), .val (.int lv), .val (.int r1), .val (.int (f (own_p1 f j0 lim))), .unset, .unset, .unset] [(.ref o)])) (fun t k => XS.aloadN X360.here hx rfl (hb hby d5_199) rfl rfl k) ?_
            refine own_getF (host := "") X360 hx hZ hown e360 (hb hby d5_200) (Or.inl (own_w hw 93 rfl)) Via.refl F360 ?_
            intro T363 X363 e363
            show own_Go p e below _ T363 (mkF m 203 #[.val (.ref o), .val (.ref ca), .val (.int iv0), .val (.int lv), .val (.int r1), .val (.int (f (own_p1 f j0 lim))), .unset, .unset, .unset] [(.int (1 : Int32))])
            refine own_by (T' := T363) (f' := (mkF m 206 #[.val (.ref o), .val (.ref ca), .val (.int iv0), .val (.int lv), .val (.int r1), .val (.int (f (own_p1 f j0 lim))), .unset, .unset, .unset] [])) (fun t k => XS.ifNo X363.here hx rfl (hb hby d5_203) rfl ((if0 _ _).trans (feq (by decide)).1) k) ?_
            have hpt : ¬ own_pnt f j0 lim := fun q => hc75_169 q.2
            have ep2 : own_p2 f j0 lim = (own_p1 f j0 lim) := if_neg hpt
            have ev2 : own_v2 f j0 lim = own_v1 f j0 lim := if_neg hpt
            have hD : dv1.toInt = ((own_dgs f j0 lim : Nat) : Int) := by rw [own_dgs, if_neg hpt]; exact hd1
            have z0 : (0 : Int32).toInt = ((0 : Nat) : Int) := by decide
            exact absurd ⟨own_neqn hD z0 hc145_325, by rw [ep2]; exact own_ltn hr1 hl hc66_167, by rw [ep2]; exact Or.inr hc188_357⟩ hnx
          · have _ := X324
            refine own_by (T' := T324) (f' := (mkF m 195 #[.val (.ref o), .val (.ref ca), .val (.int iv0), .val (.int lv), .val (.int r1), .val (.int (f (own_p1 f j0 lim))), .unset, .unset, .unset] [(.ref o)])) (fun t k => XS.icmpYes X324.here hx rfl (pc0 := 188) (pc' := 195) rfl (hb hby d5_188) rfl (feq hc188_357).2 (by decide) (by decide) k) ?_
            refine own_by (T' := T324) (f' := (mkF m 196 #[.val (.ref o), .val (.ref ca), .val (.int iv0), .val (.int lv), .val (.int r1), .val (.int (f (own_p1 f j0 lim))), .unset, .unset, .unset] [(.int (0 : Int32)), (.ref o)])) (fun t k => XS.iconst X324.here hx rfl (hb hby d5_195) k) ?_
            have f364 := (F315.other W320 (Or.inr (sn_158 hw)))
            have f365 := (f319.wr W320)
            refine own_putF (host := "") X324 hx hZ hown e324 (hb hby d5_196) (Or.inl (own_w hw 93 rfl)) Via.refl f364 f365 (Or.inl (own_w hw 94 rfl)) (own_w hw 32 rfl) (ty := .boolean) (by decide) rfl rfl ?_
            intro T366 h366 X366 e366 W366
            show own_Go p e below _ T366 (mkF m 199 #[.val (.ref o), .val (.ref ca), .val (.int iv0), .val (.int lv), .val (.int r1), .val (.int (f (own_p1 f j0 lim))), .unset, .unset, .unset] [])
            have F366 := f364.same W366
            have sz367 : n0 ≤ h366.size := by rw [W366.size]; exact sz321
            have K368 := K322.wr W366 (Or.inl (List.mem_of_getElem? (i := 0) rfl))
            have N366 := Fr.snoc X366 N320 go
            refine own_by (T' := T366) (f' := (mkF m 200 #[.val (.ref o), .val (.ref ca), .val (.int iv0), .val (.int lv), .val (.int r1), .val (.int (f (own_p1 f j0 lim))), .unset, .unset, .unset] [(.ref o)])) (fun t k => XS.aloadN X366.here hx rfl (hb hby d5_199) rfl rfl k) ?_
            refine own_getF (host := "") X366 hx hZ hown e366 (hb hby d5_200) (Or.inl (own_w hw 93 rfl)) Via.refl F366 ?_
            intro T369 X369 e369
            show own_Go p e below _ T369 (mkF m 203 #[.val (.ref o), .val (.ref ca), .val (.int iv0), .val (.int lv), .val (.int r1), .val (.int (f (own_p1 f j0 lim))), .unset, .unset, .unset] [(.int (0 : Int32))])
            refine own_by (T' := T369) (f' := (mkF m 341 #[.val (.ref o), .val (.ref ca), .val (.int iv0), .val (.int lv), .val (.int r1), .val (.int (f (own_p1 f j0 lim))), .unset, .unset, .unset] [])) (fun t k => XS.ifYes X369.here hx rfl (pc0 := 203) (pc' := 341) rfl (hb hby d5_203) rfl ((if0 _ _).trans (teq rfl).1) (by decide) (by decide) k) ?_
            refine own_by (T' := T369) (f' := (mkF m 342 #[.val (.ref o), .val (.ref ca), .val (.int iv0), .val (.int lv), .val (.int r1), .val (.int (f (own_p1 f j0 lim))), .unset, .unset, .unset] [(.ref o)])) (fun t k => XS.aloadN X369.here hx rfl (hb hby d5_341) rfl rfl k) ?_
            refine own_by (T' := T369) (f' := (mkF m 344 #[.val (.ref o), .val (.ref ca), .val (.int iv0), .val (.int lv), .val (.int r1), .val (.int (f (own_p1 f j0 lim))), .unset, .unset, .unset] [(.int r1), (.ref o)])) (fun t k => XS.iload X369.here hx rfl (hb hby d5_342) rfl k) ?_
            have f370 := (((((P1_2.other W164 (Or.inr (sn_122 hw))).other W309 (Or.inr (sn_123 hw))).other W315 (Or.inr (sn_148 hw))).other W320 (Or.inr (sn_149 hw))).other W366 (Or.inr (sn_148 hw)))
            have f371 := (f365.wr W366)
            refine own_putF (host := "") X369 hx hZ hown e369 (hb hby d5_344) (Or.inl (own_w hw 97 rfl)) Via.refl f370 f371 (Or.inl (own_w hw 98 rfl)) (own_w hw 32 rfl) (ty := .int) (by decide) rfl rfl ?_
            intro T372 h372 X372 e372 W372
            show own_Go p e below _ T372 (mkF m 347 #[.val (.ref o), .val (.ref ca), .val (.int iv0), .val (.int lv), .val (.int r1), .val (.int (f (own_p1 f j0 lim))), .unset, .unset, .unset] [])
            have F372 := f370.same W372
            have sz373 : n0 ≤ h372.size := by rw [W372.size]; exact sz367
            have K374 := K368.wr W372 (Or.inl (List.mem_of_getElem? (i := 0) rfl))
            have N372 := Fr.snoc X372 N366 go
            refine own_by (T' := T372) (f' := (mkF m 348 #[.val (.ref o), .val (.ref ca), .val (.int iv0), .val (.int lv), .val (.int r1), .val (.int (f (own_p1 f j0 lim))), .unset, .unset, .unset] [(.ref o)])) (fun t k => XS.aloadN X372.here hx rfl (hb hby d5_347) rfl rfl k) ?_
            have hpt : ¬ own_pnt f j0 lim := fun q => hc75_169 q.2
            have ep2 : own_p2 f j0 lim = (own_p1 f j0 lim) := if_neg hpt
            have ev2 : own_v2 f j0 lim = own_v1 f j0 lim := if_neg hpt
            have hD : dv1.toInt = ((own_dgs f j0 lim : Nat) : Int) := by rw [own_dgs, if_neg hpt]; exact hd1
            have z0 : (0 : Int32).toInt = ((0 : Nat) : Int) := by decide
            have f375 := ((((((P1_0.other W164 (Or.inr (sn_118 hw))).other W309 (Or.inr (sn_119 hw))).other W315 (Or.inr (sn_150 hw))).other W320 (Or.inr (sn_151 hw))).other W366 (Or.inr (sn_150 hw))).other W372 (Or.inr (sn_152 hw)))
            have f376 := ((((((P1_1.other W164 (Or.inr (sn_120 hw))).other W309 (Or.inr (sn_121 hw))).other W315 (Or.inr (sn_153 hw))).other W320 (Or.inr (sn_154 hw))).other W366 (Or.inr (sn_153 hw))).other W372 (Or.inr (sn_155 hw)))
            have f377 := ((f323.other W366 (Or.inr (sn_144 hw))).other W372 (Or.inr (sn_156 hw)))
            have f378 := ((((F309.other W315 (Or.inr (sn_146 hw))).other W320 (Or.inr (sn_147 hw))).other W366 (Or.inr (sn_146 hw))).other W372 (Or.inr (sn_157 hw)))
            have f379 := (F366.other W372 (Or.inr (sn_159 hw)))
            have f380 := ((F320.other W366 (Or.inr (sn_143 hw))).other W372 (Or.inr (sn_160 hw)))
            have f381 := ((((((P1_7.other W164 (Or.inr (sn_129 hw))).other W309 (Or.inr (sn_130 hw))).other W315 (Or.inr (sn_161 hw))).other W320 (Or.inr (sn_162 hw))).other W366 (Or.inr (sn_161 hw))).other W372 (Or.inr (sn_163 hw)))
            have f382 := ((((((P1_8.other W164 (Or.inr (sn_131 hw))).other W309 (Or.inr (sn_132 hw))).other W315 (Or.inr (sn_164 hw))).other W320 (Or.inr (sn_165 hw))).other W366 (Or.inr (sn_164 hw))).other W372 (Or.inr (sn_166 hw)))
            have f383 := ((((((P1_9.other W164 (Or.inr (sn_133 hw))).other W309 (Or.inr (sn_134 hw))).other W315 (Or.inr (sn_167 hw))).other W320 (Or.inr (sn_168 hw))).other W366 (Or.inr (sn_167 hw))).other W372 (Or.inr (sn_169 hw)))
            have f384 := ((((((P1_10.other W164 (Or.inr (sn_135 hw))).other W309 (Or.inr (sn_136 hw))).other W315 (Or.inr (sn_170 hw))).other W320 (Or.inr (sn_171 hw))).other W366 (Or.inr (sn_170 hw))).other W372 (Or.inr (sn_172 hw)))
            have f385 := ((((((P1_11.other W164 (Or.inr (sn_137 hw))).other W309 (Or.inr (sn_138 hw))).other W315 (Or.inr (sn_173 hw))).other W320 (Or.inr (sn_174 hw))).other W366 (Or.inr (sn_173 hw))).other W372 (Or.inr (sn_175 hw)))
            have f386 := ((((((P1_12.other W164 (Or.inr (sn_139 hw))).other W309 (Or.inr (sn_140 hw))).other W315 (Or.inr (sn_176 hw))).other W320 (Or.inr (sn_177 hw))).other W366 (Or.inr (sn_176 hw))).other W372 (Or.inr (sn_178 hw)))
            have f387 := ((((((P1_13.other W164 (Or.inr (sn_141 hw))).other W309 (Or.inr (sn_142 hw))).other W315 (Or.inr (sn_179 hw))).other W320 (Or.inr (sn_180 hw))).other W366 (Or.inr (sn_179 hw))).other W372 (Or.inr (sn_181 hw)))
            refine own_retA X372 hx hret hlk (hb hby d5_348) rfl rfl rfl (by decide) (by decide) ?_
            try rw [e372]
            exact ⟨rfl, N372, K374, _, _, by rw [ev2]; exact hW1, _, _, _, _, _, _, _, _, _, _, _, f375, f376, F372, f377, f378, f379, f380, f381, f382, f383, f384, f385, f386, f387⟩
  · have _ := X164
    refine own_by (T' := T164) (f' := (mkF m 82 #[.val (.ref o), .val (.ref ca), .val (.int iv0), .val (.int lv), .val (.int r1), .unset, .unset, .unset, .unset] [(.ref o)])) (fun t k => XS.icmpYes X164.here hx rfl (pc0 := 66) (pc' := 82) rfl (hb hby d5_66) rfl (flt hc66_167).2.1 (by decide) (by decide) k) ?_
    refine own_by (T' := T164) (f' := (mkF m 83 #[.val (.ref o), .val (.ref ca), .val (.int iv0), .val (.int lv), .val (.int r1), .unset, .unset, .unset, .unset] [(.int (0 : Int32)), (.ref o)])) (fun t k => XS.iconst X164.here hx rfl (hb hby d5_82) k) ?_
    have f388 := (P1_4.other W164 (Or.inr (sn_117 hw)))
    have f389 := (f163.wr W164)
    refine own_putF (host := "") X164 hx hZ hown e164 (hb hby d5_83) (Or.inl (own_w hw 91 rfl)) Via.refl f388 f389 (Or.inl (own_w hw 92 rfl)) (own_w hw 32 rfl) (ty := .boolean) (by decide) rfl rfl ?_
    intro T390 h390 X390 e390 W390
    show own_Go p e below _ T390 (mkF m 86 #[.val (.ref o), .val (.ref ca), .val (.int iv0), .val (.int lv), .val (.int r1), .unset, .unset, .unset, .unset] [])
    have F390 := f388.same W390
    have sz391 : n0 ≤ h390.size := by rw [W390.size]; exact sz165
    have K392 := K166.wr W390 (Or.inl (List.mem_of_getElem? (i := 0) rfl))
    have N390 := Fr.snoc X390 N164 go
    refine own_by (T' := T390) (f' := (mkF m 87 #[.val (.ref o), .val (.ref ca), .val (.int iv0), .val (.int lv), .val (.int r1), .unset, .unset, .unset, .unset] [(.ref o)])) (fun t k => XS.aloadN X390.here hx rfl (hb hby d5_86) rfl rfl k) ?_
    refine own_getF (host := "") X390 hx hZ hown e390 (hb hby d5_87) (Or.inl (own_w hw 91 rfl)) Via.refl F390 ?_
    intro T393 X393 e393
    show own_Go p e below _ T393 (mkF m 90 #[.val (.ref o), .val (.ref ca), .val (.int iv0), .val (.int lv), .val (.int r1), .unset, .unset, .unset, .unset] [(.int (0 : Int32))])
    refine own_by (T' := T393) (f' := (mkF m 131 #[.val (.ref o), .val (.ref ca), .val (.int iv0), .val (.int lv), .val (.int r1), .unset, .unset, .unset, .unset] [])) (fun t k => XS.ifYes X393.here hx rfl (pc0 := 90) (pc' := 131) rfl (hb hby d5_90) rfl ((if0 _ _).trans (teq rfl).1) (by decide) (by decide) k) ?_
    refine own_by (T' := T393) (f' := (mkF m 132 #[.val (.ref o), .val (.ref ca), .val (.int iv0), .val (.int lv), .val (.int r1), .unset, .unset, .unset, .unset] [(.ref o)])) (fun t k => XS.aloadN X393.here hx rfl (hb hby d5_131) rfl rfl k) ?_
    refine own_by (T' := T393) (f' := (mkF m 133 #[.val (.ref o), .val (.ref ca), .val (.int iv0), .val (.int lv), .val (.int r1), .unset, .unset, .unset, .unset] [(.int (0 : Int32)), (.ref o)])) (fun t k => XS.iconst X393.here hx rfl (hb hby d5_132) k) ?_
    have f394 := ((P1_5.other W164 (Or.inr (sn_125 hw))).other W390 (Or.inr (sn_126 hw)))
    have f395 := (f389.wr W390)
    refine own_putF (host := "") X393 hx hZ hown e393 (hb hby d5_133) (Or.inl (own_w hw 93 rfl)) Via.refl f394 f395 (Or.inl (own_w hw 94 rfl)) (own_w hw 32 rfl) (ty := .boolean) (by decide) rfl rfl ?_
    intro T396 h396 X396 e396 W396
    show own_Go p e below _ T396 (mkF m 136 #[.val (.ref o), .val (.ref ca), .val (.int iv0), .val (.int lv), .val (.int r1), .unset, .unset, .unset, .unset] [])
    have F396 := f394.same W396
    have sz397 : n0 ≤ h396.size := by rw [W396.size]; exact sz391
    have K398 := K392.wr W396 (Or.inl (List.mem_of_getElem? (i := 0) rfl))
    have N396 := Fr.snoc X396 N390 go
    refine own_by (T' := T396) (f' := (mkF m 137 #[.val (.ref o), .val (.ref ca), .val (.int iv0), .val (.int lv), .val (.int r1), .unset, .unset, .unset, .unset] [(.ref o)])) (fun t k => XS.aloadN X396.here hx rfl (hb hby d5_136) rfl rfl k) ?_
    refine own_by (T' := T396) (f' := (mkF m 138 #[.val (.ref o), .val (.ref ca), .val (.int iv0), .val (.int lv), .val (.int r1), .unset, .unset, .unset, .unset] [(.int (0 : Int32)), (.ref o)])) (fun t k => XS.iconst X396.here hx rfl (hb hby d5_137) k) ?_
    have f399 := (((P1_6.other W164 (Or.inr (sn_127 hw))).other W390 (Or.inr (sn_128 hw))).other W396 (Or.inr (sn_143 hw)))
    have f400 := (f395.wr W396)
    refine own_putF (host := "") X396 hx hZ hown e396 (hb hby d5_138) (Or.inl (own_w hw 95 rfl)) Via.refl f399 f400 (Or.inl (own_w hw 96 rfl)) (own_w hw 32 rfl) (ty := .boolean) (by decide) rfl rfl ?_
    intro T401 h401 X401 e401 W401
    show own_Go p e below _ T401 (mkF m 141 #[.val (.ref o), .val (.ref ca), .val (.int iv0), .val (.int lv), .val (.int r1), .unset, .unset, .unset, .unset] [])
    have F401 := f399.same W401
    have sz402 : n0 ≤ h401.size := by rw [W401.size]; exact sz397
    have K403 := K398.wr W401 (Or.inl (List.mem_of_getElem? (i := 0) rfl))
    have N401 := Fr.snoc X401 N396 go
    refine own_by (T' := T401) (f' := (mkF m 142 #[.val (.ref o), .val (.ref ca), .val (.int iv0), .val (.int lv), .val (.int r1), .unset, .unset, .unset, .unset] [(.ref o)])) (fun t k => XS.aloadN X401.here hx rfl (hb hby d5_141) rfl rfl k) ?_
    have f404 := (((F164.other W390 (Or.inr (sn_124 hw))).other W396 (Or.inr (sn_144 hw))).other W401 (Or.inr (sn_145 hw)))
    refine own_getF (host := "") X401 hx hZ hown e401 (hb hby d5_142) (Or.inl (own_w hw 89 rfl)) Via.refl f404 ?_
    intro T405 X405 e405
    show own_Go p e below _ T405 (mkF m 145 #[.val (.ref o), .val (.ref ca), .val (.int iv0), .val (.int lv), .val (.int r1), .unset, .unset, .unset, .unset] [(.int dv1)])
    by_cases hc145_406 : dv1 = (0 : Int32)
    · have _ := X405
      refine own_by (T' := T405) (f' := (mkF m 148 #[.val (.ref o), .val (.ref ca), .val (.int iv0), .val (.int lv), .val (.int r1), .unset, .unset, .unset, .unset] [])) (fun t k => XS.ifNo X405.here hx rfl (hb hby d5_145) rfl ((if0 _ _).trans (teq hc145_406).2) k) ?_
      refine own_by (T' := T405) (f' := (mkF m 149 #[.val (.ref o), .val (.ref ca), .val (.int iv0), .val (.int lv), .val (.int r1), .unset, .unset, .unset, .unset] [(.ref o)])) (fun t k => XS.aloadN X405.here hx rfl (hb hby d5_148) rfl rfl k) ?_
      refine own_by (T' := T405) (f' := (mkF m 150 #[.val (.ref o), .val (.ref ca), .val (.int iv0), .val (.int lv), .val (.int r1), .unset, .unset, .unset, .unset] [(.int (0 : Int32)), (.ref o)])) (fun t k => XS.iconst X405.here hx rfl (hb hby d5_149) k) ?_
      have f407 := ((F390.other W396 (Or.inr (sn_146 hw))).other W401 (Or.inr (sn_147 hw)))
      have f408 := (f400.wr W401)
      refine own_putF (host := "") X405 hx hZ hown e405 (hb hby d5_150) (Or.inl (own_w hw 91 rfl)) Via.refl f407 f408 (Or.inl (own_w hw 92 rfl)) (own_w hw 32 rfl) (ty := .boolean) (by decide) rfl rfl ?_
      intro T409 h409 X409 e409 W409
      show own_Go p e below _ T409 (mkF m 153 #[.val (.ref o), .val (.ref ca), .val (.int iv0), .val (.int lv), .val (.int r1), .unset, .unset, .unset, .unset] [])
      have F409 := f407.same W409
      have sz410 : n0 ≤ h409.size := by rw [W409.size]; exact sz402
      have K411 := K403.wr W409 (Or.inl (List.mem_of_getElem? (i := 0) rfl))
      have N409 := Fr.snoc X409 N401 go
      refine own_by (T' := T409) (f' := (mkF m 154 #[.val (.ref o), .val (.ref ca), .val (.int iv0), .val (.int lv), .val (.int r1), .unset, .unset, .unset, .unset] [(.ref o)])) (fun t k => XS.aloadN X409.here hx rfl (hb hby d5_153) rfl rfl k) ?_
      refine own_by (T' := T409) (f' := (mkF m 155 #[.val (.ref o), .val (.ref ca), .val (.int iv0), .val (.int lv), .val (.int r1), .unset, .unset, .unset, .unset] [(.int iv0), (.ref o)])) (fun t k => XS.iloadN X409.here hx rfl (hb hby d5_154) rfl k) ?_
      have f412 := (((((P1_2.other W164 (Or.inr (sn_122 hw))).other W390 (Or.inr (sn_123 hw))).other W396 (Or.inr (sn_148 hw))).other W401 (Or.inr (sn_149 hw))).other W409 (Or.inr (sn_123 hw)))
      have f413 := (f408.wr W409)
      refine own_putF (host := "") X409 hx hZ hown e409 (hb hby d5_155) (Or.inl (own_w hw 97 rfl)) Via.refl f412 f413 (Or.inl (own_w hw 98 rfl)) (own_w hw 32 rfl) (ty := .int) (by decide) rfl rfl ?_
      intro T414 h414 X414 e414 W414
      show own_Go p e below _ T414 (mkF m 158 #[.val (.ref o), .val (.ref ca), .val (.int iv0), .val (.int lv), .val (.int r1), .unset, .unset, .unset, .unset] [])
      have F414 := f412.same W414
      have sz415 : n0 ≤ h414.size := by rw [W414.size]; exact sz410
      have K416 := K411.wr W414 (Or.inl (List.mem_of_getElem? (i := 0) rfl))
      have N414 := Fr.snoc X414 N409 go
      refine own_by (T' := T414) (f' := (mkF m 159 #[.val (.ref o), .val (.ref ca), .val (.int iv0), .val (.int lv), .val (.int r1), .unset, .unset, .unset, .unset] [(.ref o)])) (fun t k => XS.aloadN X414.here hx rfl (hb hby d5_158) rfl rfl k) ?_
      have hpt : ¬ own_pnt f j0 lim := fun q => own_nltn hr1 hl hc66_167 q.1
      have ep2 : own_p2 f j0 lim = (own_p1 f j0 lim) := if_neg hpt
      have ev2 : own_v2 f j0 lim = own_v1 f j0 lim := if_neg hpt
      have hD : dv1.toInt = ((own_dgs f j0 lim : Nat) : Int) := by rw [own_dgs, if_neg hpt]; exact hd1
      have z0 : (0 : Int32).toInt = ((0 : Nat) : Int) := by decide
      have f417 := ((((((P1_0.other W164 (Or.inr (sn_118 hw))).other W390 (Or.inr (sn_119 hw))).other W396 (Or.inr (sn_150 hw))).other W401 (Or.inr (sn_151 hw))).other W409 (Or.inr (sn_119 hw))).other W414 (Or.inr (sn_152 hw)))
      have f418 := ((((((P1_1.other W164 (Or.inr (sn_120 hw))).other W390 (Or.inr (sn_121 hw))).other W396 (Or.inr (sn_153 hw))).other W401 (Or.inr (sn_154 hw))).other W409 (Or.inr (sn_121 hw))).other W414 (Or.inr (sn_155 hw)))
      have f419 := ((f404.other W409 (Or.inr (sn_124 hw))).other W414 (Or.inr (sn_156 hw)))
      have f420 := (F409.other W414 (Or.inr (sn_157 hw)))
      have f421 := (((F396.other W401 (Or.inr (sn_158 hw))).other W409 (Or.inr (sn_126 hw))).other W414 (Or.inr (sn_159 hw)))
      have f422 := ((F401.other W409 (Or.inr (sn_128 hw))).other W414 (Or.inr (sn_160 hw)))
      have f423 := ((((((P1_7.other W164 (Or.inr (sn_129 hw))).other W390 (Or.inr (sn_130 hw))).other W396 (Or.inr (sn_161 hw))).other W401 (Or.inr (sn_162 hw))).other W409 (Or.inr (sn_130 hw))).other W414 (Or.inr (sn_163 hw)))
      have f424 := ((((((P1_8.other W164 (Or.inr (sn_131 hw))).other W390 (Or.inr (sn_132 hw))).other W396 (Or.inr (sn_164 hw))).other W401 (Or.inr (sn_165 hw))).other W409 (Or.inr (sn_132 hw))).other W414 (Or.inr (sn_166 hw)))
      have f425 := ((((((P1_9.other W164 (Or.inr (sn_133 hw))).other W390 (Or.inr (sn_134 hw))).other W396 (Or.inr (sn_167 hw))).other W401 (Or.inr (sn_168 hw))).other W409 (Or.inr (sn_134 hw))).other W414 (Or.inr (sn_169 hw)))
      have f426 := ((((((P1_10.other W164 (Or.inr (sn_135 hw))).other W390 (Or.inr (sn_136 hw))).other W396 (Or.inr (sn_170 hw))).other W401 (Or.inr (sn_171 hw))).other W409 (Or.inr (sn_136 hw))).other W414 (Or.inr (sn_172 hw)))
      have f427 := ((((((P1_11.other W164 (Or.inr (sn_137 hw))).other W390 (Or.inr (sn_138 hw))).other W396 (Or.inr (sn_173 hw))).other W401 (Or.inr (sn_174 hw))).other W409 (Or.inr (sn_138 hw))).other W414 (Or.inr (sn_175 hw)))
      have f428 := ((((((P1_12.other W164 (Or.inr (sn_139 hw))).other W390 (Or.inr (sn_140 hw))).other W396 (Or.inr (sn_176 hw))).other W401 (Or.inr (sn_177 hw))).other W409 (Or.inr (sn_140 hw))).other W414 (Or.inr (sn_178 hw)))
      have f429 := ((((((P1_13.other W164 (Or.inr (sn_141 hw))).other W390 (Or.inr (sn_142 hw))).other W396 (Or.inr (sn_179 hw))).other W401 (Or.inr (sn_180 hw))).other W409 (Or.inr (sn_142 hw))).other W414 (Or.inr (sn_181 hw)))
      refine own_retA X414 hx hret hlk (hb hby d5_159) rfl rfl rfl (by decide) (by decide) ?_
      try rw [e414]
      exact ⟨rfl, N414, K416, _, _, by rw [ev2]; exact hW1, _, _, _, _, _, _, _, _, _, _, _, f417, f418, F414, f419, f420, f421, f422, f423, f424, f425, f426, f427, f428, f429⟩
    · have _ := X405
      refine own_by (T' := T405) (f' := (mkF m 160 #[.val (.ref o), .val (.ref ca), .val (.int iv0), .val (.int lv), .val (.int r1), .unset, .unset, .unset, .unset] [])) (fun t k => XS.ifYes X405.here hx rfl (pc0 := 145) (pc' := 160) rfl (hb hby d5_145) rfl ((if0 _ _).trans (feq hc145_406).2) (by decide) (by decide) k) ?_
      refine own_by (T' := T405) (f' := (mkF m 162 #[.val (.ref o), .val (.ref ca), .val (.int iv0), .val (.int lv), .val (.int r1), .unset, .unset, .unset, .unset] [(.int r1)])) (fun t k => XS.iload X405.here hx rfl (hb hby d5_160) rfl k) ?_
      refine own_by (T' := T405) (f' := (mkF m 163 #[.val (.ref o), .val (.ref ca), .val (.int iv0), .val (.int lv), .val (.int r1), .unset, .unset, .unset, .unset] [(.int lv), (.int r1)])) (fun t k => XS.iloadN X405.here hx rfl (hb hby d5_162) rfl k) ?_
      refine own_by (T' := T405) (f' := (mkF m 173 #[.val (.ref o), .val (.ref ca), .val (.int iv0), .val (.int lv), .val (.int r1), .unset, .unset, .unset, .unset] [])) (fun t k => XS.icmpYes X405.here hx rfl (pc0 := 163) (pc' := 173) rfl (hb hby d5_163) rfl (flt hc66_167).2.1 (by decide) (by decide) k) ?_
      refine own_by (T' := T405) (f' := (mkF m 174 #[.val (.ref o), .val (.ref ca), .val (.int iv0), .val (.int lv), .val (.int r1), .unset, .unset, .unset, .unset] [(.int (0 : Int32))])) (fun t k => XS.iconst X405.here hx rfl (hb hby d5_173) k) ?_
      refine own_by (T' := T405) (f' := (mkF m 176 #[.val (.ref o), .val (.ref ca), .val (.int iv0), .val (.int lv), .val (.int r1), .val (.int (0 : Int32)), .unset, .unset, .unset] [])) (fun t k => XS.istore X405.here hx rfl (hb hby d5_174) rfl (l' := #[.val (.ref o), .val (.ref ca), .val (.int iv0), .val (.int lv), .val (.int r1), .val (.int (0 : Int32)), .unset, .unset, .unset]) rfl k) ?_
      refine own_by (T' := T405) (f' := (mkF m 177 #[.val (.ref o), .val (.ref ca), .val (.int iv0), .val (.int lv), .val (.int r1), .val (.int (0 : Int32)), .unset, .unset, .unset] [(.ref o)])) (fun t k => XS.aloadN X405.here hx rfl (hb hby d5_176) rfl rfl k) ?_
      refine own_by (T' := T405) (f' := (mkF m 179 #[.val (.ref o), .val (.ref ca), .val (.int iv0), .val (.int lv), .val (.int r1), .val (.int (0 : Int32)), .unset, .unset, .unset] [(.int (0 : Int32)), (.ref o)])) (fun t k => XS.iload X405.here hx rfl (hb hby d5_177) rfl k) ?_
      refine own_by (T' := T405) (f' := (mkF m 181 #[.val (.ref o), .val (.ref ca), .val (.int iv0), .val (.int lv), .val (.int r1), .val (.int (0 : Int32)), .unset, .unset, .unset] [(.int (101 : Int32)), (.int (0 : Int32)), (.ref o)])) (fun t k => XS.bipush X405.here hx rfl (hb hby d5_179) k) ?_
      refine own_by (T' := T405) (f' := (mkF m 184 #[.val (.ref o), .val (.ref ca), .val (.int iv0), .val (.int lv), .val (.int r1), .val (.int (0 : Int32)), .unset, .unset, .unset] [(.ref o)])) (fun t k => XS.icmpNo X405.here hx rfl (hb hby d5_181) rfl (feq (by decide)).1 k) ?_
      refine own_by (T' := T405) (f' := (mkF m 186 #[.val (.ref o), .val (.ref ca), .val (.int iv0), .val (.int lv), .val (.int r1), .val (.int (0 : Int32)), .unset, .unset, .unset] [(.int (0 : Int32)), (.ref o)])) (fun t k => XS.iload X405.here hx rfl (hb hby d5_184) rfl k) ?_
      refine own_by (T' := T405) (f' := (mkF m 188 #[.val (.ref o), .val (.ref ca), .val (.int iv0), .val (.int lv), .val (.int r1), .val (.int (0 : Int32)), .unset, .unset, .unset] [(.int (69 : Int32)), (.int (0 : Int32)), (.ref o)])) (fun t k => XS.bipush X405.here hx rfl (hb hby d5_186) k) ?_
      refine own_by (T' := T405) (f' := (mkF m 195 #[.val (.ref o), .val (.ref ca), .val (.int iv0), .val (.int lv), .val (.int r1), .val (.int (0 : Int32)), .unset, .unset, .unset] [(.ref o)])) (fun t k => XS.icmpYes X405.here hx rfl (pc0 := 188) (pc' := 195) rfl (hb hby d5_188) rfl (feq (by decide)).2 (by decide) (by decide) k) ?_
      refine own_by (T' := T405) (f' := (mkF m 196 #[.val (.ref o), .val (.ref ca), .val (.int iv0), .val (.int lv), .val (.int r1), .val (.int (0 : Int32)), .unset, .unset, .unset] [(.int (0 : Int32)), (.ref o)])) (fun t k => XS.iconst X405.here hx rfl (hb hby d5_195) k) ?_
      have f430 := (F396.other W401 (Or.inr (sn_158 hw)))
      have f431 := (f400.wr W401)
      refine own_putF (host := "") X405 hx hZ hown e405 (hb hby d5_196) (Or.inl (own_w hw 93 rfl)) Via.refl f430 f431 (Or.inl (own_w hw 94 rfl)) (own_w hw 32 rfl) (ty := .boolean) (by decide) rfl rfl ?_
      intro T432 h432 X432 e432 W432
      show own_Go p e below _ T432 (mkF m 199 #[.val (.ref o), .val (.ref ca), .val (.int iv0), .val (.int lv), .val (.int r1), .val (.int (0 : Int32)), .unset, .unset, .unset] [])
      have F432 := f430.same W432
      have sz433 : n0 ≤ h432.size := by rw [W432.size]; exact sz402
      have K434 := K403.wr W432 (Or.inl (List.mem_of_getElem? (i := 0) rfl))
      have N432 := Fr.snoc X432 N401 go
      refine own_by (T' := T432) (f' := (mkF m 200 #[.val (.ref o), .val (.ref ca), .val (.int iv0), .val (.int lv), .val (.int r1), .val (.int (0 : Int32)), .unset, .unset, .unset] [(.ref o)])) (fun t k => XS.aloadN X432.here hx rfl (hb hby d5_199) rfl rfl k) ?_
      refine own_getF (host := "") X432 hx hZ hown e432 (hb hby d5_200) (Or.inl (own_w hw 93 rfl)) Via.refl F432 ?_
      intro T435 X435 e435
      show own_Go p e below _ T435 (mkF m 203 #[.val (.ref o), .val (.ref ca), .val (.int iv0), .val (.int lv), .val (.int r1), .val (.int (0 : Int32)), .unset, .unset, .unset] [(.int (0 : Int32))])
      refine own_by (T' := T435) (f' := (mkF m 341 #[.val (.ref o), .val (.ref ca), .val (.int iv0), .val (.int lv), .val (.int r1), .val (.int (0 : Int32)), .unset, .unset, .unset] [])) (fun t k => XS.ifYes X435.here hx rfl (pc0 := 203) (pc' := 341) rfl (hb hby d5_203) rfl ((if0 _ _).trans (teq rfl).1) (by decide) (by decide) k) ?_
      refine own_by (T' := T435) (f' := (mkF m 342 #[.val (.ref o), .val (.ref ca), .val (.int iv0), .val (.int lv), .val (.int r1), .val (.int (0 : Int32)), .unset, .unset, .unset] [(.ref o)])) (fun t k => XS.aloadN X435.here hx rfl (hb hby d5_341) rfl rfl k) ?_
      refine own_by (T' := T435) (f' := (mkF m 344 #[.val (.ref o), .val (.ref ca), .val (.int iv0), .val (.int lv), .val (.int r1), .val (.int (0 : Int32)), .unset, .unset, .unset] [(.int r1), (.ref o)])) (fun t k => XS.iload X435.here hx rfl (hb hby d5_342) rfl k) ?_
      have f436 := (((((P1_2.other W164 (Or.inr (sn_122 hw))).other W390 (Or.inr (sn_123 hw))).other W396 (Or.inr (sn_148 hw))).other W401 (Or.inr (sn_149 hw))).other W432 (Or.inr (sn_148 hw)))
      have f437 := (f431.wr W432)
      refine own_putF (host := "") X435 hx hZ hown e435 (hb hby d5_344) (Or.inl (own_w hw 97 rfl)) Via.refl f436 f437 (Or.inl (own_w hw 98 rfl)) (own_w hw 32 rfl) (ty := .int) (by decide) rfl rfl ?_
      intro T438 h438 X438 e438 W438
      show own_Go p e below _ T438 (mkF m 347 #[.val (.ref o), .val (.ref ca), .val (.int iv0), .val (.int lv), .val (.int r1), .val (.int (0 : Int32)), .unset, .unset, .unset] [])
      have F438 := f436.same W438
      have sz439 : n0 ≤ h438.size := by rw [W438.size]; exact sz433
      have K440 := K434.wr W438 (Or.inl (List.mem_of_getElem? (i := 0) rfl))
      have N438 := Fr.snoc X438 N432 go
      refine own_by (T' := T438) (f' := (mkF m 348 #[.val (.ref o), .val (.ref ca), .val (.int iv0), .val (.int lv), .val (.int r1), .val (.int (0 : Int32)), .unset, .unset, .unset] [(.ref o)])) (fun t k => XS.aloadN X438.here hx rfl (hb hby d5_347) rfl rfl k) ?_
      have hpt : ¬ own_pnt f j0 lim := fun q => own_nltn hr1 hl hc66_167 q.1
      have ep2 : own_p2 f j0 lim = (own_p1 f j0 lim) := if_neg hpt
      have ev2 : own_v2 f j0 lim = own_v1 f j0 lim := if_neg hpt
      have hD : dv1.toInt = ((own_dgs f j0 lim : Nat) : Int) := by rw [own_dgs, if_neg hpt]; exact hd1
      have z0 : (0 : Int32).toInt = ((0 : Nat) : Int) := by decide
      have f441 := ((((((P1_0.other W164 (Or.inr (sn_118 hw))).other W390 (Or.inr (sn_119 hw))).other W396 (Or.inr (sn_150 hw))).other W401 (Or.inr (sn_151 hw))).other W432 (Or.inr (sn_150 hw))).other W438 (Or.inr (sn_152 hw)))
      have f442 := ((((((P1_1.other W164 (Or.inr (sn_120 hw))).other W390 (Or.inr (sn_121 hw))).other W396 (Or.inr (sn_153 hw))).other W401 (Or.inr (sn_154 hw))).other W432 (Or.inr (sn_153 hw))).other W438 (Or.inr (sn_155 hw)))
      have f443 := ((f404.other W432 (Or.inr (sn_144 hw))).other W438 (Or.inr (sn_156 hw)))
      have f444 := ((((F390.other W396 (Or.inr (sn_146 hw))).other W401 (Or.inr (sn_147 hw))).other W432 (Or.inr (sn_146 hw))).other W438 (Or.inr (sn_157 hw)))
      have f445 := (F432.other W438 (Or.inr (sn_159 hw)))
      have f446 := ((F401.other W432 (Or.inr (sn_143 hw))).other W438 (Or.inr (sn_160 hw)))
      have f447 := ((((((P1_7.other W164 (Or.inr (sn_129 hw))).other W390 (Or.inr (sn_130 hw))).other W396 (Or.inr (sn_161 hw))).other W401 (Or.inr (sn_162 hw))).other W432 (Or.inr (sn_161 hw))).other W438 (Or.inr (sn_163 hw)))
      have f448 := ((((((P1_8.other W164 (Or.inr (sn_131 hw))).other W390 (Or.inr (sn_132 hw))).other W396 (Or.inr (sn_164 hw))).other W401 (Or.inr (sn_165 hw))).other W432 (Or.inr (sn_164 hw))).other W438 (Or.inr (sn_166 hw)))
      have f449 := ((((((P1_9.other W164 (Or.inr (sn_133 hw))).other W390 (Or.inr (sn_134 hw))).other W396 (Or.inr (sn_167 hw))).other W401 (Or.inr (sn_168 hw))).other W432 (Or.inr (sn_167 hw))).other W438 (Or.inr (sn_169 hw)))
      have f450 := ((((((P1_10.other W164 (Or.inr (sn_135 hw))).other W390 (Or.inr (sn_136 hw))).other W396 (Or.inr (sn_170 hw))).other W401 (Or.inr (sn_171 hw))).other W432 (Or.inr (sn_170 hw))).other W438 (Or.inr (sn_172 hw)))
      have f451 := ((((((P1_11.other W164 (Or.inr (sn_137 hw))).other W390 (Or.inr (sn_138 hw))).other W396 (Or.inr (sn_173 hw))).other W401 (Or.inr (sn_174 hw))).other W432 (Or.inr (sn_173 hw))).other W438 (Or.inr (sn_175 hw)))
      have f452 := ((((((P1_12.other W164 (Or.inr (sn_139 hw))).other W390 (Or.inr (sn_140 hw))).other W396 (Or.inr (sn_176 hw))).other W401 (Or.inr (sn_177 hw))).other W432 (Or.inr (sn_176 hw))).other W438 (Or.inr (sn_178 hw)))
      have f453 := ((((((P1_13.other W164 (Or.inr (sn_141 hw))).other W390 (Or.inr (sn_142 hw))).other W396 (Or.inr (sn_179 hw))).other W401 (Or.inr (sn_180 hw))).other W432 (Or.inr (sn_179 hw))).other W438 (Or.inr (sn_181 hw)))
      refine own_retA X438 hx hret hlk (hb hby d5_348) rfl rfl rfl (by decide) (by decide) ?_
      try rw [e438]
      exact ⟨rfl, N438, K440, _, _, by rw [ev2]; exact hW1, _, _, _, _, _, _, _, _, _, _, _, f441, f442, F438, f443, f444, f445, f446, f447, f448, f449, f450, f451, f452, f453⟩
theorem ef_rmUH (m : MethodId) (x0 : Addr) : entryFrame m #[(.ref x0)] 1 = mkF m 0 #[.val (.ref x0)] [] := by first | (simp [entryFrame, mkF, argsToLocals, Value.category]; done) | rfl
set_option maxRecDepth 65536 in
set_option maxHeartbeats 40000000 in
theorem rmUH (l : Launch) (Z : State) (a0 : Array Value) (hw : ∀ d ∈ tables_1, d.before a0 Z = true) (ws : List Jvm.Cond) (o : Addr) (nv : Int32) (v9 v10 : Int64) (h0 : Heap) (F8 : Fld Z h0 o "com/example/tally_of_atoms/tallyofatoms/Numeral" "negative" "Z" (.int nv)) (F9 : Fld Z h0 o "com/example/tally_of_atoms/tallyofatoms/Numeral" "significand" "J" (.long v9)) (F10 : Fld Z h0 o "com/example/tally_of_atoms/tallyofatoms/Numeral" "significandHigh" "J" (.long v10)) :
    own_Ct l Z (⟨"com/example/tally_of_atoms/tallyofatoms/Numeral", "unscaledHigh", "()J"⟩ : MethodName) prog_102_method_13_code 1 (some .long) ws ({ frames := 0, cells := 0, slots := 0, locals := 0 } : Room) #[(.ref o)] h0 (fun v h L => v = some (.long (own_uh nv v9 v10)) ∧ L = [] ∧ h = h0) := by
  refine own_of (plainFor_of_name pn_com_example_tally_of_atoms_tallyofatoms_Numeral) ?_
  intro p e s m below meth c s₁ hx hby hml hown hnm hret hlk hZ X0 e0
  rw [ef_rmUH]
  refine own_by (T' := s₁) (f' := (mkF m 1 #[.val (.ref o)] [(.ref o)])) (fun t k => XS.aloadN X0.here hx rfl (hb hby d12_0) rfl rfl k) ?_
  refine own_getF (host := "") X0 hx hZ hown e0 (hb hby d12_1) (Or.inl (own_w hw 51 rfl)) Via.refl F8 ?_
  intro T101 X101 e101
  show own_Go p e below _ T101 (mkF m 4 #[.val (.ref o)] [(.int nv)])
  by_cases hc4_102 : nv = (0 : Int32)
  · have _ := X101
    refine own_by (T' := T101) (f' := (mkF m 34 #[.val (.ref o)] [])) (fun t k => XS.ifYes X101.here hx rfl (pc0 := 4) (pc' := 34) rfl (hb hby d12_4) rfl ((if0 _ _).trans (teq hc4_102).1) (by decide) (by decide) k) ?_
    refine own_by (T' := T101) (f' := (mkF m 35 #[.val (.ref o)] [(.ref o)])) (fun t k => XS.aloadN X101.here hx rfl (hb hby d12_34) rfl rfl k) ?_
    refine own_getF (host := "") X101 hx hZ hown e101 (hb hby d12_35) (Or.inl (own_w hw 55 rfl)) Via.refl F10 ?_
    intro T103 X103 e103
    show own_Go p e below _ T103 (mkF m 38 #[.val (.ref o)] [(.long v10)])
    refine own_retJ X103 hx hret hlk (hb hby d12_38) (by decide) (by decide) ?_
    try rw [e103]
    exact ⟨by rw [own_uh, if_pos hc4_102], rfl, rfl⟩
  · have _ := X101
    refine own_by (T' := T101) (f' := (mkF m 7 #[.val (.ref o)] [])) (fun t k => XS.ifNo X101.here hx rfl (hb hby d12_4) rfl ((if0 _ _).trans (feq hc4_102).1) k) ?_
    refine own_by (T' := T101) (f' := (mkF m 8 #[.val (.ref o)] [(.ref o)])) (fun t k => XS.aloadN X101.here hx rfl (hb hby d12_7) rfl rfl k) ?_
    refine own_getF (host := "") X101 hx hZ hown e101 (hb hby d12_8) (Or.inl (own_w hw 55 rfl)) Via.refl F10 ?_
    intro T104 X104 e104
    show own_Go p e below _ T104 (mkF m 11 #[.val (.ref o)] [(.long v10)])
    refine own_by (T' := T104) (f' := (mkF m 14 #[.val (.ref o)] [(.long (-1 : Int64)), (.long v10)])) (fun t k => X104.ldc2Long hx hown (mvT hZ (own_w hw 114 rfl)) (g := (mkF m 11 #[.val (.ref o)] [(.long v10)])) rfl (hb hby d12_11) _ k) ?_
    refine own_by (T' := T104) (f' := (mkF m 15 #[.val (.ref o)] [(.long (v10 ^^^ (-1 : Int64)))])) (fun t k => XS.lxor X104.here hx rfl (hb hby d12_14) rfl k) ?_
    refine own_by (T' := T104) (f' := (mkF m 16 #[.val (.ref o)] [(.ref o), (.long (v10 ^^^ (-1 : Int64)))])) (fun t k => XS.aloadN X104.here hx rfl (hb hby d12_15) rfl rfl k) ?_
    refine own_getF (host := "") X104 hx hZ hown e104 (hb hby d12_16) (Or.inl (own_w hw 53 rfl)) Via.refl F9 ?_
    intro T105 X105 e105
    show own_Go p e below _ T105 (mkF m 19 #[.val (.ref o)] [(.long v9), (.long (v10 ^^^ (-1 : Int64)))])
    refine own_by (T' := T105) (f' := (mkF m 20 #[.val (.ref o)] [(.long (0 : Int64)), (.long v9), (.long (v10 ^^^ (-1 : Int64)))])) (fun t k => XS.lconst X105.here hx rfl (hb hby d12_19) k) ?_
    refine own_by (T' := T105) (f' := (mkF m 21 #[.val (.ref o)] [(.int (lcmpW v9 (0 : Int64))), (.long (v10 ^^^ (-1 : Int64)))])) (fun t k => XS.lcmp X105.here hx rfl (hb hby d12_20) rfl k) ?_
    have mg107 : ∀ t, Steps p.tables e below (T105.setTop (mkF m 29 #[.val (.ref o)] [(.int (if v9 = (0 : Int64) then (1 : Int32) else (0 : Int32))), (.long (v10 ^^^ (-1 : Int64)))])) t → Steps p.tables e below (T105.setTop (mkF m 21 #[.val (.ref o)] [(.int (lcmpW v9 (0 : Int64))), (.long (v10 ^^^ (-1 : Int64)))])) t := by
      intro t k0
      by_cases hm106 : v9 = (0 : Int64)
      · skip
        refine XS.ifNo X105.here hx rfl (hb hby d12_21) rfl ((if0 _ _).trans (teq ((lw_eq _ _).mpr hm106)).2) ?_
        show Steps p.tables e below (T105.setTop (mkF m 24 #[.val (.ref o)] [(.long (v10 ^^^ (-1 : Int64)))])) _
        refine XS.iconst X105.here hx rfl (hb hby d12_24) ?_
        show Steps p.tables e below (T105.setTop (mkF m 25 #[.val (.ref o)] [(.int (1 : Int32)), (.long (v10 ^^^ (-1 : Int64)))])) _
        refine XS.goto X105.here hx rfl (pc0 := 25) (pc' := 29) rfl (hb hby d12_25) (by decide) (by decide) ?_
        show Steps p.tables e below (T105.setTop (mkF m 29 #[.val (.ref o)] [(.int (1 : Int32)), (.long (v10 ^^^ (-1 : Int64)))])) _
        try simp only [if_pos hm106] at k0
        exact k0
      · skip
        refine XS.ifYes X105.here hx rfl (pc0 := 21) (pc' := 28) rfl (hb hby d12_21) rfl ((if0 _ _).trans (feq (mt (lw_eq _ _).mp hm106)).2) (by decide) (by decide) ?_
        show Steps p.tables e below (T105.setTop (mkF m 28 #[.val (.ref o)] [(.long (v10 ^^^ (-1 : Int64)))])) _
        refine XS.iconst X105.here hx rfl (hb hby d12_28) ?_
        show Steps p.tables e below (T105.setTop (mkF m 29 #[.val (.ref o)] [(.int (0 : Int32)), (.long (v10 ^^^ (-1 : Int64)))])) _
        try simp only [if_neg hm106] at k0
        exact k0
    refine own_by mg107 ?_
    refine own_by (T' := T105) (f' := (mkF m 30 #[.val (.ref o)] [(.long ((if v9 = (0 : Int64) then (1 : Int32) else (0 : Int32)).toInt64)), (.long (v10 ^^^ (-1 : Int64)))])) (fun t k => XS.i2l X105.here hx rfl (hb hby d12_29) rfl k) ?_
    refine own_by (T' := T105) (f' := (mkF m 31 #[.val (.ref o)] [(.long ((v10 ^^^ (-1 : Int64)) + ((if v9 = (0 : Int64) then (1 : Int32) else (0 : Int32)).toInt64)))])) (fun t k => XS.ladd X105.here hx rfl (hb hby d12_30) rfl k) ?_
    refine own_by (T' := T105) (f' := (mkF m 38 #[.val (.ref o)] [(.long ((v10 ^^^ (-1 : Int64)) + ((if v9 = (0 : Int64) then (1 : Int32) else (0 : Int32)).toInt64)))])) (fun t k => XS.goto X105.here hx rfl (pc0 := 31) (pc' := 38) rfl (hb hby d12_31) (by decide) (by decide) k) ?_
    refine own_retJ X105 hx hret hlk (hb hby d12_38) (by decide) (by decide) ?_
    try rw [e105]
    exact ⟨by rw [own_uh, if_neg hc4_102], rfl, rfl⟩
theorem ef_rmUL (m : MethodId) (x0 : Addr) : entryFrame m #[(.ref x0)] 1 = mkF m 0 #[.val (.ref x0)] [] := by first | (simp [entryFrame, mkF, argsToLocals, Value.category]; done) | rfl
set_option maxRecDepth 65536 in
set_option maxHeartbeats 40000000 in
theorem rmUL (l : Launch) (Z : State) (a0 : Array Value) (hw : ∀ d ∈ tables_1, d.before a0 Z = true) (ws : List Jvm.Cond) (o : Addr) (nv : Int32) (v9 : Int64) (h0 : Heap) (F8 : Fld Z h0 o "com/example/tally_of_atoms/tallyofatoms/Numeral" "negative" "Z" (.int nv)) (F9 : Fld Z h0 o "com/example/tally_of_atoms/tallyofatoms/Numeral" "significand" "J" (.long v9)) :
    own_Ct l Z (⟨"com/example/tally_of_atoms/tallyofatoms/Numeral", "unscaledLow", "()J"⟩ : MethodName) prog_102_method_14_code 1 (some .long) ws ({ frames := 0, cells := 0, slots := 0, locals := 0 } : Room) #[(.ref o)] h0 (fun v h L => v = some (.long (own_ul nv v9)) ∧ L = [] ∧ h = h0) := by
  refine own_of (plainFor_of_name pn_com_example_tally_of_atoms_tallyofatoms_Numeral) ?_
  intro p e s m below meth c s₁ hx hby hml hown hnm hret hlk hZ X0 e0
  rw [ef_rmUL]
  refine own_by (T' := s₁) (f' := (mkF m 1 #[.val (.ref o)] [(.ref o)])) (fun t k => XS.aloadN X0.here hx rfl (hb hby d13_0) rfl rfl k) ?_
  refine own_getF (host := "") X0 hx hZ hown e0 (hb hby d13_1) (Or.inl (own_w hw 51 rfl)) Via.refl F8 ?_
  intro T101 X101 e101
  show own_Go p e below _ T101 (mkF m 4 #[.val (.ref o)] [(.int nv)])
  by_cases hc4_102 : nv = (0 : Int32)
  · have _ := X101
    refine own_by (T' := T101) (f' := (mkF m 15 #[.val (.ref o)] [])) (fun t k => XS.ifYes X101.here hx rfl (pc0 := 4) (pc' := 15) rfl (hb hby d13_4) rfl ((if0 _ _).trans (teq hc4_102).1) (by decide) (by decide) k) ?_
    refine own_by (T' := T101) (f' := (mkF m 16 #[.val (.ref o)] [(.ref o)])) (fun t k => XS.aloadN X101.here hx rfl (hb hby d13_15) rfl rfl k) ?_
    refine own_getF (host := "") X101 hx hZ hown e101 (hb hby d13_16) (Or.inl (own_w hw 53 rfl)) Via.refl F9 ?_
    intro T103 X103 e103
    show own_Go p e below _ T103 (mkF m 19 #[.val (.ref o)] [(.long v9)])
    refine own_retJ X103 hx hret hlk (hb hby d13_19) (by decide) (by decide) ?_
    try rw [e103]
    exact ⟨by rw [own_ul, if_pos hc4_102], rfl, rfl⟩
  · have _ := X101
    refine own_by (T' := T101) (f' := (mkF m 7 #[.val (.ref o)] [])) (fun t k => XS.ifNo X101.here hx rfl (hb hby d13_4) rfl ((if0 _ _).trans (feq hc4_102).1) k) ?_
    refine own_by (T' := T101) (f' := (mkF m 8 #[.val (.ref o)] [(.ref o)])) (fun t k => XS.aloadN X101.here hx rfl (hb hby d13_7) rfl rfl k) ?_
    refine own_getF (host := "") X101 hx hZ hown e101 (hb hby d13_8) (Or.inl (own_w hw 53 rfl)) Via.refl F9 ?_
    intro T104 X104 e104
    show own_Go p e below _ T104 (mkF m 11 #[.val (.ref o)] [(.long v9)])
    refine own_by (T' := T104) (f' := (mkF m 12 #[.val (.ref o)] [(.long (-v9))])) (fun t k => XS.lneg X104.here hx rfl (hb hby d13_11) rfl k) ?_
    refine own_by (T' := T104) (f' := (mkF m 19 #[.val (.ref o)] [(.long (-v9))])) (fun t k => XS.goto X104.here hx rfl (pc0 := 12) (pc' := 19) rfl (hb hby d13_12) (by decide) (by decide) k) ?_
    refine own_retJ X104 hx hret hlk (hb hby d13_19) (by decide) (by decide) ?_
    try rw [e104]
    exact ⟨by rw [own_ul, if_neg hc4_102], rfl, rfl⟩
theorem ef_rmNG (m : MethodId) (x0 : Addr) : entryFrame m #[(.ref x0)] 1 = mkF m 0 #[.val (.ref x0)] [] := by first | (simp [entryFrame, mkF, argsToLocals, Value.category]; done) | rfl
set_option maxRecDepth 65536 in
set_option maxHeartbeats 40000000 in
theorem rmNG (l : Launch) (Z : State) (a0 : Array Value) (hw : ∀ d ∈ tables_1, d.before a0 Z = true) (ws : List Jvm.Cond) (o : Addr) (nv : Int32) (v9 v10 : Int64) (h0 : Heap) (n0 : Nat) (Z0 : n0 ≤ h0.size) (go : n0 ≤ o) (EO : Exa Z h0 o "com/example/tally_of_atoms/tallyofatoms/Numeral") (F8 : Fld Z h0 o "com/example/tally_of_atoms/tallyofatoms/Numeral" "negative" "Z" (.int nv)) (F9 : Fld Z h0 o "com/example/tally_of_atoms/tallyofatoms/Numeral" "significand" "J" (.long v9)) (F10 : Fld Z h0 o "com/example/tally_of_atoms/tallyofatoms/Numeral" "significandHigh" "J" (.long v10)) :
    own_Ct l Z (⟨"com/example/tally_of_atoms/tallyofatoms/Numeral", "negate", "()V"⟩ : MethodName) prog_102_method_4_code 1 none ws ({ frames := 0, cells := 0, slots := 0, locals := 0 } : Room) #[(.ref o)] h0 (fun v h L => v = none ∧ Fr n0 L ∧ Keep h0 h [o] ∧ Fld Z h o "com/example/tally_of_atoms/tallyofatoms/Numeral" "negative" "Z" (.int 1) ∧ Fld Z h o "com/example/tally_of_atoms/tallyofatoms/Numeral" "significand" "J" (.long v9) ∧ Fld Z h o "com/example/tally_of_atoms/tallyofatoms/Numeral" "significandHigh" "J" (.long v10)) := by
  refine own_of (plainFor_of_name pn_com_example_tally_of_atoms_tallyofatoms_Numeral) ?_
  intro p e s m below meth c s₁ hx hby hml hown hnm hret hlk hZ X0 e0
  have N0 := Fr.nil n0
  have K0 := Keep.refl h0 [o]
  rw [ef_rmNG]
  refine own_by (T' := s₁) (f' := (mkF m 1 #[.val (.ref o)] [(.ref o)])) (fun t k => XS.aloadN X0.here hx rfl (hb hby d14_0) rfl rfl k) ?_
  refine own_by (T' := s₁) (f' := (mkF m 2 #[.val (.ref o)] [(.int (1 : Int32)), (.ref o)])) (fun t k => XS.iconst X0.here hx rfl (hb hby d14_1) k) ?_
  refine own_putF (host := "") X0 hx hZ hown e0 (hb hby d14_2) (Or.inl (own_w hw 51 rfl)) Via.refl F8 EO (Or.inl (own_w hw 52 rfl)) (own_w hw 32 rfl) (ty := .boolean) (by decide) rfl rfl ?_
  intro T101 h101 X101 e101 W101
  show own_Go p e below _ T101 (mkF m 5 #[.val (.ref o)] [])
  have F101 := F8.same W101
  have sz102 : n0 ≤ h101.size := by rw [W101.size]; exact Z0
  have K103 := K0.wr W101 (Or.inl (List.mem_of_getElem? (i := 0) rfl))
  have N101 := Fr.snoc X101 N0 go
  have f104 := (F9.other W101 (Or.inr (sn_48 hw)))
  have f105 := (F10.other W101 (Or.inr (sn_52 hw)))
  refine own_retV X101 hx hret hlk (hb hby d14_5) (by decide) (by decide) ?_
  try rw [e101]
  exact ⟨rfl, N101, K103, F101, f104, f105⟩
theorem ef_rmIN (m : MethodId) (x0 : Addr) : entryFrame m #[(.ref x0)] 1 = mkF m 0 #[.val (.ref x0)] [] := by first | (simp [entryFrame, mkF, argsToLocals, Value.category]; done) | rfl
set_option maxRecDepth 65536 in
set_option maxHeartbeats 40000000 in
theorem rmIN (l : Launch) (Z : State) (a0 : Array Value) (hw : ∀ d ∈ tables_1, d.before a0 Z = true) (ws : List Jvm.Cond) (o : Addr) (h0 : Heap)  :
    own_Ct l Z (⟨"com/example/tally_of_atoms/tallyofatoms/Numeral", "<init>", "()V"⟩ : MethodName) prog_102_method_1_code 1 none ws ({ frames := 1, cells := 0, slots := 0, locals := 20 } : Room) #[(.ref o)] h0 (fun v h L => v = none ∧ L = [] ∧ h = h0) := by
  refine own_of (plainFor_of_name pn_com_example_tally_of_atoms_tallyofatoms_Numeral) ?_
  intro p e s m below meth c s₁ hx hby hml hown hnm hret hlk hZ X0 e0
  rw [ef_rmIN]
  refine own_by (T' := s₁) (f' := (mkF m 1 #[.val (.ref o)] [(.ref o)])) (fun t k => XS.aloadN X0.here hx rfl (hb hby d3_0) rfl rfl k) ?_
  refine own_init X0 hx hZ hown e0 (hb hby d3_1) 0 (own_w hw 37 rfl) (own_w hw 38 rfl) (own_w hw 39 rfl) (by rw [hml]; rfl) (Nat.le_of_eq rfl) (by decide) (by decide) ?_
  intro T1 X1 e1
  show own_Go p e below _ T1 (mkF m 4 #[.val (.ref o)] [])
  refine own_retV X1 hx hret hlk (hb hby d3_4) (by decide) (by decide) ?_
  try rw [e1]
  exact ⟨rfl, rfl, rfl⟩
theorem ef_rm0 (m : MethodId) (x0 : Int64) (x1 : Int64) (x2 : Int32) : entryFrame m #[(.long x0), (.long x1), (.int x2)] maxLocals = mkF m 0 #[.val (.long x0), .second, .val (.long x1), .second, .val (.int x2), .unset, .unset, .unset, .unset, .unset, .unset, .unset, .unset, .unset, .unset, .unset, .unset, .unset, .unset, .unset, .unset, .unset, .unset, .unset, .unset, .unset, .unset, .unset, .unset, .unset, .unset, .unset, .unset, .unset, .unset, .unset, .unset, .unset, .unset, .unset, .unset, .unset, .unset, .unset, .unset, .unset, .unset, .unset, .unset, .unset, .unset] [] := by first | (simp [entryFrame, mkF, argsToLocals, Value.category, maxLocals]; done) | rfl
set_option maxRecDepth 65536 in
set_option maxHeartbeats 40000000 in
theorem rm0 (l : Launch) (Z : State) (a0 : Array Value) (hw : ∀ d ∈ tables_1, d.before a0 Z = true) (ws : List Jvm.Cond) (i0 i1 : Int64) (i2 : Int32) (h0 : Heap) (n0 : Nat) (Z0 : n0 ≤ h0.size) :
    own_Ct l Z x code maxLocals ret ws room_1 #[(.long i0), (.long i1), (.int i2)] h0 (fun v h L => v = some (.int 1) ∧ Fr n0 L) := by
  refine own_of (plainFor_of_name pn_com_example_tally_of_atoms_tallyofatoms_NumeralUnscaledHighPinLaw) ?_
  intro p e s m below meth c s₁ hx hby hml hown hnm hret hlk hZ X0 e0
  have N0 := Fr.nil n0
  rw [ef_rm0]
  refine own_by (T' := s₁) (f' := (mkF m 1 #[.val (.long i0), .second, .val (.long i1), .second, .val (.int i2), .unset, .unset, .unset, .unset, .unset, .unset, .unset, .unset, .unset, .unset, .unset, .unset, .unset, .unset, .unset, .unset, .unset, .unset, .unset, .unset, .unset, .unset, .unset, .unset, .unset, .unset, .unset, .unset, .unset, .unset, .unset, .unset, .unset, .unset, .unset, .unset, .unset, .unset, .unset, .unset, .unset, .unset, .unset, .unset, .unset, .unset] [(.long i0)])) (fun t k => XS.lloadN X0.here hx rfl (hb hby at_0) rfl k) ?_
  refine own_by (T' := s₁) (f' := (mkF m 4 #[.val (.long i0), .second, .val (.long i1), .second, .val (.int i2), .unset, .unset, .unset, .unset, .unset, .unset, .unset, .unset, .unset, .unset, .unset, .unset, .unset, .unset, .unset, .unset, .unset, .unset, .unset, .unset, .unset, .unset, .unset, .unset, .unset, .unset, .unset, .unset, .unset, .unset, .unset, .unset, .unset, .unset, .unset, .unset, .unset, .unset, .unset, .unset, .unset, .unset, .unset, .unset, .unset, .unset] [(.long (9223372036854775807 : Int64)), (.long i0)])) (fun t k => X0.ldc2Long hx hown (mvT hZ (own_w hw 0 rfl)) (g := (mkF m 1 #[.val (.long i0), .second, .val (.long i1), .second, .val (.int i2), .unset, .unset, .unset, .unset, .unset, .unset, .unset, .unset, .unset, .unset, .unset, .unset, .unset, .unset, .unset, .unset, .unset, .unset, .unset, .unset, .unset, .unset, .unset, .unset, .unset, .unset, .unset, .unset, .unset, .unset, .unset, .unset, .unset, .unset, .unset, .unset, .unset, .unset, .unset, .unset, .unset, .unset, .unset, .unset, .unset, .unset] [(.long i0)])) rfl (hb hby at_1) _ k) ?_
  refine own_by (T' := s₁) (f' := (mkF m 5 #[.val (.long i0), .second, .val (.long i1), .second, .val (.int i2), .unset, .unset, .unset, .unset, .unset, .unset, .unset, .unset, .unset, .unset, .unset, .unset, .unset, .unset, .unset, .unset, .unset, .unset, .unset, .unset, .unset, .unset, .unset, .unset, .unset, .unset, .unset, .unset, .unset, .unset, .unset, .unset, .unset, .unset, .unset, .unset, .unset, .unset, .unset, .unset, .unset, .unset, .unset, .unset, .unset, .unset] [(.long (i0 &&& (9223372036854775807 : Int64)))])) (fun t k => XS.land X0.here hx rfl (hb hby at_4) rfl k) ?_
  refine own_by (T' := s₁) (f' := (mkF m 8 #[.val (.long i0), .second, .val (.long i1), .second, .val (.int i2), .unset, .unset, .unset, .unset, .unset, .unset, .unset, .unset, .unset, .unset, .unset, .unset, .unset, .unset, .unset, .unset, .unset, .unset, .unset, .unset, .unset, .unset, .unset, .unset, .unset, .unset, .unset, .unset, .unset, .unset, .unset, .unset, .unset, .unset, .unset, .unset, .unset, .unset, .unset, .unset, .unset, .unset, .unset, .unset, .unset, .unset] [(.long (1000000000000000000 : Int64)), (.long (i0 &&& (9223372036854775807 : Int64)))])) (fun t k => X0.ldc2Long hx hown (mvT hZ (own_w hw 1 rfl)) (g := (mkF m 5 #[.val (.long i0), .second, .val (.long i1), .second, .val (.int i2), .unset, .unset, .unset, .unset, .unset, .unset, .unset, .unset, .unset, .unset, .unset, .unset, .unset, .unset, .unset, .unset, .unset, .unset, .unset, .unset, .unset, .unset, .unset, .unset, .unset, .unset, .unset, .unset, .unset, .unset, .unset, .unset, .unset, .unset, .unset, .unset, .unset, .unset, .unset, .unset, .unset, .unset, .unset, .unset, .unset, .unset] [(.long (i0 &&& (9223372036854775807 : Int64)))])) rfl (hb hby at_5) _ k) ?_
  refine own_by (T' := s₁) (f' := (mkF m 9 #[.val (.long i0), .second, .val (.long i1), .second, .val (.int i2), .unset, .unset, .unset, .unset, .unset, .unset, .unset, .unset, .unset, .unset, .unset, .unset, .unset, .unset, .unset, .unset, .unset, .unset, .unset, .unset, .unset, .unset, .unset, .unset, .unset, .unset, .unset, .unset, .unset, .unset, .unset, .unset, .unset, .unset, .unset, .unset, .unset, .unset, .unset, .unset, .unset, .unset, .unset, .unset, .unset, .unset] [(.long ((i0 &&& (9223372036854775807 : Int64)) - ((i0 &&& (9223372036854775807 : Int64)) / (1000000000000000000 : Int64)) * (1000000000000000000 : Int64)))])) (fun t k => XS.lrem X0.here hx rfl (hb hby at_8) rfl (by decide) k) ?_
  obtain ⟨av, hav⟩ : ∃ z : Int64, z = ((i0 &&& (9223372036854775807 : Int64)) - ((i0 &&& (9223372036854775807 : Int64)) / (1000000000000000000 : Int64)) * (1000000000000000000 : Int64)) := ⟨_, rfl⟩
  rw [← hav]
  show own_Go p e below _ s₁ (mkF m 9 #[.val (.long i0), .second, .val (.long i1), .second, .val (.int i2), .unset, .unset, .unset, .unset, .unset, .unset, .unset, .unset, .unset, .unset, .unset, .unset, .unset, .unset, .unset, .unset, .unset, .unset, .unset, .unset, .unset, .unset, .unset, .unset, .unset, .unset, .unset, .unset, .unset, .unset, .unset, .unset, .unset, .unset, .unset, .unset, .unset, .unset, .unset, .unset, .unset, .unset, .unset, .unset, .unset, .unset] [(.long av)])
  obtain ⟨na, hnna, ltna⟩ := own_modL i0
  rw [← hav] at hnna
  refine own_by (T' := s₁) (f' := (mkF m 11 #[.val (.long i0), .second, .val (.long i1), .second, .val (.int i2), .val (.long av), .second, .unset, .unset, .unset, .unset, .unset, .unset, .unset, .unset, .unset, .unset, .unset, .unset, .unset, .unset, .unset, .unset, .unset, .unset, .unset, .unset, .unset, .unset, .unset, .unset, .unset, .unset, .unset, .unset, .unset, .unset, .unset, .unset, .unset, .unset, .unset, .unset, .unset, .unset, .unset, .unset, .unset, .unset, .unset, .unset] [])) (fun t k => XS.lstore X0.here hx rfl (hb hby at_9) rfl (l' := #[.val (.long i0), .second, .val (.long i1), .second, .val (.int i2), .val (.long av), .second, .unset, .unset, .unset, .unset, .unset, .unset, .unset, .unset, .unset, .unset, .unset, .unset, .unset, .unset, .unset, .unset, .unset, .unset, .unset, .unset, .unset, .unset, .unset, .unset, .unset, .unset, .unset, .unset, .unset, .unset, .unset, .unset, .unset, .unset, .unset, .unset, .unset, .unset, .unset, .unset, .unset, .unset, .unset, .unset]) rfl k) ?_
  refine own_by (T' := s₁) (f' := (mkF m 12 #[.val (.long i0), .second, .val (.long i1), .second, .val (.int i2), .val (.long av), .second, .unset, .unset, .unset, .unset, .unset, .unset, .unset, .unset, .unset, .unset, .unset, .unset, .unset, .unset, .unset, .unset, .unset, .unset, .unset, .unset, .unset, .unset, .unset, .unset, .unset, .unset, .unset, .unset, .unset, .unset, .unset, .unset, .unset, .unset, .unset, .unset, .unset, .unset, .unset, .unset, .unset, .unset, .unset, .unset] [(.long i1)])) (fun t k => XS.lloadN X0.here hx rfl (hb hby at_11) rfl k) ?_
  refine own_by (T' := s₁) (f' := (mkF m 15 #[.val (.long i0), .second, .val (.long i1), .second, .val (.int i2), .val (.long av), .second, .unset, .unset, .unset, .unset, .unset, .unset, .unset, .unset, .unset, .unset, .unset, .unset, .unset, .unset, .unset, .unset, .unset, .unset, .unset, .unset, .unset, .unset, .unset, .unset, .unset, .unset, .unset, .unset, .unset, .unset, .unset, .unset, .unset, .unset, .unset, .unset, .unset, .unset, .unset, .unset, .unset, .unset, .unset, .unset] [(.long (9223372036854775807 : Int64)), (.long i1)])) (fun t k => X0.ldc2Long hx hown (mvT hZ (own_w hw 0 rfl)) (g := (mkF m 12 #[.val (.long i0), .second, .val (.long i1), .second, .val (.int i2), .val (.long av), .second, .unset, .unset, .unset, .unset, .unset, .unset, .unset, .unset, .unset, .unset, .unset, .unset, .unset, .unset, .unset, .unset, .unset, .unset, .unset, .unset, .unset, .unset, .unset, .unset, .unset, .unset, .unset, .unset, .unset, .unset, .unset, .unset, .unset, .unset, .unset, .unset, .unset, .unset, .unset, .unset, .unset, .unset, .unset, .unset] [(.long i1)])) rfl (hb hby at_12) _ k) ?_
  refine own_by (T' := s₁) (f' := (mkF m 16 #[.val (.long i0), .second, .val (.long i1), .second, .val (.int i2), .val (.long av), .second, .unset, .unset, .unset, .unset, .unset, .unset, .unset, .unset, .unset, .unset, .unset, .unset, .unset, .unset, .unset, .unset, .unset, .unset, .unset, .unset, .unset, .unset, .unset, .unset, .unset, .unset, .unset, .unset, .unset, .unset, .unset, .unset, .unset, .unset, .unset, .unset, .unset, .unset, .unset, .unset, .unset, .unset, .unset, .unset] [(.long (i1 &&& (9223372036854775807 : Int64)))])) (fun t k => XS.land X0.here hx rfl (hb hby at_15) rfl k) ?_
  refine own_by (T' := s₁) (f' := (mkF m 19 #[.val (.long i0), .second, .val (.long i1), .second, .val (.int i2), .val (.long av), .second, .unset, .unset, .unset, .unset, .unset, .unset, .unset, .unset, .unset, .unset, .unset, .unset, .unset, .unset, .unset, .unset, .unset, .unset, .unset, .unset, .unset, .unset, .unset, .unset, .unset, .unset, .unset, .unset, .unset, .unset, .unset, .unset, .unset, .unset, .unset, .unset, .unset, .unset, .unset, .unset, .unset, .unset, .unset, .unset] [(.long (1000000000000000000 : Int64)), (.long (i1 &&& (9223372036854775807 : Int64)))])) (fun t k => X0.ldc2Long hx hown (mvT hZ (own_w hw 1 rfl)) (g := (mkF m 16 #[.val (.long i0), .second, .val (.long i1), .second, .val (.int i2), .val (.long av), .second, .unset, .unset, .unset, .unset, .unset, .unset, .unset, .unset, .unset, .unset, .unset, .unset, .unset, .unset, .unset, .unset, .unset, .unset, .unset, .unset, .unset, .unset, .unset, .unset, .unset, .unset, .unset, .unset, .unset, .unset, .unset, .unset, .unset, .unset, .unset, .unset, .unset, .unset, .unset, .unset, .unset, .unset, .unset, .unset] [(.long (i1 &&& (9223372036854775807 : Int64)))])) rfl (hb hby at_16) _ k) ?_
  refine own_by (T' := s₁) (f' := (mkF m 20 #[.val (.long i0), .second, .val (.long i1), .second, .val (.int i2), .val (.long av), .second, .unset, .unset, .unset, .unset, .unset, .unset, .unset, .unset, .unset, .unset, .unset, .unset, .unset, .unset, .unset, .unset, .unset, .unset, .unset, .unset, .unset, .unset, .unset, .unset, .unset, .unset, .unset, .unset, .unset, .unset, .unset, .unset, .unset, .unset, .unset, .unset, .unset, .unset, .unset, .unset, .unset, .unset, .unset, .unset] [(.long ((i1 &&& (9223372036854775807 : Int64)) - ((i1 &&& (9223372036854775807 : Int64)) / (1000000000000000000 : Int64)) * (1000000000000000000 : Int64)))])) (fun t k => XS.lrem X0.here hx rfl (hb hby at_19) rfl (by decide) k) ?_
  obtain ⟨bw, hbw⟩ : ∃ z : Int64, z = ((i1 &&& (9223372036854775807 : Int64)) - ((i1 &&& (9223372036854775807 : Int64)) / (1000000000000000000 : Int64)) * (1000000000000000000 : Int64)) := ⟨_, rfl⟩
  rw [← hbw]
  show own_Go p e below _ s₁ (mkF m 20 #[.val (.long i0), .second, .val (.long i1), .second, .val (.int i2), .val (.long av), .second, .unset, .unset, .unset, .unset, .unset, .unset, .unset, .unset, .unset, .unset, .unset, .unset, .unset, .unset, .unset, .unset, .unset, .unset, .unset, .unset, .unset, .unset, .unset, .unset, .unset, .unset, .unset, .unset, .unset, .unset, .unset, .unset, .unset, .unset, .unset, .unset, .unset, .unset, .unset, .unset, .unset, .unset, .unset, .unset] [(.long bw)])
  obtain ⟨nb, hnnb, ltnb⟩ := own_modL i1
  rw [← hbw] at hnnb
  refine own_by (T' := s₁) (f' := (mkF m 22 #[.val (.long i0), .second, .val (.long i1), .second, .val (.int i2), .val (.long av), .second, .val (.long bw), .second, .unset, .unset, .unset, .unset, .unset, .unset, .unset, .unset, .unset, .unset, .unset, .unset, .unset, .unset, .unset, .unset, .unset, .unset, .unset, .unset, .unset, .unset, .unset, .unset, .unset, .unset, .unset, .unset, .unset, .unset, .unset, .unset, .unset, .unset, .unset, .unset, .unset, .unset, .unset, .unset, .unset, .unset] [])) (fun t k => XS.lstore X0.here hx rfl (hb hby at_20) rfl (l' := #[.val (.long i0), .second, .val (.long i1), .second, .val (.int i2), .val (.long av), .second, .val (.long bw), .second, .unset, .unset, .unset, .unset, .unset, .unset, .unset, .unset, .unset, .unset, .unset, .unset, .unset, .unset, .unset, .unset, .unset, .unset, .unset, .unset, .unset, .unset, .unset, .unset, .unset, .unset, .unset, .unset, .unset, .unset, .unset, .unset, .unset, .unset, .unset, .unset, .unset, .unset, .unset, .unset, .unset, .unset]) rfl k) ?_
  refine own_by (T' := s₁) (f' := (mkF m 24 #[.val (.long i0), .second, .val (.long i1), .second, .val (.int i2), .val (.long av), .second, .val (.long bw), .second, .unset, .unset, .unset, .unset, .unset, .unset, .unset, .unset, .unset, .unset, .unset, .unset, .unset, .unset, .unset, .unset, .unset, .unset, .unset, .unset, .unset, .unset, .unset, .unset, .unset, .unset, .unset, .unset, .unset, .unset, .unset, .unset, .unset, .unset, .unset, .unset, .unset, .unset, .unset, .unset, .unset, .unset] [(.int i2)])) (fun t k => XS.iload X0.here hx rfl (hb hby at_22) rfl k) ?_
  refine own_by (T' := s₁) (f' := (mkF m 25 #[.val (.long i0), .second, .val (.long i1), .second, .val (.int i2), .val (.long av), .second, .val (.long bw), .second, .unset, .unset, .unset, .unset, .unset, .unset, .unset, .unset, .unset, .unset, .unset, .unset, .unset, .unset, .unset, .unset, .unset, .unset, .unset, .unset, .unset, .unset, .unset, .unset, .unset, .unset, .unset, .unset, .unset, .unset, .unset, .unset, .unset, .unset, .unset, .unset, .unset, .unset, .unset, .unset, .unset, .unset] [(.int (1 : Int32)), (.int i2)])) (fun t k => XS.iconst X0.here hx rfl (hb hby at_24) k) ?_
  refine own_by (T' := s₁) (f' := (mkF m 26 #[.val (.long i0), .second, .val (.long i1), .second, .val (.int i2), .val (.long av), .second, .val (.long bw), .second, .unset, .unset, .unset, .unset, .unset, .unset, .unset, .unset, .unset, .unset, .unset, .unset, .unset, .unset, .unset, .unset, .unset, .unset, .unset, .unset, .unset, .unset, .unset, .unset, .unset, .unset, .unset, .unset, .unset, .unset, .unset, .unset, .unset, .unset, .unset, .unset, .unset, .unset, .unset, .unset, .unset, .unset] [(.int (i2 &&& (1 : Int32)))])) (fun t k => XS.iand X0.here hx rfl (hb hby at_25) rfl k) ?_
  have mg32 : ∀ t, Steps p.tables e below (s₁.setTop (mkF m 34 #[.val (.long i0), .second, .val (.long i1), .second, .val (.int i2), .val (.long av), .second, .val (.long bw), .second, .unset, .unset, .unset, .unset, .unset, .unset, .unset, .unset, .unset, .unset, .unset, .unset, .unset, .unset, .unset, .unset, .unset, .unset, .unset, .unset, .unset, .unset, .unset, .unset, .unset, .unset, .unset, .unset, .unset, .unset, .unset, .unset, .unset, .unset, .unset, .unset, .unset, .unset, .unset, .unset, .unset, .unset] [(.int (if (i2 &&& (1 : Int32)) = (0 : Int32) then (0 : Int32) else (1 : Int32)))])) t → Steps p.tables e below (s₁.setTop (mkF m 26 #[.val (.long i0), .second, .val (.long i1), .second, .val (.int i2), .val (.long av), .second, .val (.long bw), .second, .unset, .unset, .unset, .unset, .unset, .unset, .unset, .unset, .unset, .unset, .unset, .unset, .unset, .unset, .unset, .unset, .unset, .unset, .unset, .unset, .unset, .unset, .unset, .unset, .unset, .unset, .unset, .unset, .unset, .unset, .unset, .unset, .unset, .unset, .unset, .unset, .unset, .unset, .unset, .unset, .unset, .unset] [(.int (i2 &&& (1 : Int32)))])) t := by
    intro t k0
    by_cases hm31 : (i2 &&& (1 : Int32)) = (0 : Int32)
    · skip
      refine XS.ifYes X0.here hx rfl (pc0 := 26) (pc' := 33) rfl (hb hby at_26) rfl ((if0 _ _).trans (teq hm31).1) (by decide) (by decide) ?_
      show Steps p.tables e below (s₁.setTop (mkF m 33 #[.val (.long i0), .second, .val (.long i1), .second, .val (.int i2), .val (.long av), .second, .val (.long bw), .second, .unset, .unset, .unset, .unset, .unset, .unset, .unset, .unset, .unset, .unset, .unset, .unset, .unset, .unset, .unset, .unset, .unset, .unset, .unset, .unset, .unset, .unset, .unset, .unset, .unset, .unset, .unset, .unset, .unset, .unset, .unset, .unset, .unset, .unset, .unset, .unset, .unset, .unset, .unset, .unset, .unset, .unset] [])) _
      refine XS.iconst X0.here hx rfl (hb hby at_33) ?_
      show Steps p.tables e below (s₁.setTop (mkF m 34 #[.val (.long i0), .second, .val (.long i1), .second, .val (.int i2), .val (.long av), .second, .val (.long bw), .second, .unset, .unset, .unset, .unset, .unset, .unset, .unset, .unset, .unset, .unset, .unset, .unset, .unset, .unset, .unset, .unset, .unset, .unset, .unset, .unset, .unset, .unset, .unset, .unset, .unset, .unset, .unset, .unset, .unset, .unset, .unset, .unset, .unset, .unset, .unset, .unset, .unset, .unset, .unset, .unset, .unset, .unset] [(.int (0 : Int32))])) _
      try simp only [if_pos hm31] at k0
      exact k0
    · skip
      refine XS.ifNo X0.here hx rfl (hb hby at_26) rfl ((if0 _ _).trans (feq hm31).1) ?_
      show Steps p.tables e below (s₁.setTop (mkF m 29 #[.val (.long i0), .second, .val (.long i1), .second, .val (.int i2), .val (.long av), .second, .val (.long bw), .second, .unset, .unset, .unset, .unset, .unset, .unset, .unset, .unset, .unset, .unset, .unset, .unset, .unset, .unset, .unset, .unset, .unset, .unset, .unset, .unset, .unset, .unset, .unset, .unset, .unset, .unset, .unset, .unset, .unset, .unset, .unset, .unset, .unset, .unset, .unset, .unset, .unset, .unset, .unset, .unset, .unset, .unset] [])) _
      refine XS.iconst X0.here hx rfl (hb hby at_29) ?_
      show Steps p.tables e below (s₁.setTop (mkF m 30 #[.val (.long i0), .second, .val (.long i1), .second, .val (.int i2), .val (.long av), .second, .val (.long bw), .second, .unset, .unset, .unset, .unset, .unset, .unset, .unset, .unset, .unset, .unset, .unset, .unset, .unset, .unset, .unset, .unset, .unset, .unset, .unset, .unset, .unset, .unset, .unset, .unset, .unset, .unset, .unset, .unset, .unset, .unset, .unset, .unset, .unset, .unset, .unset, .unset, .unset, .unset, .unset, .unset, .unset, .unset] [(.int (1 : Int32))])) _
      refine XS.goto X0.here hx rfl (pc0 := 30) (pc' := 34) rfl (hb hby at_30) (by decide) (by decide) ?_
      show Steps p.tables e below (s₁.setTop (mkF m 34 #[.val (.long i0), .second, .val (.long i1), .second, .val (.int i2), .val (.long av), .second, .val (.long bw), .second, .unset, .unset, .unset, .unset, .unset, .unset, .unset, .unset, .unset, .unset, .unset, .unset, .unset, .unset, .unset, .unset, .unset, .unset, .unset, .unset, .unset, .unset, .unset, .unset, .unset, .unset, .unset, .unset, .unset, .unset, .unset, .unset, .unset, .unset, .unset, .unset, .unset, .unset, .unset, .unset, .unset, .unset] [(.int (1 : Int32))])) _
      try simp only [if_neg hm31] at k0
      exact k0
  refine own_by mg32 ?_
  obtain ⟨ng, hng⟩ : ∃ z : Int32, z = (if (i2 &&& (1 : Int32)) = (0 : Int32) then (0 : Int32) else (1 : Int32)) := ⟨_, rfl⟩
  rw [← hng]
  show own_Go p e below _ s₁ (mkF m 34 #[.val (.long i0), .second, .val (.long i1), .second, .val (.int i2), .val (.long av), .second, .val (.long bw), .second, .unset, .unset, .unset, .unset, .unset, .unset, .unset, .unset, .unset, .unset, .unset, .unset, .unset, .unset, .unset, .unset, .unset, .unset, .unset, .unset, .unset, .unset, .unset, .unset, .unset, .unset, .unset, .unset, .unset, .unset, .unset, .unset, .unset, .unset, .unset, .unset, .unset, .unset, .unset, .unset, .unset, .unset] [(.int ng)])
  refine own_by (T' := s₁) (f' := (mkF m 36 #[.val (.long i0), .second, .val (.long i1), .second, .val (.int i2), .val (.long av), .second, .val (.long bw), .second, .val (.int ng), .unset, .unset, .unset, .unset, .unset, .unset, .unset, .unset, .unset, .unset, .unset, .unset, .unset, .unset, .unset, .unset, .unset, .unset, .unset, .unset, .unset, .unset, .unset, .unset, .unset, .unset, .unset, .unset, .unset, .unset, .unset, .unset, .unset, .unset, .unset, .unset, .unset, .unset, .unset, .unset, .unset] [])) (fun t k => XS.istore X0.here hx rfl (hb hby at_34) rfl (l' := #[.val (.long i0), .second, .val (.long i1), .second, .val (.int i2), .val (.long av), .second, .val (.long bw), .second, .val (.int ng), .unset, .unset, .unset, .unset, .unset, .unset, .unset, .unset, .unset, .unset, .unset, .unset, .unset, .unset, .unset, .unset, .unset, .unset, .unset, .unset, .unset, .unset, .unset, .unset, .unset, .unset, .unset, .unset, .unset, .unset, .unset, .unset, .unset, .unset, .unset, .unset, .unset, .unset, .unset, .unset, .unset]) rfl k) ?_
  refine own_by (T' := s₁) (f' := (mkF m 38 #[.val (.long i0), .second, .val (.long i1), .second, .val (.int i2), .val (.long av), .second, .val (.long bw), .second, .val (.int ng), .unset, .unset, .unset, .unset, .unset, .unset, .unset, .unset, .unset, .unset, .unset, .unset, .unset, .unset, .unset, .unset, .unset, .unset, .unset, .unset, .unset, .unset, .unset, .unset, .unset, .unset, .unset, .unset, .unset, .unset, .unset, .unset, .unset, .unset, .unset, .unset, .unset, .unset, .unset, .unset, .unset] [(.int i2)])) (fun t k => XS.iload X0.here hx rfl (hb hby at_36) rfl k) ?_
  refine own_by (T' := s₁) (f' := (mkF m 39 #[.val (.long i0), .second, .val (.long i1), .second, .val (.int i2), .val (.long av), .second, .val (.long bw), .second, .val (.int ng), .unset, .unset, .unset, .unset, .unset, .unset, .unset, .unset, .unset, .unset, .unset, .unset, .unset, .unset, .unset, .unset, .unset, .unset, .unset, .unset, .unset, .unset, .unset, .unset, .unset, .unset, .unset, .unset, .unset, .unset, .unset, .unset, .unset, .unset, .unset, .unset, .unset, .unset, .unset, .unset, .unset] [(.int (2 : Int32)), (.int i2)])) (fun t k => XS.iconst X0.here hx rfl (hb hby at_38) k) ?_
  refine own_by (T' := s₁) (f' := (mkF m 40 #[.val (.long i0), .second, .val (.long i1), .second, .val (.int i2), .val (.long av), .second, .val (.long bw), .second, .val (.int ng), .unset, .unset, .unset, .unset, .unset, .unset, .unset, .unset, .unset, .unset, .unset, .unset, .unset, .unset, .unset, .unset, .unset, .unset, .unset, .unset, .unset, .unset, .unset, .unset, .unset, .unset, .unset, .unset, .unset, .unset, .unset, .unset, .unset, .unset, .unset, .unset, .unset, .unset, .unset, .unset, .unset] [(.int (i2 &&& (2 : Int32)))])) (fun t k => XS.iand X0.here hx rfl (hb hby at_39) rfl k) ?_
  have mg34 : ∀ t, Steps p.tables e below (s₁.setTop (mkF m 48 #[.val (.long i0), .second, .val (.long i1), .second, .val (.int i2), .val (.long av), .second, .val (.long bw), .second, .val (.int ng), .unset, .unset, .unset, .unset, .unset, .unset, .unset, .unset, .unset, .unset, .unset, .unset, .unset, .unset, .unset, .unset, .unset, .unset, .unset, .unset, .unset, .unset, .unset, .unset, .unset, .unset, .unset, .unset, .unset, .unset, .unset, .unset, .unset, .unset, .unset, .unset, .unset, .unset, .unset, .unset, .unset] [(.int (if (i2 &&& (2 : Int32)) = (0 : Int32) then (0 : Int32) else (1 : Int32)))])) t → Steps p.tables e below (s₁.setTop (mkF m 40 #[.val (.long i0), .second, .val (.long i1), .second, .val (.int i2), .val (.long av), .second, .val (.long bw), .second, .val (.int ng), .unset, .unset, .unset, .unset, .unset, .unset, .unset, .unset, .unset, .unset, .unset, .unset, .unset, .unset, .unset, .unset, .unset, .unset, .unset, .unset, .unset, .unset, .unset, .unset, .unset, .unset, .unset, .unset, .unset, .unset, .unset, .unset, .unset, .unset, .unset, .unset, .unset, .unset, .unset, .unset, .unset] [(.int (i2 &&& (2 : Int32)))])) t := by
    intro t k0
    by_cases hm33 : (i2 &&& (2 : Int32)) = (0 : Int32)
    · skip
      refine XS.ifYes X0.here hx rfl (pc0 := 40) (pc' := 47) rfl (hb hby at_40) rfl ((if0 _ _).trans (teq hm33).1) (by decide) (by decide) ?_
      show Steps p.tables e below (s₁.setTop (mkF m 47 #[.val (.long i0), .second, .val (.long i1), .second, .val (.int i2), .val (.long av), .second, .val (.long bw), .second, .val (.int ng), .unset, .unset, .unset, .unset, .unset, .unset, .unset, .unset, .unset, .unset, .unset, .unset, .unset, .unset, .unset, .unset, .unset, .unset, .unset, .unset, .unset, .unset, .unset, .unset, .unset, .unset, .unset, .unset, .unset, .unset, .unset, .unset, .unset, .unset, .unset, .unset, .unset, .unset, .unset, .unset, .unset] [])) _
      refine XS.iconst X0.here hx rfl (hb hby at_47) ?_
      show Steps p.tables e below (s₁.setTop (mkF m 48 #[.val (.long i0), .second, .val (.long i1), .second, .val (.int i2), .val (.long av), .second, .val (.long bw), .second, .val (.int ng), .unset, .unset, .unset, .unset, .unset, .unset, .unset, .unset, .unset, .unset, .unset, .unset, .unset, .unset, .unset, .unset, .unset, .unset, .unset, .unset, .unset, .unset, .unset, .unset, .unset, .unset, .unset, .unset, .unset, .unset, .unset, .unset, .unset, .unset, .unset, .unset, .unset, .unset, .unset, .unset, .unset] [(.int (0 : Int32))])) _
      try simp only [if_pos hm33] at k0
      exact k0
    · skip
      refine XS.ifNo X0.here hx rfl (hb hby at_40) rfl ((if0 _ _).trans (feq hm33).1) ?_
      show Steps p.tables e below (s₁.setTop (mkF m 43 #[.val (.long i0), .second, .val (.long i1), .second, .val (.int i2), .val (.long av), .second, .val (.long bw), .second, .val (.int ng), .unset, .unset, .unset, .unset, .unset, .unset, .unset, .unset, .unset, .unset, .unset, .unset, .unset, .unset, .unset, .unset, .unset, .unset, .unset, .unset, .unset, .unset, .unset, .unset, .unset, .unset, .unset, .unset, .unset, .unset, .unset, .unset, .unset, .unset, .unset, .unset, .unset, .unset, .unset, .unset, .unset] [])) _
      refine XS.iconst X0.here hx rfl (hb hby at_43) ?_
      show Steps p.tables e below (s₁.setTop (mkF m 44 #[.val (.long i0), .second, .val (.long i1), .second, .val (.int i2), .val (.long av), .second, .val (.long bw), .second, .val (.int ng), .unset, .unset, .unset, .unset, .unset, .unset, .unset, .unset, .unset, .unset, .unset, .unset, .unset, .unset, .unset, .unset, .unset, .unset, .unset, .unset, .unset, .unset, .unset, .unset, .unset, .unset, .unset, .unset, .unset, .unset, .unset, .unset, .unset, .unset, .unset, .unset, .unset, .unset, .unset, .unset, .unset] [(.int (1 : Int32))])) _
      refine XS.goto X0.here hx rfl (pc0 := 44) (pc' := 48) rfl (hb hby at_44) (by decide) (by decide) ?_
      show Steps p.tables e below (s₁.setTop (mkF m 48 #[.val (.long i0), .second, .val (.long i1), .second, .val (.int i2), .val (.long av), .second, .val (.long bw), .second, .val (.int ng), .unset, .unset, .unset, .unset, .unset, .unset, .unset, .unset, .unset, .unset, .unset, .unset, .unset, .unset, .unset, .unset, .unset, .unset, .unset, .unset, .unset, .unset, .unset, .unset, .unset, .unset, .unset, .unset, .unset, .unset, .unset, .unset, .unset, .unset, .unset, .unset, .unset, .unset, .unset, .unset, .unset] [(.int (1 : Int32))])) _
      try simp only [if_neg hm33] at k0
      exact k0
  refine own_by mg34 ?_
  obtain ⟨pq, hpq⟩ : ∃ z : Int32, z = (if (i2 &&& (2 : Int32)) = (0 : Int32) then (0 : Int32) else (1 : Int32)) := ⟨_, rfl⟩
  rw [← hpq]
  show own_Go p e below _ s₁ (mkF m 48 #[.val (.long i0), .second, .val (.long i1), .second, .val (.int i2), .val (.long av), .second, .val (.long bw), .second, .val (.int ng), .unset, .unset, .unset, .unset, .unset, .unset, .unset, .unset, .unset, .unset, .unset, .unset, .unset, .unset, .unset, .unset, .unset, .unset, .unset, .unset, .unset, .unset, .unset, .unset, .unset, .unset, .unset, .unset, .unset, .unset, .unset, .unset, .unset, .unset, .unset, .unset, .unset, .unset, .unset, .unset, .unset] [(.int pq)])
  refine own_by (T' := s₁) (f' := (mkF m 50 #[.val (.long i0), .second, .val (.long i1), .second, .val (.int i2), .val (.long av), .second, .val (.long bw), .second, .val (.int ng), .val (.int pq), .unset, .unset, .unset, .unset, .unset, .unset, .unset, .unset, .unset, .unset, .unset, .unset, .unset, .unset, .unset, .unset, .unset, .unset, .unset, .unset, .unset, .unset, .unset, .unset, .unset, .unset, .unset, .unset, .unset, .unset, .unset, .unset, .unset, .unset, .unset, .unset, .unset, .unset, .unset, .unset] [])) (fun t k => XS.istore X0.here hx rfl (hb hby at_48) rfl (l' := #[.val (.long i0), .second, .val (.long i1), .second, .val (.int i2), .val (.long av), .second, .val (.long bw), .second, .val (.int ng), .val (.int pq), .unset, .unset, .unset, .unset, .unset, .unset, .unset, .unset, .unset, .unset, .unset, .unset, .unset, .unset, .unset, .unset, .unset, .unset, .unset, .unset, .unset, .unset, .unset, .unset, .unset, .unset, .unset, .unset, .unset, .unset, .unset, .unset, .unset, .unset, .unset, .unset, .unset, .unset, .unset, .unset]) rfl k) ?_
  refine own_by (T' := s₁) (f' := (mkF m 52 #[.val (.long i0), .second, .val (.long i1), .second, .val (.int i2), .val (.long av), .second, .val (.long bw), .second, .val (.int ng), .val (.int pq), .unset, .unset, .unset, .unset, .unset, .unset, .unset, .unset, .unset, .unset, .unset, .unset, .unset, .unset, .unset, .unset, .unset, .unset, .unset, .unset, .unset, .unset, .unset, .unset, .unset, .unset, .unset, .unset, .unset, .unset, .unset, .unset, .unset, .unset, .unset, .unset, .unset, .unset, .unset, .unset] [(.int (37 : Int32))])) (fun t k => XS.bipush X0.here hx rfl (hb hby at_50) k) ?_
  refine own_mkA X0 hx hZ e0 (hb hby at_52) (own_w hw 2 rfl) (v := 0) rfl (by decide) 37 (by decide) (by decide) (by decide) (by decide) ?_
  intro T35 h35 b35 X35 e35 g35 E35 A35r
  have gn35 : n0 ≤ b35 := by rw [g35]; exact Z0
  show own_Go p e below _ T35 (mkF m 54 #[.val (.long i0), .second, .val (.long i1), .second, .val (.int i2), .val (.long av), .second, .val (.long bw), .second, .val (.int ng), .val (.int pq), .unset, .unset, .unset, .unset, .unset, .unset, .unset, .unset, .unset, .unset, .unset, .unset, .unset, .unset, .unset, .unset, .unset, .unset, .unset, .unset, .unset, .unset, .unset, .unset, .unset, .unset, .unset, .unset, .unset, .unset, .unset, .unset, .unset, .unset, .unset, .unset, .unset, .unset, .unset, .unset] [(.ref b35)])
  have A35 : own_A Z h35 b35 .char 37 (fun _ => 0) := A35r
  have sz36 : n0 ≤ h35.size := Nat.le_trans Z0 E35.1
  refine own_by (T' := T35) (f' := (mkF m 56 #[.val (.long i0), .second, .val (.long i1), .second, .val (.int i2), .val (.long av), .second, .val (.long bw), .second, .val (.int ng), .val (.int pq), .val (.ref b35), .unset, .unset, .unset, .unset, .unset, .unset, .unset, .unset, .unset, .unset, .unset, .unset, .unset, .unset, .unset, .unset, .unset, .unset, .unset, .unset, .unset, .unset, .unset, .unset, .unset, .unset, .unset, .unset, .unset, .unset, .unset, .unset, .unset, .unset, .unset, .unset, .unset, .unset, .unset] [])) (fun t k => XS.astore X35.here hx rfl (hb hby at_54) rfl rfl (l' := #[.val (.long i0), .second, .val (.long i1), .second, .val (.int i2), .val (.long av), .second, .val (.long bw), .second, .val (.int ng), .val (.int pq), .val (.ref b35), .unset, .unset, .unset, .unset, .unset, .unset, .unset, .unset, .unset, .unset, .unset, .unset, .unset, .unset, .unset, .unset, .unset, .unset, .unset, .unset, .unset, .unset, .unset, .unset, .unset, .unset, .unset, .unset, .unset, .unset, .unset, .unset, .unset, .unset, .unset, .unset, .unset, .unset, .unset]) rfl k) ?_
  refine own_by (T' := T35) (f' := (mkF m 58 #[.val (.long i0), .second, .val (.long i1), .second, .val (.int i2), .val (.long av), .second, .val (.long bw), .second, .val (.int ng), .val (.int pq), .val (.ref b35), .unset, .unset, .unset, .unset, .unset, .unset, .unset, .unset, .unset, .unset, .unset, .unset, .unset, .unset, .unset, .unset, .unset, .unset, .unset, .unset, .unset, .unset, .unset, .unset, .unset, .unset, .unset, .unset, .unset, .unset, .unset, .unset, .unset, .unset, .unset, .unset, .unset, .unset, .unset] [(.ref b35)])) (fun t k => XS.aload X35.here hx rfl (hb hby at_56) rfl rfl k) ?_
  refine own_by (T' := T35) (f' := (mkF m 60 #[.val (.long i0), .second, .val (.long i1), .second, .val (.int i2), .val (.long av), .second, .val (.long bw), .second, .val (.int ng), .val (.int pq), .val (.ref b35), .unset, .unset, .unset, .unset, .unset, .unset, .unset, .unset, .unset, .unset, .unset, .unset, .unset, .unset, .unset, .unset, .unset, .unset, .unset, .unset, .unset, .unset, .unset, .unset, .unset, .unset, .unset, .unset, .unset, .unset, .unset, .unset, .unset, .unset, .unset, .unset, .unset, .unset, .unset] [(.int (36 : Int32)), (.ref b35)])) (fun t k => XS.bipush X35.here hx rfl (hb hby at_58) k) ?_
  refine own_by (T' := T35) (f' := (mkF m 62 #[.val (.long i0), .second, .val (.long i1), .second, .val (.int i2), .val (.long av), .second, .val (.long bw), .second, .val (.int ng), .val (.int pq), .val (.ref b35), .unset, .unset, .unset, .unset, .unset, .unset, .unset, .unset, .unset, .unset, .unset, .unset, .unset, .unset, .unset, .unset, .unset, .unset, .unset, .unset, .unset, .unset, .unset, .unset, .unset, .unset, .unset, .unset, .unset, .unset, .unset, .unset, .unset, .unset, .unset, .unset, .unset, .unset, .unset] [(.int (32 : Int32)), (.int (36 : Int32)), (.ref b35)])) (fun t k => XS.bipush X35.here hx rfl (hb hby at_60) k) ?_
  have _ : (36 : Int32).toInt = 36 := by decide
  refine own_stC X35 hx hZ e35 (hb hby at_62) A35 (by first | decide | omega) (by first | decide | omega) ?_
  intro T37 h37 X37 e37 W37 A37
  show own_Go p e below _ T37 (mkF m 63 #[.val (.long i0), .second, .val (.long i1), .second, .val (.int i2), .val (.long av), .second, .val (.long bw), .second, .val (.int ng), .val (.int pq), .val (.ref b35), .unset, .unset, .unset, .unset, .unset, .unset, .unset, .unset, .unset, .unset, .unset, .unset, .unset, .unset, .unset, .unset, .unset, .unset, .unset, .unset, .unset, .unset, .unset, .unset, .unset, .unset, .unset, .unset, .unset, .unset, .unset, .unset, .unset, .unset, .unset, .unset, .unset, .unset, .unset] [])
  have sz38 : n0 ≤ h37.size := by rw [W37.size]; exact sz36
  have N37 := Fr.snoc X37 N0 gn35
  obtain ⟨g0, hg0⟩ : ∃ z : Nat → Int32, z = (fun i => if i = (36 : Int32).toInt.toNat then (nar .char (32 : Int32)) else (fun _ => 0) i) := ⟨_, rfl⟩
  have A39 : own_A Z h37 b35 .char 37 g0 := A37.congr (fun i hi => by rw [hg0])
  have h36 : g0 36 = 32 := by rw [hg0]; rfl
  refine own_by (T' := T37) (f' := (mkF m 65 #[.val (.long i0), .second, .val (.long i1), .second, .val (.int i2), .val (.long av), .second, .val (.long bw), .second, .val (.int ng), .val (.int pq), .val (.ref b35), .unset, .unset, .unset, .unset, .unset, .unset, .unset, .unset, .unset, .unset, .unset, .unset, .unset, .unset, .unset, .unset, .unset, .unset, .unset, .unset, .unset, .unset, .unset, .unset, .unset, .unset, .unset, .unset, .unset, .unset, .unset, .unset, .unset, .unset, .unset, .unset, .unset, .unset, .unset] [(.ref b35)])) (fun t k => XS.aload X37.here hx rfl (hb hby at_63) rfl rfl k) ?_
  refine own_by (T' := T37) (f' := (mkF m 66 #[.val (.long i0), .second, .val (.long i1), .second, .val (.int i2), .val (.long av), .second, .val (.long bw), .second, .val (.int ng), .val (.int pq), .val (.ref b35), .unset, .unset, .unset, .unset, .unset, .unset, .unset, .unset, .unset, .unset, .unset, .unset, .unset, .unset, .unset, .unset, .unset, .unset, .unset, .unset, .unset, .unset, .unset, .unset, .unset, .unset, .unset, .unset, .unset, .unset, .unset, .unset, .unset, .unset, .unset, .unset, .unset, .unset, .unset] [(.int (0 : Int32)), (.ref b35)])) (fun t k => XS.iconst X37.here hx rfl (hb hby at_65) k) ?_
  refine own_by (T' := T37) (f' := (mkF m 68 #[.val (.long i0), .second, .val (.long i1), .second, .val (.int i2), .val (.long av), .second, .val (.long bw), .second, .val (.int ng), .val (.int pq), .val (.ref b35), .unset, .unset, .unset, .unset, .unset, .unset, .unset, .unset, .unset, .unset, .unset, .unset, .unset, .unset, .unset, .unset, .unset, .unset, .unset, .unset, .unset, .unset, .unset, .unset, .unset, .unset, .unset, .unset, .unset, .unset, .unset, .unset, .unset, .unset, .unset, .unset, .unset, .unset, .unset] [(.long av), (.int (0 : Int32)), (.ref b35)])) (fun t k => XS.lload X37.here hx rfl (hb hby at_66) rfl k) ?_
  have q40 : ∀ x ∈ [b35], ∃ c : Cell, h37[x]? = some c ∧ c.vm.isStatics = false := (allS (own_nsA A39) all0)
  refine own_callS X37 hx hZ hown e37 (hb hby at_68) [(.ref b35), (.int (0 : Int32)), (.long av)] [] 0 (rmFI l Z a0 hw [] b35 (0 : Int32) av 0 na g0 h37 n0 sz38 gn35 (by decide) (by decide) hnna A39) (own_w hw 3 rfl) (own_w hw 4 rfl) (own_w hw 5 rfl) (own_w hw 6 rfl) (by decide) pd___CIJ_V (by rw [hml]; rfl) rfl rfl (Nat.le_of_eq rfl) (by decide) (by decide) (by decide) (by decide) ?_
  rintro T41 _ L41 X41 ⟨rfl, N41q, K41, g1, FLg1, A41⟩
  show own_Go p e below _ T41 (mkF m 71 #[.val (.long i0), .second, .val (.long i1), .second, .val (.int i2), .val (.long av), .second, .val (.long bw), .second, .val (.int ng), .val (.int pq), .val (.ref b35), .unset, .unset, .unset, .unset, .unset, .unset, .unset, .unset, .unset, .unset, .unset, .unset, .unset, .unset, .unset, .unset, .unset, .unset, .unset, .unset, .unset, .unset, .unset, .unset, .unset, .unset, .unset, .unset, .unset, .unset, .unset, .unset, .unset, .unset, .unset, .unset, .unset, .unset, .unset] [])
  have N41 := Fr.app N37 N41q
  have sz42 : n0 ≤ T41.heap.size := Nat.le_trans sz38 K41.1
  refine own_by (T' := T41) (f' := (mkF m 73 #[.val (.long i0), .second, .val (.long i1), .second, .val (.int i2), .val (.long av), .second, .val (.long bw), .second, .val (.int ng), .val (.int pq), .val (.ref b35), .unset, .unset, .unset, .unset, .unset, .unset, .unset, .unset, .unset, .unset, .unset, .unset, .unset, .unset, .unset, .unset, .unset, .unset, .unset, .unset, .unset, .unset, .unset, .unset, .unset, .unset, .unset, .unset, .unset, .unset, .unset, .unset, .unset, .unset, .unset, .unset, .unset, .unset, .unset] [(.int pq)])) (fun t k => XS.iload X41.here hx rfl (hb hby at_71) rfl k) ?_
  by_cases hc73_43 : pq = (0 : Int32)
  · have _ := X41
    refine own_by (T' := T41) (f' := (mkF m 95 #[.val (.long i0), .second, .val (.long i1), .second, .val (.int i2), .val (.long av), .second, .val (.long bw), .second, .val (.int ng), .val (.int pq), .val (.ref b35), .unset, .unset, .unset, .unset, .unset, .unset, .unset, .unset, .unset, .unset, .unset, .unset, .unset, .unset, .unset, .unset, .unset, .unset, .unset, .unset, .unset, .unset, .unset, .unset, .unset, .unset, .unset, .unset, .unset, .unset, .unset, .unset, .unset, .unset, .unset, .unset, .unset, .unset, .unset] [])) (fun t k => XS.ifYes X41.here hx rfl (pc0 := 73) (pc' := 95) rfl (hb hby at_73) rfl ((if0 _ _).trans (teq hc73_43).1) (by decide) (by decide) k) ?_
    refine own_by (T' := T41) (f' := (mkF m 97 #[.val (.long i0), .second, .val (.long i1), .second, .val (.int i2), .val (.long av), .second, .val (.long bw), .second, .val (.int ng), .val (.int pq), .val (.ref b35), .unset, .unset, .unset, .unset, .unset, .unset, .unset, .unset, .unset, .unset, .unset, .unset, .unset, .unset, .unset, .unset, .unset, .unset, .unset, .unset, .unset, .unset, .unset, .unset, .unset, .unset, .unset, .unset, .unset, .unset, .unset, .unset, .unset, .unset, .unset, .unset, .unset, .unset, .unset] [(.ref b35)])) (fun t k => XS.aload X41.here hx rfl (hb hby at_95) rfl rfl k) ?_
    refine own_by (T' := T41) (f' := (mkF m 99 #[.val (.long i0), .second, .val (.long i1), .second, .val (.int i2), .val (.long av), .second, .val (.long bw), .second, .val (.int ng), .val (.int pq), .val (.ref b35), .unset, .unset, .unset, .unset, .unset, .unset, .unset, .unset, .unset, .unset, .unset, .unset, .unset, .unset, .unset, .unset, .unset, .unset, .unset, .unset, .unset, .unset, .unset, .unset, .unset, .unset, .unset, .unset, .unset, .unset, .unset, .unset, .unset, .unset, .unset, .unset, .unset, .unset, .unset] [(.int (18 : Int32)), (.ref b35)])) (fun t k => XS.bipush X41.here hx rfl (hb hby at_97) k) ?_
    refine own_by (T' := T41) (f' := (mkF m 101 #[.val (.long i0), .second, .val (.long i1), .second, .val (.int i2), .val (.long av), .second, .val (.long bw), .second, .val (.int ng), .val (.int pq), .val (.ref b35), .unset, .unset, .unset, .unset, .unset, .unset, .unset, .unset, .unset, .unset, .unset, .unset, .unset, .unset, .unset, .unset, .unset, .unset, .unset, .unset, .unset, .unset, .unset, .unset, .unset, .unset, .unset, .unset, .unset, .unset, .unset, .unset, .unset, .unset, .unset, .unset, .unset, .unset, .unset] [(.long bw), (.int (18 : Int32)), (.ref b35)])) (fun t k => XS.lload X41.here hx rfl (hb hby at_99) rfl k) ?_
    have q44 : ∀ x ∈ [b35], ∃ c : Cell, T41.heap[x]? = some c ∧ c.vm.isStatics = false := (allS (own_nsA A41) all0)
    refine own_callS X41 hx hZ hown rfl (hb hby at_101) [(.ref b35), (.int (18 : Int32)), (.long bw)] [] 0 (rmFI l Z a0 hw [] b35 (18 : Int32) bw 18 nb g1 T41.heap n0 sz42 gn35 (by decide) (by decide) hnnb A41) (own_w hw 3 rfl) (own_w hw 4 rfl) (own_w hw 5 rfl) (own_w hw 6 rfl) (by decide) pd___CIJ_V (by rw [hml]; rfl) rfl rfl (Nat.le_of_eq rfl) (by decide) (by decide) (by decide) (by decide) ?_
    rintro T45 _ L45 X45 ⟨rfl, N45q, K45, g3, FLg3, A45⟩
    show own_Go p e below _ T45 (mkF m 104 #[.val (.long i0), .second, .val (.long i1), .second, .val (.int i2), .val (.long av), .second, .val (.long bw), .second, .val (.int ng), .val (.int pq), .val (.ref b35), .unset, .unset, .unset, .unset, .unset, .unset, .unset, .unset, .unset, .unset, .unset, .unset, .unset, .unset, .unset, .unset, .unset, .unset, .unset, .unset, .unset, .unset, .unset, .unset, .unset, .unset, .unset, .unset, .unset, .unset, .unset, .unset, .unset, .unset, .unset, .unset, .unset, .unset, .unset] [])
    have N45 := Fr.app N41 N45q
    have sz46 : n0 ≤ T45.heap.size := Nat.le_trans sz42 K45.1
    have HV := own_np_v ltna ltnb (fun i hi => by rw [FLg3.2 _ (by omega)]; exact FLg1.1 i hi) FLg3.1 (by rw [FLg3.2 36 (by omega), FLg1.2 36 (by omega)]; exact h36)
    refine own_by (T' := T45) (f' := (mkF m 106 #[.val (.long i0), .second, .val (.long i1), .second, .val (.int i2), .val (.long av), .second, .val (.long bw), .second, .val (.int ng), .val (.int pq), .val (.ref b35), .unset, .unset, .unset, .unset, .unset, .unset, .unset, .unset, .unset, .unset, .unset, .unset, .unset, .unset, .unset, .unset, .unset, .unset, .unset, .unset, .unset, .unset, .unset, .unset, .unset, .unset, .unset, .unset, .unset, .unset, .unset, .unset, .unset, .unset, .unset, .unset, .unset, .unset, .unset] [(.long av)])) (fun t k => XS.lload X45.here hx rfl (hb hby at_104) rfl k) ?_
    refine own_by (T' := T45) (f' := (mkF m 108 #[.val (.long i0), .second, .val (.long i1), .second, .val (.int i2), .val (.long av), .second, .val (.long bw), .second, .val (.int ng), .val (.int pq), .val (.ref b35), .unset, .unset, .unset, .unset, .unset, .unset, .unset, .unset, .unset, .unset, .unset, .unset, .unset, .unset, .unset, .unset, .unset, .unset, .unset, .unset, .unset, .unset, .unset, .unset, .unset, .unset, .unset, .unset, .unset, .unset, .unset, .unset, .unset, .unset, .unset, .unset, .unset, .unset, .unset] [(.int (32 : Int32)), (.long av)])) (fun t k => XS.bipush X45.here hx rfl (hb hby at_106) k) ?_
    refine own_by (T' := T45) (f' := (mkF m 109 #[.val (.long i0), .second, .val (.long i1), .second, .val (.int i2), .val (.long av), .second, .val (.long bw), .second, .val (.int ng), .val (.int pq), .val (.ref b35), .unset, .unset, .unset, .unset, .unset, .unset, .unset, .unset, .unset, .unset, .unset, .unset, .unset, .unset, .unset, .unset, .unset, .unset, .unset, .unset, .unset, .unset, .unset, .unset, .unset, .unset, .unset, .unset, .unset, .unset, .unset, .unset, .unset, .unset, .unset, .unset, .unset, .unset, .unset] [(.long ((av.toUInt64 >>> ((32 : Int32) &&& 0x3f).toInt64.toUInt64).toInt64))])) (fun t k => XS.lushr X45.here hx rfl (hb hby at_108) rfl k) ?_
    obtain ⟨a1, ha1⟩ : ∃ z : Int64, z = ((av.toUInt64 >>> ((32 : Int32) &&& 0x3f).toInt64.toUInt64).toInt64) := ⟨_, rfl⟩
    rw [← ha1]
    show own_Go p e below _ T45 (mkF m 109 #[.val (.long i0), .second, .val (.long i1), .second, .val (.int i2), .val (.long av), .second, .val (.long bw), .second, .val (.int ng), .val (.int pq), .val (.ref b35), .unset, .unset, .unset, .unset, .unset, .unset, .unset, .unset, .unset, .unset, .unset, .unset, .unset, .unset, .unset, .unset, .unset, .unset, .unset, .unset, .unset, .unset, .unset, .unset, .unset, .unset, .unset, .unset, .unset, .unset, .unset, .unset, .unset, .unset, .unset, .unset, .unset, .unset, .unset] [(.long a1)])
    refine own_by (T' := T45) (f' := (mkF m 111 #[.val (.long i0), .second, .val (.long i1), .second, .val (.int i2), .val (.long av), .second, .val (.long bw), .second, .val (.int ng), .val (.int pq), .val (.ref b35), .val (.long a1), .second, .unset, .unset, .unset, .unset, .unset, .unset, .unset, .unset, .unset, .unset, .unset, .unset, .unset, .unset, .unset, .unset, .unset, .unset, .unset, .unset, .unset, .unset, .unset, .unset, .unset, .unset, .unset, .unset, .unset, .unset, .unset, .unset, .unset, .unset, .unset, .unset, .unset] [])) (fun t k => XS.lstore X45.here hx rfl (hb hby at_109) rfl (l' := #[.val (.long i0), .second, .val (.long i1), .second, .val (.int i2), .val (.long av), .second, .val (.long bw), .second, .val (.int ng), .val (.int pq), .val (.ref b35), .val (.long a1), .second, .unset, .unset, .unset, .unset, .unset, .unset, .unset, .unset, .unset, .unset, .unset, .unset, .unset, .unset, .unset, .unset, .unset, .unset, .unset, .unset, .unset, .unset, .unset, .unset, .unset, .unset, .unset, .unset, .unset, .unset, .unset, .unset, .unset, .unset, .unset, .unset, .unset]) rfl k) ?_
    refine own_by (T' := T45) (f' := (mkF m 113 #[.val (.long i0), .second, .val (.long i1), .second, .val (.int i2), .val (.long av), .second, .val (.long bw), .second, .val (.int ng), .val (.int pq), .val (.ref b35), .val (.long a1), .second, .unset, .unset, .unset, .unset, .unset, .unset, .unset, .unset, .unset, .unset, .unset, .unset, .unset, .unset, .unset, .unset, .unset, .unset, .unset, .unset, .unset, .unset, .unset, .unset, .unset, .unset, .unset, .unset, .unset, .unset, .unset, .unset, .unset, .unset, .unset, .unset, .unset] [(.long av)])) (fun t k => XS.lload X45.here hx rfl (hb hby at_111) rfl k) ?_
    refine own_by (T' := T45) (f' := (mkF m 116 #[.val (.long i0), .second, .val (.long i1), .second, .val (.int i2), .val (.long av), .second, .val (.long bw), .second, .val (.int ng), .val (.int pq), .val (.ref b35), .val (.long a1), .second, .unset, .unset, .unset, .unset, .unset, .unset, .unset, .unset, .unset, .unset, .unset, .unset, .unset, .unset, .unset, .unset, .unset, .unset, .unset, .unset, .unset, .unset, .unset, .unset, .unset, .unset, .unset, .unset, .unset, .unset, .unset, .unset, .unset, .unset, .unset, .unset, .unset] [(.long (4294967295 : Int64)), (.long av)])) (fun t k => X45.ldc2Long hx hown (mvT hZ (own_w hw 27 rfl)) (g := (mkF m 113 #[.val (.long i0), .second, .val (.long i1), .second, .val (.int i2), .val (.long av), .second, .val (.long bw), .second, .val (.int ng), .val (.int pq), .val (.ref b35), .val (.long a1), .second, .unset, .unset, .unset, .unset, .unset, .unset, .unset, .unset, .unset, .unset, .unset, .unset, .unset, .unset, .unset, .unset, .unset, .unset, .unset, .unset, .unset, .unset, .unset, .unset, .unset, .unset, .unset, .unset, .unset, .unset, .unset, .unset, .unset, .unset, .unset, .unset, .unset] [(.long av)])) rfl (hb hby at_113) _ k) ?_
    refine own_by (T' := T45) (f' := (mkF m 117 #[.val (.long i0), .second, .val (.long i1), .second, .val (.int i2), .val (.long av), .second, .val (.long bw), .second, .val (.int ng), .val (.int pq), .val (.ref b35), .val (.long a1), .second, .unset, .unset, .unset, .unset, .unset, .unset, .unset, .unset, .unset, .unset, .unset, .unset, .unset, .unset, .unset, .unset, .unset, .unset, .unset, .unset, .unset, .unset, .unset, .unset, .unset, .unset, .unset, .unset, .unset, .unset, .unset, .unset, .unset, .unset, .unset, .unset, .unset] [(.long (av &&& (4294967295 : Int64)))])) (fun t k => XS.land X45.here hx rfl (hb hby at_116) rfl k) ?_
    obtain ⟨al, hal⟩ : ∃ z : Int64, z = (av &&& (4294967295 : Int64)) := ⟨_, rfl⟩
    rw [← hal]
    show own_Go p e below _ T45 (mkF m 117 #[.val (.long i0), .second, .val (.long i1), .second, .val (.int i2), .val (.long av), .second, .val (.long bw), .second, .val (.int ng), .val (.int pq), .val (.ref b35), .val (.long a1), .second, .unset, .unset, .unset, .unset, .unset, .unset, .unset, .unset, .unset, .unset, .unset, .unset, .unset, .unset, .unset, .unset, .unset, .unset, .unset, .unset, .unset, .unset, .unset, .unset, .unset, .unset, .unset, .unset, .unset, .unset, .unset, .unset, .unset, .unset, .unset, .unset, .unset] [(.long al)])
    refine own_by (T' := T45) (f' := (mkF m 119 #[.val (.long i0), .second, .val (.long i1), .second, .val (.int i2), .val (.long av), .second, .val (.long bw), .second, .val (.int ng), .val (.int pq), .val (.ref b35), .val (.long a1), .second, .val (.long al), .second, .unset, .unset, .unset, .unset, .unset, .unset, .unset, .unset, .unset, .unset, .unset, .unset, .unset, .unset, .unset, .unset, .unset, .unset, .unset, .unset, .unset, .unset, .unset, .unset, .unset, .unset, .unset, .unset, .unset, .unset, .unset, .unset, .unset, .unset, .unset] [])) (fun t k => XS.lstore X45.here hx rfl (hb hby at_117) rfl (l' := #[.val (.long i0), .second, .val (.long i1), .second, .val (.int i2), .val (.long av), .second, .val (.long bw), .second, .val (.int ng), .val (.int pq), .val (.ref b35), .val (.long a1), .second, .val (.long al), .second, .unset, .unset, .unset, .unset, .unset, .unset, .unset, .unset, .unset, .unset, .unset, .unset, .unset, .unset, .unset, .unset, .unset, .unset, .unset, .unset, .unset, .unset, .unset, .unset, .unset, .unset, .unset, .unset, .unset, .unset, .unset, .unset, .unset, .unset, .unset]) rfl k) ?_
    refine own_by (T' := T45) (f' := (mkF m 122 #[.val (.long i0), .second, .val (.long i1), .second, .val (.int i2), .val (.long av), .second, .val (.long bw), .second, .val (.int ng), .val (.int pq), .val (.ref b35), .val (.long a1), .second, .val (.long al), .second, .unset, .unset, .unset, .unset, .unset, .unset, .unset, .unset, .unset, .unset, .unset, .unset, .unset, .unset, .unset, .unset, .unset, .unset, .unset, .unset, .unset, .unset, .unset, .unset, .unset, .unset, .unset, .unset, .unset, .unset, .unset, .unset, .unset, .unset, .unset] [(.long (232830643 : Int64))])) (fun t k => X45.ldc2Long hx hown (mvT hZ (own_w hw 28 rfl)) (g := (mkF m 119 #[.val (.long i0), .second, .val (.long i1), .second, .val (.int i2), .val (.long av), .second, .val (.long bw), .second, .val (.int ng), .val (.int pq), .val (.ref b35), .val (.long a1), .second, .val (.long al), .second, .unset, .unset, .unset, .unset, .unset, .unset, .unset, .unset, .unset, .unset, .unset, .unset, .unset, .unset, .unset, .unset, .unset, .unset, .unset, .unset, .unset, .unset, .unset, .unset, .unset, .unset, .unset, .unset, .unset, .unset, .unset, .unset, .unset, .unset, .unset] [])) rfl (hb hby at_119) _ k) ?_
    refine own_by (T' := T45) (f' := (mkF m 124 #[.val (.long i0), .second, .val (.long i1), .second, .val (.int i2), .val (.long av), .second, .val (.long bw), .second, .val (.int ng), .val (.int pq), .val (.ref b35), .val (.long a1), .second, .val (.long al), .second, .val (.long (232830643 : Int64)), .second, .unset, .unset, .unset, .unset, .unset, .unset, .unset, .unset, .unset, .unset, .unset, .unset, .unset, .unset, .unset, .unset, .unset, .unset, .unset, .unset, .unset, .unset, .unset, .unset, .unset, .unset, .unset, .unset, .unset, .unset, .unset, .unset, .unset] [])) (fun t k => XS.lstore X45.here hx rfl (hb hby at_122) rfl (l' := #[.val (.long i0), .second, .val (.long i1), .second, .val (.int i2), .val (.long av), .second, .val (.long bw), .second, .val (.int ng), .val (.int pq), .val (.ref b35), .val (.long a1), .second, .val (.long al), .second, .val (.long (232830643 : Int64)), .second, .unset, .unset, .unset, .unset, .unset, .unset, .unset, .unset, .unset, .unset, .unset, .unset, .unset, .unset, .unset, .unset, .unset, .unset, .unset, .unset, .unset, .unset, .unset, .unset, .unset, .unset, .unset, .unset, .unset, .unset, .unset, .unset, .unset]) rfl k) ?_
    refine own_by (T' := T45) (f' := (mkF m 127 #[.val (.long i0), .second, .val (.long i1), .second, .val (.int i2), .val (.long av), .second, .val (.long bw), .second, .val (.int ng), .val (.int pq), .val (.ref b35), .val (.long a1), .second, .val (.long al), .second, .val (.long (232830643 : Int64)), .second, .unset, .unset, .unset, .unset, .unset, .unset, .unset, .unset, .unset, .unset, .unset, .unset, .unset, .unset, .unset, .unset, .unset, .unset, .unset, .unset, .unset, .unset, .unset, .unset, .unset, .unset, .unset, .unset, .unset, .unset, .unset, .unset, .unset] [(.long (2808348672 : Int64))])) (fun t k => X45.ldc2Long hx hown (mvT hZ (own_w hw 29 rfl)) (g := (mkF m 124 #[.val (.long i0), .second, .val (.long i1), .second, .val (.int i2), .val (.long av), .second, .val (.long bw), .second, .val (.int ng), .val (.int pq), .val (.ref b35), .val (.long a1), .second, .val (.long al), .second, .val (.long (232830643 : Int64)), .second, .unset, .unset, .unset, .unset, .unset, .unset, .unset, .unset, .unset, .unset, .unset, .unset, .unset, .unset, .unset, .unset, .unset, .unset, .unset, .unset, .unset, .unset, .unset, .unset, .unset, .unset, .unset, .unset, .unset, .unset, .unset, .unset, .unset] [])) rfl (hb hby at_124) _ k) ?_
    refine own_by (T' := T45) (f' := (mkF m 129 #[.val (.long i0), .second, .val (.long i1), .second, .val (.int i2), .val (.long av), .second, .val (.long bw), .second, .val (.int ng), .val (.int pq), .val (.ref b35), .val (.long a1), .second, .val (.long al), .second, .val (.long (232830643 : Int64)), .second, .val (.long (2808348672 : Int64)), .second, .unset, .unset, .unset, .unset, .unset, .unset, .unset, .unset, .unset, .unset, .unset, .unset, .unset, .unset, .unset, .unset, .unset, .unset, .unset, .unset, .unset, .unset, .unset, .unset, .unset, .unset, .unset, .unset, .unset, .unset, .unset] [])) (fun t k => XS.lstore X45.here hx rfl (hb hby at_127) rfl (l' := #[.val (.long i0), .second, .val (.long i1), .second, .val (.int i2), .val (.long av), .second, .val (.long bw), .second, .val (.int ng), .val (.int pq), .val (.ref b35), .val (.long a1), .second, .val (.long al), .second, .val (.long (232830643 : Int64)), .second, .val (.long (2808348672 : Int64)), .second, .unset, .unset, .unset, .unset, .unset, .unset, .unset, .unset, .unset, .unset, .unset, .unset, .unset, .unset, .unset, .unset, .unset, .unset, .unset, .unset, .unset, .unset, .unset, .unset, .unset, .unset, .unset, .unset, .unset, .unset, .unset]) rfl k) ?_
    refine own_by (T' := T45) (f' := (mkF m 131 #[.val (.long i0), .second, .val (.long i1), .second, .val (.int i2), .val (.long av), .second, .val (.long bw), .second, .val (.int ng), .val (.int pq), .val (.ref b35), .val (.long a1), .second, .val (.long al), .second, .val (.long (232830643 : Int64)), .second, .val (.long (2808348672 : Int64)), .second, .unset, .unset, .unset, .unset, .unset, .unset, .unset, .unset, .unset, .unset, .unset, .unset, .unset, .unset, .unset, .unset, .unset, .unset, .unset, .unset, .unset, .unset, .unset, .unset, .unset, .unset, .unset, .unset, .unset, .unset, .unset] [(.long al)])) (fun t k => XS.lload X45.here hx rfl (hb hby at_129) rfl k) ?_
    refine own_by (T' := T45) (f' := (mkF m 133 #[.val (.long i0), .second, .val (.long i1), .second, .val (.int i2), .val (.long av), .second, .val (.long bw), .second, .val (.int ng), .val (.int pq), .val (.ref b35), .val (.long a1), .second, .val (.long al), .second, .val (.long (232830643 : Int64)), .second, .val (.long (2808348672 : Int64)), .second, .unset, .unset, .unset, .unset, .unset, .unset, .unset, .unset, .unset, .unset, .unset, .unset, .unset, .unset, .unset, .unset, .unset, .unset, .unset, .unset, .unset, .unset, .unset, .unset, .unset, .unset, .unset, .unset, .unset, .unset, .unset] [(.long (2808348672 : Int64)), (.long al)])) (fun t k => XS.lload X45.here hx rfl (hb hby at_131) rfl k) ?_
    refine own_by (T' := T45) (f' := (mkF m 134 #[.val (.long i0), .second, .val (.long i1), .second, .val (.int i2), .val (.long av), .second, .val (.long bw), .second, .val (.int ng), .val (.int pq), .val (.ref b35), .val (.long a1), .second, .val (.long al), .second, .val (.long (232830643 : Int64)), .second, .val (.long (2808348672 : Int64)), .second, .unset, .unset, .unset, .unset, .unset, .unset, .unset, .unset, .unset, .unset, .unset, .unset, .unset, .unset, .unset, .unset, .unset, .unset, .unset, .unset, .unset, .unset, .unset, .unset, .unset, .unset, .unset, .unset, .unset, .unset, .unset] [(.long (al * (2808348672 : Int64)))])) (fun t k => XS.lmul X45.here hx rfl (hb hby at_133) rfl k) ?_
    obtain ⟨t0, ht0⟩ : ∃ z : Int64, z = (al * (2808348672 : Int64)) := ⟨_, rfl⟩
    rw [← ht0]
    show own_Go p e below _ T45 (mkF m 134 #[.val (.long i0), .second, .val (.long i1), .second, .val (.int i2), .val (.long av), .second, .val (.long bw), .second, .val (.int ng), .val (.int pq), .val (.ref b35), .val (.long a1), .second, .val (.long al), .second, .val (.long (232830643 : Int64)), .second, .val (.long (2808348672 : Int64)), .second, .unset, .unset, .unset, .unset, .unset, .unset, .unset, .unset, .unset, .unset, .unset, .unset, .unset, .unset, .unset, .unset, .unset, .unset, .unset, .unset, .unset, .unset, .unset, .unset, .unset, .unset, .unset, .unset, .unset, .unset, .unset] [(.long t0)])
    refine own_by (T' := T45) (f' := (mkF m 136 #[.val (.long i0), .second, .val (.long i1), .second, .val (.int i2), .val (.long av), .second, .val (.long bw), .second, .val (.int ng), .val (.int pq), .val (.ref b35), .val (.long a1), .second, .val (.long al), .second, .val (.long (232830643 : Int64)), .second, .val (.long (2808348672 : Int64)), .second, .val (.long t0), .second, .unset, .unset, .unset, .unset, .unset, .unset, .unset, .unset, .unset, .unset, .unset, .unset, .unset, .unset, .unset, .unset, .unset, .unset, .unset, .unset, .unset, .unset, .unset, .unset, .unset, .unset, .unset, .unset, .unset] [])) (fun t k => XS.lstore X45.here hx rfl (hb hby at_134) rfl (l' := #[.val (.long i0), .second, .val (.long i1), .second, .val (.int i2), .val (.long av), .second, .val (.long bw), .second, .val (.int ng), .val (.int pq), .val (.ref b35), .val (.long a1), .second, .val (.long al), .second, .val (.long (232830643 : Int64)), .second, .val (.long (2808348672 : Int64)), .second, .val (.long t0), .second, .unset, .unset, .unset, .unset, .unset, .unset, .unset, .unset, .unset, .unset, .unset, .unset, .unset, .unset, .unset, .unset, .unset, .unset, .unset, .unset, .unset, .unset, .unset, .unset, .unset, .unset, .unset, .unset, .unset]) rfl k) ?_
    refine own_by (T' := T45) (f' := (mkF m 138 #[.val (.long i0), .second, .val (.long i1), .second, .val (.int i2), .val (.long av), .second, .val (.long bw), .second, .val (.int ng), .val (.int pq), .val (.ref b35), .val (.long a1), .second, .val (.long al), .second, .val (.long (232830643 : Int64)), .second, .val (.long (2808348672 : Int64)), .second, .val (.long t0), .second, .unset, .unset, .unset, .unset, .unset, .unset, .unset, .unset, .unset, .unset, .unset, .unset, .unset, .unset, .unset, .unset, .unset, .unset, .unset, .unset, .unset, .unset, .unset, .unset, .unset, .unset, .unset, .unset, .unset] [(.long a1)])) (fun t k => XS.lload X45.here hx rfl (hb hby at_136) rfl k) ?_
    refine own_by (T' := T45) (f' := (mkF m 140 #[.val (.long i0), .second, .val (.long i1), .second, .val (.int i2), .val (.long av), .second, .val (.long bw), .second, .val (.int ng), .val (.int pq), .val (.ref b35), .val (.long a1), .second, .val (.long al), .second, .val (.long (232830643 : Int64)), .second, .val (.long (2808348672 : Int64)), .second, .val (.long t0), .second, .unset, .unset, .unset, .unset, .unset, .unset, .unset, .unset, .unset, .unset, .unset, .unset, .unset, .unset, .unset, .unset, .unset, .unset, .unset, .unset, .unset, .unset, .unset, .unset, .unset, .unset, .unset, .unset, .unset] [(.long (2808348672 : Int64)), (.long a1)])) (fun t k => XS.lload X45.here hx rfl (hb hby at_138) rfl k) ?_
    refine own_by (T' := T45) (f' := (mkF m 141 #[.val (.long i0), .second, .val (.long i1), .second, .val (.int i2), .val (.long av), .second, .val (.long bw), .second, .val (.int ng), .val (.int pq), .val (.ref b35), .val (.long a1), .second, .val (.long al), .second, .val (.long (232830643 : Int64)), .second, .val (.long (2808348672 : Int64)), .second, .val (.long t0), .second, .unset, .unset, .unset, .unset, .unset, .unset, .unset, .unset, .unset, .unset, .unset, .unset, .unset, .unset, .unset, .unset, .unset, .unset, .unset, .unset, .unset, .unset, .unset, .unset, .unset, .unset, .unset, .unset, .unset] [(.long (a1 * (2808348672 : Int64)))])) (fun t k => XS.lmul X45.here hx rfl (hb hby at_140) rfl k) ?_
    obtain ⟨m1, hm1⟩ : ∃ z : Int64, z = (a1 * (2808348672 : Int64)) := ⟨_, rfl⟩
    rw [← hm1]
    show own_Go p e below _ T45 (mkF m 141 #[.val (.long i0), .second, .val (.long i1), .second, .val (.int i2), .val (.long av), .second, .val (.long bw), .second, .val (.int ng), .val (.int pq), .val (.ref b35), .val (.long a1), .second, .val (.long al), .second, .val (.long (232830643 : Int64)), .second, .val (.long (2808348672 : Int64)), .second, .val (.long t0), .second, .unset, .unset, .unset, .unset, .unset, .unset, .unset, .unset, .unset, .unset, .unset, .unset, .unset, .unset, .unset, .unset, .unset, .unset, .unset, .unset, .unset, .unset, .unset, .unset, .unset, .unset, .unset, .unset, .unset] [(.long m1)])
    refine own_by (T' := T45) (f' := (mkF m 143 #[.val (.long i0), .second, .val (.long i1), .second, .val (.int i2), .val (.long av), .second, .val (.long bw), .second, .val (.int ng), .val (.int pq), .val (.ref b35), .val (.long a1), .second, .val (.long al), .second, .val (.long (232830643 : Int64)), .second, .val (.long (2808348672 : Int64)), .second, .val (.long t0), .second, .val (.long m1), .second, .unset, .unset, .unset, .unset, .unset, .unset, .unset, .unset, .unset, .unset, .unset, .unset, .unset, .unset, .unset, .unset, .unset, .unset, .unset, .unset, .unset, .unset, .unset, .unset, .unset, .unset, .unset] [])) (fun t k => XS.lstore X45.here hx rfl (hb hby at_141) rfl (l' := #[.val (.long i0), .second, .val (.long i1), .second, .val (.int i2), .val (.long av), .second, .val (.long bw), .second, .val (.int ng), .val (.int pq), .val (.ref b35), .val (.long a1), .second, .val (.long al), .second, .val (.long (232830643 : Int64)), .second, .val (.long (2808348672 : Int64)), .second, .val (.long t0), .second, .val (.long m1), .second, .unset, .unset, .unset, .unset, .unset, .unset, .unset, .unset, .unset, .unset, .unset, .unset, .unset, .unset, .unset, .unset, .unset, .unset, .unset, .unset, .unset, .unset, .unset, .unset, .unset, .unset, .unset]) rfl k) ?_
    refine own_by (T' := T45) (f' := (mkF m 145 #[.val (.long i0), .second, .val (.long i1), .second, .val (.int i2), .val (.long av), .second, .val (.long bw), .second, .val (.int ng), .val (.int pq), .val (.ref b35), .val (.long a1), .second, .val (.long al), .second, .val (.long (232830643 : Int64)), .second, .val (.long (2808348672 : Int64)), .second, .val (.long t0), .second, .val (.long m1), .second, .unset, .unset, .unset, .unset, .unset, .unset, .unset, .unset, .unset, .unset, .unset, .unset, .unset, .unset, .unset, .unset, .unset, .unset, .unset, .unset, .unset, .unset, .unset, .unset, .unset, .unset, .unset] [(.long al)])) (fun t k => XS.lload X45.here hx rfl (hb hby at_143) rfl k) ?_
    refine own_by (T' := T45) (f' := (mkF m 147 #[.val (.long i0), .second, .val (.long i1), .second, .val (.int i2), .val (.long av), .second, .val (.long bw), .second, .val (.int ng), .val (.int pq), .val (.ref b35), .val (.long a1), .second, .val (.long al), .second, .val (.long (232830643 : Int64)), .second, .val (.long (2808348672 : Int64)), .second, .val (.long t0), .second, .val (.long m1), .second, .unset, .unset, .unset, .unset, .unset, .unset, .unset, .unset, .unset, .unset, .unset, .unset, .unset, .unset, .unset, .unset, .unset, .unset, .unset, .unset, .unset, .unset, .unset, .unset, .unset, .unset, .unset] [(.long (232830643 : Int64)), (.long al)])) (fun t k => XS.lload X45.here hx rfl (hb hby at_145) rfl k) ?_
    refine own_by (T' := T45) (f' := (mkF m 148 #[.val (.long i0), .second, .val (.long i1), .second, .val (.int i2), .val (.long av), .second, .val (.long bw), .second, .val (.int ng), .val (.int pq), .val (.ref b35), .val (.long a1), .second, .val (.long al), .second, .val (.long (232830643 : Int64)), .second, .val (.long (2808348672 : Int64)), .second, .val (.long t0), .second, .val (.long m1), .second, .unset, .unset, .unset, .unset, .unset, .unset, .unset, .unset, .unset, .unset, .unset, .unset, .unset, .unset, .unset, .unset, .unset, .unset, .unset, .unset, .unset, .unset, .unset, .unset, .unset, .unset, .unset] [(.long (al * (232830643 : Int64)))])) (fun t k => XS.lmul X45.here hx rfl (hb hby at_147) rfl k) ?_
    obtain ⟨m2, hm2⟩ : ∃ z : Int64, z = (al * (232830643 : Int64)) := ⟨_, rfl⟩
    rw [← hm2]
    show own_Go p e below _ T45 (mkF m 148 #[.val (.long i0), .second, .val (.long i1), .second, .val (.int i2), .val (.long av), .second, .val (.long bw), .second, .val (.int ng), .val (.int pq), .val (.ref b35), .val (.long a1), .second, .val (.long al), .second, .val (.long (232830643 : Int64)), .second, .val (.long (2808348672 : Int64)), .second, .val (.long t0), .second, .val (.long m1), .second, .unset, .unset, .unset, .unset, .unset, .unset, .unset, .unset, .unset, .unset, .unset, .unset, .unset, .unset, .unset, .unset, .unset, .unset, .unset, .unset, .unset, .unset, .unset, .unset, .unset, .unset, .unset] [(.long m2)])
    refine own_by (T' := T45) (f' := (mkF m 150 #[.val (.long i0), .second, .val (.long i1), .second, .val (.int i2), .val (.long av), .second, .val (.long bw), .second, .val (.int ng), .val (.int pq), .val (.ref b35), .val (.long a1), .second, .val (.long al), .second, .val (.long (232830643 : Int64)), .second, .val (.long (2808348672 : Int64)), .second, .val (.long t0), .second, .val (.long m1), .second, .val (.long m2), .second, .unset, .unset, .unset, .unset, .unset, .unset, .unset, .unset, .unset, .unset, .unset, .unset, .unset, .unset, .unset, .unset, .unset, .unset, .unset, .unset, .unset, .unset, .unset, .unset, .unset] [])) (fun t k => XS.lstore X45.here hx rfl (hb hby at_148) rfl (l' := #[.val (.long i0), .second, .val (.long i1), .second, .val (.int i2), .val (.long av), .second, .val (.long bw), .second, .val (.int ng), .val (.int pq), .val (.ref b35), .val (.long a1), .second, .val (.long al), .second, .val (.long (232830643 : Int64)), .second, .val (.long (2808348672 : Int64)), .second, .val (.long t0), .second, .val (.long m1), .second, .val (.long m2), .second, .unset, .unset, .unset, .unset, .unset, .unset, .unset, .unset, .unset, .unset, .unset, .unset, .unset, .unset, .unset, .unset, .unset, .unset, .unset, .unset, .unset, .unset, .unset, .unset, .unset]) rfl k) ?_
    refine own_by (T' := T45) (f' := (mkF m 152 #[.val (.long i0), .second, .val (.long i1), .second, .val (.int i2), .val (.long av), .second, .val (.long bw), .second, .val (.int ng), .val (.int pq), .val (.ref b35), .val (.long a1), .second, .val (.long al), .second, .val (.long (232830643 : Int64)), .second, .val (.long (2808348672 : Int64)), .second, .val (.long t0), .second, .val (.long m1), .second, .val (.long m2), .second, .unset, .unset, .unset, .unset, .unset, .unset, .unset, .unset, .unset, .unset, .unset, .unset, .unset, .unset, .unset, .unset, .unset, .unset, .unset, .unset, .unset, .unset, .unset, .unset, .unset] [(.long a1)])) (fun t k => XS.lload X45.here hx rfl (hb hby at_150) rfl k) ?_
    refine own_by (T' := T45) (f' := (mkF m 154 #[.val (.long i0), .second, .val (.long i1), .second, .val (.int i2), .val (.long av), .second, .val (.long bw), .second, .val (.int ng), .val (.int pq), .val (.ref b35), .val (.long a1), .second, .val (.long al), .second, .val (.long (232830643 : Int64)), .second, .val (.long (2808348672 : Int64)), .second, .val (.long t0), .second, .val (.long m1), .second, .val (.long m2), .second, .unset, .unset, .unset, .unset, .unset, .unset, .unset, .unset, .unset, .unset, .unset, .unset, .unset, .unset, .unset, .unset, .unset, .unset, .unset, .unset, .unset, .unset, .unset, .unset, .unset] [(.long (232830643 : Int64)), (.long a1)])) (fun t k => XS.lload X45.here hx rfl (hb hby at_152) rfl k) ?_
    refine own_by (T' := T45) (f' := (mkF m 155 #[.val (.long i0), .second, .val (.long i1), .second, .val (.int i2), .val (.long av), .second, .val (.long bw), .second, .val (.int ng), .val (.int pq), .val (.ref b35), .val (.long a1), .second, .val (.long al), .second, .val (.long (232830643 : Int64)), .second, .val (.long (2808348672 : Int64)), .second, .val (.long t0), .second, .val (.long m1), .second, .val (.long m2), .second, .unset, .unset, .unset, .unset, .unset, .unset, .unset, .unset, .unset, .unset, .unset, .unset, .unset, .unset, .unset, .unset, .unset, .unset, .unset, .unset, .unset, .unset, .unset, .unset, .unset] [(.long (a1 * (232830643 : Int64)))])) (fun t k => XS.lmul X45.here hx rfl (hb hby at_154) rfl k) ?_
    obtain ⟨hh, hhh⟩ : ∃ z : Int64, z = (a1 * (232830643 : Int64)) := ⟨_, rfl⟩
    rw [← hhh]
    show own_Go p e below _ T45 (mkF m 155 #[.val (.long i0), .second, .val (.long i1), .second, .val (.int i2), .val (.long av), .second, .val (.long bw), .second, .val (.int ng), .val (.int pq), .val (.ref b35), .val (.long a1), .second, .val (.long al), .second, .val (.long (232830643 : Int64)), .second, .val (.long (2808348672 : Int64)), .second, .val (.long t0), .second, .val (.long m1), .second, .val (.long m2), .second, .unset, .unset, .unset, .unset, .unset, .unset, .unset, .unset, .unset, .unset, .unset, .unset, .unset, .unset, .unset, .unset, .unset, .unset, .unset, .unset, .unset, .unset, .unset, .unset, .unset] [(.long hh)])
    refine own_by (T' := T45) (f' := (mkF m 157 #[.val (.long i0), .second, .val (.long i1), .second, .val (.int i2), .val (.long av), .second, .val (.long bw), .second, .val (.int ng), .val (.int pq), .val (.ref b35), .val (.long a1), .second, .val (.long al), .second, .val (.long (232830643 : Int64)), .second, .val (.long (2808348672 : Int64)), .second, .val (.long t0), .second, .val (.long m1), .second, .val (.long m2), .second, .val (.long hh), .second, .unset, .unset, .unset, .unset, .unset, .unset, .unset, .unset, .unset, .unset, .unset, .unset, .unset, .unset, .unset, .unset, .unset, .unset, .unset, .unset, .unset, .unset, .unset] [])) (fun t k => XS.lstore X45.here hx rfl (hb hby at_155) rfl (l' := #[.val (.long i0), .second, .val (.long i1), .second, .val (.int i2), .val (.long av), .second, .val (.long bw), .second, .val (.int ng), .val (.int pq), .val (.ref b35), .val (.long a1), .second, .val (.long al), .second, .val (.long (232830643 : Int64)), .second, .val (.long (2808348672 : Int64)), .second, .val (.long t0), .second, .val (.long m1), .second, .val (.long m2), .second, .val (.long hh), .second, .unset, .unset, .unset, .unset, .unset, .unset, .unset, .unset, .unset, .unset, .unset, .unset, .unset, .unset, .unset, .unset, .unset, .unset, .unset, .unset, .unset, .unset, .unset]) rfl k) ?_
    refine own_by (T' := T45) (f' := (mkF m 159 #[.val (.long i0), .second, .val (.long i1), .second, .val (.int i2), .val (.long av), .second, .val (.long bw), .second, .val (.int ng), .val (.int pq), .val (.ref b35), .val (.long a1), .second, .val (.long al), .second, .val (.long (232830643 : Int64)), .second, .val (.long (2808348672 : Int64)), .second, .val (.long t0), .second, .val (.long m1), .second, .val (.long m2), .second, .val (.long hh), .second, .unset, .unset, .unset, .unset, .unset, .unset, .unset, .unset, .unset, .unset, .unset, .unset, .unset, .unset, .unset, .unset, .unset, .unset, .unset, .unset, .unset, .unset, .unset] [(.long t0)])) (fun t k => XS.lload X45.here hx rfl (hb hby at_157) rfl k) ?_
    refine own_by (T' := T45) (f' := (mkF m 161 #[.val (.long i0), .second, .val (.long i1), .second, .val (.int i2), .val (.long av), .second, .val (.long bw), .second, .val (.int ng), .val (.int pq), .val (.ref b35), .val (.long a1), .second, .val (.long al), .second, .val (.long (232830643 : Int64)), .second, .val (.long (2808348672 : Int64)), .second, .val (.long t0), .second, .val (.long m1), .second, .val (.long m2), .second, .val (.long hh), .second, .unset, .unset, .unset, .unset, .unset, .unset, .unset, .unset, .unset, .unset, .unset, .unset, .unset, .unset, .unset, .unset, .unset, .unset, .unset, .unset, .unset, .unset, .unset] [(.int (32 : Int32)), (.long t0)])) (fun t k => XS.bipush X45.here hx rfl (hb hby at_159) k) ?_
    refine own_by (T' := T45) (f' := (mkF m 162 #[.val (.long i0), .second, .val (.long i1), .second, .val (.int i2), .val (.long av), .second, .val (.long bw), .second, .val (.int ng), .val (.int pq), .val (.ref b35), .val (.long a1), .second, .val (.long al), .second, .val (.long (232830643 : Int64)), .second, .val (.long (2808348672 : Int64)), .second, .val (.long t0), .second, .val (.long m1), .second, .val (.long m2), .second, .val (.long hh), .second, .unset, .unset, .unset, .unset, .unset, .unset, .unset, .unset, .unset, .unset, .unset, .unset, .unset, .unset, .unset, .unset, .unset, .unset, .unset, .unset, .unset, .unset, .unset] [(.long ((t0.toUInt64 >>> ((32 : Int32) &&& 0x3f).toInt64.toUInt64).toInt64))])) (fun t k => XS.lushr X45.here hx rfl (hb hby at_161) rfl k) ?_
    refine own_by (T' := T45) (f' := (mkF m 164 #[.val (.long i0), .second, .val (.long i1), .second, .val (.int i2), .val (.long av), .second, .val (.long bw), .second, .val (.int ng), .val (.int pq), .val (.ref b35), .val (.long a1), .second, .val (.long al), .second, .val (.long (232830643 : Int64)), .second, .val (.long (2808348672 : Int64)), .second, .val (.long t0), .second, .val (.long m1), .second, .val (.long m2), .second, .val (.long hh), .second, .unset, .unset, .unset, .unset, .unset, .unset, .unset, .unset, .unset, .unset, .unset, .unset, .unset, .unset, .unset, .unset, .unset, .unset, .unset, .unset, .unset, .unset, .unset] [(.long m1), (.long ((t0.toUInt64 >>> ((32 : Int32) &&& 0x3f).toInt64.toUInt64).toInt64))])) (fun t k => XS.lload X45.here hx rfl (hb hby at_162) rfl k) ?_
    refine own_by (T' := T45) (f' := (mkF m 167 #[.val (.long i0), .second, .val (.long i1), .second, .val (.int i2), .val (.long av), .second, .val (.long bw), .second, .val (.int ng), .val (.int pq), .val (.ref b35), .val (.long a1), .second, .val (.long al), .second, .val (.long (232830643 : Int64)), .second, .val (.long (2808348672 : Int64)), .second, .val (.long t0), .second, .val (.long m1), .second, .val (.long m2), .second, .val (.long hh), .second, .unset, .unset, .unset, .unset, .unset, .unset, .unset, .unset, .unset, .unset, .unset, .unset, .unset, .unset, .unset, .unset, .unset, .unset, .unset, .unset, .unset, .unset, .unset] [(.long (4294967295 : Int64)), (.long m1), (.long ((t0.toUInt64 >>> ((32 : Int32) &&& 0x3f).toInt64.toUInt64).toInt64))])) (fun t k => X45.ldc2Long hx hown (mvT hZ (own_w hw 27 rfl)) (g := (mkF m 164 #[.val (.long i0), .second, .val (.long i1), .second, .val (.int i2), .val (.long av), .second, .val (.long bw), .second, .val (.int ng), .val (.int pq), .val (.ref b35), .val (.long a1), .second, .val (.long al), .second, .val (.long (232830643 : Int64)), .second, .val (.long (2808348672 : Int64)), .second, .val (.long t0), .second, .val (.long m1), .second, .val (.long m2), .second, .val (.long hh), .second, .unset, .unset, .unset, .unset, .unset, .unset, .unset, .unset, .unset, .unset, .unset, .unset, .unset, .unset, .unset, .unset, .unset, .unset, .unset, .unset, .unset, .unset, .unset] [(.long m1), (.long ((t0.toUInt64 >>> ((32 : Int32) &&& 0x3f).toInt64.toUInt64).toInt64))])) rfl (hb hby at_164) _ k) ?_
    refine own_by (T' := T45) (f' := (mkF m 168 #[.val (.long i0), .second, .val (.long i1), .second, .val (.int i2), .val (.long av), .second, .val (.long bw), .second, .val (.int ng), .val (.int pq), .val (.ref b35), .val (.long a1), .second, .val (.long al), .second, .val (.long (232830643 : Int64)), .second, .val (.long (2808348672 : Int64)), .second, .val (.long t0), .second, .val (.long m1), .second, .val (.long m2), .second, .val (.long hh), .second, .unset, .unset, .unset, .unset, .unset, .unset, .unset, .unset, .unset, .unset, .unset, .unset, .unset, .unset, .unset, .unset, .unset, .unset, .unset, .unset, .unset, .unset, .unset] [(.long (m1 &&& (4294967295 : Int64))), (.long ((t0.toUInt64 >>> ((32 : Int32) &&& 0x3f).toInt64.toUInt64).toInt64))])) (fun t k => XS.land X45.here hx rfl (hb hby at_167) rfl k) ?_
    refine own_by (T' := T45) (f' := (mkF m 169 #[.val (.long i0), .second, .val (.long i1), .second, .val (.int i2), .val (.long av), .second, .val (.long bw), .second, .val (.int ng), .val (.int pq), .val (.ref b35), .val (.long a1), .second, .val (.long al), .second, .val (.long (232830643 : Int64)), .second, .val (.long (2808348672 : Int64)), .second, .val (.long t0), .second, .val (.long m1), .second, .val (.long m2), .second, .val (.long hh), .second, .unset, .unset, .unset, .unset, .unset, .unset, .unset, .unset, .unset, .unset, .unset, .unset, .unset, .unset, .unset, .unset, .unset, .unset, .unset, .unset, .unset, .unset, .unset] [(.long (((t0.toUInt64 >>> ((32 : Int32) &&& 0x3f).toInt64.toUInt64).toInt64) + (m1 &&& (4294967295 : Int64))))])) (fun t k => XS.ladd X45.here hx rfl (hb hby at_168) rfl k) ?_
    refine own_by (T' := T45) (f' := (mkF m 171 #[.val (.long i0), .second, .val (.long i1), .second, .val (.int i2), .val (.long av), .second, .val (.long bw), .second, .val (.int ng), .val (.int pq), .val (.ref b35), .val (.long a1), .second, .val (.long al), .second, .val (.long (232830643 : Int64)), .second, .val (.long (2808348672 : Int64)), .second, .val (.long t0), .second, .val (.long m1), .second, .val (.long m2), .second, .val (.long hh), .second, .unset, .unset, .unset, .unset, .unset, .unset, .unset, .unset, .unset, .unset, .unset, .unset, .unset, .unset, .unset, .unset, .unset, .unset, .unset, .unset, .unset, .unset, .unset] [(.long m2), (.long (((t0.toUInt64 >>> ((32 : Int32) &&& 0x3f).toInt64.toUInt64).toInt64) + (m1 &&& (4294967295 : Int64))))])) (fun t k => XS.lload X45.here hx rfl (hb hby at_169) rfl k) ?_
    refine own_by (T' := T45) (f' := (mkF m 174 #[.val (.long i0), .second, .val (.long i1), .second, .val (.int i2), .val (.long av), .second, .val (.long bw), .second, .val (.int ng), .val (.int pq), .val (.ref b35), .val (.long a1), .second, .val (.long al), .second, .val (.long (232830643 : Int64)), .second, .val (.long (2808348672 : Int64)), .second, .val (.long t0), .second, .val (.long m1), .second, .val (.long m2), .second, .val (.long hh), .second, .unset, .unset, .unset, .unset, .unset, .unset, .unset, .unset, .unset, .unset, .unset, .unset, .unset, .unset, .unset, .unset, .unset, .unset, .unset, .unset, .unset, .unset, .unset] [(.long (4294967295 : Int64)), (.long m2), (.long (((t0.toUInt64 >>> ((32 : Int32) &&& 0x3f).toInt64.toUInt64).toInt64) + (m1 &&& (4294967295 : Int64))))])) (fun t k => X45.ldc2Long hx hown (mvT hZ (own_w hw 27 rfl)) (g := (mkF m 171 #[.val (.long i0), .second, .val (.long i1), .second, .val (.int i2), .val (.long av), .second, .val (.long bw), .second, .val (.int ng), .val (.int pq), .val (.ref b35), .val (.long a1), .second, .val (.long al), .second, .val (.long (232830643 : Int64)), .second, .val (.long (2808348672 : Int64)), .second, .val (.long t0), .second, .val (.long m1), .second, .val (.long m2), .second, .val (.long hh), .second, .unset, .unset, .unset, .unset, .unset, .unset, .unset, .unset, .unset, .unset, .unset, .unset, .unset, .unset, .unset, .unset, .unset, .unset, .unset, .unset, .unset, .unset, .unset] [(.long m2), (.long (((t0.toUInt64 >>> ((32 : Int32) &&& 0x3f).toInt64.toUInt64).toInt64) + (m1 &&& (4294967295 : Int64))))])) rfl (hb hby at_171) _ k) ?_
    refine own_by (T' := T45) (f' := (mkF m 175 #[.val (.long i0), .second, .val (.long i1), .second, .val (.int i2), .val (.long av), .second, .val (.long bw), .second, .val (.int ng), .val (.int pq), .val (.ref b35), .val (.long a1), .second, .val (.long al), .second, .val (.long (232830643 : Int64)), .second, .val (.long (2808348672 : Int64)), .second, .val (.long t0), .second, .val (.long m1), .second, .val (.long m2), .second, .val (.long hh), .second, .unset, .unset, .unset, .unset, .unset, .unset, .unset, .unset, .unset, .unset, .unset, .unset, .unset, .unset, .unset, .unset, .unset, .unset, .unset, .unset, .unset, .unset, .unset] [(.long (m2 &&& (4294967295 : Int64))), (.long (((t0.toUInt64 >>> ((32 : Int32) &&& 0x3f).toInt64.toUInt64).toInt64) + (m1 &&& (4294967295 : Int64))))])) (fun t k => XS.land X45.here hx rfl (hb hby at_174) rfl k) ?_
    refine own_by (T' := T45) (f' := (mkF m 176 #[.val (.long i0), .second, .val (.long i1), .second, .val (.int i2), .val (.long av), .second, .val (.long bw), .second, .val (.int ng), .val (.int pq), .val (.ref b35), .val (.long a1), .second, .val (.long al), .second, .val (.long (232830643 : Int64)), .second, .val (.long (2808348672 : Int64)), .second, .val (.long t0), .second, .val (.long m1), .second, .val (.long m2), .second, .val (.long hh), .second, .unset, .unset, .unset, .unset, .unset, .unset, .unset, .unset, .unset, .unset, .unset, .unset, .unset, .unset, .unset, .unset, .unset, .unset, .unset, .unset, .unset, .unset, .unset] [(.long ((((t0.toUInt64 >>> ((32 : Int32) &&& 0x3f).toInt64.toUInt64).toInt64) + (m1 &&& (4294967295 : Int64))) + (m2 &&& (4294967295 : Int64))))])) (fun t k => XS.ladd X45.here hx rfl (hb hby at_175) rfl k) ?_
    obtain ⟨cc, hcc⟩ : ∃ z : Int64, z = ((((t0.toUInt64 >>> ((32 : Int32) &&& 0x3f).toInt64.toUInt64).toInt64) + (m1 &&& (4294967295 : Int64))) + (m2 &&& (4294967295 : Int64))) := ⟨_, rfl⟩
    rw [← hcc]
    show own_Go p e below _ T45 (mkF m 176 #[.val (.long i0), .second, .val (.long i1), .second, .val (.int i2), .val (.long av), .second, .val (.long bw), .second, .val (.int ng), .val (.int pq), .val (.ref b35), .val (.long a1), .second, .val (.long al), .second, .val (.long (232830643 : Int64)), .second, .val (.long (2808348672 : Int64)), .second, .val (.long t0), .second, .val (.long m1), .second, .val (.long m2), .second, .val (.long hh), .second, .unset, .unset, .unset, .unset, .unset, .unset, .unset, .unset, .unset, .unset, .unset, .unset, .unset, .unset, .unset, .unset, .unset, .unset, .unset, .unset, .unset, .unset, .unset] [(.long cc)])
    refine own_by (T' := T45) (f' := (mkF m 178 #[.val (.long i0), .second, .val (.long i1), .second, .val (.int i2), .val (.long av), .second, .val (.long bw), .second, .val (.int ng), .val (.int pq), .val (.ref b35), .val (.long a1), .second, .val (.long al), .second, .val (.long (232830643 : Int64)), .second, .val (.long (2808348672 : Int64)), .second, .val (.long t0), .second, .val (.long m1), .second, .val (.long m2), .second, .val (.long hh), .second, .val (.long cc), .second, .unset, .unset, .unset, .unset, .unset, .unset, .unset, .unset, .unset, .unset, .unset, .unset, .unset, .unset, .unset, .unset, .unset, .unset, .unset, .unset, .unset] [])) (fun t k => XS.lstore X45.here hx rfl (hb hby at_176) rfl (l' := #[.val (.long i0), .second, .val (.long i1), .second, .val (.int i2), .val (.long av), .second, .val (.long bw), .second, .val (.int ng), .val (.int pq), .val (.ref b35), .val (.long a1), .second, .val (.long al), .second, .val (.long (232830643 : Int64)), .second, .val (.long (2808348672 : Int64)), .second, .val (.long t0), .second, .val (.long m1), .second, .val (.long m2), .second, .val (.long hh), .second, .val (.long cc), .second, .unset, .unset, .unset, .unset, .unset, .unset, .unset, .unset, .unset, .unset, .unset, .unset, .unset, .unset, .unset, .unset, .unset, .unset, .unset, .unset, .unset]) rfl k) ?_
    refine own_by (T' := T45) (f' := (mkF m 180 #[.val (.long i0), .second, .val (.long i1), .second, .val (.int i2), .val (.long av), .second, .val (.long bw), .second, .val (.int ng), .val (.int pq), .val (.ref b35), .val (.long a1), .second, .val (.long al), .second, .val (.long (232830643 : Int64)), .second, .val (.long (2808348672 : Int64)), .second, .val (.long t0), .second, .val (.long m1), .second, .val (.long m2), .second, .val (.long hh), .second, .val (.long cc), .second, .unset, .unset, .unset, .unset, .unset, .unset, .unset, .unset, .unset, .unset, .unset, .unset, .unset, .unset, .unset, .unset, .unset, .unset, .unset, .unset, .unset] [(.long cc)])) (fun t k => XS.lload X45.here hx rfl (hb hby at_178) rfl k) ?_
    refine own_by (T' := T45) (f' := (mkF m 182 #[.val (.long i0), .second, .val (.long i1), .second, .val (.int i2), .val (.long av), .second, .val (.long bw), .second, .val (.int ng), .val (.int pq), .val (.ref b35), .val (.long a1), .second, .val (.long al), .second, .val (.long (232830643 : Int64)), .second, .val (.long (2808348672 : Int64)), .second, .val (.long t0), .second, .val (.long m1), .second, .val (.long m2), .second, .val (.long hh), .second, .val (.long cc), .second, .unset, .unset, .unset, .unset, .unset, .unset, .unset, .unset, .unset, .unset, .unset, .unset, .unset, .unset, .unset, .unset, .unset, .unset, .unset, .unset, .unset] [(.int (32 : Int32)), (.long cc)])) (fun t k => XS.bipush X45.here hx rfl (hb hby at_180) k) ?_
    refine own_by (T' := T45) (f' := (mkF m 183 #[.val (.long i0), .second, .val (.long i1), .second, .val (.int i2), .val (.long av), .second, .val (.long bw), .second, .val (.int ng), .val (.int pq), .val (.ref b35), .val (.long a1), .second, .val (.long al), .second, .val (.long (232830643 : Int64)), .second, .val (.long (2808348672 : Int64)), .second, .val (.long t0), .second, .val (.long m1), .second, .val (.long m2), .second, .val (.long hh), .second, .val (.long cc), .second, .unset, .unset, .unset, .unset, .unset, .unset, .unset, .unset, .unset, .unset, .unset, .unset, .unset, .unset, .unset, .unset, .unset, .unset, .unset, .unset, .unset] [(.long (cc <<< ((32 : Int32) &&& 0x3f).toInt64))])) (fun t k => XS.lshl X45.here hx rfl (hb hby at_182) rfl k) ?_
    refine own_by (T' := T45) (f' := (mkF m 185 #[.val (.long i0), .second, .val (.long i1), .second, .val (.int i2), .val (.long av), .second, .val (.long bw), .second, .val (.int ng), .val (.int pq), .val (.ref b35), .val (.long a1), .second, .val (.long al), .second, .val (.long (232830643 : Int64)), .second, .val (.long (2808348672 : Int64)), .second, .val (.long t0), .second, .val (.long m1), .second, .val (.long m2), .second, .val (.long hh), .second, .val (.long cc), .second, .unset, .unset, .unset, .unset, .unset, .unset, .unset, .unset, .unset, .unset, .unset, .unset, .unset, .unset, .unset, .unset, .unset, .unset, .unset, .unset, .unset] [(.long t0), (.long (cc <<< ((32 : Int32) &&& 0x3f).toInt64))])) (fun t k => XS.lload X45.here hx rfl (hb hby at_183) rfl k) ?_
    refine own_by (T' := T45) (f' := (mkF m 188 #[.val (.long i0), .second, .val (.long i1), .second, .val (.int i2), .val (.long av), .second, .val (.long bw), .second, .val (.int ng), .val (.int pq), .val (.ref b35), .val (.long a1), .second, .val (.long al), .second, .val (.long (232830643 : Int64)), .second, .val (.long (2808348672 : Int64)), .second, .val (.long t0), .second, .val (.long m1), .second, .val (.long m2), .second, .val (.long hh), .second, .val (.long cc), .second, .unset, .unset, .unset, .unset, .unset, .unset, .unset, .unset, .unset, .unset, .unset, .unset, .unset, .unset, .unset, .unset, .unset, .unset, .unset, .unset, .unset] [(.long (4294967295 : Int64)), (.long t0), (.long (cc <<< ((32 : Int32) &&& 0x3f).toInt64))])) (fun t k => X45.ldc2Long hx hown (mvT hZ (own_w hw 27 rfl)) (g := (mkF m 185 #[.val (.long i0), .second, .val (.long i1), .second, .val (.int i2), .val (.long av), .second, .val (.long bw), .second, .val (.int ng), .val (.int pq), .val (.ref b35), .val (.long a1), .second, .val (.long al), .second, .val (.long (232830643 : Int64)), .second, .val (.long (2808348672 : Int64)), .second, .val (.long t0), .second, .val (.long m1), .second, .val (.long m2), .second, .val (.long hh), .second, .val (.long cc), .second, .unset, .unset, .unset, .unset, .unset, .unset, .unset, .unset, .unset, .unset, .unset, .unset, .unset, .unset, .unset, .unset, .unset, .unset, .unset, .unset, .unset] [(.long t0), (.long (cc <<< ((32 : Int32) &&& 0x3f).toInt64))])) rfl (hb hby at_185) _ k) ?_
    refine own_by (T' := T45) (f' := (mkF m 189 #[.val (.long i0), .second, .val (.long i1), .second, .val (.int i2), .val (.long av), .second, .val (.long bw), .second, .val (.int ng), .val (.int pq), .val (.ref b35), .val (.long a1), .second, .val (.long al), .second, .val (.long (232830643 : Int64)), .second, .val (.long (2808348672 : Int64)), .second, .val (.long t0), .second, .val (.long m1), .second, .val (.long m2), .second, .val (.long hh), .second, .val (.long cc), .second, .unset, .unset, .unset, .unset, .unset, .unset, .unset, .unset, .unset, .unset, .unset, .unset, .unset, .unset, .unset, .unset, .unset, .unset, .unset, .unset, .unset] [(.long (t0 &&& (4294967295 : Int64))), (.long (cc <<< ((32 : Int32) &&& 0x3f).toInt64))])) (fun t k => XS.land X45.here hx rfl (hb hby at_188) rfl k) ?_
    refine own_by (T' := T45) (f' := (mkF m 190 #[.val (.long i0), .second, .val (.long i1), .second, .val (.int i2), .val (.long av), .second, .val (.long bw), .second, .val (.int ng), .val (.int pq), .val (.ref b35), .val (.long a1), .second, .val (.long al), .second, .val (.long (232830643 : Int64)), .second, .val (.long (2808348672 : Int64)), .second, .val (.long t0), .second, .val (.long m1), .second, .val (.long m2), .second, .val (.long hh), .second, .val (.long cc), .second, .unset, .unset, .unset, .unset, .unset, .unset, .unset, .unset, .unset, .unset, .unset, .unset, .unset, .unset, .unset, .unset, .unset, .unset, .unset, .unset, .unset] [(.long ((cc <<< ((32 : Int32) &&& 0x3f).toInt64) ||| (t0 &&& (4294967295 : Int64))))])) (fun t k => XS.lor X45.here hx rfl (hb hby at_189) rfl k) ?_
    obtain ⟨lo, hlo⟩ : ∃ z : Int64, z = ((cc <<< ((32 : Int32) &&& 0x3f).toInt64) ||| (t0 &&& (4294967295 : Int64))) := ⟨_, rfl⟩
    rw [← hlo]
    show own_Go p e below _ T45 (mkF m 190 #[.val (.long i0), .second, .val (.long i1), .second, .val (.int i2), .val (.long av), .second, .val (.long bw), .second, .val (.int ng), .val (.int pq), .val (.ref b35), .val (.long a1), .second, .val (.long al), .second, .val (.long (232830643 : Int64)), .second, .val (.long (2808348672 : Int64)), .second, .val (.long t0), .second, .val (.long m1), .second, .val (.long m2), .second, .val (.long hh), .second, .val (.long cc), .second, .unset, .unset, .unset, .unset, .unset, .unset, .unset, .unset, .unset, .unset, .unset, .unset, .unset, .unset, .unset, .unset, .unset, .unset, .unset, .unset, .unset] [(.long lo)])
    refine own_by (T' := T45) (f' := (mkF m 192 #[.val (.long i0), .second, .val (.long i1), .second, .val (.int i2), .val (.long av), .second, .val (.long bw), .second, .val (.int ng), .val (.int pq), .val (.ref b35), .val (.long a1), .second, .val (.long al), .second, .val (.long (232830643 : Int64)), .second, .val (.long (2808348672 : Int64)), .second, .val (.long t0), .second, .val (.long m1), .second, .val (.long m2), .second, .val (.long hh), .second, .val (.long cc), .second, .val (.long lo), .second, .unset, .unset, .unset, .unset, .unset, .unset, .unset, .unset, .unset, .unset, .unset, .unset, .unset, .unset, .unset, .unset, .unset, .unset, .unset] [])) (fun t k => XS.lstore X45.here hx rfl (hb hby at_190) rfl (l' := #[.val (.long i0), .second, .val (.long i1), .second, .val (.int i2), .val (.long av), .second, .val (.long bw), .second, .val (.int ng), .val (.int pq), .val (.ref b35), .val (.long a1), .second, .val (.long al), .second, .val (.long (232830643 : Int64)), .second, .val (.long (2808348672 : Int64)), .second, .val (.long t0), .second, .val (.long m1), .second, .val (.long m2), .second, .val (.long hh), .second, .val (.long cc), .second, .val (.long lo), .second, .unset, .unset, .unset, .unset, .unset, .unset, .unset, .unset, .unset, .unset, .unset, .unset, .unset, .unset, .unset, .unset, .unset, .unset, .unset]) rfl k) ?_
    refine own_by (T' := T45) (f' := (mkF m 194 #[.val (.long i0), .second, .val (.long i1), .second, .val (.int i2), .val (.long av), .second, .val (.long bw), .second, .val (.int ng), .val (.int pq), .val (.ref b35), .val (.long a1), .second, .val (.long al), .second, .val (.long (232830643 : Int64)), .second, .val (.long (2808348672 : Int64)), .second, .val (.long t0), .second, .val (.long m1), .second, .val (.long m2), .second, .val (.long hh), .second, .val (.long cc), .second, .val (.long lo), .second, .unset, .unset, .unset, .unset, .unset, .unset, .unset, .unset, .unset, .unset, .unset, .unset, .unset, .unset, .unset, .unset, .unset, .unset, .unset] [(.long hh)])) (fun t k => XS.lload X45.here hx rfl (hb hby at_192) rfl k) ?_
    refine own_by (T' := T45) (f' := (mkF m 196 #[.val (.long i0), .second, .val (.long i1), .second, .val (.int i2), .val (.long av), .second, .val (.long bw), .second, .val (.int ng), .val (.int pq), .val (.ref b35), .val (.long a1), .second, .val (.long al), .second, .val (.long (232830643 : Int64)), .second, .val (.long (2808348672 : Int64)), .second, .val (.long t0), .second, .val (.long m1), .second, .val (.long m2), .second, .val (.long hh), .second, .val (.long cc), .second, .val (.long lo), .second, .unset, .unset, .unset, .unset, .unset, .unset, .unset, .unset, .unset, .unset, .unset, .unset, .unset, .unset, .unset, .unset, .unset, .unset, .unset] [(.long m1), (.long hh)])) (fun t k => XS.lload X45.here hx rfl (hb hby at_194) rfl k) ?_
    refine own_by (T' := T45) (f' := (mkF m 198 #[.val (.long i0), .second, .val (.long i1), .second, .val (.int i2), .val (.long av), .second, .val (.long bw), .second, .val (.int ng), .val (.int pq), .val (.ref b35), .val (.long a1), .second, .val (.long al), .second, .val (.long (232830643 : Int64)), .second, .val (.long (2808348672 : Int64)), .second, .val (.long t0), .second, .val (.long m1), .second, .val (.long m2), .second, .val (.long hh), .second, .val (.long cc), .second, .val (.long lo), .second, .unset, .unset, .unset, .unset, .unset, .unset, .unset, .unset, .unset, .unset, .unset, .unset, .unset, .unset, .unset, .unset, .unset, .unset, .unset] [(.int (32 : Int32)), (.long m1), (.long hh)])) (fun t k => XS.bipush X45.here hx rfl (hb hby at_196) k) ?_
    refine own_by (T' := T45) (f' := (mkF m 199 #[.val (.long i0), .second, .val (.long i1), .second, .val (.int i2), .val (.long av), .second, .val (.long bw), .second, .val (.int ng), .val (.int pq), .val (.ref b35), .val (.long a1), .second, .val (.long al), .second, .val (.long (232830643 : Int64)), .second, .val (.long (2808348672 : Int64)), .second, .val (.long t0), .second, .val (.long m1), .second, .val (.long m2), .second, .val (.long hh), .second, .val (.long cc), .second, .val (.long lo), .second, .unset, .unset, .unset, .unset, .unset, .unset, .unset, .unset, .unset, .unset, .unset, .unset, .unset, .unset, .unset, .unset, .unset, .unset, .unset] [(.long ((m1.toUInt64 >>> ((32 : Int32) &&& 0x3f).toInt64.toUInt64).toInt64)), (.long hh)])) (fun t k => XS.lushr X45.here hx rfl (hb hby at_198) rfl k) ?_
    refine own_by (T' := T45) (f' := (mkF m 200 #[.val (.long i0), .second, .val (.long i1), .second, .val (.int i2), .val (.long av), .second, .val (.long bw), .second, .val (.int ng), .val (.int pq), .val (.ref b35), .val (.long a1), .second, .val (.long al), .second, .val (.long (232830643 : Int64)), .second, .val (.long (2808348672 : Int64)), .second, .val (.long t0), .second, .val (.long m1), .second, .val (.long m2), .second, .val (.long hh), .second, .val (.long cc), .second, .val (.long lo), .second, .unset, .unset, .unset, .unset, .unset, .unset, .unset, .unset, .unset, .unset, .unset, .unset, .unset, .unset, .unset, .unset, .unset, .unset, .unset] [(.long (hh + ((m1.toUInt64 >>> ((32 : Int32) &&& 0x3f).toInt64.toUInt64).toInt64)))])) (fun t k => XS.ladd X45.here hx rfl (hb hby at_199) rfl k) ?_
    refine own_by (T' := T45) (f' := (mkF m 202 #[.val (.long i0), .second, .val (.long i1), .second, .val (.int i2), .val (.long av), .second, .val (.long bw), .second, .val (.int ng), .val (.int pq), .val (.ref b35), .val (.long a1), .second, .val (.long al), .second, .val (.long (232830643 : Int64)), .second, .val (.long (2808348672 : Int64)), .second, .val (.long t0), .second, .val (.long m1), .second, .val (.long m2), .second, .val (.long hh), .second, .val (.long cc), .second, .val (.long lo), .second, .unset, .unset, .unset, .unset, .unset, .unset, .unset, .unset, .unset, .unset, .unset, .unset, .unset, .unset, .unset, .unset, .unset, .unset, .unset] [(.long m2), (.long (hh + ((m1.toUInt64 >>> ((32 : Int32) &&& 0x3f).toInt64.toUInt64).toInt64)))])) (fun t k => XS.lload X45.here hx rfl (hb hby at_200) rfl k) ?_
    refine own_by (T' := T45) (f' := (mkF m 204 #[.val (.long i0), .second, .val (.long i1), .second, .val (.int i2), .val (.long av), .second, .val (.long bw), .second, .val (.int ng), .val (.int pq), .val (.ref b35), .val (.long a1), .second, .val (.long al), .second, .val (.long (232830643 : Int64)), .second, .val (.long (2808348672 : Int64)), .second, .val (.long t0), .second, .val (.long m1), .second, .val (.long m2), .second, .val (.long hh), .second, .val (.long cc), .second, .val (.long lo), .second, .unset, .unset, .unset, .unset, .unset, .unset, .unset, .unset, .unset, .unset, .unset, .unset, .unset, .unset, .unset, .unset, .unset, .unset, .unset] [(.int (32 : Int32)), (.long m2), (.long (hh + ((m1.toUInt64 >>> ((32 : Int32) &&& 0x3f).toInt64.toUInt64).toInt64)))])) (fun t k => XS.bipush X45.here hx rfl (hb hby at_202) k) ?_
    refine own_by (T' := T45) (f' := (mkF m 205 #[.val (.long i0), .second, .val (.long i1), .second, .val (.int i2), .val (.long av), .second, .val (.long bw), .second, .val (.int ng), .val (.int pq), .val (.ref b35), .val (.long a1), .second, .val (.long al), .second, .val (.long (232830643 : Int64)), .second, .val (.long (2808348672 : Int64)), .second, .val (.long t0), .second, .val (.long m1), .second, .val (.long m2), .second, .val (.long hh), .second, .val (.long cc), .second, .val (.long lo), .second, .unset, .unset, .unset, .unset, .unset, .unset, .unset, .unset, .unset, .unset, .unset, .unset, .unset, .unset, .unset, .unset, .unset, .unset, .unset] [(.long ((m2.toUInt64 >>> ((32 : Int32) &&& 0x3f).toInt64.toUInt64).toInt64)), (.long (hh + ((m1.toUInt64 >>> ((32 : Int32) &&& 0x3f).toInt64.toUInt64).toInt64)))])) (fun t k => XS.lushr X45.here hx rfl (hb hby at_204) rfl k) ?_
    refine own_by (T' := T45) (f' := (mkF m 206 #[.val (.long i0), .second, .val (.long i1), .second, .val (.int i2), .val (.long av), .second, .val (.long bw), .second, .val (.int ng), .val (.int pq), .val (.ref b35), .val (.long a1), .second, .val (.long al), .second, .val (.long (232830643 : Int64)), .second, .val (.long (2808348672 : Int64)), .second, .val (.long t0), .second, .val (.long m1), .second, .val (.long m2), .second, .val (.long hh), .second, .val (.long cc), .second, .val (.long lo), .second, .unset, .unset, .unset, .unset, .unset, .unset, .unset, .unset, .unset, .unset, .unset, .unset, .unset, .unset, .unset, .unset, .unset, .unset, .unset] [(.long ((hh + ((m1.toUInt64 >>> ((32 : Int32) &&& 0x3f).toInt64.toUInt64).toInt64)) + ((m2.toUInt64 >>> ((32 : Int32) &&& 0x3f).toInt64.toUInt64).toInt64)))])) (fun t k => XS.ladd X45.here hx rfl (hb hby at_205) rfl k) ?_
    refine own_by (T' := T45) (f' := (mkF m 208 #[.val (.long i0), .second, .val (.long i1), .second, .val (.int i2), .val (.long av), .second, .val (.long bw), .second, .val (.int ng), .val (.int pq), .val (.ref b35), .val (.long a1), .second, .val (.long al), .second, .val (.long (232830643 : Int64)), .second, .val (.long (2808348672 : Int64)), .second, .val (.long t0), .second, .val (.long m1), .second, .val (.long m2), .second, .val (.long hh), .second, .val (.long cc), .second, .val (.long lo), .second, .unset, .unset, .unset, .unset, .unset, .unset, .unset, .unset, .unset, .unset, .unset, .unset, .unset, .unset, .unset, .unset, .unset, .unset, .unset] [(.long cc), (.long ((hh + ((m1.toUInt64 >>> ((32 : Int32) &&& 0x3f).toInt64.toUInt64).toInt64)) + ((m2.toUInt64 >>> ((32 : Int32) &&& 0x3f).toInt64.toUInt64).toInt64)))])) (fun t k => XS.lload X45.here hx rfl (hb hby at_206) rfl k) ?_
    refine own_by (T' := T45) (f' := (mkF m 210 #[.val (.long i0), .second, .val (.long i1), .second, .val (.int i2), .val (.long av), .second, .val (.long bw), .second, .val (.int ng), .val (.int pq), .val (.ref b35), .val (.long a1), .second, .val (.long al), .second, .val (.long (232830643 : Int64)), .second, .val (.long (2808348672 : Int64)), .second, .val (.long t0), .second, .val (.long m1), .second, .val (.long m2), .second, .val (.long hh), .second, .val (.long cc), .second, .val (.long lo), .second, .unset, .unset, .unset, .unset, .unset, .unset, .unset, .unset, .unset, .unset, .unset, .unset, .unset, .unset, .unset, .unset, .unset, .unset, .unset] [(.int (32 : Int32)), (.long cc), (.long ((hh + ((m1.toUInt64 >>> ((32 : Int32) &&& 0x3f).toInt64.toUInt64).toInt64)) + ((m2.toUInt64 >>> ((32 : Int32) &&& 0x3f).toInt64.toUInt64).toInt64)))])) (fun t k => XS.bipush X45.here hx rfl (hb hby at_208) k) ?_
    refine own_by (T' := T45) (f' := (mkF m 211 #[.val (.long i0), .second, .val (.long i1), .second, .val (.int i2), .val (.long av), .second, .val (.long bw), .second, .val (.int ng), .val (.int pq), .val (.ref b35), .val (.long a1), .second, .val (.long al), .second, .val (.long (232830643 : Int64)), .second, .val (.long (2808348672 : Int64)), .second, .val (.long t0), .second, .val (.long m1), .second, .val (.long m2), .second, .val (.long hh), .second, .val (.long cc), .second, .val (.long lo), .second, .unset, .unset, .unset, .unset, .unset, .unset, .unset, .unset, .unset, .unset, .unset, .unset, .unset, .unset, .unset, .unset, .unset, .unset, .unset] [(.long ((cc.toUInt64 >>> ((32 : Int32) &&& 0x3f).toInt64.toUInt64).toInt64)), (.long ((hh + ((m1.toUInt64 >>> ((32 : Int32) &&& 0x3f).toInt64.toUInt64).toInt64)) + ((m2.toUInt64 >>> ((32 : Int32) &&& 0x3f).toInt64.toUInt64).toInt64)))])) (fun t k => XS.lushr X45.here hx rfl (hb hby at_210) rfl k) ?_
    refine own_by (T' := T45) (f' := (mkF m 212 #[.val (.long i0), .second, .val (.long i1), .second, .val (.int i2), .val (.long av), .second, .val (.long bw), .second, .val (.int ng), .val (.int pq), .val (.ref b35), .val (.long a1), .second, .val (.long al), .second, .val (.long (232830643 : Int64)), .second, .val (.long (2808348672 : Int64)), .second, .val (.long t0), .second, .val (.long m1), .second, .val (.long m2), .second, .val (.long hh), .second, .val (.long cc), .second, .val (.long lo), .second, .unset, .unset, .unset, .unset, .unset, .unset, .unset, .unset, .unset, .unset, .unset, .unset, .unset, .unset, .unset, .unset, .unset, .unset, .unset] [(.long (((hh + ((m1.toUInt64 >>> ((32 : Int32) &&& 0x3f).toInt64.toUInt64).toInt64)) + ((m2.toUInt64 >>> ((32 : Int32) &&& 0x3f).toInt64.toUInt64).toInt64)) + ((cc.toUInt64 >>> ((32 : Int32) &&& 0x3f).toInt64.toUInt64).toInt64)))])) (fun t k => XS.ladd X45.here hx rfl (hb hby at_211) rfl k) ?_
    obtain ⟨hi, hhi⟩ : ∃ z : Int64, z = (((hh + ((m1.toUInt64 >>> ((32 : Int32) &&& 0x3f).toInt64.toUInt64).toInt64)) + ((m2.toUInt64 >>> ((32 : Int32) &&& 0x3f).toInt64.toUInt64).toInt64)) + ((cc.toUInt64 >>> ((32 : Int32) &&& 0x3f).toInt64.toUInt64).toInt64)) := ⟨_, rfl⟩
    rw [← hhi]
    show own_Go p e below _ T45 (mkF m 212 #[.val (.long i0), .second, .val (.long i1), .second, .val (.int i2), .val (.long av), .second, .val (.long bw), .second, .val (.int ng), .val (.int pq), .val (.ref b35), .val (.long a1), .second, .val (.long al), .second, .val (.long (232830643 : Int64)), .second, .val (.long (2808348672 : Int64)), .second, .val (.long t0), .second, .val (.long m1), .second, .val (.long m2), .second, .val (.long hh), .second, .val (.long cc), .second, .val (.long lo), .second, .unset, .unset, .unset, .unset, .unset, .unset, .unset, .unset, .unset, .unset, .unset, .unset, .unset, .unset, .unset, .unset, .unset, .unset, .unset] [(.long hi)])
    refine own_by (T' := T45) (f' := (mkF m 214 #[.val (.long i0), .second, .val (.long i1), .second, .val (.int i2), .val (.long av), .second, .val (.long bw), .second, .val (.int ng), .val (.int pq), .val (.ref b35), .val (.long a1), .second, .val (.long al), .second, .val (.long (232830643 : Int64)), .second, .val (.long (2808348672 : Int64)), .second, .val (.long t0), .second, .val (.long m1), .second, .val (.long m2), .second, .val (.long hh), .second, .val (.long cc), .second, .val (.long lo), .second, .val (.long hi), .second, .unset, .unset, .unset, .unset, .unset, .unset, .unset, .unset, .unset, .unset, .unset, .unset, .unset, .unset, .unset, .unset, .unset] [])) (fun t k => XS.lstore X45.here hx rfl (hb hby at_212) rfl (l' := #[.val (.long i0), .second, .val (.long i1), .second, .val (.int i2), .val (.long av), .second, .val (.long bw), .second, .val (.int ng), .val (.int pq), .val (.ref b35), .val (.long a1), .second, .val (.long al), .second, .val (.long (232830643 : Int64)), .second, .val (.long (2808348672 : Int64)), .second, .val (.long t0), .second, .val (.long m1), .second, .val (.long m2), .second, .val (.long hh), .second, .val (.long cc), .second, .val (.long lo), .second, .val (.long hi), .second, .unset, .unset, .unset, .unset, .unset, .unset, .unset, .unset, .unset, .unset, .unset, .unset, .unset, .unset, .unset, .unset, .unset]) rfl k) ?_
    refine own_by (T' := T45) (f' := (mkF m 216 #[.val (.long i0), .second, .val (.long i1), .second, .val (.int i2), .val (.long av), .second, .val (.long bw), .second, .val (.int ng), .val (.int pq), .val (.ref b35), .val (.long a1), .second, .val (.long al), .second, .val (.long (232830643 : Int64)), .second, .val (.long (2808348672 : Int64)), .second, .val (.long t0), .second, .val (.long m1), .second, .val (.long m2), .second, .val (.long hh), .second, .val (.long cc), .second, .val (.long lo), .second, .val (.long hi), .second, .unset, .unset, .unset, .unset, .unset, .unset, .unset, .unset, .unset, .unset, .unset, .unset, .unset, .unset, .unset, .unset, .unset] [(.long lo)])) (fun t k => XS.lload X45.here hx rfl (hb hby at_214) rfl k) ?_
    refine own_by (T' := T45) (f' := (mkF m 218 #[.val (.long i0), .second, .val (.long i1), .second, .val (.int i2), .val (.long av), .second, .val (.long bw), .second, .val (.int ng), .val (.int pq), .val (.ref b35), .val (.long a1), .second, .val (.long al), .second, .val (.long (232830643 : Int64)), .second, .val (.long (2808348672 : Int64)), .second, .val (.long t0), .second, .val (.long m1), .second, .val (.long m2), .second, .val (.long hh), .second, .val (.long cc), .second, .val (.long lo), .second, .val (.long hi), .second, .unset, .unset, .unset, .unset, .unset, .unset, .unset, .unset, .unset, .unset, .unset, .unset, .unset, .unset, .unset, .unset, .unset] [(.long bw), (.long lo)])) (fun t k => XS.lload X45.here hx rfl (hb hby at_216) rfl k) ?_
    refine own_by (T' := T45) (f' := (mkF m 219 #[.val (.long i0), .second, .val (.long i1), .second, .val (.int i2), .val (.long av), .second, .val (.long bw), .second, .val (.int ng), .val (.int pq), .val (.ref b35), .val (.long a1), .second, .val (.long al), .second, .val (.long (232830643 : Int64)), .second, .val (.long (2808348672 : Int64)), .second, .val (.long t0), .second, .val (.long m1), .second, .val (.long m2), .second, .val (.long hh), .second, .val (.long cc), .second, .val (.long lo), .second, .val (.long hi), .second, .unset, .unset, .unset, .unset, .unset, .unset, .unset, .unset, .unset, .unset, .unset, .unset, .unset, .unset, .unset, .unset, .unset] [(.long (lo + bw))])) (fun t k => XS.ladd X45.here hx rfl (hb hby at_218) rfl k) ?_
    obtain ⟨lo2, hlo2⟩ : ∃ z : Int64, z = (lo + bw) := ⟨_, rfl⟩
    rw [← hlo2]
    show own_Go p e below _ T45 (mkF m 219 #[.val (.long i0), .second, .val (.long i1), .second, .val (.int i2), .val (.long av), .second, .val (.long bw), .second, .val (.int ng), .val (.int pq), .val (.ref b35), .val (.long a1), .second, .val (.long al), .second, .val (.long (232830643 : Int64)), .second, .val (.long (2808348672 : Int64)), .second, .val (.long t0), .second, .val (.long m1), .second, .val (.long m2), .second, .val (.long hh), .second, .val (.long cc), .second, .val (.long lo), .second, .val (.long hi), .second, .unset, .unset, .unset, .unset, .unset, .unset, .unset, .unset, .unset, .unset, .unset, .unset, .unset, .unset, .unset, .unset, .unset] [(.long lo2)])
    refine own_by (T' := T45) (f' := (mkF m 221 #[.val (.long i0), .second, .val (.long i1), .second, .val (.int i2), .val (.long av), .second, .val (.long bw), .second, .val (.int ng), .val (.int pq), .val (.ref b35), .val (.long a1), .second, .val (.long al), .second, .val (.long (232830643 : Int64)), .second, .val (.long (2808348672 : Int64)), .second, .val (.long t0), .second, .val (.long m1), .second, .val (.long m2), .second, .val (.long hh), .second, .val (.long cc), .second, .val (.long lo), .second, .val (.long hi), .second, .val (.long lo2), .second, .unset, .unset, .unset, .unset, .unset, .unset, .unset, .unset, .unset, .unset, .unset, .unset, .unset, .unset, .unset] [])) (fun t k => XS.lstore X45.here hx rfl (hb hby at_219) rfl (l' := #[.val (.long i0), .second, .val (.long i1), .second, .val (.int i2), .val (.long av), .second, .val (.long bw), .second, .val (.int ng), .val (.int pq), .val (.ref b35), .val (.long a1), .second, .val (.long al), .second, .val (.long (232830643 : Int64)), .second, .val (.long (2808348672 : Int64)), .second, .val (.long t0), .second, .val (.long m1), .second, .val (.long m2), .second, .val (.long hh), .second, .val (.long cc), .second, .val (.long lo), .second, .val (.long hi), .second, .val (.long lo2), .second, .unset, .unset, .unset, .unset, .unset, .unset, .unset, .unset, .unset, .unset, .unset, .unset, .unset, .unset, .unset]) rfl k) ?_
    refine own_by (T' := T45) (f' := (mkF m 223 #[.val (.long i0), .second, .val (.long i1), .second, .val (.int i2), .val (.long av), .second, .val (.long bw), .second, .val (.int ng), .val (.int pq), .val (.ref b35), .val (.long a1), .second, .val (.long al), .second, .val (.long (232830643 : Int64)), .second, .val (.long (2808348672 : Int64)), .second, .val (.long t0), .second, .val (.long m1), .second, .val (.long m2), .second, .val (.long hh), .second, .val (.long cc), .second, .val (.long lo), .second, .val (.long hi), .second, .val (.long lo2), .second, .unset, .unset, .unset, .unset, .unset, .unset, .unset, .unset, .unset, .unset, .unset, .unset, .unset, .unset, .unset] [(.long lo2)])) (fun t k => XS.lload X45.here hx rfl (hb hby at_221) rfl k) ?_
    refine own_by (T' := T45) (f' := (mkF m 226 #[.val (.long i0), .second, .val (.long i1), .second, .val (.int i2), .val (.long av), .second, .val (.long bw), .second, .val (.int ng), .val (.int pq), .val (.ref b35), .val (.long a1), .second, .val (.long al), .second, .val (.long (232830643 : Int64)), .second, .val (.long (2808348672 : Int64)), .second, .val (.long t0), .second, .val (.long m1), .second, .val (.long m2), .second, .val (.long hh), .second, .val (.long cc), .second, .val (.long lo), .second, .val (.long hi), .second, .val (.long lo2), .second, .unset, .unset, .unset, .unset, .unset, .unset, .unset, .unset, .unset, .unset, .unset, .unset, .unset, .unset, .unset] [(.long (-9223372036854775808 : Int64)), (.long lo2)])) (fun t k => X45.ldc2Long hx hown (mvT hZ (own_w hw 30 rfl)) (g := (mkF m 223 #[.val (.long i0), .second, .val (.long i1), .second, .val (.int i2), .val (.long av), .second, .val (.long bw), .second, .val (.int ng), .val (.int pq), .val (.ref b35), .val (.long a1), .second, .val (.long al), .second, .val (.long (232830643 : Int64)), .second, .val (.long (2808348672 : Int64)), .second, .val (.long t0), .second, .val (.long m1), .second, .val (.long m2), .second, .val (.long hh), .second, .val (.long cc), .second, .val (.long lo), .second, .val (.long hi), .second, .val (.long lo2), .second, .unset, .unset, .unset, .unset, .unset, .unset, .unset, .unset, .unset, .unset, .unset, .unset, .unset, .unset, .unset] [(.long lo2)])) rfl (hb hby at_223) _ k) ?_
    refine own_by (T' := T45) (f' := (mkF m 227 #[.val (.long i0), .second, .val (.long i1), .second, .val (.int i2), .val (.long av), .second, .val (.long bw), .second, .val (.int ng), .val (.int pq), .val (.ref b35), .val (.long a1), .second, .val (.long al), .second, .val (.long (232830643 : Int64)), .second, .val (.long (2808348672 : Int64)), .second, .val (.long t0), .second, .val (.long m1), .second, .val (.long m2), .second, .val (.long hh), .second, .val (.long cc), .second, .val (.long lo), .second, .val (.long hi), .second, .val (.long lo2), .second, .unset, .unset, .unset, .unset, .unset, .unset, .unset, .unset, .unset, .unset, .unset, .unset, .unset, .unset, .unset] [(.long (lo2 ^^^ (-9223372036854775808 : Int64)))])) (fun t k => XS.lxor X45.here hx rfl (hb hby at_226) rfl k) ?_
    refine own_by (T' := T45) (f' := (mkF m 229 #[.val (.long i0), .second, .val (.long i1), .second, .val (.int i2), .val (.long av), .second, .val (.long bw), .second, .val (.int ng), .val (.int pq), .val (.ref b35), .val (.long a1), .second, .val (.long al), .second, .val (.long (232830643 : Int64)), .second, .val (.long (2808348672 : Int64)), .second, .val (.long t0), .second, .val (.long m1), .second, .val (.long m2), .second, .val (.long hh), .second, .val (.long cc), .second, .val (.long lo), .second, .val (.long hi), .second, .val (.long lo2), .second, .unset, .unset, .unset, .unset, .unset, .unset, .unset, .unset, .unset, .unset, .unset, .unset, .unset, .unset, .unset] [(.long lo), (.long (lo2 ^^^ (-9223372036854775808 : Int64)))])) (fun t k => XS.lload X45.here hx rfl (hb hby at_227) rfl k) ?_
    refine own_by (T' := T45) (f' := (mkF m 232 #[.val (.long i0), .second, .val (.long i1), .second, .val (.int i2), .val (.long av), .second, .val (.long bw), .second, .val (.int ng), .val (.int pq), .val (.ref b35), .val (.long a1), .second, .val (.long al), .second, .val (.long (232830643 : Int64)), .second, .val (.long (2808348672 : Int64)), .second, .val (.long t0), .second, .val (.long m1), .second, .val (.long m2), .second, .val (.long hh), .second, .val (.long cc), .second, .val (.long lo), .second, .val (.long hi), .second, .val (.long lo2), .second, .unset, .unset, .unset, .unset, .unset, .unset, .unset, .unset, .unset, .unset, .unset, .unset, .unset, .unset, .unset] [(.long (-9223372036854775808 : Int64)), (.long lo), (.long (lo2 ^^^ (-9223372036854775808 : Int64)))])) (fun t k => X45.ldc2Long hx hown (mvT hZ (own_w hw 30 rfl)) (g := (mkF m 229 #[.val (.long i0), .second, .val (.long i1), .second, .val (.int i2), .val (.long av), .second, .val (.long bw), .second, .val (.int ng), .val (.int pq), .val (.ref b35), .val (.long a1), .second, .val (.long al), .second, .val (.long (232830643 : Int64)), .second, .val (.long (2808348672 : Int64)), .second, .val (.long t0), .second, .val (.long m1), .second, .val (.long m2), .second, .val (.long hh), .second, .val (.long cc), .second, .val (.long lo), .second, .val (.long hi), .second, .val (.long lo2), .second, .unset, .unset, .unset, .unset, .unset, .unset, .unset, .unset, .unset, .unset, .unset, .unset, .unset, .unset, .unset] [(.long lo), (.long (lo2 ^^^ (-9223372036854775808 : Int64)))])) rfl (hb hby at_229) _ k) ?_
    refine own_by (T' := T45) (f' := (mkF m 233 #[.val (.long i0), .second, .val (.long i1), .second, .val (.int i2), .val (.long av), .second, .val (.long bw), .second, .val (.int ng), .val (.int pq), .val (.ref b35), .val (.long a1), .second, .val (.long al), .second, .val (.long (232830643 : Int64)), .second, .val (.long (2808348672 : Int64)), .second, .val (.long t0), .second, .val (.long m1), .second, .val (.long m2), .second, .val (.long hh), .second, .val (.long cc), .second, .val (.long lo), .second, .val (.long hi), .second, .val (.long lo2), .second, .unset, .unset, .unset, .unset, .unset, .unset, .unset, .unset, .unset, .unset, .unset, .unset, .unset, .unset, .unset] [(.long (lo ^^^ (-9223372036854775808 : Int64))), (.long (lo2 ^^^ (-9223372036854775808 : Int64)))])) (fun t k => XS.lxor X45.here hx rfl (hb hby at_232) rfl k) ?_
    refine own_by (T' := T45) (f' := (mkF m 234 #[.val (.long i0), .second, .val (.long i1), .second, .val (.int i2), .val (.long av), .second, .val (.long bw), .second, .val (.int ng), .val (.int pq), .val (.ref b35), .val (.long a1), .second, .val (.long al), .second, .val (.long (232830643 : Int64)), .second, .val (.long (2808348672 : Int64)), .second, .val (.long t0), .second, .val (.long m1), .second, .val (.long m2), .second, .val (.long hh), .second, .val (.long cc), .second, .val (.long lo), .second, .val (.long hi), .second, .val (.long lo2), .second, .unset, .unset, .unset, .unset, .unset, .unset, .unset, .unset, .unset, .unset, .unset, .unset, .unset, .unset, .unset] [(.int (lcmpW (lo2 ^^^ (-9223372036854775808 : Int64)) (lo ^^^ (-9223372036854775808 : Int64))))])) (fun t k => XS.lcmp X45.here hx rfl (hb hby at_233) rfl k) ?_
    have mg48 : ∀ t, Steps p.tables e below (T45.setTop (mkF m 242 #[.val (.long i0), .second, .val (.long i1), .second, .val (.int i2), .val (.long av), .second, .val (.long bw), .second, .val (.int ng), .val (.int pq), .val (.ref b35), .val (.long a1), .second, .val (.long al), .second, .val (.long (232830643 : Int64)), .second, .val (.long (2808348672 : Int64)), .second, .val (.long t0), .second, .val (.long m1), .second, .val (.long m2), .second, .val (.long hh), .second, .val (.long cc), .second, .val (.long lo), .second, .val (.long hi), .second, .val (.long lo2), .second, .unset, .unset, .unset, .unset, .unset, .unset, .unset, .unset, .unset, .unset, .unset, .unset, .unset, .unset, .unset] [(.long (if (lo2 ^^^ (-9223372036854775808 : Int64)) < (lo ^^^ (-9223372036854775808 : Int64)) then (1 : Int64) else (0 : Int64)))])) t → Steps p.tables e below (T45.setTop (mkF m 234 #[.val (.long i0), .second, .val (.long i1), .second, .val (.int i2), .val (.long av), .second, .val (.long bw), .second, .val (.int ng), .val (.int pq), .val (.ref b35), .val (.long a1), .second, .val (.long al), .second, .val (.long (232830643 : Int64)), .second, .val (.long (2808348672 : Int64)), .second, .val (.long t0), .second, .val (.long m1), .second, .val (.long m2), .second, .val (.long hh), .second, .val (.long cc), .second, .val (.long lo), .second, .val (.long hi), .second, .val (.long lo2), .second, .unset, .unset, .unset, .unset, .unset, .unset, .unset, .unset, .unset, .unset, .unset, .unset, .unset, .unset, .unset] [(.int (lcmpW (lo2 ^^^ (-9223372036854775808 : Int64)) (lo ^^^ (-9223372036854775808 : Int64))))])) t := by
      intro t k0
      by_cases hm47 : (lo2 ^^^ (-9223372036854775808 : Int64)) < (lo ^^^ (-9223372036854775808 : Int64))
      · skip
        refine XS.ifNo X45.here hx rfl (hb hby at_234) rfl ((if0 _ _).trans (tlt ((lw_lt _ _).mpr hm47)).2.1) ?_
        show Steps p.tables e below (T45.setTop (mkF m 237 #[.val (.long i0), .second, .val (.long i1), .second, .val (.int i2), .val (.long av), .second, .val (.long bw), .second, .val (.int ng), .val (.int pq), .val (.ref b35), .val (.long a1), .second, .val (.long al), .second, .val (.long (232830643 : Int64)), .second, .val (.long (2808348672 : Int64)), .second, .val (.long t0), .second, .val (.long m1), .second, .val (.long m2), .second, .val (.long hh), .second, .val (.long cc), .second, .val (.long lo), .second, .val (.long hi), .second, .val (.long lo2), .second, .unset, .unset, .unset, .unset, .unset, .unset, .unset, .unset, .unset, .unset, .unset, .unset, .unset, .unset, .unset] [])) _
        refine XS.lconst X45.here hx rfl (hb hby at_237) ?_
        show Steps p.tables e below (T45.setTop (mkF m 238 #[.val (.long i0), .second, .val (.long i1), .second, .val (.int i2), .val (.long av), .second, .val (.long bw), .second, .val (.int ng), .val (.int pq), .val (.ref b35), .val (.long a1), .second, .val (.long al), .second, .val (.long (232830643 : Int64)), .second, .val (.long (2808348672 : Int64)), .second, .val (.long t0), .second, .val (.long m1), .second, .val (.long m2), .second, .val (.long hh), .second, .val (.long cc), .second, .val (.long lo), .second, .val (.long hi), .second, .val (.long lo2), .second, .unset, .unset, .unset, .unset, .unset, .unset, .unset, .unset, .unset, .unset, .unset, .unset, .unset, .unset, .unset] [(.long (1 : Int64))])) _
        refine XS.goto X45.here hx rfl (pc0 := 238) (pc' := 242) rfl (hb hby at_238) (by decide) (by decide) ?_
        show Steps p.tables e below (T45.setTop (mkF m 242 #[.val (.long i0), .second, .val (.long i1), .second, .val (.int i2), .val (.long av), .second, .val (.long bw), .second, .val (.int ng), .val (.int pq), .val (.ref b35), .val (.long a1), .second, .val (.long al), .second, .val (.long (232830643 : Int64)), .second, .val (.long (2808348672 : Int64)), .second, .val (.long t0), .second, .val (.long m1), .second, .val (.long m2), .second, .val (.long hh), .second, .val (.long cc), .second, .val (.long lo), .second, .val (.long hi), .second, .val (.long lo2), .second, .unset, .unset, .unset, .unset, .unset, .unset, .unset, .unset, .unset, .unset, .unset, .unset, .unset, .unset, .unset] [(.long (1 : Int64))])) _
        try simp only [if_pos hm47] at k0
        exact k0
      · skip
        refine XS.ifYes X45.here hx rfl (pc0 := 234) (pc' := 241) rfl (hb hby at_234) rfl ((if0 _ _).trans (flt (mt (lw_lt _ _).mp hm47)).2.1) (by decide) (by decide) ?_
        show Steps p.tables e below (T45.setTop (mkF m 241 #[.val (.long i0), .second, .val (.long i1), .second, .val (.int i2), .val (.long av), .second, .val (.long bw), .second, .val (.int ng), .val (.int pq), .val (.ref b35), .val (.long a1), .second, .val (.long al), .second, .val (.long (232830643 : Int64)), .second, .val (.long (2808348672 : Int64)), .second, .val (.long t0), .second, .val (.long m1), .second, .val (.long m2), .second, .val (.long hh), .second, .val (.long cc), .second, .val (.long lo), .second, .val (.long hi), .second, .val (.long lo2), .second, .unset, .unset, .unset, .unset, .unset, .unset, .unset, .unset, .unset, .unset, .unset, .unset, .unset, .unset, .unset] [])) _
        refine XS.lconst X45.here hx rfl (hb hby at_241) ?_
        show Steps p.tables e below (T45.setTop (mkF m 242 #[.val (.long i0), .second, .val (.long i1), .second, .val (.int i2), .val (.long av), .second, .val (.long bw), .second, .val (.int ng), .val (.int pq), .val (.ref b35), .val (.long a1), .second, .val (.long al), .second, .val (.long (232830643 : Int64)), .second, .val (.long (2808348672 : Int64)), .second, .val (.long t0), .second, .val (.long m1), .second, .val (.long m2), .second, .val (.long hh), .second, .val (.long cc), .second, .val (.long lo), .second, .val (.long hi), .second, .val (.long lo2), .second, .unset, .unset, .unset, .unset, .unset, .unset, .unset, .unset, .unset, .unset, .unset, .unset, .unset, .unset, .unset] [(.long (0 : Int64))])) _
        try simp only [if_neg hm47] at k0
        exact k0
    refine own_by mg48 ?_
    obtain ⟨cy, hcy⟩ : ∃ z : Int64, z = (if (lo2 ^^^ (-9223372036854775808 : Int64)) < (lo ^^^ (-9223372036854775808 : Int64)) then (1 : Int64) else (0 : Int64)) := ⟨_, rfl⟩
    rw [← hcy]
    show own_Go p e below _ T45 (mkF m 242 #[.val (.long i0), .second, .val (.long i1), .second, .val (.int i2), .val (.long av), .second, .val (.long bw), .second, .val (.int ng), .val (.int pq), .val (.ref b35), .val (.long a1), .second, .val (.long al), .second, .val (.long (232830643 : Int64)), .second, .val (.long (2808348672 : Int64)), .second, .val (.long t0), .second, .val (.long m1), .second, .val (.long m2), .second, .val (.long hh), .second, .val (.long cc), .second, .val (.long lo), .second, .val (.long hi), .second, .val (.long lo2), .second, .unset, .unset, .unset, .unset, .unset, .unset, .unset, .unset, .unset, .unset, .unset, .unset, .unset, .unset, .unset] [(.long cy)])
    refine own_by (T' := T45) (f' := (mkF m 244 #[.val (.long i0), .second, .val (.long i1), .second, .val (.int i2), .val (.long av), .second, .val (.long bw), .second, .val (.int ng), .val (.int pq), .val (.ref b35), .val (.long a1), .second, .val (.long al), .second, .val (.long (232830643 : Int64)), .second, .val (.long (2808348672 : Int64)), .second, .val (.long t0), .second, .val (.long m1), .second, .val (.long m2), .second, .val (.long hh), .second, .val (.long cc), .second, .val (.long lo), .second, .val (.long hi), .second, .val (.long lo2), .second, .val (.long cy), .second, .unset, .unset, .unset, .unset, .unset, .unset, .unset, .unset, .unset, .unset, .unset, .unset, .unset] [])) (fun t k => XS.lstore X45.here hx rfl (hb hby at_242) rfl (l' := #[.val (.long i0), .second, .val (.long i1), .second, .val (.int i2), .val (.long av), .second, .val (.long bw), .second, .val (.int ng), .val (.int pq), .val (.ref b35), .val (.long a1), .second, .val (.long al), .second, .val (.long (232830643 : Int64)), .second, .val (.long (2808348672 : Int64)), .second, .val (.long t0), .second, .val (.long m1), .second, .val (.long m2), .second, .val (.long hh), .second, .val (.long cc), .second, .val (.long lo), .second, .val (.long hi), .second, .val (.long lo2), .second, .val (.long cy), .second, .unset, .unset, .unset, .unset, .unset, .unset, .unset, .unset, .unset, .unset, .unset, .unset, .unset]) rfl k) ?_
    refine own_by (T' := T45) (f' := (mkF m 246 #[.val (.long i0), .second, .val (.long i1), .second, .val (.int i2), .val (.long av), .second, .val (.long bw), .second, .val (.int ng), .val (.int pq), .val (.ref b35), .val (.long a1), .second, .val (.long al), .second, .val (.long (232830643 : Int64)), .second, .val (.long (2808348672 : Int64)), .second, .val (.long t0), .second, .val (.long m1), .second, .val (.long m2), .second, .val (.long hh), .second, .val (.long cc), .second, .val (.long lo), .second, .val (.long hi), .second, .val (.long lo2), .second, .val (.long cy), .second, .unset, .unset, .unset, .unset, .unset, .unset, .unset, .unset, .unset, .unset, .unset, .unset, .unset] [(.long hi)])) (fun t k => XS.lload X45.here hx rfl (hb hby at_244) rfl k) ?_
    refine own_by (T' := T45) (f' := (mkF m 248 #[.val (.long i0), .second, .val (.long i1), .second, .val (.int i2), .val (.long av), .second, .val (.long bw), .second, .val (.int ng), .val (.int pq), .val (.ref b35), .val (.long a1), .second, .val (.long al), .second, .val (.long (232830643 : Int64)), .second, .val (.long (2808348672 : Int64)), .second, .val (.long t0), .second, .val (.long m1), .second, .val (.long m2), .second, .val (.long hh), .second, .val (.long cc), .second, .val (.long lo), .second, .val (.long hi), .second, .val (.long lo2), .second, .val (.long cy), .second, .unset, .unset, .unset, .unset, .unset, .unset, .unset, .unset, .unset, .unset, .unset, .unset, .unset] [(.long cy), (.long hi)])) (fun t k => XS.lload X45.here hx rfl (hb hby at_246) rfl k) ?_
    refine own_by (T' := T45) (f' := (mkF m 249 #[.val (.long i0), .second, .val (.long i1), .second, .val (.int i2), .val (.long av), .second, .val (.long bw), .second, .val (.int ng), .val (.int pq), .val (.ref b35), .val (.long a1), .second, .val (.long al), .second, .val (.long (232830643 : Int64)), .second, .val (.long (2808348672 : Int64)), .second, .val (.long t0), .second, .val (.long m1), .second, .val (.long m2), .second, .val (.long hh), .second, .val (.long cc), .second, .val (.long lo), .second, .val (.long hi), .second, .val (.long lo2), .second, .val (.long cy), .second, .unset, .unset, .unset, .unset, .unset, .unset, .unset, .unset, .unset, .unset, .unset, .unset, .unset] [(.long (hi + cy))])) (fun t k => XS.ladd X45.here hx rfl (hb hby at_248) rfl k) ?_
    obtain ⟨hi2, hhi2⟩ : ∃ z : Int64, z = (hi + cy) := ⟨_, rfl⟩
    rw [← hhi2]
    show own_Go p e below _ T45 (mkF m 249 #[.val (.long i0), .second, .val (.long i1), .second, .val (.int i2), .val (.long av), .second, .val (.long bw), .second, .val (.int ng), .val (.int pq), .val (.ref b35), .val (.long a1), .second, .val (.long al), .second, .val (.long (232830643 : Int64)), .second, .val (.long (2808348672 : Int64)), .second, .val (.long t0), .second, .val (.long m1), .second, .val (.long m2), .second, .val (.long hh), .second, .val (.long cc), .second, .val (.long lo), .second, .val (.long hi), .second, .val (.long lo2), .second, .val (.long cy), .second, .unset, .unset, .unset, .unset, .unset, .unset, .unset, .unset, .unset, .unset, .unset, .unset, .unset] [(.long hi2)])
    refine own_by (T' := T45) (f' := (mkF m 251 #[.val (.long i0), .second, .val (.long i1), .second, .val (.int i2), .val (.long av), .second, .val (.long bw), .second, .val (.int ng), .val (.int pq), .val (.ref b35), .val (.long a1), .second, .val (.long al), .second, .val (.long (232830643 : Int64)), .second, .val (.long (2808348672 : Int64)), .second, .val (.long t0), .second, .val (.long m1), .second, .val (.long m2), .second, .val (.long hh), .second, .val (.long cc), .second, .val (.long lo), .second, .val (.long hi), .second, .val (.long lo2), .second, .val (.long cy), .second, .val (.long hi2), .second, .unset, .unset, .unset, .unset, .unset, .unset, .unset, .unset, .unset, .unset, .unset] [])) (fun t k => XS.lstore X45.here hx rfl (hb hby at_249) rfl (l' := #[.val (.long i0), .second, .val (.long i1), .second, .val (.int i2), .val (.long av), .second, .val (.long bw), .second, .val (.int ng), .val (.int pq), .val (.ref b35), .val (.long a1), .second, .val (.long al), .second, .val (.long (232830643 : Int64)), .second, .val (.long (2808348672 : Int64)), .second, .val (.long t0), .second, .val (.long m1), .second, .val (.long m2), .second, .val (.long hh), .second, .val (.long cc), .second, .val (.long lo), .second, .val (.long hi), .second, .val (.long lo2), .second, .val (.long cy), .second, .val (.long hi2), .second, .unset, .unset, .unset, .unset, .unset, .unset, .unset, .unset, .unset, .unset, .unset]) rfl k) ?_
    refine own_by (T' := T45) (f' := (mkF m 253 #[.val (.long i0), .second, .val (.long i1), .second, .val (.int i2), .val (.long av), .second, .val (.long bw), .second, .val (.int ng), .val (.int pq), .val (.ref b35), .val (.long a1), .second, .val (.long al), .second, .val (.long (232830643 : Int64)), .second, .val (.long (2808348672 : Int64)), .second, .val (.long t0), .second, .val (.long m1), .second, .val (.long m2), .second, .val (.long hh), .second, .val (.long cc), .second, .val (.long lo), .second, .val (.long hi), .second, .val (.long lo2), .second, .val (.long cy), .second, .val (.long hi2), .second, .unset, .unset, .unset, .unset, .unset, .unset, .unset, .unset, .unset, .unset, .unset] [(.long lo2)])) (fun t k => XS.lload X45.here hx rfl (hb hby at_251) rfl k) ?_
    refine own_by (T' := T45) (f' := (mkF m 254 #[.val (.long i0), .second, .val (.long i1), .second, .val (.int i2), .val (.long av), .second, .val (.long bw), .second, .val (.int ng), .val (.int pq), .val (.ref b35), .val (.long a1), .second, .val (.long al), .second, .val (.long (232830643 : Int64)), .second, .val (.long (2808348672 : Int64)), .second, .val (.long t0), .second, .val (.long m1), .second, .val (.long m2), .second, .val (.long hh), .second, .val (.long cc), .second, .val (.long lo), .second, .val (.long hi), .second, .val (.long lo2), .second, .val (.long cy), .second, .val (.long hi2), .second, .unset, .unset, .unset, .unset, .unset, .unset, .unset, .unset, .unset, .unset, .unset] [(.long (0 : Int64)), (.long lo2)])) (fun t k => XS.lconst X45.here hx rfl (hb hby at_253) k) ?_
    refine own_by (T' := T45) (f' := (mkF m 255 #[.val (.long i0), .second, .val (.long i1), .second, .val (.int i2), .val (.long av), .second, .val (.long bw), .second, .val (.int ng), .val (.int pq), .val (.ref b35), .val (.long a1), .second, .val (.long al), .second, .val (.long (232830643 : Int64)), .second, .val (.long (2808348672 : Int64)), .second, .val (.long t0), .second, .val (.long m1), .second, .val (.long m2), .second, .val (.long hh), .second, .val (.long cc), .second, .val (.long lo), .second, .val (.long hi), .second, .val (.long lo2), .second, .val (.long cy), .second, .val (.long hi2), .second, .unset, .unset, .unset, .unset, .unset, .unset, .unset, .unset, .unset, .unset, .unset] [(.int (lcmpW lo2 (0 : Int64)))])) (fun t k => XS.lcmp X45.here hx rfl (hb hby at_254) rfl k) ?_
    have mg50 : ∀ t, Steps p.tables e below (T45.setTop (mkF m 263 #[.val (.long i0), .second, .val (.long i1), .second, .val (.int i2), .val (.long av), .second, .val (.long bw), .second, .val (.int ng), .val (.int pq), .val (.ref b35), .val (.long a1), .second, .val (.long al), .second, .val (.long (232830643 : Int64)), .second, .val (.long (2808348672 : Int64)), .second, .val (.long t0), .second, .val (.long m1), .second, .val (.long m2), .second, .val (.long hh), .second, .val (.long cc), .second, .val (.long lo), .second, .val (.long hi), .second, .val (.long lo2), .second, .val (.long cy), .second, .val (.long hi2), .second, .unset, .unset, .unset, .unset, .unset, .unset, .unset, .unset, .unset, .unset, .unset] [(.long (if lo2 = (0 : Int64) then (0 : Int64) else (1 : Int64)))])) t → Steps p.tables e below (T45.setTop (mkF m 255 #[.val (.long i0), .second, .val (.long i1), .second, .val (.int i2), .val (.long av), .second, .val (.long bw), .second, .val (.int ng), .val (.int pq), .val (.ref b35), .val (.long a1), .second, .val (.long al), .second, .val (.long (232830643 : Int64)), .second, .val (.long (2808348672 : Int64)), .second, .val (.long t0), .second, .val (.long m1), .second, .val (.long m2), .second, .val (.long hh), .second, .val (.long cc), .second, .val (.long lo), .second, .val (.long hi), .second, .val (.long lo2), .second, .val (.long cy), .second, .val (.long hi2), .second, .unset, .unset, .unset, .unset, .unset, .unset, .unset, .unset, .unset, .unset, .unset] [(.int (lcmpW lo2 (0 : Int64)))])) t := by
      intro t k0
      by_cases hm49 : lo2 = (0 : Int64)
      · skip
        refine XS.ifYes X45.here hx rfl (pc0 := 255) (pc' := 262) rfl (hb hby at_255) rfl ((if0 _ _).trans (teq ((lw_eq _ _).mpr hm49)).1) (by decide) (by decide) ?_
        show Steps p.tables e below (T45.setTop (mkF m 262 #[.val (.long i0), .second, .val (.long i1), .second, .val (.int i2), .val (.long av), .second, .val (.long bw), .second, .val (.int ng), .val (.int pq), .val (.ref b35), .val (.long a1), .second, .val (.long al), .second, .val (.long (232830643 : Int64)), .second, .val (.long (2808348672 : Int64)), .second, .val (.long t0), .second, .val (.long m1), .second, .val (.long m2), .second, .val (.long hh), .second, .val (.long cc), .second, .val (.long lo), .second, .val (.long hi), .second, .val (.long lo2), .second, .val (.long cy), .second, .val (.long hi2), .second, .unset, .unset, .unset, .unset, .unset, .unset, .unset, .unset, .unset, .unset, .unset] [])) _
        refine XS.lconst X45.here hx rfl (hb hby at_262) ?_
        show Steps p.tables e below (T45.setTop (mkF m 263 #[.val (.long i0), .second, .val (.long i1), .second, .val (.int i2), .val (.long av), .second, .val (.long bw), .second, .val (.int ng), .val (.int pq), .val (.ref b35), .val (.long a1), .second, .val (.long al), .second, .val (.long (232830643 : Int64)), .second, .val (.long (2808348672 : Int64)), .second, .val (.long t0), .second, .val (.long m1), .second, .val (.long m2), .second, .val (.long hh), .second, .val (.long cc), .second, .val (.long lo), .second, .val (.long hi), .second, .val (.long lo2), .second, .val (.long cy), .second, .val (.long hi2), .second, .unset, .unset, .unset, .unset, .unset, .unset, .unset, .unset, .unset, .unset, .unset] [(.long (0 : Int64))])) _
        try simp only [if_pos hm49] at k0
        exact k0
      · skip
        refine XS.ifNo X45.here hx rfl (hb hby at_255) rfl ((if0 _ _).trans (feq (mt (lw_eq _ _).mp hm49)).1) ?_
        show Steps p.tables e below (T45.setTop (mkF m 258 #[.val (.long i0), .second, .val (.long i1), .second, .val (.int i2), .val (.long av), .second, .val (.long bw), .second, .val (.int ng), .val (.int pq), .val (.ref b35), .val (.long a1), .second, .val (.long al), .second, .val (.long (232830643 : Int64)), .second, .val (.long (2808348672 : Int64)), .second, .val (.long t0), .second, .val (.long m1), .second, .val (.long m2), .second, .val (.long hh), .second, .val (.long cc), .second, .val (.long lo), .second, .val (.long hi), .second, .val (.long lo2), .second, .val (.long cy), .second, .val (.long hi2), .second, .unset, .unset, .unset, .unset, .unset, .unset, .unset, .unset, .unset, .unset, .unset] [])) _
        refine XS.lconst X45.here hx rfl (hb hby at_258) ?_
        show Steps p.tables e below (T45.setTop (mkF m 259 #[.val (.long i0), .second, .val (.long i1), .second, .val (.int i2), .val (.long av), .second, .val (.long bw), .second, .val (.int ng), .val (.int pq), .val (.ref b35), .val (.long a1), .second, .val (.long al), .second, .val (.long (232830643 : Int64)), .second, .val (.long (2808348672 : Int64)), .second, .val (.long t0), .second, .val (.long m1), .second, .val (.long m2), .second, .val (.long hh), .second, .val (.long cc), .second, .val (.long lo), .second, .val (.long hi), .second, .val (.long lo2), .second, .val (.long cy), .second, .val (.long hi2), .second, .unset, .unset, .unset, .unset, .unset, .unset, .unset, .unset, .unset, .unset, .unset] [(.long (1 : Int64))])) _
        refine XS.goto X45.here hx rfl (pc0 := 259) (pc' := 263) rfl (hb hby at_259) (by decide) (by decide) ?_
        show Steps p.tables e below (T45.setTop (mkF m 263 #[.val (.long i0), .second, .val (.long i1), .second, .val (.int i2), .val (.long av), .second, .val (.long bw), .second, .val (.int ng), .val (.int pq), .val (.ref b35), .val (.long a1), .second, .val (.long al), .second, .val (.long (232830643 : Int64)), .second, .val (.long (2808348672 : Int64)), .second, .val (.long t0), .second, .val (.long m1), .second, .val (.long m2), .second, .val (.long hh), .second, .val (.long cc), .second, .val (.long lo), .second, .val (.long hi), .second, .val (.long lo2), .second, .val (.long cy), .second, .val (.long hi2), .second, .unset, .unset, .unset, .unset, .unset, .unset, .unset, .unset, .unset, .unset, .unset] [(.long (1 : Int64))])) _
        try simp only [if_neg hm49] at k0
        exact k0
    refine own_by mg50 ?_
    obtain ⟨bo, hbo⟩ : ∃ z : Int64, z = (if lo2 = (0 : Int64) then (0 : Int64) else (1 : Int64)) := ⟨_, rfl⟩
    rw [← hbo]
    show own_Go p e below _ T45 (mkF m 263 #[.val (.long i0), .second, .val (.long i1), .second, .val (.int i2), .val (.long av), .second, .val (.long bw), .second, .val (.int ng), .val (.int pq), .val (.ref b35), .val (.long a1), .second, .val (.long al), .second, .val (.long (232830643 : Int64)), .second, .val (.long (2808348672 : Int64)), .second, .val (.long t0), .second, .val (.long m1), .second, .val (.long m2), .second, .val (.long hh), .second, .val (.long cc), .second, .val (.long lo), .second, .val (.long hi), .second, .val (.long lo2), .second, .val (.long cy), .second, .val (.long hi2), .second, .unset, .unset, .unset, .unset, .unset, .unset, .unset, .unset, .unset, .unset, .unset] [(.long bo)])
    refine own_by (T' := T45) (f' := (mkF m 265 #[.val (.long i0), .second, .val (.long i1), .second, .val (.int i2), .val (.long av), .second, .val (.long bw), .second, .val (.int ng), .val (.int pq), .val (.ref b35), .val (.long a1), .second, .val (.long al), .second, .val (.long (232830643 : Int64)), .second, .val (.long (2808348672 : Int64)), .second, .val (.long t0), .second, .val (.long m1), .second, .val (.long m2), .second, .val (.long hh), .second, .val (.long cc), .second, .val (.long lo), .second, .val (.long hi), .second, .val (.long lo2), .second, .val (.long cy), .second, .val (.long hi2), .second, .val (.long bo), .second, .unset, .unset, .unset, .unset, .unset, .unset, .unset, .unset, .unset] [])) (fun t k => XS.lstore X45.here hx rfl (hb hby at_263) rfl (l' := #[.val (.long i0), .second, .val (.long i1), .second, .val (.int i2), .val (.long av), .second, .val (.long bw), .second, .val (.int ng), .val (.int pq), .val (.ref b35), .val (.long a1), .second, .val (.long al), .second, .val (.long (232830643 : Int64)), .second, .val (.long (2808348672 : Int64)), .second, .val (.long t0), .second, .val (.long m1), .second, .val (.long m2), .second, .val (.long hh), .second, .val (.long cc), .second, .val (.long lo), .second, .val (.long hi), .second, .val (.long lo2), .second, .val (.long cy), .second, .val (.long hi2), .second, .val (.long bo), .second, .unset, .unset, .unset, .unset, .unset, .unset, .unset, .unset, .unset]) rfl k) ?_
    refine own_by (T' := T45) (f' := (mkF m 267 #[.val (.long i0), .second, .val (.long i1), .second, .val (.int i2), .val (.long av), .second, .val (.long bw), .second, .val (.int ng), .val (.int pq), .val (.ref b35), .val (.long a1), .second, .val (.long al), .second, .val (.long (232830643 : Int64)), .second, .val (.long (2808348672 : Int64)), .second, .val (.long t0), .second, .val (.long m1), .second, .val (.long m2), .second, .val (.long hh), .second, .val (.long cc), .second, .val (.long lo), .second, .val (.long hi), .second, .val (.long lo2), .second, .val (.long cy), .second, .val (.long hi2), .second, .val (.long bo), .second, .unset, .unset, .unset, .unset, .unset, .unset, .unset, .unset, .unset] [(.int ng)])) (fun t k => XS.iload X45.here hx rfl (hb hby at_265) rfl k) ?_
    have mg52 : ∀ t, Steps p.tables e below (T45.setTop (mkF m 282 #[.val (.long i0), .second, .val (.long i1), .second, .val (.int i2), .val (.long av), .second, .val (.long bw), .second, .val (.int ng), .val (.int pq), .val (.ref b35), .val (.long a1), .second, .val (.long al), .second, .val (.long (232830643 : Int64)), .second, .val (.long (2808348672 : Int64)), .second, .val (.long t0), .second, .val (.long m1), .second, .val (.long m2), .second, .val (.long hh), .second, .val (.long cc), .second, .val (.long lo), .second, .val (.long hi), .second, .val (.long lo2), .second, .val (.long cy), .second, .val (.long hi2), .second, .val (.long bo), .second, .unset, .unset, .unset, .unset, .unset, .unset, .unset, .unset, .unset] [(.long (if ng = (0 : Int32) then hi2 else (((0 : Int64) - hi2) - bo)))])) t → Steps p.tables e below (T45.setTop (mkF m 267 #[.val (.long i0), .second, .val (.long i1), .second, .val (.int i2), .val (.long av), .second, .val (.long bw), .second, .val (.int ng), .val (.int pq), .val (.ref b35), .val (.long a1), .second, .val (.long al), .second, .val (.long (232830643 : Int64)), .second, .val (.long (2808348672 : Int64)), .second, .val (.long t0), .second, .val (.long m1), .second, .val (.long m2), .second, .val (.long hh), .second, .val (.long cc), .second, .val (.long lo), .second, .val (.long hi), .second, .val (.long lo2), .second, .val (.long cy), .second, .val (.long hi2), .second, .val (.long bo), .second, .unset, .unset, .unset, .unset, .unset, .unset, .unset, .unset, .unset] [(.int ng)])) t := by
      intro t k0
      by_cases hm51 : ng = (0 : Int32)
      · skip
        refine XS.ifYes X45.here hx rfl (pc0 := 267) (pc' := 280) rfl (hb hby at_267) rfl ((if0 _ _).trans (teq hm51).1) (by decide) (by decide) ?_
        show Steps p.tables e below (T45.setTop (mkF m 280 #[.val (.long i0), .second, .val (.long i1), .second, .val (.int i2), .val (.long av), .second, .val (.long bw), .second, .val (.int ng), .val (.int pq), .val (.ref b35), .val (.long a1), .second, .val (.long al), .second, .val (.long (232830643 : Int64)), .second, .val (.long (2808348672 : Int64)), .second, .val (.long t0), .second, .val (.long m1), .second, .val (.long m2), .second, .val (.long hh), .second, .val (.long cc), .second, .val (.long lo), .second, .val (.long hi), .second, .val (.long lo2), .second, .val (.long cy), .second, .val (.long hi2), .second, .val (.long bo), .second, .unset, .unset, .unset, .unset, .unset, .unset, .unset, .unset, .unset] [])) _
        refine XS.lload X45.here hx rfl (hb hby at_280) rfl ?_
        show Steps p.tables e below (T45.setTop (mkF m 282 #[.val (.long i0), .second, .val (.long i1), .second, .val (.int i2), .val (.long av), .second, .val (.long bw), .second, .val (.int ng), .val (.int pq), .val (.ref b35), .val (.long a1), .second, .val (.long al), .second, .val (.long (232830643 : Int64)), .second, .val (.long (2808348672 : Int64)), .second, .val (.long t0), .second, .val (.long m1), .second, .val (.long m2), .second, .val (.long hh), .second, .val (.long cc), .second, .val (.long lo), .second, .val (.long hi), .second, .val (.long lo2), .second, .val (.long cy), .second, .val (.long hi2), .second, .val (.long bo), .second, .unset, .unset, .unset, .unset, .unset, .unset, .unset, .unset, .unset] [(.long hi2)])) _
        try simp only [if_pos hm51] at k0
        exact k0
      · skip
        refine XS.ifNo X45.here hx rfl (hb hby at_267) rfl ((if0 _ _).trans (feq hm51).1) ?_
        show Steps p.tables e below (T45.setTop (mkF m 270 #[.val (.long i0), .second, .val (.long i1), .second, .val (.int i2), .val (.long av), .second, .val (.long bw), .second, .val (.int ng), .val (.int pq), .val (.ref b35), .val (.long a1), .second, .val (.long al), .second, .val (.long (232830643 : Int64)), .second, .val (.long (2808348672 : Int64)), .second, .val (.long t0), .second, .val (.long m1), .second, .val (.long m2), .second, .val (.long hh), .second, .val (.long cc), .second, .val (.long lo), .second, .val (.long hi), .second, .val (.long lo2), .second, .val (.long cy), .second, .val (.long hi2), .second, .val (.long bo), .second, .unset, .unset, .unset, .unset, .unset, .unset, .unset, .unset, .unset] [])) _
        refine XS.lconst X45.here hx rfl (hb hby at_270) ?_
        show Steps p.tables e below (T45.setTop (mkF m 271 #[.val (.long i0), .second, .val (.long i1), .second, .val (.int i2), .val (.long av), .second, .val (.long bw), .second, .val (.int ng), .val (.int pq), .val (.ref b35), .val (.long a1), .second, .val (.long al), .second, .val (.long (232830643 : Int64)), .second, .val (.long (2808348672 : Int64)), .second, .val (.long t0), .second, .val (.long m1), .second, .val (.long m2), .second, .val (.long hh), .second, .val (.long cc), .second, .val (.long lo), .second, .val (.long hi), .second, .val (.long lo2), .second, .val (.long cy), .second, .val (.long hi2), .second, .val (.long bo), .second, .unset, .unset, .unset, .unset, .unset, .unset, .unset, .unset, .unset] [(.long (0 : Int64))])) _
        refine XS.lload X45.here hx rfl (hb hby at_271) rfl ?_
        show Steps p.tables e below (T45.setTop (mkF m 273 #[.val (.long i0), .second, .val (.long i1), .second, .val (.int i2), .val (.long av), .second, .val (.long bw), .second, .val (.int ng), .val (.int pq), .val (.ref b35), .val (.long a1), .second, .val (.long al), .second, .val (.long (232830643 : Int64)), .second, .val (.long (2808348672 : Int64)), .second, .val (.long t0), .second, .val (.long m1), .second, .val (.long m2), .second, .val (.long hh), .second, .val (.long cc), .second, .val (.long lo), .second, .val (.long hi), .second, .val (.long lo2), .second, .val (.long cy), .second, .val (.long hi2), .second, .val (.long bo), .second, .unset, .unset, .unset, .unset, .unset, .unset, .unset, .unset, .unset] [(.long hi2), (.long (0 : Int64))])) _
        refine XS.lsub X45.here hx rfl (hb hby at_273) rfl ?_
        show Steps p.tables e below (T45.setTop (mkF m 274 #[.val (.long i0), .second, .val (.long i1), .second, .val (.int i2), .val (.long av), .second, .val (.long bw), .second, .val (.int ng), .val (.int pq), .val (.ref b35), .val (.long a1), .second, .val (.long al), .second, .val (.long (232830643 : Int64)), .second, .val (.long (2808348672 : Int64)), .second, .val (.long t0), .second, .val (.long m1), .second, .val (.long m2), .second, .val (.long hh), .second, .val (.long cc), .second, .val (.long lo), .second, .val (.long hi), .second, .val (.long lo2), .second, .val (.long cy), .second, .val (.long hi2), .second, .val (.long bo), .second, .unset, .unset, .unset, .unset, .unset, .unset, .unset, .unset, .unset] [(.long ((0 : Int64) - hi2))])) _
        refine XS.lload X45.here hx rfl (hb hby at_274) rfl ?_
        show Steps p.tables e below (T45.setTop (mkF m 276 #[.val (.long i0), .second, .val (.long i1), .second, .val (.int i2), .val (.long av), .second, .val (.long bw), .second, .val (.int ng), .val (.int pq), .val (.ref b35), .val (.long a1), .second, .val (.long al), .second, .val (.long (232830643 : Int64)), .second, .val (.long (2808348672 : Int64)), .second, .val (.long t0), .second, .val (.long m1), .second, .val (.long m2), .second, .val (.long hh), .second, .val (.long cc), .second, .val (.long lo), .second, .val (.long hi), .second, .val (.long lo2), .second, .val (.long cy), .second, .val (.long hi2), .second, .val (.long bo), .second, .unset, .unset, .unset, .unset, .unset, .unset, .unset, .unset, .unset] [(.long bo), (.long ((0 : Int64) - hi2))])) _
        refine XS.lsub X45.here hx rfl (hb hby at_276) rfl ?_
        show Steps p.tables e below (T45.setTop (mkF m 277 #[.val (.long i0), .second, .val (.long i1), .second, .val (.int i2), .val (.long av), .second, .val (.long bw), .second, .val (.int ng), .val (.int pq), .val (.ref b35), .val (.long a1), .second, .val (.long al), .second, .val (.long (232830643 : Int64)), .second, .val (.long (2808348672 : Int64)), .second, .val (.long t0), .second, .val (.long m1), .second, .val (.long m2), .second, .val (.long hh), .second, .val (.long cc), .second, .val (.long lo), .second, .val (.long hi), .second, .val (.long lo2), .second, .val (.long cy), .second, .val (.long hi2), .second, .val (.long bo), .second, .unset, .unset, .unset, .unset, .unset, .unset, .unset, .unset, .unset] [(.long (((0 : Int64) - hi2) - bo))])) _
        refine XS.goto X45.here hx rfl (pc0 := 277) (pc' := 282) rfl (hb hby at_277) (by decide) (by decide) ?_
        show Steps p.tables e below (T45.setTop (mkF m 282 #[.val (.long i0), .second, .val (.long i1), .second, .val (.int i2), .val (.long av), .second, .val (.long bw), .second, .val (.int ng), .val (.int pq), .val (.ref b35), .val (.long a1), .second, .val (.long al), .second, .val (.long (232830643 : Int64)), .second, .val (.long (2808348672 : Int64)), .second, .val (.long t0), .second, .val (.long m1), .second, .val (.long m2), .second, .val (.long hh), .second, .val (.long cc), .second, .val (.long lo), .second, .val (.long hi), .second, .val (.long lo2), .second, .val (.long cy), .second, .val (.long hi2), .second, .val (.long bo), .second, .unset, .unset, .unset, .unset, .unset, .unset, .unset, .unset, .unset] [(.long (((0 : Int64) - hi2) - bo))])) _
        try simp only [if_neg hm51] at k0
        exact k0
    refine own_by mg52 ?_
    obtain ⟨eh, heh⟩ : ∃ z : Int64, z = (if ng = (0 : Int32) then hi2 else (((0 : Int64) - hi2) - bo)) := ⟨_, rfl⟩
    rw [← heh]
    show own_Go p e below _ T45 (mkF m 282 #[.val (.long i0), .second, .val (.long i1), .second, .val (.int i2), .val (.long av), .second, .val (.long bw), .second, .val (.int ng), .val (.int pq), .val (.ref b35), .val (.long a1), .second, .val (.long al), .second, .val (.long (232830643 : Int64)), .second, .val (.long (2808348672 : Int64)), .second, .val (.long t0), .second, .val (.long m1), .second, .val (.long m2), .second, .val (.long hh), .second, .val (.long cc), .second, .val (.long lo), .second, .val (.long hi), .second, .val (.long lo2), .second, .val (.long cy), .second, .val (.long hi2), .second, .val (.long bo), .second, .unset, .unset, .unset, .unset, .unset, .unset, .unset, .unset, .unset] [(.long eh)])
    refine own_by (T' := T45) (f' := (mkF m 284 #[.val (.long i0), .second, .val (.long i1), .second, .val (.int i2), .val (.long av), .second, .val (.long bw), .second, .val (.int ng), .val (.int pq), .val (.ref b35), .val (.long a1), .second, .val (.long al), .second, .val (.long (232830643 : Int64)), .second, .val (.long (2808348672 : Int64)), .second, .val (.long t0), .second, .val (.long m1), .second, .val (.long m2), .second, .val (.long hh), .second, .val (.long cc), .second, .val (.long lo), .second, .val (.long hi), .second, .val (.long lo2), .second, .val (.long cy), .second, .val (.long hi2), .second, .val (.long bo), .second, .val (.long eh), .second, .unset, .unset, .unset, .unset, .unset, .unset, .unset] [])) (fun t k => XS.lstore X45.here hx rfl (hb hby at_282) rfl (l' := #[.val (.long i0), .second, .val (.long i1), .second, .val (.int i2), .val (.long av), .second, .val (.long bw), .second, .val (.int ng), .val (.int pq), .val (.ref b35), .val (.long a1), .second, .val (.long al), .second, .val (.long (232830643 : Int64)), .second, .val (.long (2808348672 : Int64)), .second, .val (.long t0), .second, .val (.long m1), .second, .val (.long m2), .second, .val (.long hh), .second, .val (.long cc), .second, .val (.long lo), .second, .val (.long hi), .second, .val (.long lo2), .second, .val (.long cy), .second, .val (.long hi2), .second, .val (.long bo), .second, .val (.long eh), .second, .unset, .unset, .unset, .unset, .unset, .unset, .unset]) rfl k) ?_
    refine own_by (T' := T45) (f' := (mkF m 286 #[.val (.long i0), .second, .val (.long i1), .second, .val (.int i2), .val (.long av), .second, .val (.long bw), .second, .val (.int ng), .val (.int pq), .val (.ref b35), .val (.long a1), .second, .val (.long al), .second, .val (.long (232830643 : Int64)), .second, .val (.long (2808348672 : Int64)), .second, .val (.long t0), .second, .val (.long m1), .second, .val (.long m2), .second, .val (.long hh), .second, .val (.long cc), .second, .val (.long lo), .second, .val (.long hi), .second, .val (.long lo2), .second, .val (.long cy), .second, .val (.long hi2), .second, .val (.long bo), .second, .val (.long eh), .second, .unset, .unset, .unset, .unset, .unset, .unset, .unset] [(.int ng)])) (fun t k => XS.iload X45.here hx rfl (hb hby at_284) rfl k) ?_
    have mg54 : ∀ t, Steps p.tables e below (T45.setTop (mkF m 298 #[.val (.long i0), .second, .val (.long i1), .second, .val (.int i2), .val (.long av), .second, .val (.long bw), .second, .val (.int ng), .val (.int pq), .val (.ref b35), .val (.long a1), .second, .val (.long al), .second, .val (.long (232830643 : Int64)), .second, .val (.long (2808348672 : Int64)), .second, .val (.long t0), .second, .val (.long m1), .second, .val (.long m2), .second, .val (.long hh), .second, .val (.long cc), .second, .val (.long lo), .second, .val (.long hi), .second, .val (.long lo2), .second, .val (.long cy), .second, .val (.long hi2), .second, .val (.long bo), .second, .val (.long eh), .second, .unset, .unset, .unset, .unset, .unset, .unset, .unset] [(.long (if ng = (0 : Int32) then lo2 else ((0 : Int64) - lo2)))])) t → Steps p.tables e below (T45.setTop (mkF m 286 #[.val (.long i0), .second, .val (.long i1), .second, .val (.int i2), .val (.long av), .second, .val (.long bw), .second, .val (.int ng), .val (.int pq), .val (.ref b35), .val (.long a1), .second, .val (.long al), .second, .val (.long (232830643 : Int64)), .second, .val (.long (2808348672 : Int64)), .second, .val (.long t0), .second, .val (.long m1), .second, .val (.long m2), .second, .val (.long hh), .second, .val (.long cc), .second, .val (.long lo), .second, .val (.long hi), .second, .val (.long lo2), .second, .val (.long cy), .second, .val (.long hi2), .second, .val (.long bo), .second, .val (.long eh), .second, .unset, .unset, .unset, .unset, .unset, .unset, .unset] [(.int ng)])) t := by
      intro t k0
      by_cases hm53 : ng = (0 : Int32)
      · skip
        refine XS.ifYes X45.here hx rfl (pc0 := 286) (pc' := 296) rfl (hb hby at_286) rfl ((if0 _ _).trans (teq hm53).1) (by decide) (by decide) ?_
        show Steps p.tables e below (T45.setTop (mkF m 296 #[.val (.long i0), .second, .val (.long i1), .second, .val (.int i2), .val (.long av), .second, .val (.long bw), .second, .val (.int ng), .val (.int pq), .val (.ref b35), .val (.long a1), .second, .val (.long al), .second, .val (.long (232830643 : Int64)), .second, .val (.long (2808348672 : Int64)), .second, .val (.long t0), .second, .val (.long m1), .second, .val (.long m2), .second, .val (.long hh), .second, .val (.long cc), .second, .val (.long lo), .second, .val (.long hi), .second, .val (.long lo2), .second, .val (.long cy), .second, .val (.long hi2), .second, .val (.long bo), .second, .val (.long eh), .second, .unset, .unset, .unset, .unset, .unset, .unset, .unset] [])) _
        refine XS.lload X45.here hx rfl (hb hby at_296) rfl ?_
        show Steps p.tables e below (T45.setTop (mkF m 298 #[.val (.long i0), .second, .val (.long i1), .second, .val (.int i2), .val (.long av), .second, .val (.long bw), .second, .val (.int ng), .val (.int pq), .val (.ref b35), .val (.long a1), .second, .val (.long al), .second, .val (.long (232830643 : Int64)), .second, .val (.long (2808348672 : Int64)), .second, .val (.long t0), .second, .val (.long m1), .second, .val (.long m2), .second, .val (.long hh), .second, .val (.long cc), .second, .val (.long lo), .second, .val (.long hi), .second, .val (.long lo2), .second, .val (.long cy), .second, .val (.long hi2), .second, .val (.long bo), .second, .val (.long eh), .second, .unset, .unset, .unset, .unset, .unset, .unset, .unset] [(.long lo2)])) _
        try simp only [if_pos hm53] at k0
        exact k0
      · skip
        refine XS.ifNo X45.here hx rfl (hb hby at_286) rfl ((if0 _ _).trans (feq hm53).1) ?_
        show Steps p.tables e below (T45.setTop (mkF m 289 #[.val (.long i0), .second, .val (.long i1), .second, .val (.int i2), .val (.long av), .second, .val (.long bw), .second, .val (.int ng), .val (.int pq), .val (.ref b35), .val (.long a1), .second, .val (.long al), .second, .val (.long (232830643 : Int64)), .second, .val (.long (2808348672 : Int64)), .second, .val (.long t0), .second, .val (.long m1), .second, .val (.long m2), .second, .val (.long hh), .second, .val (.long cc), .second, .val (.long lo), .second, .val (.long hi), .second, .val (.long lo2), .second, .val (.long cy), .second, .val (.long hi2), .second, .val (.long bo), .second, .val (.long eh), .second, .unset, .unset, .unset, .unset, .unset, .unset, .unset] [])) _
        refine XS.lconst X45.here hx rfl (hb hby at_289) ?_
        show Steps p.tables e below (T45.setTop (mkF m 290 #[.val (.long i0), .second, .val (.long i1), .second, .val (.int i2), .val (.long av), .second, .val (.long bw), .second, .val (.int ng), .val (.int pq), .val (.ref b35), .val (.long a1), .second, .val (.long al), .second, .val (.long (232830643 : Int64)), .second, .val (.long (2808348672 : Int64)), .second, .val (.long t0), .second, .val (.long m1), .second, .val (.long m2), .second, .val (.long hh), .second, .val (.long cc), .second, .val (.long lo), .second, .val (.long hi), .second, .val (.long lo2), .second, .val (.long cy), .second, .val (.long hi2), .second, .val (.long bo), .second, .val (.long eh), .second, .unset, .unset, .unset, .unset, .unset, .unset, .unset] [(.long (0 : Int64))])) _
        refine XS.lload X45.here hx rfl (hb hby at_290) rfl ?_
        show Steps p.tables e below (T45.setTop (mkF m 292 #[.val (.long i0), .second, .val (.long i1), .second, .val (.int i2), .val (.long av), .second, .val (.long bw), .second, .val (.int ng), .val (.int pq), .val (.ref b35), .val (.long a1), .second, .val (.long al), .second, .val (.long (232830643 : Int64)), .second, .val (.long (2808348672 : Int64)), .second, .val (.long t0), .second, .val (.long m1), .second, .val (.long m2), .second, .val (.long hh), .second, .val (.long cc), .second, .val (.long lo), .second, .val (.long hi), .second, .val (.long lo2), .second, .val (.long cy), .second, .val (.long hi2), .second, .val (.long bo), .second, .val (.long eh), .second, .unset, .unset, .unset, .unset, .unset, .unset, .unset] [(.long lo2), (.long (0 : Int64))])) _
        refine XS.lsub X45.here hx rfl (hb hby at_292) rfl ?_
        show Steps p.tables e below (T45.setTop (mkF m 293 #[.val (.long i0), .second, .val (.long i1), .second, .val (.int i2), .val (.long av), .second, .val (.long bw), .second, .val (.int ng), .val (.int pq), .val (.ref b35), .val (.long a1), .second, .val (.long al), .second, .val (.long (232830643 : Int64)), .second, .val (.long (2808348672 : Int64)), .second, .val (.long t0), .second, .val (.long m1), .second, .val (.long m2), .second, .val (.long hh), .second, .val (.long cc), .second, .val (.long lo), .second, .val (.long hi), .second, .val (.long lo2), .second, .val (.long cy), .second, .val (.long hi2), .second, .val (.long bo), .second, .val (.long eh), .second, .unset, .unset, .unset, .unset, .unset, .unset, .unset] [(.long ((0 : Int64) - lo2))])) _
        refine XS.goto X45.here hx rfl (pc0 := 293) (pc' := 298) rfl (hb hby at_293) (by decide) (by decide) ?_
        show Steps p.tables e below (T45.setTop (mkF m 298 #[.val (.long i0), .second, .val (.long i1), .second, .val (.int i2), .val (.long av), .second, .val (.long bw), .second, .val (.int ng), .val (.int pq), .val (.ref b35), .val (.long a1), .second, .val (.long al), .second, .val (.long (232830643 : Int64)), .second, .val (.long (2808348672 : Int64)), .second, .val (.long t0), .second, .val (.long m1), .second, .val (.long m2), .second, .val (.long hh), .second, .val (.long cc), .second, .val (.long lo), .second, .val (.long hi), .second, .val (.long lo2), .second, .val (.long cy), .second, .val (.long hi2), .second, .val (.long bo), .second, .val (.long eh), .second, .unset, .unset, .unset, .unset, .unset, .unset, .unset] [(.long ((0 : Int64) - lo2))])) _
        try simp only [if_neg hm53] at k0
        exact k0
    refine own_by mg54 ?_
    obtain ⟨el, hel⟩ : ∃ z : Int64, z = (if ng = (0 : Int32) then lo2 else ((0 : Int64) - lo2)) := ⟨_, rfl⟩
    rw [← hel]
    show own_Go p e below _ T45 (mkF m 298 #[.val (.long i0), .second, .val (.long i1), .second, .val (.int i2), .val (.long av), .second, .val (.long bw), .second, .val (.int ng), .val (.int pq), .val (.ref b35), .val (.long a1), .second, .val (.long al), .second, .val (.long (232830643 : Int64)), .second, .val (.long (2808348672 : Int64)), .second, .val (.long t0), .second, .val (.long m1), .second, .val (.long m2), .second, .val (.long hh), .second, .val (.long cc), .second, .val (.long lo), .second, .val (.long hi), .second, .val (.long lo2), .second, .val (.long cy), .second, .val (.long hi2), .second, .val (.long bo), .second, .val (.long eh), .second, .unset, .unset, .unset, .unset, .unset, .unset, .unset] [(.long el)])
    refine own_by (T' := T45) (f' := (mkF m 300 #[.val (.long i0), .second, .val (.long i1), .second, .val (.int i2), .val (.long av), .second, .val (.long bw), .second, .val (.int ng), .val (.int pq), .val (.ref b35), .val (.long a1), .second, .val (.long al), .second, .val (.long (232830643 : Int64)), .second, .val (.long (2808348672 : Int64)), .second, .val (.long t0), .second, .val (.long m1), .second, .val (.long m2), .second, .val (.long hh), .second, .val (.long cc), .second, .val (.long lo), .second, .val (.long hi), .second, .val (.long lo2), .second, .val (.long cy), .second, .val (.long hi2), .second, .val (.long bo), .second, .val (.long eh), .second, .val (.long el), .second, .unset, .unset, .unset, .unset, .unset] [])) (fun t k => XS.lstore X45.here hx rfl (hb hby at_298) rfl (l' := #[.val (.long i0), .second, .val (.long i1), .second, .val (.int i2), .val (.long av), .second, .val (.long bw), .second, .val (.int ng), .val (.int pq), .val (.ref b35), .val (.long a1), .second, .val (.long al), .second, .val (.long (232830643 : Int64)), .second, .val (.long (2808348672 : Int64)), .second, .val (.long t0), .second, .val (.long m1), .second, .val (.long m2), .second, .val (.long hh), .second, .val (.long cc), .second, .val (.long lo), .second, .val (.long hi), .second, .val (.long lo2), .second, .val (.long cy), .second, .val (.long hi2), .second, .val (.long bo), .second, .val (.long eh), .second, .val (.long el), .second, .unset, .unset, .unset, .unset, .unset]) rfl k) ?_
    have REF := own_ref hnna ltna hnnb ltnb ha1 hal ht0 hm1 hm2 hhh hcc hlo hhi hlo2 hcy hhi2
    refine own_new X45 hx hZ hown rfl (hb hby at_300) (own_w hw 31 rfl) (own_w hw 32 rfl) (own_w hw 33 rfl) (by decide) (by decide) ?_
    intro T55 h55 b55 X55 e55 g55 E55 A55 D55
    have ne55_b35 : b35 ≠ b55 := Nat.ne_of_lt (by rw [g55]; exact A45.lt)
    have gn55 : n0 ≤ b55 := by rw [g55]; exact sz46
    show own_Go p e below _ T55 (mkF m 303 #[.val (.long i0), .second, .val (.long i1), .second, .val (.int i2), .val (.long av), .second, .val (.long bw), .second, .val (.int ng), .val (.int pq), .val (.ref b35), .val (.long a1), .second, .val (.long al), .second, .val (.long (232830643 : Int64)), .second, .val (.long (2808348672 : Int64)), .second, .val (.long t0), .second, .val (.long m1), .second, .val (.long m2), .second, .val (.long hh), .second, .val (.long cc), .second, .val (.long lo), .second, .val (.long hi), .second, .val (.long lo2), .second, .val (.long cy), .second, .val (.long hi2), .second, .val (.long bo), .second, .val (.long eh), .second, .val (.long el), .second, .unset, .unset, .unset, .unset, .unset] [(.ref b55)])
    have F55_characters : Fld Z h55 b55 "com/example/tally_of_atoms/tallyofatoms/Numeral" "characters" "[C" .null := D55 (Or.inl (own_w hw 46 rfl)) (ty := (.array .char)) (by decide)
    have F55_start : Fld Z h55 b55 "com/example/tally_of_atoms/tallyofatoms/Numeral" "start" "I" (.int (0 : Int32)) := D55 (Or.inl (own_w hw 48 rfl)) (ty := .int) (by decide)
    have F55_special : Fld Z h55 b55 "com/example/tally_of_atoms/tallyofatoms/Numeral" "special" "I" (.int (0 : Int32)) := D55 (Or.inl (own_w hw 50 rfl)) (ty := .int) (by decide)
    have F55_negative : Fld Z h55 b55 "com/example/tally_of_atoms/tallyofatoms/Numeral" "negative" "Z" (.int (0 : Int32)) := D55 (Or.inl (own_w hw 52 rfl)) (ty := .boolean) (by decide)
    have F55_significand : Fld Z h55 b55 "com/example/tally_of_atoms/tallyofatoms/Numeral" "significand" "J" (.long (0 : Int64)) := D55 (Or.inl (own_w hw 54 rfl)) (ty := .long) (by decide)
    have F55_significandHigh : Fld Z h55 b55 "com/example/tally_of_atoms/tallyofatoms/Numeral" "significandHigh" "J" (.long (0 : Int64)) := D55 (Or.inl (own_w hw 56 rfl)) (ty := .long) (by decide)
    have F55_significantDigits : Fld Z h55 b55 "com/example/tally_of_atoms/tallyofatoms/Numeral" "significantDigits" "I" (.int (0 : Int32)) := D55 (Or.inl (own_w hw 58 rfl)) (ty := .int) (by decide)
    have F55_scale : Fld Z h55 b55 "com/example/tally_of_atoms/tallyofatoms/Numeral" "scale" "I" (.int (0 : Int32)) := D55 (Or.inl (own_w hw 60 rfl)) (ty := .int) (by decide)
    have F55_exponentValue : Fld Z h55 b55 "com/example/tally_of_atoms/tallyofatoms/Numeral" "exponentValue" "I" (.int (0 : Int32)) := D55 (Or.inl (own_w hw 62 rfl)) (ty := .int) (by decide)
    have F55_digits : Fld Z h55 b55 "com/example/tally_of_atoms/tallyofatoms/Numeral" "digits" "I" (.int (0 : Int32)) := D55 (Or.inl (own_w hw 90 rfl)) (ty := .int) (by decide)
    have F55_point : Fld Z h55 b55 "com/example/tally_of_atoms/tallyofatoms/Numeral" "point" "Z" (.int (0 : Int32)) := D55 (Or.inl (own_w hw 92 rfl)) (ty := .boolean) (by decide)
    have F55_exponent : Fld Z h55 b55 "com/example/tally_of_atoms/tallyofatoms/Numeral" "exponent" "Z" (.int (0 : Int32)) := D55 (Or.inl (own_w hw 94 rfl)) (ty := .boolean) (by decide)
    have F55_exponentDigits : Fld Z h55 b55 "com/example/tally_of_atoms/tallyofatoms/Numeral" "exponentDigits" "Z" (.int (0 : Int32)) := D55 (Or.inl (own_w hw 96 rfl)) (ty := .boolean) (by decide)
    have F55_end : Fld Z h55 b55 "com/example/tally_of_atoms/tallyofatoms/Numeral" "end" "I" (.int (0 : Int32)) := D55 (Or.inl (own_w hw 98 rfl)) (ty := .int) (by decide)
    have sz56 : n0 ≤ h55.size := Nat.le_trans sz46 E55.1
    refine own_by (T' := T55) (f' := (mkF m 304 #[.val (.long i0), .second, .val (.long i1), .second, .val (.int i2), .val (.long av), .second, .val (.long bw), .second, .val (.int ng), .val (.int pq), .val (.ref b35), .val (.long a1), .second, .val (.long al), .second, .val (.long (232830643 : Int64)), .second, .val (.long (2808348672 : Int64)), .second, .val (.long t0), .second, .val (.long m1), .second, .val (.long m2), .second, .val (.long hh), .second, .val (.long cc), .second, .val (.long lo), .second, .val (.long hi), .second, .val (.long lo2), .second, .val (.long cy), .second, .val (.long hi2), .second, .val (.long bo), .second, .val (.long eh), .second, .val (.long el), .second, .unset, .unset, .unset, .unset, .unset] [(.ref b55), (.ref b55)])) (fun t k => XS.dup X55.here hx rfl (hb hby at_303) rfl rfl k) ?_
    refine own_callN X55 hx hZ hown e55 (hb hby at_304) [] [(.ref b55)] 1 (rmIN l Z a0 hw [] b55 h55) (own_w hw 34 rfl) (own_w hw 35 rfl) (own_w hw 33 rfl) (own_w hw 36 rfl) rfl (by decide) pd___V (by rw [hml]; rfl) rfl rfl (Nat.le_of_eq rfl) (by decide) (by decide) (by decide) (by decide) ?_
    rintro T57 _ L57 X57 ⟨rfl, rfl, e57⟩
    show own_Go p e below _ T57 (mkF m 307 #[.val (.long i0), .second, .val (.long i1), .second, .val (.int i2), .val (.long av), .second, .val (.long bw), .second, .val (.int ng), .val (.int pq), .val (.ref b35), .val (.long a1), .second, .val (.long al), .second, .val (.long (232830643 : Int64)), .second, .val (.long (2808348672 : Int64)), .second, .val (.long t0), .second, .val (.long m1), .second, .val (.long m2), .second, .val (.long hh), .second, .val (.long cc), .second, .val (.long lo), .second, .val (.long hi), .second, .val (.long lo2), .second, .val (.long cy), .second, .val (.long hi2), .second, .val (.long bo), .second, .val (.long eh), .second, .val (.long el), .second, .unset, .unset, .unset, .unset, .unset] [(.ref b55)])
    rw [List.append_nil] at X57
    refine own_by (T' := T57) (f' := (mkF m 309 #[.val (.long i0), .second, .val (.long i1), .second, .val (.int i2), .val (.long av), .second, .val (.long bw), .second, .val (.int ng), .val (.int pq), .val (.ref b35), .val (.long a1), .second, .val (.long al), .second, .val (.long (232830643 : Int64)), .second, .val (.long (2808348672 : Int64)), .second, .val (.long t0), .second, .val (.long m1), .second, .val (.long m2), .second, .val (.long hh), .second, .val (.long cc), .second, .val (.long lo), .second, .val (.long hi), .second, .val (.long lo2), .second, .val (.long cy), .second, .val (.long hi2), .second, .val (.long bo), .second, .val (.long eh), .second, .val (.long el), .second, .val (.ref b55), .unset, .unset, .unset, .unset] [])) (fun t k => XS.astore X57.here hx rfl (hb hby at_307) rfl rfl (l' := #[.val (.long i0), .second, .val (.long i1), .second, .val (.int i2), .val (.long av), .second, .val (.long bw), .second, .val (.int ng), .val (.int pq), .val (.ref b35), .val (.long a1), .second, .val (.long al), .second, .val (.long (232830643 : Int64)), .second, .val (.long (2808348672 : Int64)), .second, .val (.long t0), .second, .val (.long m1), .second, .val (.long m2), .second, .val (.long hh), .second, .val (.long cc), .second, .val (.long lo), .second, .val (.long hi), .second, .val (.long lo2), .second, .val (.long cy), .second, .val (.long hi2), .second, .val (.long bo), .second, .val (.long eh), .second, .val (.long el), .second, .val (.ref b55), .unset, .unset, .unset, .unset]) rfl k) ?_
    refine own_by (T' := T57) (f' := (mkF m 311 #[.val (.long i0), .second, .val (.long i1), .second, .val (.int i2), .val (.long av), .second, .val (.long bw), .second, .val (.int ng), .val (.int pq), .val (.ref b35), .val (.long a1), .second, .val (.long al), .second, .val (.long (232830643 : Int64)), .second, .val (.long (2808348672 : Int64)), .second, .val (.long t0), .second, .val (.long m1), .second, .val (.long m2), .second, .val (.long hh), .second, .val (.long cc), .second, .val (.long lo), .second, .val (.long hi), .second, .val (.long lo2), .second, .val (.long cy), .second, .val (.long hi2), .second, .val (.long bo), .second, .val (.long eh), .second, .val (.long el), .second, .val (.ref b55), .unset, .unset, .unset, .unset] [(.ref b55)])) (fun t k => XS.aload X57.here hx rfl (hb hby at_309) rfl rfl k) ?_
    refine own_by (T' := T57) (f' := (mkF m 313 #[.val (.long i0), .second, .val (.long i1), .second, .val (.int i2), .val (.long av), .second, .val (.long bw), .second, .val (.int ng), .val (.int pq), .val (.ref b35), .val (.long a1), .second, .val (.long al), .second, .val (.long (232830643 : Int64)), .second, .val (.long (2808348672 : Int64)), .second, .val (.long t0), .second, .val (.long m1), .second, .val (.long m2), .second, .val (.long hh), .second, .val (.long cc), .second, .val (.long lo), .second, .val (.long hi), .second, .val (.long lo2), .second, .val (.long cy), .second, .val (.long hi2), .second, .val (.long bo), .second, .val (.long eh), .second, .val (.long el), .second, .val (.ref b55), .unset, .unset, .unset, .unset] [(.ref b35), (.ref b55)])) (fun t k => XS.aload X57.here hx rfl (hb hby at_311) rfl rfl k) ?_
    refine own_by (T' := T57) (f' := (mkF m 314 #[.val (.long i0), .second, .val (.long i1), .second, .val (.int i2), .val (.long av), .second, .val (.long bw), .second, .val (.int ng), .val (.int pq), .val (.ref b35), .val (.long a1), .second, .val (.long al), .second, .val (.long (232830643 : Int64)), .second, .val (.long (2808348672 : Int64)), .second, .val (.long t0), .second, .val (.long m1), .second, .val (.long m2), .second, .val (.long hh), .second, .val (.long cc), .second, .val (.long lo), .second, .val (.long hi), .second, .val (.long lo2), .second, .val (.long cy), .second, .val (.long hi2), .second, .val (.long bo), .second, .val (.long eh), .second, .val (.long el), .second, .val (.ref b55), .unset, .unset, .unset, .unset] [(.int (0 : Int32)), (.ref b35), (.ref b55)])) (fun t k => XS.iconst X57.here hx rfl (hb hby at_313) k) ?_
    refine own_by (T' := T57) (f' := (mkF m 316 #[.val (.long i0), .second, .val (.long i1), .second, .val (.int i2), .val (.long av), .second, .val (.long bw), .second, .val (.int ng), .val (.int pq), .val (.ref b35), .val (.long a1), .second, .val (.long al), .second, .val (.long (232830643 : Int64)), .second, .val (.long (2808348672 : Int64)), .second, .val (.long t0), .second, .val (.long m1), .second, .val (.long m2), .second, .val (.long hh), .second, .val (.long cc), .second, .val (.long lo), .second, .val (.long hi), .second, .val (.long lo2), .second, .val (.long cy), .second, .val (.long hi2), .second, .val (.long bo), .second, .val (.long eh), .second, .val (.long el), .second, .val (.ref b55), .unset, .unset, .unset, .unset] [(.int (37 : Int32)), (.int (0 : Int32)), (.ref b35), (.ref b55)])) (fun t k => XS.bipush X57.here hx rfl (hb hby at_314) k) ?_
    have q58 : ∀ x ∈ [b55], ∃ c : Cell, h55[x]? = some c ∧ c.vm.isStatics = false := (allS (own_ns A55) all0)
    have f59 := (A45.ext E55)
    refine own_callV X57 hx hZ hown e57 (hb hby at_316) [(.ref b35), (.int (0 : Int32)), (.int (37 : Int32))] [] 0 (rmSC l Z a0 hw [] b55 b35 (0 : Int32) (37 : Int32) 0 37 g3 .null (.int (0 : Int32)) (.int (0 : Int32)) (.int (0 : Int32)) (.int (0 : Int32)) (.int (0 : Int32)) (.int (0 : Int32)) (.int (0 : Int32)) (.int (0 : Int32)) (.long (0 : Int64)) (.long (0 : Int64)) (.int (0 : Int32)) (.int (0 : Int32)) (.int (0 : Int32)) h55 n0 sz56 gn55 ne55_b35 (by decide) (by decide) (by decide) (by decide) HV.2 f59 A55 F55_characters F55_start F55_end F55_digits F55_point F55_exponent F55_exponentDigits F55_special F55_negative F55_significand F55_significandHigh F55_significantDigits F55_scale F55_exponentValue) A55 (own_w hw 40 rfl) (own_w hw 41 rfl) (notFace_of_selects (args := #[]) (mvT hZ (own_w hw 43 rfl))) (own_w hw 43 rfl) (own_w hw 42 rfl) (own_w hw 33 rfl) (own_w hw 44 rfl) (by decide) pd___CII_Lcom_example_tally_of_atoms_tallyofatoms_Numeral_ (by rw [hml]; rfl) rfl rfl (Nat.le_of_eq rfl) (by decide) (by decide) (by decide) (by decide) ?_
    rintro T60 _ L60 X60 ⟨rfl, N60q, K60, v9, v10, hrep, u0, u1, u2, u3, u4, u5, u6, u7, u11, u12, u13, P0, P1, P2, P3, P4, P5, P6, P7, P8, P9, P10, P11, P12, P13⟩
    show own_Go p e below _ T60 (mkF m 319 #[.val (.long i0), .second, .val (.long i1), .second, .val (.int i2), .val (.long av), .second, .val (.long bw), .second, .val (.int ng), .val (.int pq), .val (.ref b35), .val (.long a1), .second, .val (.long al), .second, .val (.long (232830643 : Int64)), .second, .val (.long (2808348672 : Int64)), .second, .val (.long t0), .second, .val (.long m1), .second, .val (.long m2), .second, .val (.long hh), .second, .val (.long cc), .second, .val (.long lo), .second, .val (.long hi), .second, .val (.long lo2), .second, .val (.long cy), .second, .val (.long hi2), .second, .val (.long bo), .second, .val (.long eh), .second, .val (.long el), .second, .val (.ref b55), .unset, .unset, .unset, .unset] [(.ref b55)])
    have N60 := Fr.app N45 N60q
    have sz61 : n0 ≤ T60.heap.size := Nat.le_trans sz56 K60.1
    rw [HV.1] at hrep
    obtain ⟨rl, rh⟩ := own_rep_inj hrep REF
    refine own_by (T' := T60) (f' := (mkF m 320 #[.val (.long i0), .second, .val (.long i1), .second, .val (.int i2), .val (.long av), .second, .val (.long bw), .second, .val (.int ng), .val (.int pq), .val (.ref b35), .val (.long a1), .second, .val (.long al), .second, .val (.long (232830643 : Int64)), .second, .val (.long (2808348672 : Int64)), .second, .val (.long t0), .second, .val (.long m1), .second, .val (.long m2), .second, .val (.long hh), .second, .val (.long cc), .second, .val (.long lo), .second, .val (.long hi), .second, .val (.long lo2), .second, .val (.long cy), .second, .val (.long hi2), .second, .val (.long bo), .second, .val (.long eh), .second, .val (.long el), .second, .val (.ref b55), .unset, .unset, .unset, .unset] [])) (fun t k => XS.pop X60.here hx rfl (hb hby at_319) rfl rfl k) ?_
    refine own_by (T' := T60) (f' := (mkF m 322 #[.val (.long i0), .second, .val (.long i1), .second, .val (.int i2), .val (.long av), .second, .val (.long bw), .second, .val (.int ng), .val (.int pq), .val (.ref b35), .val (.long a1), .second, .val (.long al), .second, .val (.long (232830643 : Int64)), .second, .val (.long (2808348672 : Int64)), .second, .val (.long t0), .second, .val (.long m1), .second, .val (.long m2), .second, .val (.long hh), .second, .val (.long cc), .second, .val (.long lo), .second, .val (.long hi), .second, .val (.long lo2), .second, .val (.long cy), .second, .val (.long hi2), .second, .val (.long bo), .second, .val (.long eh), .second, .val (.long el), .second, .val (.ref b55), .unset, .unset, .unset, .unset] [(.int ng)])) (fun t k => XS.iload X60.here hx rfl (hb hby at_320) rfl k) ?_
    by_cases hc322_62 : ng = (0 : Int32)
    · have _ := X60
      refine own_by (T' := T60) (f' := (mkF m 330 #[.val (.long i0), .second, .val (.long i1), .second, .val (.int i2), .val (.long av), .second, .val (.long bw), .second, .val (.int ng), .val (.int pq), .val (.ref b35), .val (.long a1), .second, .val (.long al), .second, .val (.long (232830643 : Int64)), .second, .val (.long (2808348672 : Int64)), .second, .val (.long t0), .second, .val (.long m1), .second, .val (.long m2), .second, .val (.long hh), .second, .val (.long cc), .second, .val (.long lo), .second, .val (.long hi), .second, .val (.long lo2), .second, .val (.long cy), .second, .val (.long hi2), .second, .val (.long bo), .second, .val (.long eh), .second, .val (.long el), .second, .val (.ref b55), .unset, .unset, .unset, .unset] [])) (fun t k => XS.ifYes X60.here hx rfl (pc0 := 322) (pc' := 330) rfl (hb hby at_322) rfl ((if0 _ _).trans (teq hc322_62).1) (by decide) (by decide) k) ?_
      refine own_by (T' := T60) (f' := (mkF m 332 #[.val (.long i0), .second, .val (.long i1), .second, .val (.int i2), .val (.long av), .second, .val (.long bw), .second, .val (.int ng), .val (.int pq), .val (.ref b35), .val (.long a1), .second, .val (.long al), .second, .val (.long (232830643 : Int64)), .second, .val (.long (2808348672 : Int64)), .second, .val (.long t0), .second, .val (.long m1), .second, .val (.long m2), .second, .val (.long hh), .second, .val (.long cc), .second, .val (.long lo), .second, .val (.long hi), .second, .val (.long lo2), .second, .val (.long cy), .second, .val (.long hi2), .second, .val (.long bo), .second, .val (.long eh), .second, .val (.long el), .second, .val (.ref b55), .unset, .unset, .unset, .unset] [(.ref b55)])) (fun t k => XS.aload X60.here hx rfl (hb hby at_330) rfl rfl k) ?_
      have f63 := (A55.keep K60)
      refine own_callV X60 hx hZ hown rfl (hb hby at_332) [] [] 0 (rmUH l Z a0 hw [] b55 (0 : Int32) v9 v10 T60.heap P8 P9 P10) f63 (own_w hw 99 rfl) (own_w hw 100 rfl) (notFace_of_selects (args := #[]) (mvT hZ (own_w hw 102 rfl))) (own_w hw 102 rfl) (own_w hw 101 rfl) (own_w hw 33 rfl) (own_w hw 103 rfl) (by decide) pd___J (by rw [hml]; rfl) rfl rfl (Nat.le_of_eq rfl) (by decide) (by decide) (by decide) (by decide) ?_
      rintro T64 _ L64 X64 ⟨rfl, rfl, e64⟩
      show own_Go p e below _ T64 (mkF m 335 #[.val (.long i0), .second, .val (.long i1), .second, .val (.int i2), .val (.long av), .second, .val (.long bw), .second, .val (.int ng), .val (.int pq), .val (.ref b35), .val (.long a1), .second, .val (.long al), .second, .val (.long (232830643 : Int64)), .second, .val (.long (2808348672 : Int64)), .second, .val (.long t0), .second, .val (.long m1), .second, .val (.long m2), .second, .val (.long hh), .second, .val (.long cc), .second, .val (.long lo), .second, .val (.long hi), .second, .val (.long lo2), .second, .val (.long cy), .second, .val (.long hi2), .second, .val (.long bo), .second, .val (.long eh), .second, .val (.long el), .second, .val (.ref b55), .unset, .unset, .unset, .unset] [(.long (own_uh (0 : Int32) v9 v10))])
      rw [List.append_nil] at X64
      refine own_by (T' := T64) (f' := (mkF m 337 #[.val (.long i0), .second, .val (.long i1), .second, .val (.int i2), .val (.long av), .second, .val (.long bw), .second, .val (.int ng), .val (.int pq), .val (.ref b35), .val (.long a1), .second, .val (.long al), .second, .val (.long (232830643 : Int64)), .second, .val (.long (2808348672 : Int64)), .second, .val (.long t0), .second, .val (.long m1), .second, .val (.long m2), .second, .val (.long hh), .second, .val (.long cc), .second, .val (.long lo), .second, .val (.long hi), .second, .val (.long lo2), .second, .val (.long cy), .second, .val (.long hi2), .second, .val (.long bo), .second, .val (.long eh), .second, .val (.long el), .second, .val (.ref b55), .val (.long (own_uh (0 : Int32) v9 v10)), .second, .unset, .unset] [])) (fun t k => XS.lstore X64.here hx rfl (hb hby at_335) rfl (l' := #[.val (.long i0), .second, .val (.long i1), .second, .val (.int i2), .val (.long av), .second, .val (.long bw), .second, .val (.int ng), .val (.int pq), .val (.ref b35), .val (.long a1), .second, .val (.long al), .second, .val (.long (232830643 : Int64)), .second, .val (.long (2808348672 : Int64)), .second, .val (.long t0), .second, .val (.long m1), .second, .val (.long m2), .second, .val (.long hh), .second, .val (.long cc), .second, .val (.long lo), .second, .val (.long hi), .second, .val (.long lo2), .second, .val (.long cy), .second, .val (.long hi2), .second, .val (.long bo), .second, .val (.long eh), .second, .val (.long el), .second, .val (.ref b55), .val (.long (own_uh (0 : Int32) v9 v10)), .second, .unset, .unset]) rfl k) ?_
      refine own_by (T' := T64) (f' := (mkF m 339 #[.val (.long i0), .second, .val (.long i1), .second, .val (.int i2), .val (.long av), .second, .val (.long bw), .second, .val (.int ng), .val (.int pq), .val (.ref b35), .val (.long a1), .second, .val (.long al), .second, .val (.long (232830643 : Int64)), .second, .val (.long (2808348672 : Int64)), .second, .val (.long t0), .second, .val (.long m1), .second, .val (.long m2), .second, .val (.long hh), .second, .val (.long cc), .second, .val (.long lo), .second, .val (.long hi), .second, .val (.long lo2), .second, .val (.long cy), .second, .val (.long hi2), .second, .val (.long bo), .second, .val (.long eh), .second, .val (.long el), .second, .val (.ref b55), .val (.long (own_uh (0 : Int32) v9 v10)), .second, .unset, .unset] [(.ref b55)])) (fun t k => XS.aload X64.here hx rfl (hb hby at_337) rfl rfl k) ?_
      refine own_callV X64 hx hZ hown e64 (hb hby at_339) [] [] 0 (rmUL l Z a0 hw [] b55 (0 : Int32) v9 T60.heap P8 P9) f63 (own_w hw 104 rfl) (own_w hw 105 rfl) (notFace_of_selects (args := #[]) (mvT hZ (own_w hw 107 rfl))) (own_w hw 107 rfl) (own_w hw 106 rfl) (own_w hw 33 rfl) (own_w hw 108 rfl) (by decide) pd___J (by rw [hml]; rfl) rfl rfl (Nat.le_of_eq rfl) (by decide) (by decide) (by decide) (by decide) ?_
      rintro T65 _ L65 X65 ⟨rfl, rfl, e65⟩
      show own_Go p e below _ T65 (mkF m 342 #[.val (.long i0), .second, .val (.long i1), .second, .val (.int i2), .val (.long av), .second, .val (.long bw), .second, .val (.int ng), .val (.int pq), .val (.ref b35), .val (.long a1), .second, .val (.long al), .second, .val (.long (232830643 : Int64)), .second, .val (.long (2808348672 : Int64)), .second, .val (.long t0), .second, .val (.long m1), .second, .val (.long m2), .second, .val (.long hh), .second, .val (.long cc), .second, .val (.long lo), .second, .val (.long hi), .second, .val (.long lo2), .second, .val (.long cy), .second, .val (.long hi2), .second, .val (.long bo), .second, .val (.long eh), .second, .val (.long el), .second, .val (.ref b55), .val (.long (own_uh (0 : Int32) v9 v10)), .second, .unset, .unset] [(.long (own_ul (0 : Int32) v9))])
      rw [List.append_nil] at X65
      refine own_by (T' := T65) (f' := (mkF m 344 #[.val (.long i0), .second, .val (.long i1), .second, .val (.int i2), .val (.long av), .second, .val (.long bw), .second, .val (.int ng), .val (.int pq), .val (.ref b35), .val (.long a1), .second, .val (.long al), .second, .val (.long (232830643 : Int64)), .second, .val (.long (2808348672 : Int64)), .second, .val (.long t0), .second, .val (.long m1), .second, .val (.long m2), .second, .val (.long hh), .second, .val (.long cc), .second, .val (.long lo), .second, .val (.long hi), .second, .val (.long lo2), .second, .val (.long cy), .second, .val (.long hi2), .second, .val (.long bo), .second, .val (.long eh), .second, .val (.long el), .second, .val (.ref b55), .val (.long (own_uh (0 : Int32) v9 v10)), .second, .val (.long (own_ul (0 : Int32) v9)), .second] [])) (fun t k => XS.lstore X65.here hx rfl (hb hby at_342) rfl (l' := #[.val (.long i0), .second, .val (.long i1), .second, .val (.int i2), .val (.long av), .second, .val (.long bw), .second, .val (.int ng), .val (.int pq), .val (.ref b35), .val (.long a1), .second, .val (.long al), .second, .val (.long (232830643 : Int64)), .second, .val (.long (2808348672 : Int64)), .second, .val (.long t0), .second, .val (.long m1), .second, .val (.long m2), .second, .val (.long hh), .second, .val (.long cc), .second, .val (.long lo), .second, .val (.long hi), .second, .val (.long lo2), .second, .val (.long cy), .second, .val (.long hi2), .second, .val (.long bo), .second, .val (.long eh), .second, .val (.long el), .second, .val (.ref b55), .val (.long (own_uh (0 : Int32) v9 v10)), .second, .val (.long (own_ul (0 : Int32) v9)), .second]) rfl k) ?_
      have EH : own_uh (0 : Int32) v9 v10 = eh := by rw [heh, if_pos hc322_62, ← rh]; exact if_pos rfl
      have EL : own_ul (0 : Int32) v9 = el := by rw [hel, if_pos hc322_62, ← rl]; exact if_pos rfl
      refine own_by (T' := T65) (f' := (mkF m 346 #[.val (.long i0), .second, .val (.long i1), .second, .val (.int i2), .val (.long av), .second, .val (.long bw), .second, .val (.int ng), .val (.int pq), .val (.ref b35), .val (.long a1), .second, .val (.long al), .second, .val (.long (232830643 : Int64)), .second, .val (.long (2808348672 : Int64)), .second, .val (.long t0), .second, .val (.long m1), .second, .val (.long m2), .second, .val (.long hh), .second, .val (.long cc), .second, .val (.long lo), .second, .val (.long hi), .second, .val (.long lo2), .second, .val (.long cy), .second, .val (.long hi2), .second, .val (.long bo), .second, .val (.long eh), .second, .val (.long el), .second, .val (.ref b55), .val (.long (own_uh (0 : Int32) v9 v10)), .second, .val (.long (own_ul (0 : Int32) v9)), .second] [(.long (own_uh (0 : Int32) v9 v10))])) (fun t k => XS.lload X65.here hx rfl (hb hby at_344) rfl k) ?_
      refine own_by (T' := T65) (f' := (mkF m 348 #[.val (.long i0), .second, .val (.long i1), .second, .val (.int i2), .val (.long av), .second, .val (.long bw), .second, .val (.int ng), .val (.int pq), .val (.ref b35), .val (.long a1), .second, .val (.long al), .second, .val (.long (232830643 : Int64)), .second, .val (.long (2808348672 : Int64)), .second, .val (.long t0), .second, .val (.long m1), .second, .val (.long m2), .second, .val (.long hh), .second, .val (.long cc), .second, .val (.long lo), .second, .val (.long hi), .second, .val (.long lo2), .second, .val (.long cy), .second, .val (.long hi2), .second, .val (.long bo), .second, .val (.long eh), .second, .val (.long el), .second, .val (.ref b55), .val (.long (own_uh (0 : Int32) v9 v10)), .second, .val (.long (own_ul (0 : Int32) v9)), .second] [(.long eh), (.long (own_uh (0 : Int32) v9 v10))])) (fun t k => XS.lload X65.here hx rfl (hb hby at_346) rfl k) ?_
      refine own_by (T' := T65) (f' := (mkF m 349 #[.val (.long i0), .second, .val (.long i1), .second, .val (.int i2), .val (.long av), .second, .val (.long bw), .second, .val (.int ng), .val (.int pq), .val (.ref b35), .val (.long a1), .second, .val (.long al), .second, .val (.long (232830643 : Int64)), .second, .val (.long (2808348672 : Int64)), .second, .val (.long t0), .second, .val (.long m1), .second, .val (.long m2), .second, .val (.long hh), .second, .val (.long cc), .second, .val (.long lo), .second, .val (.long hi), .second, .val (.long lo2), .second, .val (.long cy), .second, .val (.long hi2), .second, .val (.long bo), .second, .val (.long eh), .second, .val (.long el), .second, .val (.ref b55), .val (.long (own_uh (0 : Int32) v9 v10)), .second, .val (.long (own_ul (0 : Int32) v9)), .second] [(.int (lcmpW (own_uh (0 : Int32) v9 v10) eh))])) (fun t k => XS.lcmp X65.here hx rfl (hb hby at_348) rfl k) ?_
      have hc349_66 : (own_uh (0 : Int32) v9 v10) = eh := EH
      refine own_by (T' := T65) (f' := (mkF m 352 #[.val (.long i0), .second, .val (.long i1), .second, .val (.int i2), .val (.long av), .second, .val (.long bw), .second, .val (.int ng), .val (.int pq), .val (.ref b35), .val (.long a1), .second, .val (.long al), .second, .val (.long (232830643 : Int64)), .second, .val (.long (2808348672 : Int64)), .second, .val (.long t0), .second, .val (.long m1), .second, .val (.long m2), .second, .val (.long hh), .second, .val (.long cc), .second, .val (.long lo), .second, .val (.long hi), .second, .val (.long lo2), .second, .val (.long cy), .second, .val (.long hi2), .second, .val (.long bo), .second, .val (.long eh), .second, .val (.long el), .second, .val (.ref b55), .val (.long (own_uh (0 : Int32) v9 v10)), .second, .val (.long (own_ul (0 : Int32) v9)), .second] [])) (fun t k => XS.ifNo X65.here hx rfl (hb hby at_349) rfl ((if0 _ _).trans (teq ((lw_eq _ _).mpr hc349_66)).2) k) ?_
      refine own_by (T' := T65) (f' := (mkF m 354 #[.val (.long i0), .second, .val (.long i1), .second, .val (.int i2), .val (.long av), .second, .val (.long bw), .second, .val (.int ng), .val (.int pq), .val (.ref b35), .val (.long a1), .second, .val (.long al), .second, .val (.long (232830643 : Int64)), .second, .val (.long (2808348672 : Int64)), .second, .val (.long t0), .second, .val (.long m1), .second, .val (.long m2), .second, .val (.long hh), .second, .val (.long cc), .second, .val (.long lo), .second, .val (.long hi), .second, .val (.long lo2), .second, .val (.long cy), .second, .val (.long hi2), .second, .val (.long bo), .second, .val (.long eh), .second, .val (.long el), .second, .val (.ref b55), .val (.long (own_uh (0 : Int32) v9 v10)), .second, .val (.long (own_ul (0 : Int32) v9)), .second] [(.long (own_ul (0 : Int32) v9))])) (fun t k => XS.lload X65.here hx rfl (hb hby at_352) rfl k) ?_
      refine own_by (T' := T65) (f' := (mkF m 356 #[.val (.long i0), .second, .val (.long i1), .second, .val (.int i2), .val (.long av), .second, .val (.long bw), .second, .val (.int ng), .val (.int pq), .val (.ref b35), .val (.long a1), .second, .val (.long al), .second, .val (.long (232830643 : Int64)), .second, .val (.long (2808348672 : Int64)), .second, .val (.long t0), .second, .val (.long m1), .second, .val (.long m2), .second, .val (.long hh), .second, .val (.long cc), .second, .val (.long lo), .second, .val (.long hi), .second, .val (.long lo2), .second, .val (.long cy), .second, .val (.long hi2), .second, .val (.long bo), .second, .val (.long eh), .second, .val (.long el), .second, .val (.ref b55), .val (.long (own_uh (0 : Int32) v9 v10)), .second, .val (.long (own_ul (0 : Int32) v9)), .second] [(.long el), (.long (own_ul (0 : Int32) v9))])) (fun t k => XS.lload X65.here hx rfl (hb hby at_354) rfl k) ?_
      refine own_by (T' := T65) (f' := (mkF m 357 #[.val (.long i0), .second, .val (.long i1), .second, .val (.int i2), .val (.long av), .second, .val (.long bw), .second, .val (.int ng), .val (.int pq), .val (.ref b35), .val (.long a1), .second, .val (.long al), .second, .val (.long (232830643 : Int64)), .second, .val (.long (2808348672 : Int64)), .second, .val (.long t0), .second, .val (.long m1), .second, .val (.long m2), .second, .val (.long hh), .second, .val (.long cc), .second, .val (.long lo), .second, .val (.long hi), .second, .val (.long lo2), .second, .val (.long cy), .second, .val (.long hi2), .second, .val (.long bo), .second, .val (.long eh), .second, .val (.long el), .second, .val (.ref b55), .val (.long (own_uh (0 : Int32) v9 v10)), .second, .val (.long (own_ul (0 : Int32) v9)), .second] [(.int (lcmpW (own_ul (0 : Int32) v9) el))])) (fun t k => XS.lcmp X65.here hx rfl (hb hby at_356) rfl k) ?_
      have hc357_67 : (own_ul (0 : Int32) v9) = el := EL
      refine own_by (T' := T65) (f' := (mkF m 360 #[.val (.long i0), .second, .val (.long i1), .second, .val (.int i2), .val (.long av), .second, .val (.long bw), .second, .val (.int ng), .val (.int pq), .val (.ref b35), .val (.long a1), .second, .val (.long al), .second, .val (.long (232830643 : Int64)), .second, .val (.long (2808348672 : Int64)), .second, .val (.long t0), .second, .val (.long m1), .second, .val (.long m2), .second, .val (.long hh), .second, .val (.long cc), .second, .val (.long lo), .second, .val (.long hi), .second, .val (.long lo2), .second, .val (.long cy), .second, .val (.long hi2), .second, .val (.long bo), .second, .val (.long eh), .second, .val (.long el), .second, .val (.ref b55), .val (.long (own_uh (0 : Int32) v9 v10)), .second, .val (.long (own_ul (0 : Int32) v9)), .second] [])) (fun t k => XS.ifNo X65.here hx rfl (hb hby at_357) rfl ((if0 _ _).trans (teq ((lw_eq _ _).mpr hc357_67)).2) k) ?_
      refine own_by (T' := T65) (f' := (mkF m 361 #[.val (.long i0), .second, .val (.long i1), .second, .val (.int i2), .val (.long av), .second, .val (.long bw), .second, .val (.int ng), .val (.int pq), .val (.ref b35), .val (.long a1), .second, .val (.long al), .second, .val (.long (232830643 : Int64)), .second, .val (.long (2808348672 : Int64)), .second, .val (.long t0), .second, .val (.long m1), .second, .val (.long m2), .second, .val (.long hh), .second, .val (.long cc), .second, .val (.long lo), .second, .val (.long hi), .second, .val (.long lo2), .second, .val (.long cy), .second, .val (.long hi2), .second, .val (.long bo), .second, .val (.long eh), .second, .val (.long el), .second, .val (.ref b55), .val (.long (own_uh (0 : Int32) v9 v10)), .second, .val (.long (own_ul (0 : Int32) v9)), .second] [(.int (1 : Int32))])) (fun t k => XS.iconst X65.here hx rfl (hb hby at_360) k) ?_
      refine own_by (T' := T65) (f' := (mkF m 365 #[.val (.long i0), .second, .val (.long i1), .second, .val (.int i2), .val (.long av), .second, .val (.long bw), .second, .val (.int ng), .val (.int pq), .val (.ref b35), .val (.long a1), .second, .val (.long al), .second, .val (.long (232830643 : Int64)), .second, .val (.long (2808348672 : Int64)), .second, .val (.long t0), .second, .val (.long m1), .second, .val (.long m2), .second, .val (.long hh), .second, .val (.long cc), .second, .val (.long lo), .second, .val (.long hi), .second, .val (.long lo2), .second, .val (.long cy), .second, .val (.long hi2), .second, .val (.long bo), .second, .val (.long eh), .second, .val (.long el), .second, .val (.ref b55), .val (.long (own_uh (0 : Int32) v9 v10)), .second, .val (.long (own_ul (0 : Int32) v9)), .second] [(.int (1 : Int32))])) (fun t k => XS.goto X65.here hx rfl (pc0 := 361) (pc' := 365) rfl (hb hby at_361) (by decide) (by decide) k) ?_
      refine own_retZ X65 hx hret hlk (hb hby at_365) (Or.inr rfl) (by decide) (by decide) ?_
      try rw [e65]
      exact ⟨rfl, N60⟩
    · have _ := X60
      refine own_by (T' := T60) (f' := (mkF m 325 #[.val (.long i0), .second, .val (.long i1), .second, .val (.int i2), .val (.long av), .second, .val (.long bw), .second, .val (.int ng), .val (.int pq), .val (.ref b35), .val (.long a1), .second, .val (.long al), .second, .val (.long (232830643 : Int64)), .second, .val (.long (2808348672 : Int64)), .second, .val (.long t0), .second, .val (.long m1), .second, .val (.long m2), .second, .val (.long hh), .second, .val (.long cc), .second, .val (.long lo), .second, .val (.long hi), .second, .val (.long lo2), .second, .val (.long cy), .second, .val (.long hi2), .second, .val (.long bo), .second, .val (.long eh), .second, .val (.long el), .second, .val (.ref b55), .unset, .unset, .unset, .unset] [])) (fun t k => XS.ifNo X60.here hx rfl (hb hby at_322) rfl ((if0 _ _).trans (feq hc322_62).1) k) ?_
      refine own_by (T' := T60) (f' := (mkF m 327 #[.val (.long i0), .second, .val (.long i1), .second, .val (.int i2), .val (.long av), .second, .val (.long bw), .second, .val (.int ng), .val (.int pq), .val (.ref b35), .val (.long a1), .second, .val (.long al), .second, .val (.long (232830643 : Int64)), .second, .val (.long (2808348672 : Int64)), .second, .val (.long t0), .second, .val (.long m1), .second, .val (.long m2), .second, .val (.long hh), .second, .val (.long cc), .second, .val (.long lo), .second, .val (.long hi), .second, .val (.long lo2), .second, .val (.long cy), .second, .val (.long hi2), .second, .val (.long bo), .second, .val (.long eh), .second, .val (.long el), .second, .val (.ref b55), .unset, .unset, .unset, .unset] [(.ref b55)])) (fun t k => XS.aload X60.here hx rfl (hb hby at_325) rfl rfl k) ?_
      have f68 := (A55.keep K60)
      have q69 : ∀ x ∈ [b55], ∃ c : Cell, T60.heap[x]? = some c ∧ c.vm.isStatics = false := (allS (own_ns f68) all0)
      refine own_callV X60 hx hZ hown rfl (hb hby at_327) [] [] 0 (rmNG l Z a0 hw [] b55 (0 : Int32) v9 v10 T60.heap n0 sz61 gn55 f68 P8 P9 P10) f68 (own_w hw 109 rfl) (own_w hw 110 rfl) (notFace_of_selects (args := #[]) (mvT hZ (own_w hw 112 rfl))) (own_w hw 112 rfl) (own_w hw 111 rfl) (own_w hw 33 rfl) (own_w hw 113 rfl) (by decide) pd___V (by rw [hml]; rfl) rfl rfl (Nat.le_of_eq rfl) (by decide) (by decide) (by decide) (by decide) ?_
      rintro T70 _ L70 X70 ⟨rfl, N70q, K70, Q8, Q9, Q10⟩
      show own_Go p e below _ T70 (mkF m 330 #[.val (.long i0), .second, .val (.long i1), .second, .val (.int i2), .val (.long av), .second, .val (.long bw), .second, .val (.int ng), .val (.int pq), .val (.ref b35), .val (.long a1), .second, .val (.long al), .second, .val (.long (232830643 : Int64)), .second, .val (.long (2808348672 : Int64)), .second, .val (.long t0), .second, .val (.long m1), .second, .val (.long m2), .second, .val (.long hh), .second, .val (.long cc), .second, .val (.long lo), .second, .val (.long hi), .second, .val (.long lo2), .second, .val (.long cy), .second, .val (.long hi2), .second, .val (.long bo), .second, .val (.long eh), .second, .val (.long el), .second, .val (.ref b55), .unset, .unset, .unset, .unset] [])
      have N70 := Fr.app N60 N70q
      have sz71 : n0 ≤ T70.heap.size := Nat.le_trans sz61 K70.1
      refine own_by (T' := T70) (f' := (mkF m 332 #[.val (.long i0), .second, .val (.long i1), .second, .val (.int i2), .val (.long av), .second, .val (.long bw), .second, .val (.int ng), .val (.int pq), .val (.ref b35), .val (.long a1), .second, .val (.long al), .second, .val (.long (232830643 : Int64)), .second, .val (.long (2808348672 : Int64)), .second, .val (.long t0), .second, .val (.long m1), .second, .val (.long m2), .second, .val (.long hh), .second, .val (.long cc), .second, .val (.long lo), .second, .val (.long hi), .second, .val (.long lo2), .second, .val (.long cy), .second, .val (.long hi2), .second, .val (.long bo), .second, .val (.long eh), .second, .val (.long el), .second, .val (.ref b55), .unset, .unset, .unset, .unset] [(.ref b55)])) (fun t k => XS.aload X70.here hx rfl (hb hby at_330) rfl rfl k) ?_
      have f72 := (f68.keep K70)
      refine own_callV X70 hx hZ hown rfl (hb hby at_332) [] [] 0 (rmUH l Z a0 hw [] b55 (1 : Int32) v9 v10 T70.heap Q8 Q9 Q10) f72 (own_w hw 99 rfl) (own_w hw 100 rfl) (notFace_of_selects (args := #[]) (mvT hZ (own_w hw 102 rfl))) (own_w hw 102 rfl) (own_w hw 101 rfl) (own_w hw 33 rfl) (own_w hw 103 rfl) (by decide) pd___J (by rw [hml]; rfl) rfl rfl (Nat.le_of_eq rfl) (by decide) (by decide) (by decide) (by decide) ?_
      rintro T73 _ L73 X73 ⟨rfl, rfl, e73⟩
      show own_Go p e below _ T73 (mkF m 335 #[.val (.long i0), .second, .val (.long i1), .second, .val (.int i2), .val (.long av), .second, .val (.long bw), .second, .val (.int ng), .val (.int pq), .val (.ref b35), .val (.long a1), .second, .val (.long al), .second, .val (.long (232830643 : Int64)), .second, .val (.long (2808348672 : Int64)), .second, .val (.long t0), .second, .val (.long m1), .second, .val (.long m2), .second, .val (.long hh), .second, .val (.long cc), .second, .val (.long lo), .second, .val (.long hi), .second, .val (.long lo2), .second, .val (.long cy), .second, .val (.long hi2), .second, .val (.long bo), .second, .val (.long eh), .second, .val (.long el), .second, .val (.ref b55), .unset, .unset, .unset, .unset] [(.long (own_uh (1 : Int32) v9 v10))])
      rw [List.append_nil] at X73
      refine own_by (T' := T73) (f' := (mkF m 337 #[.val (.long i0), .second, .val (.long i1), .second, .val (.int i2), .val (.long av), .second, .val (.long bw), .second, .val (.int ng), .val (.int pq), .val (.ref b35), .val (.long a1), .second, .val (.long al), .second, .val (.long (232830643 : Int64)), .second, .val (.long (2808348672 : Int64)), .second, .val (.long t0), .second, .val (.long m1), .second, .val (.long m2), .second, .val (.long hh), .second, .val (.long cc), .second, .val (.long lo), .second, .val (.long hi), .second, .val (.long lo2), .second, .val (.long cy), .second, .val (.long hi2), .second, .val (.long bo), .second, .val (.long eh), .second, .val (.long el), .second, .val (.ref b55), .val (.long (own_uh (1 : Int32) v9 v10)), .second, .unset, .unset] [])) (fun t k => XS.lstore X73.here hx rfl (hb hby at_335) rfl (l' := #[.val (.long i0), .second, .val (.long i1), .second, .val (.int i2), .val (.long av), .second, .val (.long bw), .second, .val (.int ng), .val (.int pq), .val (.ref b35), .val (.long a1), .second, .val (.long al), .second, .val (.long (232830643 : Int64)), .second, .val (.long (2808348672 : Int64)), .second, .val (.long t0), .second, .val (.long m1), .second, .val (.long m2), .second, .val (.long hh), .second, .val (.long cc), .second, .val (.long lo), .second, .val (.long hi), .second, .val (.long lo2), .second, .val (.long cy), .second, .val (.long hi2), .second, .val (.long bo), .second, .val (.long eh), .second, .val (.long el), .second, .val (.ref b55), .val (.long (own_uh (1 : Int32) v9 v10)), .second, .unset, .unset]) rfl k) ?_
      refine own_by (T' := T73) (f' := (mkF m 339 #[.val (.long i0), .second, .val (.long i1), .second, .val (.int i2), .val (.long av), .second, .val (.long bw), .second, .val (.int ng), .val (.int pq), .val (.ref b35), .val (.long a1), .second, .val (.long al), .second, .val (.long (232830643 : Int64)), .second, .val (.long (2808348672 : Int64)), .second, .val (.long t0), .second, .val (.long m1), .second, .val (.long m2), .second, .val (.long hh), .second, .val (.long cc), .second, .val (.long lo), .second, .val (.long hi), .second, .val (.long lo2), .second, .val (.long cy), .second, .val (.long hi2), .second, .val (.long bo), .second, .val (.long eh), .second, .val (.long el), .second, .val (.ref b55), .val (.long (own_uh (1 : Int32) v9 v10)), .second, .unset, .unset] [(.ref b55)])) (fun t k => XS.aload X73.here hx rfl (hb hby at_337) rfl rfl k) ?_
      refine own_callV X73 hx hZ hown e73 (hb hby at_339) [] [] 0 (rmUL l Z a0 hw [] b55 (1 : Int32) v9 T70.heap Q8 Q9) f72 (own_w hw 104 rfl) (own_w hw 105 rfl) (notFace_of_selects (args := #[]) (mvT hZ (own_w hw 107 rfl))) (own_w hw 107 rfl) (own_w hw 106 rfl) (own_w hw 33 rfl) (own_w hw 108 rfl) (by decide) pd___J (by rw [hml]; rfl) rfl rfl (Nat.le_of_eq rfl) (by decide) (by decide) (by decide) (by decide) ?_
      rintro T74 _ L74 X74 ⟨rfl, rfl, e74⟩
      show own_Go p e below _ T74 (mkF m 342 #[.val (.long i0), .second, .val (.long i1), .second, .val (.int i2), .val (.long av), .second, .val (.long bw), .second, .val (.int ng), .val (.int pq), .val (.ref b35), .val (.long a1), .second, .val (.long al), .second, .val (.long (232830643 : Int64)), .second, .val (.long (2808348672 : Int64)), .second, .val (.long t0), .second, .val (.long m1), .second, .val (.long m2), .second, .val (.long hh), .second, .val (.long cc), .second, .val (.long lo), .second, .val (.long hi), .second, .val (.long lo2), .second, .val (.long cy), .second, .val (.long hi2), .second, .val (.long bo), .second, .val (.long eh), .second, .val (.long el), .second, .val (.ref b55), .val (.long (own_uh (1 : Int32) v9 v10)), .second, .unset, .unset] [(.long (own_ul (1 : Int32) v9))])
      rw [List.append_nil] at X74
      refine own_by (T' := T74) (f' := (mkF m 344 #[.val (.long i0), .second, .val (.long i1), .second, .val (.int i2), .val (.long av), .second, .val (.long bw), .second, .val (.int ng), .val (.int pq), .val (.ref b35), .val (.long a1), .second, .val (.long al), .second, .val (.long (232830643 : Int64)), .second, .val (.long (2808348672 : Int64)), .second, .val (.long t0), .second, .val (.long m1), .second, .val (.long m2), .second, .val (.long hh), .second, .val (.long cc), .second, .val (.long lo), .second, .val (.long hi), .second, .val (.long lo2), .second, .val (.long cy), .second, .val (.long hi2), .second, .val (.long bo), .second, .val (.long eh), .second, .val (.long el), .second, .val (.ref b55), .val (.long (own_uh (1 : Int32) v9 v10)), .second, .val (.long (own_ul (1 : Int32) v9)), .second] [])) (fun t k => XS.lstore X74.here hx rfl (hb hby at_342) rfl (l' := #[.val (.long i0), .second, .val (.long i1), .second, .val (.int i2), .val (.long av), .second, .val (.long bw), .second, .val (.int ng), .val (.int pq), .val (.ref b35), .val (.long a1), .second, .val (.long al), .second, .val (.long (232830643 : Int64)), .second, .val (.long (2808348672 : Int64)), .second, .val (.long t0), .second, .val (.long m1), .second, .val (.long m2), .second, .val (.long hh), .second, .val (.long cc), .second, .val (.long lo), .second, .val (.long hi), .second, .val (.long lo2), .second, .val (.long cy), .second, .val (.long hi2), .second, .val (.long bo), .second, .val (.long eh), .second, .val (.long el), .second, .val (.ref b55), .val (.long (own_uh (1 : Int32) v9 v10)), .second, .val (.long (own_ul (1 : Int32) v9)), .second]) rfl k) ?_
      have EH : own_uh (1 : Int32) v9 v10 = eh := by rw [heh, if_neg hc322_62, ← rh, ← own_negH (lo := v9) (by rw [rl]; exact hbo)]; exact if_neg (by decide)
      have EL : own_ul (1 : Int32) v9 = el := by rw [hel, if_neg hc322_62, ← rl, ← own_negL]; exact if_neg (by decide)
      refine own_by (T' := T74) (f' := (mkF m 346 #[.val (.long i0), .second, .val (.long i1), .second, .val (.int i2), .val (.long av), .second, .val (.long bw), .second, .val (.int ng), .val (.int pq), .val (.ref b35), .val (.long a1), .second, .val (.long al), .second, .val (.long (232830643 : Int64)), .second, .val (.long (2808348672 : Int64)), .second, .val (.long t0), .second, .val (.long m1), .second, .val (.long m2), .second, .val (.long hh), .second, .val (.long cc), .second, .val (.long lo), .second, .val (.long hi), .second, .val (.long lo2), .second, .val (.long cy), .second, .val (.long hi2), .second, .val (.long bo), .second, .val (.long eh), .second, .val (.long el), .second, .val (.ref b55), .val (.long (own_uh (1 : Int32) v9 v10)), .second, .val (.long (own_ul (1 : Int32) v9)), .second] [(.long (own_uh (1 : Int32) v9 v10))])) (fun t k => XS.lload X74.here hx rfl (hb hby at_344) rfl k) ?_
      refine own_by (T' := T74) (f' := (mkF m 348 #[.val (.long i0), .second, .val (.long i1), .second, .val (.int i2), .val (.long av), .second, .val (.long bw), .second, .val (.int ng), .val (.int pq), .val (.ref b35), .val (.long a1), .second, .val (.long al), .second, .val (.long (232830643 : Int64)), .second, .val (.long (2808348672 : Int64)), .second, .val (.long t0), .second, .val (.long m1), .second, .val (.long m2), .second, .val (.long hh), .second, .val (.long cc), .second, .val (.long lo), .second, .val (.long hi), .second, .val (.long lo2), .second, .val (.long cy), .second, .val (.long hi2), .second, .val (.long bo), .second, .val (.long eh), .second, .val (.long el), .second, .val (.ref b55), .val (.long (own_uh (1 : Int32) v9 v10)), .second, .val (.long (own_ul (1 : Int32) v9)), .second] [(.long eh), (.long (own_uh (1 : Int32) v9 v10))])) (fun t k => XS.lload X74.here hx rfl (hb hby at_346) rfl k) ?_
      refine own_by (T' := T74) (f' := (mkF m 349 #[.val (.long i0), .second, .val (.long i1), .second, .val (.int i2), .val (.long av), .second, .val (.long bw), .second, .val (.int ng), .val (.int pq), .val (.ref b35), .val (.long a1), .second, .val (.long al), .second, .val (.long (232830643 : Int64)), .second, .val (.long (2808348672 : Int64)), .second, .val (.long t0), .second, .val (.long m1), .second, .val (.long m2), .second, .val (.long hh), .second, .val (.long cc), .second, .val (.long lo), .second, .val (.long hi), .second, .val (.long lo2), .second, .val (.long cy), .second, .val (.long hi2), .second, .val (.long bo), .second, .val (.long eh), .second, .val (.long el), .second, .val (.ref b55), .val (.long (own_uh (1 : Int32) v9 v10)), .second, .val (.long (own_ul (1 : Int32) v9)), .second] [(.int (lcmpW (own_uh (1 : Int32) v9 v10) eh))])) (fun t k => XS.lcmp X74.here hx rfl (hb hby at_348) rfl k) ?_
      have hc349_75 : (own_uh (1 : Int32) v9 v10) = eh := EH
      refine own_by (T' := T74) (f' := (mkF m 352 #[.val (.long i0), .second, .val (.long i1), .second, .val (.int i2), .val (.long av), .second, .val (.long bw), .second, .val (.int ng), .val (.int pq), .val (.ref b35), .val (.long a1), .second, .val (.long al), .second, .val (.long (232830643 : Int64)), .second, .val (.long (2808348672 : Int64)), .second, .val (.long t0), .second, .val (.long m1), .second, .val (.long m2), .second, .val (.long hh), .second, .val (.long cc), .second, .val (.long lo), .second, .val (.long hi), .second, .val (.long lo2), .second, .val (.long cy), .second, .val (.long hi2), .second, .val (.long bo), .second, .val (.long eh), .second, .val (.long el), .second, .val (.ref b55), .val (.long (own_uh (1 : Int32) v9 v10)), .second, .val (.long (own_ul (1 : Int32) v9)), .second] [])) (fun t k => XS.ifNo X74.here hx rfl (hb hby at_349) rfl ((if0 _ _).trans (teq ((lw_eq _ _).mpr hc349_75)).2) k) ?_
      refine own_by (T' := T74) (f' := (mkF m 354 #[.val (.long i0), .second, .val (.long i1), .second, .val (.int i2), .val (.long av), .second, .val (.long bw), .second, .val (.int ng), .val (.int pq), .val (.ref b35), .val (.long a1), .second, .val (.long al), .second, .val (.long (232830643 : Int64)), .second, .val (.long (2808348672 : Int64)), .second, .val (.long t0), .second, .val (.long m1), .second, .val (.long m2), .second, .val (.long hh), .second, .val (.long cc), .second, .val (.long lo), .second, .val (.long hi), .second, .val (.long lo2), .second, .val (.long cy), .second, .val (.long hi2), .second, .val (.long bo), .second, .val (.long eh), .second, .val (.long el), .second, .val (.ref b55), .val (.long (own_uh (1 : Int32) v9 v10)), .second, .val (.long (own_ul (1 : Int32) v9)), .second] [(.long (own_ul (1 : Int32) v9))])) (fun t k => XS.lload X74.here hx rfl (hb hby at_352) rfl k) ?_
      refine own_by (T' := T74) (f' := (mkF m 356 #[.val (.long i0), .second, .val (.long i1), .second, .val (.int i2), .val (.long av), .second, .val (.long bw), .second, .val (.int ng), .val (.int pq), .val (.ref b35), .val (.long a1), .second, .val (.long al), .second, .val (.long (232830643 : Int64)), .second, .val (.long (2808348672 : Int64)), .second, .val (.long t0), .second, .val (.long m1), .second, .val (.long m2), .second, .val (.long hh), .second, .val (.long cc), .second, .val (.long lo), .second, .val (.long hi), .second, .val (.long lo2), .second, .val (.long cy), .second, .val (.long hi2), .second, .val (.long bo), .second, .val (.long eh), .second, .val (.long el), .second, .val (.ref b55), .val (.long (own_uh (1 : Int32) v9 v10)), .second, .val (.long (own_ul (1 : Int32) v9)), .second] [(.long el), (.long (own_ul (1 : Int32) v9))])) (fun t k => XS.lload X74.here hx rfl (hb hby at_354) rfl k) ?_
      refine own_by (T' := T74) (f' := (mkF m 357 #[.val (.long i0), .second, .val (.long i1), .second, .val (.int i2), .val (.long av), .second, .val (.long bw), .second, .val (.int ng), .val (.int pq), .val (.ref b35), .val (.long a1), .second, .val (.long al), .second, .val (.long (232830643 : Int64)), .second, .val (.long (2808348672 : Int64)), .second, .val (.long t0), .second, .val (.long m1), .second, .val (.long m2), .second, .val (.long hh), .second, .val (.long cc), .second, .val (.long lo), .second, .val (.long hi), .second, .val (.long lo2), .second, .val (.long cy), .second, .val (.long hi2), .second, .val (.long bo), .second, .val (.long eh), .second, .val (.long el), .second, .val (.ref b55), .val (.long (own_uh (1 : Int32) v9 v10)), .second, .val (.long (own_ul (1 : Int32) v9)), .second] [(.int (lcmpW (own_ul (1 : Int32) v9) el))])) (fun t k => XS.lcmp X74.here hx rfl (hb hby at_356) rfl k) ?_
      have hc357_76 : (own_ul (1 : Int32) v9) = el := EL
      refine own_by (T' := T74) (f' := (mkF m 360 #[.val (.long i0), .second, .val (.long i1), .second, .val (.int i2), .val (.long av), .second, .val (.long bw), .second, .val (.int ng), .val (.int pq), .val (.ref b35), .val (.long a1), .second, .val (.long al), .second, .val (.long (232830643 : Int64)), .second, .val (.long (2808348672 : Int64)), .second, .val (.long t0), .second, .val (.long m1), .second, .val (.long m2), .second, .val (.long hh), .second, .val (.long cc), .second, .val (.long lo), .second, .val (.long hi), .second, .val (.long lo2), .second, .val (.long cy), .second, .val (.long hi2), .second, .val (.long bo), .second, .val (.long eh), .second, .val (.long el), .second, .val (.ref b55), .val (.long (own_uh (1 : Int32) v9 v10)), .second, .val (.long (own_ul (1 : Int32) v9)), .second] [])) (fun t k => XS.ifNo X74.here hx rfl (hb hby at_357) rfl ((if0 _ _).trans (teq ((lw_eq _ _).mpr hc357_76)).2) k) ?_
      refine own_by (T' := T74) (f' := (mkF m 361 #[.val (.long i0), .second, .val (.long i1), .second, .val (.int i2), .val (.long av), .second, .val (.long bw), .second, .val (.int ng), .val (.int pq), .val (.ref b35), .val (.long a1), .second, .val (.long al), .second, .val (.long (232830643 : Int64)), .second, .val (.long (2808348672 : Int64)), .second, .val (.long t0), .second, .val (.long m1), .second, .val (.long m2), .second, .val (.long hh), .second, .val (.long cc), .second, .val (.long lo), .second, .val (.long hi), .second, .val (.long lo2), .second, .val (.long cy), .second, .val (.long hi2), .second, .val (.long bo), .second, .val (.long eh), .second, .val (.long el), .second, .val (.ref b55), .val (.long (own_uh (1 : Int32) v9 v10)), .second, .val (.long (own_ul (1 : Int32) v9)), .second] [(.int (1 : Int32))])) (fun t k => XS.iconst X74.here hx rfl (hb hby at_360) k) ?_
      refine own_by (T' := T74) (f' := (mkF m 365 #[.val (.long i0), .second, .val (.long i1), .second, .val (.int i2), .val (.long av), .second, .val (.long bw), .second, .val (.int ng), .val (.int pq), .val (.ref b35), .val (.long a1), .second, .val (.long al), .second, .val (.long (232830643 : Int64)), .second, .val (.long (2808348672 : Int64)), .second, .val (.long t0), .second, .val (.long m1), .second, .val (.long m2), .second, .val (.long hh), .second, .val (.long cc), .second, .val (.long lo), .second, .val (.long hi), .second, .val (.long lo2), .second, .val (.long cy), .second, .val (.long hi2), .second, .val (.long bo), .second, .val (.long eh), .second, .val (.long el), .second, .val (.ref b55), .val (.long (own_uh (1 : Int32) v9 v10)), .second, .val (.long (own_ul (1 : Int32) v9)), .second] [(.int (1 : Int32))])) (fun t k => XS.goto X74.here hx rfl (pc0 := 361) (pc' := 365) rfl (hb hby at_361) (by decide) (by decide) k) ?_
      refine own_retZ X74 hx hret hlk (hb hby at_365) (Or.inr rfl) (by decide) (by decide) ?_
      try rw [e74]
      exact ⟨rfl, N70⟩
  · have _ := X41
    refine own_by (T' := T41) (f' := (mkF m 76 #[.val (.long i0), .second, .val (.long i1), .second, .val (.int i2), .val (.long av), .second, .val (.long bw), .second, .val (.int ng), .val (.int pq), .val (.ref b35), .unset, .unset, .unset, .unset, .unset, .unset, .unset, .unset, .unset, .unset, .unset, .unset, .unset, .unset, .unset, .unset, .unset, .unset, .unset, .unset, .unset, .unset, .unset, .unset, .unset, .unset, .unset, .unset, .unset, .unset, .unset, .unset, .unset, .unset, .unset, .unset, .unset, .unset, .unset] [])) (fun t k => XS.ifNo X41.here hx rfl (hb hby at_73) rfl ((if0 _ _).trans (feq hc73_43).1) k) ?_
    refine own_by (T' := T41) (f' := (mkF m 78 #[.val (.long i0), .second, .val (.long i1), .second, .val (.int i2), .val (.long av), .second, .val (.long bw), .second, .val (.int ng), .val (.int pq), .val (.ref b35), .unset, .unset, .unset, .unset, .unset, .unset, .unset, .unset, .unset, .unset, .unset, .unset, .unset, .unset, .unset, .unset, .unset, .unset, .unset, .unset, .unset, .unset, .unset, .unset, .unset, .unset, .unset, .unset, .unset, .unset, .unset, .unset, .unset, .unset, .unset, .unset, .unset, .unset, .unset] [(.ref b35)])) (fun t k => XS.aload X41.here hx rfl (hb hby at_76) rfl rfl k) ?_
    refine own_by (T' := T41) (f' := (mkF m 80 #[.val (.long i0), .second, .val (.long i1), .second, .val (.int i2), .val (.long av), .second, .val (.long bw), .second, .val (.int ng), .val (.int pq), .val (.ref b35), .unset, .unset, .unset, .unset, .unset, .unset, .unset, .unset, .unset, .unset, .unset, .unset, .unset, .unset, .unset, .unset, .unset, .unset, .unset, .unset, .unset, .unset, .unset, .unset, .unset, .unset, .unset, .unset, .unset, .unset, .unset, .unset, .unset, .unset, .unset, .unset, .unset, .unset, .unset] [(.int (18 : Int32)), (.ref b35)])) (fun t k => XS.bipush X41.here hx rfl (hb hby at_78) k) ?_
    refine own_by (T' := T41) (f' := (mkF m 82 #[.val (.long i0), .second, .val (.long i1), .second, .val (.int i2), .val (.long av), .second, .val (.long bw), .second, .val (.int ng), .val (.int pq), .val (.ref b35), .unset, .unset, .unset, .unset, .unset, .unset, .unset, .unset, .unset, .unset, .unset, .unset, .unset, .unset, .unset, .unset, .unset, .unset, .unset, .unset, .unset, .unset, .unset, .unset, .unset, .unset, .unset, .unset, .unset, .unset, .unset, .unset, .unset, .unset, .unset, .unset, .unset, .unset, .unset] [(.int (46 : Int32)), (.int (18 : Int32)), (.ref b35)])) (fun t k => XS.bipush X41.here hx rfl (hb hby at_80) k) ?_
    have _ : (18 : Int32).toInt = 18 := by decide
    refine own_stC X41 hx hZ rfl (hb hby at_82) A41 (by first | decide | omega) (by first | decide | omega) ?_
    intro T77 h77 X77 e77 W77 A77
    show own_Go p e below _ T77 (mkF m 83 #[.val (.long i0), .second, .val (.long i1), .second, .val (.int i2), .val (.long av), .second, .val (.long bw), .second, .val (.int ng), .val (.int pq), .val (.ref b35), .unset, .unset, .unset, .unset, .unset, .unset, .unset, .unset, .unset, .unset, .unset, .unset, .unset, .unset, .unset, .unset, .unset, .unset, .unset, .unset, .unset, .unset, .unset, .unset, .unset, .unset, .unset, .unset, .unset, .unset, .unset, .unset, .unset, .unset, .unset, .unset, .unset, .unset, .unset] [])
    have sz78 : n0 ≤ h77.size := by rw [W77.size]; exact sz42
    have N77 := Fr.snoc X77 N41 gn35
    obtain ⟨g2, hg2⟩ : ∃ z : Nat → Int32, z = (fun i => if i = (18 : Int32).toInt.toNat then (nar .char (46 : Int32)) else g1 i) := ⟨_, rfl⟩
    have A79 : own_A Z h77 b35 .char 37 g2 := A77.congr (fun i hi => by rw [hg2])
    have h18 : g2 18 = 46 := by rw [hg2]; rfl
    have h2o : ∀ i, i < 18 → g2 i = g1 i := fun i hi => by rw [hg2]; exact if_neg (fun z => by rw [show (18 : Int32).toInt.toNat = 18 from by decide] at z; omega)
    refine own_by (T' := T77) (f' := (mkF m 85 #[.val (.long i0), .second, .val (.long i1), .second, .val (.int i2), .val (.long av), .second, .val (.long bw), .second, .val (.int ng), .val (.int pq), .val (.ref b35), .unset, .unset, .unset, .unset, .unset, .unset, .unset, .unset, .unset, .unset, .unset, .unset, .unset, .unset, .unset, .unset, .unset, .unset, .unset, .unset, .unset, .unset, .unset, .unset, .unset, .unset, .unset, .unset, .unset, .unset, .unset, .unset, .unset, .unset, .unset, .unset, .unset, .unset, .unset] [(.ref b35)])) (fun t k => XS.aload X77.here hx rfl (hb hby at_83) rfl rfl k) ?_
    refine own_by (T' := T77) (f' := (mkF m 87 #[.val (.long i0), .second, .val (.long i1), .second, .val (.int i2), .val (.long av), .second, .val (.long bw), .second, .val (.int ng), .val (.int pq), .val (.ref b35), .unset, .unset, .unset, .unset, .unset, .unset, .unset, .unset, .unset, .unset, .unset, .unset, .unset, .unset, .unset, .unset, .unset, .unset, .unset, .unset, .unset, .unset, .unset, .unset, .unset, .unset, .unset, .unset, .unset, .unset, .unset, .unset, .unset, .unset, .unset, .unset, .unset, .unset, .unset] [(.int (19 : Int32)), (.ref b35)])) (fun t k => XS.bipush X77.here hx rfl (hb hby at_85) k) ?_
    refine own_by (T' := T77) (f' := (mkF m 89 #[.val (.long i0), .second, .val (.long i1), .second, .val (.int i2), .val (.long av), .second, .val (.long bw), .second, .val (.int ng), .val (.int pq), .val (.ref b35), .unset, .unset, .unset, .unset, .unset, .unset, .unset, .unset, .unset, .unset, .unset, .unset, .unset, .unset, .unset, .unset, .unset, .unset, .unset, .unset, .unset, .unset, .unset, .unset, .unset, .unset, .unset, .unset, .unset, .unset, .unset, .unset, .unset, .unset, .unset, .unset, .unset, .unset, .unset] [(.long bw), (.int (19 : Int32)), (.ref b35)])) (fun t k => XS.lload X77.here hx rfl (hb hby at_87) rfl k) ?_
    have q80 : ∀ x ∈ [b35], ∃ c : Cell, h77[x]? = some c ∧ c.vm.isStatics = false := (allS (own_nsA A79) all0)
    refine own_callS X77 hx hZ hown e77 (hb hby at_89) [(.ref b35), (.int (19 : Int32)), (.long bw)] [] 0 (rmFI l Z a0 hw [] b35 (19 : Int32) bw 19 nb g2 h77 n0 sz78 gn35 (by decide) (by decide) hnnb A79) (own_w hw 3 rfl) (own_w hw 4 rfl) (own_w hw 5 rfl) (own_w hw 6 rfl) (by decide) pd___CIJ_V (by rw [hml]; rfl) rfl rfl (Nat.le_of_eq rfl) (by decide) (by decide) (by decide) (by decide) ?_
    rintro T81 _ L81 X81 ⟨rfl, N81q, K81, g3, FLg3, A81⟩
    show own_Go p e below _ T81 (mkF m 92 #[.val (.long i0), .second, .val (.long i1), .second, .val (.int i2), .val (.long av), .second, .val (.long bw), .second, .val (.int ng), .val (.int pq), .val (.ref b35), .unset, .unset, .unset, .unset, .unset, .unset, .unset, .unset, .unset, .unset, .unset, .unset, .unset, .unset, .unset, .unset, .unset, .unset, .unset, .unset, .unset, .unset, .unset, .unset, .unset, .unset, .unset, .unset, .unset, .unset, .unset, .unset, .unset, .unset, .unset, .unset, .unset, .unset, .unset] [])
    have N81 := Fr.app N77 N81q
    have sz82 : n0 ≤ T81.heap.size := Nat.le_trans sz78 K81.1
    have HV := own_pt_v ltna ltnb (fun i hi => by rw [FLg3.2 _ (by omega), h2o _ (by omega)]; exact FLg1.1 i hi) (by rw [FLg3.2 18 (by omega)]; exact h18) FLg3.1
    refine own_by (T' := T81) (f' := (mkF m 104 #[.val (.long i0), .second, .val (.long i1), .second, .val (.int i2), .val (.long av), .second, .val (.long bw), .second, .val (.int ng), .val (.int pq), .val (.ref b35), .unset, .unset, .unset, .unset, .unset, .unset, .unset, .unset, .unset, .unset, .unset, .unset, .unset, .unset, .unset, .unset, .unset, .unset, .unset, .unset, .unset, .unset, .unset, .unset, .unset, .unset, .unset, .unset, .unset, .unset, .unset, .unset, .unset, .unset, .unset, .unset, .unset, .unset, .unset] [])) (fun t k => XS.goto X81.here hx rfl (pc0 := 92) (pc' := 104) rfl (hb hby at_92) (by decide) (by decide) k) ?_
    refine own_by (T' := T81) (f' := (mkF m 106 #[.val (.long i0), .second, .val (.long i1), .second, .val (.int i2), .val (.long av), .second, .val (.long bw), .second, .val (.int ng), .val (.int pq), .val (.ref b35), .unset, .unset, .unset, .unset, .unset, .unset, .unset, .unset, .unset, .unset, .unset, .unset, .unset, .unset, .unset, .unset, .unset, .unset, .unset, .unset, .unset, .unset, .unset, .unset, .unset, .unset, .unset, .unset, .unset, .unset, .unset, .unset, .unset, .unset, .unset, .unset, .unset, .unset, .unset] [(.long av)])) (fun t k => XS.lload X81.here hx rfl (hb hby at_104) rfl k) ?_
    refine own_by (T' := T81) (f' := (mkF m 108 #[.val (.long i0), .second, .val (.long i1), .second, .val (.int i2), .val (.long av), .second, .val (.long bw), .second, .val (.int ng), .val (.int pq), .val (.ref b35), .unset, .unset, .unset, .unset, .unset, .unset, .unset, .unset, .unset, .unset, .unset, .unset, .unset, .unset, .unset, .unset, .unset, .unset, .unset, .unset, .unset, .unset, .unset, .unset, .unset, .unset, .unset, .unset, .unset, .unset, .unset, .unset, .unset, .unset, .unset, .unset, .unset, .unset, .unset] [(.int (32 : Int32)), (.long av)])) (fun t k => XS.bipush X81.here hx rfl (hb hby at_106) k) ?_
    refine own_by (T' := T81) (f' := (mkF m 109 #[.val (.long i0), .second, .val (.long i1), .second, .val (.int i2), .val (.long av), .second, .val (.long bw), .second, .val (.int ng), .val (.int pq), .val (.ref b35), .unset, .unset, .unset, .unset, .unset, .unset, .unset, .unset, .unset, .unset, .unset, .unset, .unset, .unset, .unset, .unset, .unset, .unset, .unset, .unset, .unset, .unset, .unset, .unset, .unset, .unset, .unset, .unset, .unset, .unset, .unset, .unset, .unset, .unset, .unset, .unset, .unset, .unset, .unset] [(.long ((av.toUInt64 >>> ((32 : Int32) &&& 0x3f).toInt64.toUInt64).toInt64))])) (fun t k => XS.lushr X81.here hx rfl (hb hby at_108) rfl k) ?_
    obtain ⟨a1, ha1⟩ : ∃ z : Int64, z = ((av.toUInt64 >>> ((32 : Int32) &&& 0x3f).toInt64.toUInt64).toInt64) := ⟨_, rfl⟩
    rw [← ha1]
    show own_Go p e below _ T81 (mkF m 109 #[.val (.long i0), .second, .val (.long i1), .second, .val (.int i2), .val (.long av), .second, .val (.long bw), .second, .val (.int ng), .val (.int pq), .val (.ref b35), .unset, .unset, .unset, .unset, .unset, .unset, .unset, .unset, .unset, .unset, .unset, .unset, .unset, .unset, .unset, .unset, .unset, .unset, .unset, .unset, .unset, .unset, .unset, .unset, .unset, .unset, .unset, .unset, .unset, .unset, .unset, .unset, .unset, .unset, .unset, .unset, .unset, .unset, .unset] [(.long a1)])
    refine own_by (T' := T81) (f' := (mkF m 111 #[.val (.long i0), .second, .val (.long i1), .second, .val (.int i2), .val (.long av), .second, .val (.long bw), .second, .val (.int ng), .val (.int pq), .val (.ref b35), .val (.long a1), .second, .unset, .unset, .unset, .unset, .unset, .unset, .unset, .unset, .unset, .unset, .unset, .unset, .unset, .unset, .unset, .unset, .unset, .unset, .unset, .unset, .unset, .unset, .unset, .unset, .unset, .unset, .unset, .unset, .unset, .unset, .unset, .unset, .unset, .unset, .unset, .unset, .unset] [])) (fun t k => XS.lstore X81.here hx rfl (hb hby at_109) rfl (l' := #[.val (.long i0), .second, .val (.long i1), .second, .val (.int i2), .val (.long av), .second, .val (.long bw), .second, .val (.int ng), .val (.int pq), .val (.ref b35), .val (.long a1), .second, .unset, .unset, .unset, .unset, .unset, .unset, .unset, .unset, .unset, .unset, .unset, .unset, .unset, .unset, .unset, .unset, .unset, .unset, .unset, .unset, .unset, .unset, .unset, .unset, .unset, .unset, .unset, .unset, .unset, .unset, .unset, .unset, .unset, .unset, .unset, .unset, .unset]) rfl k) ?_
    refine own_by (T' := T81) (f' := (mkF m 113 #[.val (.long i0), .second, .val (.long i1), .second, .val (.int i2), .val (.long av), .second, .val (.long bw), .second, .val (.int ng), .val (.int pq), .val (.ref b35), .val (.long a1), .second, .unset, .unset, .unset, .unset, .unset, .unset, .unset, .unset, .unset, .unset, .unset, .unset, .unset, .unset, .unset, .unset, .unset, .unset, .unset, .unset, .unset, .unset, .unset, .unset, .unset, .unset, .unset, .unset, .unset, .unset, .unset, .unset, .unset, .unset, .unset, .unset, .unset] [(.long av)])) (fun t k => XS.lload X81.here hx rfl (hb hby at_111) rfl k) ?_
    refine own_by (T' := T81) (f' := (mkF m 116 #[.val (.long i0), .second, .val (.long i1), .second, .val (.int i2), .val (.long av), .second, .val (.long bw), .second, .val (.int ng), .val (.int pq), .val (.ref b35), .val (.long a1), .second, .unset, .unset, .unset, .unset, .unset, .unset, .unset, .unset, .unset, .unset, .unset, .unset, .unset, .unset, .unset, .unset, .unset, .unset, .unset, .unset, .unset, .unset, .unset, .unset, .unset, .unset, .unset, .unset, .unset, .unset, .unset, .unset, .unset, .unset, .unset, .unset, .unset] [(.long (4294967295 : Int64)), (.long av)])) (fun t k => X81.ldc2Long hx hown (mvT hZ (own_w hw 27 rfl)) (g := (mkF m 113 #[.val (.long i0), .second, .val (.long i1), .second, .val (.int i2), .val (.long av), .second, .val (.long bw), .second, .val (.int ng), .val (.int pq), .val (.ref b35), .val (.long a1), .second, .unset, .unset, .unset, .unset, .unset, .unset, .unset, .unset, .unset, .unset, .unset, .unset, .unset, .unset, .unset, .unset, .unset, .unset, .unset, .unset, .unset, .unset, .unset, .unset, .unset, .unset, .unset, .unset, .unset, .unset, .unset, .unset, .unset, .unset, .unset, .unset, .unset] [(.long av)])) rfl (hb hby at_113) _ k) ?_
    refine own_by (T' := T81) (f' := (mkF m 117 #[.val (.long i0), .second, .val (.long i1), .second, .val (.int i2), .val (.long av), .second, .val (.long bw), .second, .val (.int ng), .val (.int pq), .val (.ref b35), .val (.long a1), .second, .unset, .unset, .unset, .unset, .unset, .unset, .unset, .unset, .unset, .unset, .unset, .unset, .unset, .unset, .unset, .unset, .unset, .unset, .unset, .unset, .unset, .unset, .unset, .unset, .unset, .unset, .unset, .unset, .unset, .unset, .unset, .unset, .unset, .unset, .unset, .unset, .unset] [(.long (av &&& (4294967295 : Int64)))])) (fun t k => XS.land X81.here hx rfl (hb hby at_116) rfl k) ?_
    obtain ⟨al, hal⟩ : ∃ z : Int64, z = (av &&& (4294967295 : Int64)) := ⟨_, rfl⟩
    rw [← hal]
    show own_Go p e below _ T81 (mkF m 117 #[.val (.long i0), .second, .val (.long i1), .second, .val (.int i2), .val (.long av), .second, .val (.long bw), .second, .val (.int ng), .val (.int pq), .val (.ref b35), .val (.long a1), .second, .unset, .unset, .unset, .unset, .unset, .unset, .unset, .unset, .unset, .unset, .unset, .unset, .unset, .unset, .unset, .unset, .unset, .unset, .unset, .unset, .unset, .unset, .unset, .unset, .unset, .unset, .unset, .unset, .unset, .unset, .unset, .unset, .unset, .unset, .unset, .unset, .unset] [(.long al)])
    refine own_by (T' := T81) (f' := (mkF m 119 #[.val (.long i0), .second, .val (.long i1), .second, .val (.int i2), .val (.long av), .second, .val (.long bw), .second, .val (.int ng), .val (.int pq), .val (.ref b35), .val (.long a1), .second, .val (.long al), .second, .unset, .unset, .unset, .unset, .unset, .unset, .unset, .unset, .unset, .unset, .unset, .unset, .unset, .unset, .unset, .unset, .unset, .unset, .unset, .unset, .unset, .unset, .unset, .unset, .unset, .unset, .unset, .unset, .unset, .unset, .unset, .unset, .unset, .unset, .unset] [])) (fun t k => XS.lstore X81.here hx rfl (hb hby at_117) rfl (l' := #[.val (.long i0), .second, .val (.long i1), .second, .val (.int i2), .val (.long av), .second, .val (.long bw), .second, .val (.int ng), .val (.int pq), .val (.ref b35), .val (.long a1), .second, .val (.long al), .second, .unset, .unset, .unset, .unset, .unset, .unset, .unset, .unset, .unset, .unset, .unset, .unset, .unset, .unset, .unset, .unset, .unset, .unset, .unset, .unset, .unset, .unset, .unset, .unset, .unset, .unset, .unset, .unset, .unset, .unset, .unset, .unset, .unset, .unset, .unset]) rfl k) ?_
    refine own_by (T' := T81) (f' := (mkF m 122 #[.val (.long i0), .second, .val (.long i1), .second, .val (.int i2), .val (.long av), .second, .val (.long bw), .second, .val (.int ng), .val (.int pq), .val (.ref b35), .val (.long a1), .second, .val (.long al), .second, .unset, .unset, .unset, .unset, .unset, .unset, .unset, .unset, .unset, .unset, .unset, .unset, .unset, .unset, .unset, .unset, .unset, .unset, .unset, .unset, .unset, .unset, .unset, .unset, .unset, .unset, .unset, .unset, .unset, .unset, .unset, .unset, .unset, .unset, .unset] [(.long (232830643 : Int64))])) (fun t k => X81.ldc2Long hx hown (mvT hZ (own_w hw 28 rfl)) (g := (mkF m 119 #[.val (.long i0), .second, .val (.long i1), .second, .val (.int i2), .val (.long av), .second, .val (.long bw), .second, .val (.int ng), .val (.int pq), .val (.ref b35), .val (.long a1), .second, .val (.long al), .second, .unset, .unset, .unset, .unset, .unset, .unset, .unset, .unset, .unset, .unset, .unset, .unset, .unset, .unset, .unset, .unset, .unset, .unset, .unset, .unset, .unset, .unset, .unset, .unset, .unset, .unset, .unset, .unset, .unset, .unset, .unset, .unset, .unset, .unset, .unset] [])) rfl (hb hby at_119) _ k) ?_
    refine own_by (T' := T81) (f' := (mkF m 124 #[.val (.long i0), .second, .val (.long i1), .second, .val (.int i2), .val (.long av), .second, .val (.long bw), .second, .val (.int ng), .val (.int pq), .val (.ref b35), .val (.long a1), .second, .val (.long al), .second, .val (.long (232830643 : Int64)), .second, .unset, .unset, .unset, .unset, .unset, .unset, .unset, .unset, .unset, .unset, .unset, .unset, .unset, .unset, .unset, .unset, .unset, .unset, .unset, .unset, .unset, .unset, .unset, .unset, .unset, .unset, .unset, .unset, .unset, .unset, .unset, .unset, .unset] [])) (fun t k => XS.lstore X81.here hx rfl (hb hby at_122) rfl (l' := #[.val (.long i0), .second, .val (.long i1), .second, .val (.int i2), .val (.long av), .second, .val (.long bw), .second, .val (.int ng), .val (.int pq), .val (.ref b35), .val (.long a1), .second, .val (.long al), .second, .val (.long (232830643 : Int64)), .second, .unset, .unset, .unset, .unset, .unset, .unset, .unset, .unset, .unset, .unset, .unset, .unset, .unset, .unset, .unset, .unset, .unset, .unset, .unset, .unset, .unset, .unset, .unset, .unset, .unset, .unset, .unset, .unset, .unset, .unset, .unset, .unset, .unset]) rfl k) ?_
    refine own_by (T' := T81) (f' := (mkF m 127 #[.val (.long i0), .second, .val (.long i1), .second, .val (.int i2), .val (.long av), .second, .val (.long bw), .second, .val (.int ng), .val (.int pq), .val (.ref b35), .val (.long a1), .second, .val (.long al), .second, .val (.long (232830643 : Int64)), .second, .unset, .unset, .unset, .unset, .unset, .unset, .unset, .unset, .unset, .unset, .unset, .unset, .unset, .unset, .unset, .unset, .unset, .unset, .unset, .unset, .unset, .unset, .unset, .unset, .unset, .unset, .unset, .unset, .unset, .unset, .unset, .unset, .unset] [(.long (2808348672 : Int64))])) (fun t k => X81.ldc2Long hx hown (mvT hZ (own_w hw 29 rfl)) (g := (mkF m 124 #[.val (.long i0), .second, .val (.long i1), .second, .val (.int i2), .val (.long av), .second, .val (.long bw), .second, .val (.int ng), .val (.int pq), .val (.ref b35), .val (.long a1), .second, .val (.long al), .second, .val (.long (232830643 : Int64)), .second, .unset, .unset, .unset, .unset, .unset, .unset, .unset, .unset, .unset, .unset, .unset, .unset, .unset, .unset, .unset, .unset, .unset, .unset, .unset, .unset, .unset, .unset, .unset, .unset, .unset, .unset, .unset, .unset, .unset, .unset, .unset, .unset, .unset] [])) rfl (hb hby at_124) _ k) ?_
    refine own_by (T' := T81) (f' := (mkF m 129 #[.val (.long i0), .second, .val (.long i1), .second, .val (.int i2), .val (.long av), .second, .val (.long bw), .second, .val (.int ng), .val (.int pq), .val (.ref b35), .val (.long a1), .second, .val (.long al), .second, .val (.long (232830643 : Int64)), .second, .val (.long (2808348672 : Int64)), .second, .unset, .unset, .unset, .unset, .unset, .unset, .unset, .unset, .unset, .unset, .unset, .unset, .unset, .unset, .unset, .unset, .unset, .unset, .unset, .unset, .unset, .unset, .unset, .unset, .unset, .unset, .unset, .unset, .unset, .unset, .unset] [])) (fun t k => XS.lstore X81.here hx rfl (hb hby at_127) rfl (l' := #[.val (.long i0), .second, .val (.long i1), .second, .val (.int i2), .val (.long av), .second, .val (.long bw), .second, .val (.int ng), .val (.int pq), .val (.ref b35), .val (.long a1), .second, .val (.long al), .second, .val (.long (232830643 : Int64)), .second, .val (.long (2808348672 : Int64)), .second, .unset, .unset, .unset, .unset, .unset, .unset, .unset, .unset, .unset, .unset, .unset, .unset, .unset, .unset, .unset, .unset, .unset, .unset, .unset, .unset, .unset, .unset, .unset, .unset, .unset, .unset, .unset, .unset, .unset, .unset, .unset]) rfl k) ?_
    refine own_by (T' := T81) (f' := (mkF m 131 #[.val (.long i0), .second, .val (.long i1), .second, .val (.int i2), .val (.long av), .second, .val (.long bw), .second, .val (.int ng), .val (.int pq), .val (.ref b35), .val (.long a1), .second, .val (.long al), .second, .val (.long (232830643 : Int64)), .second, .val (.long (2808348672 : Int64)), .second, .unset, .unset, .unset, .unset, .unset, .unset, .unset, .unset, .unset, .unset, .unset, .unset, .unset, .unset, .unset, .unset, .unset, .unset, .unset, .unset, .unset, .unset, .unset, .unset, .unset, .unset, .unset, .unset, .unset, .unset, .unset] [(.long al)])) (fun t k => XS.lload X81.here hx rfl (hb hby at_129) rfl k) ?_
    refine own_by (T' := T81) (f' := (mkF m 133 #[.val (.long i0), .second, .val (.long i1), .second, .val (.int i2), .val (.long av), .second, .val (.long bw), .second, .val (.int ng), .val (.int pq), .val (.ref b35), .val (.long a1), .second, .val (.long al), .second, .val (.long (232830643 : Int64)), .second, .val (.long (2808348672 : Int64)), .second, .unset, .unset, .unset, .unset, .unset, .unset, .unset, .unset, .unset, .unset, .unset, .unset, .unset, .unset, .unset, .unset, .unset, .unset, .unset, .unset, .unset, .unset, .unset, .unset, .unset, .unset, .unset, .unset, .unset, .unset, .unset] [(.long (2808348672 : Int64)), (.long al)])) (fun t k => XS.lload X81.here hx rfl (hb hby at_131) rfl k) ?_
    refine own_by (T' := T81) (f' := (mkF m 134 #[.val (.long i0), .second, .val (.long i1), .second, .val (.int i2), .val (.long av), .second, .val (.long bw), .second, .val (.int ng), .val (.int pq), .val (.ref b35), .val (.long a1), .second, .val (.long al), .second, .val (.long (232830643 : Int64)), .second, .val (.long (2808348672 : Int64)), .second, .unset, .unset, .unset, .unset, .unset, .unset, .unset, .unset, .unset, .unset, .unset, .unset, .unset, .unset, .unset, .unset, .unset, .unset, .unset, .unset, .unset, .unset, .unset, .unset, .unset, .unset, .unset, .unset, .unset, .unset, .unset] [(.long (al * (2808348672 : Int64)))])) (fun t k => XS.lmul X81.here hx rfl (hb hby at_133) rfl k) ?_
    obtain ⟨t0, ht0⟩ : ∃ z : Int64, z = (al * (2808348672 : Int64)) := ⟨_, rfl⟩
    rw [← ht0]
    show own_Go p e below _ T81 (mkF m 134 #[.val (.long i0), .second, .val (.long i1), .second, .val (.int i2), .val (.long av), .second, .val (.long bw), .second, .val (.int ng), .val (.int pq), .val (.ref b35), .val (.long a1), .second, .val (.long al), .second, .val (.long (232830643 : Int64)), .second, .val (.long (2808348672 : Int64)), .second, .unset, .unset, .unset, .unset, .unset, .unset, .unset, .unset, .unset, .unset, .unset, .unset, .unset, .unset, .unset, .unset, .unset, .unset, .unset, .unset, .unset, .unset, .unset, .unset, .unset, .unset, .unset, .unset, .unset, .unset, .unset] [(.long t0)])
    refine own_by (T' := T81) (f' := (mkF m 136 #[.val (.long i0), .second, .val (.long i1), .second, .val (.int i2), .val (.long av), .second, .val (.long bw), .second, .val (.int ng), .val (.int pq), .val (.ref b35), .val (.long a1), .second, .val (.long al), .second, .val (.long (232830643 : Int64)), .second, .val (.long (2808348672 : Int64)), .second, .val (.long t0), .second, .unset, .unset, .unset, .unset, .unset, .unset, .unset, .unset, .unset, .unset, .unset, .unset, .unset, .unset, .unset, .unset, .unset, .unset, .unset, .unset, .unset, .unset, .unset, .unset, .unset, .unset, .unset, .unset, .unset] [])) (fun t k => XS.lstore X81.here hx rfl (hb hby at_134) rfl (l' := #[.val (.long i0), .second, .val (.long i1), .second, .val (.int i2), .val (.long av), .second, .val (.long bw), .second, .val (.int ng), .val (.int pq), .val (.ref b35), .val (.long a1), .second, .val (.long al), .second, .val (.long (232830643 : Int64)), .second, .val (.long (2808348672 : Int64)), .second, .val (.long t0), .second, .unset, .unset, .unset, .unset, .unset, .unset, .unset, .unset, .unset, .unset, .unset, .unset, .unset, .unset, .unset, .unset, .unset, .unset, .unset, .unset, .unset, .unset, .unset, .unset, .unset, .unset, .unset, .unset, .unset]) rfl k) ?_
    refine own_by (T' := T81) (f' := (mkF m 138 #[.val (.long i0), .second, .val (.long i1), .second, .val (.int i2), .val (.long av), .second, .val (.long bw), .second, .val (.int ng), .val (.int pq), .val (.ref b35), .val (.long a1), .second, .val (.long al), .second, .val (.long (232830643 : Int64)), .second, .val (.long (2808348672 : Int64)), .second, .val (.long t0), .second, .unset, .unset, .unset, .unset, .unset, .unset, .unset, .unset, .unset, .unset, .unset, .unset, .unset, .unset, .unset, .unset, .unset, .unset, .unset, .unset, .unset, .unset, .unset, .unset, .unset, .unset, .unset, .unset, .unset] [(.long a1)])) (fun t k => XS.lload X81.here hx rfl (hb hby at_136) rfl k) ?_
    refine own_by (T' := T81) (f' := (mkF m 140 #[.val (.long i0), .second, .val (.long i1), .second, .val (.int i2), .val (.long av), .second, .val (.long bw), .second, .val (.int ng), .val (.int pq), .val (.ref b35), .val (.long a1), .second, .val (.long al), .second, .val (.long (232830643 : Int64)), .second, .val (.long (2808348672 : Int64)), .second, .val (.long t0), .second, .unset, .unset, .unset, .unset, .unset, .unset, .unset, .unset, .unset, .unset, .unset, .unset, .unset, .unset, .unset, .unset, .unset, .unset, .unset, .unset, .unset, .unset, .unset, .unset, .unset, .unset, .unset, .unset, .unset] [(.long (2808348672 : Int64)), (.long a1)])) (fun t k => XS.lload X81.here hx rfl (hb hby at_138) rfl k) ?_
    refine own_by (T' := T81) (f' := (mkF m 141 #[.val (.long i0), .second, .val (.long i1), .second, .val (.int i2), .val (.long av), .second, .val (.long bw), .second, .val (.int ng), .val (.int pq), .val (.ref b35), .val (.long a1), .second, .val (.long al), .second, .val (.long (232830643 : Int64)), .second, .val (.long (2808348672 : Int64)), .second, .val (.long t0), .second, .unset, .unset, .unset, .unset, .unset, .unset, .unset, .unset, .unset, .unset, .unset, .unset, .unset, .unset, .unset, .unset, .unset, .unset, .unset, .unset, .unset, .unset, .unset, .unset, .unset, .unset, .unset, .unset, .unset] [(.long (a1 * (2808348672 : Int64)))])) (fun t k => XS.lmul X81.here hx rfl (hb hby at_140) rfl k) ?_
    obtain ⟨m1, hm1⟩ : ∃ z : Int64, z = (a1 * (2808348672 : Int64)) := ⟨_, rfl⟩
    rw [← hm1]
    show own_Go p e below _ T81 (mkF m 141 #[.val (.long i0), .second, .val (.long i1), .second, .val (.int i2), .val (.long av), .second, .val (.long bw), .second, .val (.int ng), .val (.int pq), .val (.ref b35), .val (.long a1), .second, .val (.long al), .second, .val (.long (232830643 : Int64)), .second, .val (.long (2808348672 : Int64)), .second, .val (.long t0), .second, .unset, .unset, .unset, .unset, .unset, .unset, .unset, .unset, .unset, .unset, .unset, .unset, .unset, .unset, .unset, .unset, .unset, .unset, .unset, .unset, .unset, .unset, .unset, .unset, .unset, .unset, .unset, .unset, .unset] [(.long m1)])
    refine own_by (T' := T81) (f' := (mkF m 143 #[.val (.long i0), .second, .val (.long i1), .second, .val (.int i2), .val (.long av), .second, .val (.long bw), .second, .val (.int ng), .val (.int pq), .val (.ref b35), .val (.long a1), .second, .val (.long al), .second, .val (.long (232830643 : Int64)), .second, .val (.long (2808348672 : Int64)), .second, .val (.long t0), .second, .val (.long m1), .second, .unset, .unset, .unset, .unset, .unset, .unset, .unset, .unset, .unset, .unset, .unset, .unset, .unset, .unset, .unset, .unset, .unset, .unset, .unset, .unset, .unset, .unset, .unset, .unset, .unset, .unset, .unset] [])) (fun t k => XS.lstore X81.here hx rfl (hb hby at_141) rfl (l' := #[.val (.long i0), .second, .val (.long i1), .second, .val (.int i2), .val (.long av), .second, .val (.long bw), .second, .val (.int ng), .val (.int pq), .val (.ref b35), .val (.long a1), .second, .val (.long al), .second, .val (.long (232830643 : Int64)), .second, .val (.long (2808348672 : Int64)), .second, .val (.long t0), .second, .val (.long m1), .second, .unset, .unset, .unset, .unset, .unset, .unset, .unset, .unset, .unset, .unset, .unset, .unset, .unset, .unset, .unset, .unset, .unset, .unset, .unset, .unset, .unset, .unset, .unset, .unset, .unset, .unset, .unset]) rfl k) ?_
    refine own_by (T' := T81) (f' := (mkF m 145 #[.val (.long i0), .second, .val (.long i1), .second, .val (.int i2), .val (.long av), .second, .val (.long bw), .second, .val (.int ng), .val (.int pq), .val (.ref b35), .val (.long a1), .second, .val (.long al), .second, .val (.long (232830643 : Int64)), .second, .val (.long (2808348672 : Int64)), .second, .val (.long t0), .second, .val (.long m1), .second, .unset, .unset, .unset, .unset, .unset, .unset, .unset, .unset, .unset, .unset, .unset, .unset, .unset, .unset, .unset, .unset, .unset, .unset, .unset, .unset, .unset, .unset, .unset, .unset, .unset, .unset, .unset] [(.long al)])) (fun t k => XS.lload X81.here hx rfl (hb hby at_143) rfl k) ?_
    refine own_by (T' := T81) (f' := (mkF m 147 #[.val (.long i0), .second, .val (.long i1), .second, .val (.int i2), .val (.long av), .second, .val (.long bw), .second, .val (.int ng), .val (.int pq), .val (.ref b35), .val (.long a1), .second, .val (.long al), .second, .val (.long (232830643 : Int64)), .second, .val (.long (2808348672 : Int64)), .second, .val (.long t0), .second, .val (.long m1), .second, .unset, .unset, .unset, .unset, .unset, .unset, .unset, .unset, .unset, .unset, .unset, .unset, .unset, .unset, .unset, .unset, .unset, .unset, .unset, .unset, .unset, .unset, .unset, .unset, .unset, .unset, .unset] [(.long (232830643 : Int64)), (.long al)])) (fun t k => XS.lload X81.here hx rfl (hb hby at_145) rfl k) ?_
    refine own_by (T' := T81) (f' := (mkF m 148 #[.val (.long i0), .second, .val (.long i1), .second, .val (.int i2), .val (.long av), .second, .val (.long bw), .second, .val (.int ng), .val (.int pq), .val (.ref b35), .val (.long a1), .second, .val (.long al), .second, .val (.long (232830643 : Int64)), .second, .val (.long (2808348672 : Int64)), .second, .val (.long t0), .second, .val (.long m1), .second, .unset, .unset, .unset, .unset, .unset, .unset, .unset, .unset, .unset, .unset, .unset, .unset, .unset, .unset, .unset, .unset, .unset, .unset, .unset, .unset, .unset, .unset, .unset, .unset, .unset, .unset, .unset] [(.long (al * (232830643 : Int64)))])) (fun t k => XS.lmul X81.here hx rfl (hb hby at_147) rfl k) ?_
    obtain ⟨m2, hm2⟩ : ∃ z : Int64, z = (al * (232830643 : Int64)) := ⟨_, rfl⟩
    rw [← hm2]
    show own_Go p e below _ T81 (mkF m 148 #[.val (.long i0), .second, .val (.long i1), .second, .val (.int i2), .val (.long av), .second, .val (.long bw), .second, .val (.int ng), .val (.int pq), .val (.ref b35), .val (.long a1), .second, .val (.long al), .second, .val (.long (232830643 : Int64)), .second, .val (.long (2808348672 : Int64)), .second, .val (.long t0), .second, .val (.long m1), .second, .unset, .unset, .unset, .unset, .unset, .unset, .unset, .unset, .unset, .unset, .unset, .unset, .unset, .unset, .unset, .unset, .unset, .unset, .unset, .unset, .unset, .unset, .unset, .unset, .unset, .unset, .unset] [(.long m2)])
    refine own_by (T' := T81) (f' := (mkF m 150 #[.val (.long i0), .second, .val (.long i1), .second, .val (.int i2), .val (.long av), .second, .val (.long bw), .second, .val (.int ng), .val (.int pq), .val (.ref b35), .val (.long a1), .second, .val (.long al), .second, .val (.long (232830643 : Int64)), .second, .val (.long (2808348672 : Int64)), .second, .val (.long t0), .second, .val (.long m1), .second, .val (.long m2), .second, .unset, .unset, .unset, .unset, .unset, .unset, .unset, .unset, .unset, .unset, .unset, .unset, .unset, .unset, .unset, .unset, .unset, .unset, .unset, .unset, .unset, .unset, .unset, .unset, .unset] [])) (fun t k => XS.lstore X81.here hx rfl (hb hby at_148) rfl (l' := #[.val (.long i0), .second, .val (.long i1), .second, .val (.int i2), .val (.long av), .second, .val (.long bw), .second, .val (.int ng), .val (.int pq), .val (.ref b35), .val (.long a1), .second, .val (.long al), .second, .val (.long (232830643 : Int64)), .second, .val (.long (2808348672 : Int64)), .second, .val (.long t0), .second, .val (.long m1), .second, .val (.long m2), .second, .unset, .unset, .unset, .unset, .unset, .unset, .unset, .unset, .unset, .unset, .unset, .unset, .unset, .unset, .unset, .unset, .unset, .unset, .unset, .unset, .unset, .unset, .unset, .unset, .unset]) rfl k) ?_
    refine own_by (T' := T81) (f' := (mkF m 152 #[.val (.long i0), .second, .val (.long i1), .second, .val (.int i2), .val (.long av), .second, .val (.long bw), .second, .val (.int ng), .val (.int pq), .val (.ref b35), .val (.long a1), .second, .val (.long al), .second, .val (.long (232830643 : Int64)), .second, .val (.long (2808348672 : Int64)), .second, .val (.long t0), .second, .val (.long m1), .second, .val (.long m2), .second, .unset, .unset, .unset, .unset, .unset, .unset, .unset, .unset, .unset, .unset, .unset, .unset, .unset, .unset, .unset, .unset, .unset, .unset, .unset, .unset, .unset, .unset, .unset, .unset, .unset] [(.long a1)])) (fun t k => XS.lload X81.here hx rfl (hb hby at_150) rfl k) ?_
    refine own_by (T' := T81) (f' := (mkF m 154 #[.val (.long i0), .second, .val (.long i1), .second, .val (.int i2), .val (.long av), .second, .val (.long bw), .second, .val (.int ng), .val (.int pq), .val (.ref b35), .val (.long a1), .second, .val (.long al), .second, .val (.long (232830643 : Int64)), .second, .val (.long (2808348672 : Int64)), .second, .val (.long t0), .second, .val (.long m1), .second, .val (.long m2), .second, .unset, .unset, .unset, .unset, .unset, .unset, .unset, .unset, .unset, .unset, .unset, .unset, .unset, .unset, .unset, .unset, .unset, .unset, .unset, .unset, .unset, .unset, .unset, .unset, .unset] [(.long (232830643 : Int64)), (.long a1)])) (fun t k => XS.lload X81.here hx rfl (hb hby at_152) rfl k) ?_
    refine own_by (T' := T81) (f' := (mkF m 155 #[.val (.long i0), .second, .val (.long i1), .second, .val (.int i2), .val (.long av), .second, .val (.long bw), .second, .val (.int ng), .val (.int pq), .val (.ref b35), .val (.long a1), .second, .val (.long al), .second, .val (.long (232830643 : Int64)), .second, .val (.long (2808348672 : Int64)), .second, .val (.long t0), .second, .val (.long m1), .second, .val (.long m2), .second, .unset, .unset, .unset, .unset, .unset, .unset, .unset, .unset, .unset, .unset, .unset, .unset, .unset, .unset, .unset, .unset, .unset, .unset, .unset, .unset, .unset, .unset, .unset, .unset, .unset] [(.long (a1 * (232830643 : Int64)))])) (fun t k => XS.lmul X81.here hx rfl (hb hby at_154) rfl k) ?_
    obtain ⟨hh, hhh⟩ : ∃ z : Int64, z = (a1 * (232830643 : Int64)) := ⟨_, rfl⟩
    rw [← hhh]
    show own_Go p e below _ T81 (mkF m 155 #[.val (.long i0), .second, .val (.long i1), .second, .val (.int i2), .val (.long av), .second, .val (.long bw), .second, .val (.int ng), .val (.int pq), .val (.ref b35), .val (.long a1), .second, .val (.long al), .second, .val (.long (232830643 : Int64)), .second, .val (.long (2808348672 : Int64)), .second, .val (.long t0), .second, .val (.long m1), .second, .val (.long m2), .second, .unset, .unset, .unset, .unset, .unset, .unset, .unset, .unset, .unset, .unset, .unset, .unset, .unset, .unset, .unset, .unset, .unset, .unset, .unset, .unset, .unset, .unset, .unset, .unset, .unset] [(.long hh)])
    refine own_by (T' := T81) (f' := (mkF m 157 #[.val (.long i0), .second, .val (.long i1), .second, .val (.int i2), .val (.long av), .second, .val (.long bw), .second, .val (.int ng), .val (.int pq), .val (.ref b35), .val (.long a1), .second, .val (.long al), .second, .val (.long (232830643 : Int64)), .second, .val (.long (2808348672 : Int64)), .second, .val (.long t0), .second, .val (.long m1), .second, .val (.long m2), .second, .val (.long hh), .second, .unset, .unset, .unset, .unset, .unset, .unset, .unset, .unset, .unset, .unset, .unset, .unset, .unset, .unset, .unset, .unset, .unset, .unset, .unset, .unset, .unset, .unset, .unset] [])) (fun t k => XS.lstore X81.here hx rfl (hb hby at_155) rfl (l' := #[.val (.long i0), .second, .val (.long i1), .second, .val (.int i2), .val (.long av), .second, .val (.long bw), .second, .val (.int ng), .val (.int pq), .val (.ref b35), .val (.long a1), .second, .val (.long al), .second, .val (.long (232830643 : Int64)), .second, .val (.long (2808348672 : Int64)), .second, .val (.long t0), .second, .val (.long m1), .second, .val (.long m2), .second, .val (.long hh), .second, .unset, .unset, .unset, .unset, .unset, .unset, .unset, .unset, .unset, .unset, .unset, .unset, .unset, .unset, .unset, .unset, .unset, .unset, .unset, .unset, .unset, .unset, .unset]) rfl k) ?_
    refine own_by (T' := T81) (f' := (mkF m 159 #[.val (.long i0), .second, .val (.long i1), .second, .val (.int i2), .val (.long av), .second, .val (.long bw), .second, .val (.int ng), .val (.int pq), .val (.ref b35), .val (.long a1), .second, .val (.long al), .second, .val (.long (232830643 : Int64)), .second, .val (.long (2808348672 : Int64)), .second, .val (.long t0), .second, .val (.long m1), .second, .val (.long m2), .second, .val (.long hh), .second, .unset, .unset, .unset, .unset, .unset, .unset, .unset, .unset, .unset, .unset, .unset, .unset, .unset, .unset, .unset, .unset, .unset, .unset, .unset, .unset, .unset, .unset, .unset] [(.long t0)])) (fun t k => XS.lload X81.here hx rfl (hb hby at_157) rfl k) ?_
    refine own_by (T' := T81) (f' := (mkF m 161 #[.val (.long i0), .second, .val (.long i1), .second, .val (.int i2), .val (.long av), .second, .val (.long bw), .second, .val (.int ng), .val (.int pq), .val (.ref b35), .val (.long a1), .second, .val (.long al), .second, .val (.long (232830643 : Int64)), .second, .val (.long (2808348672 : Int64)), .second, .val (.long t0), .second, .val (.long m1), .second, .val (.long m2), .second, .val (.long hh), .second, .unset, .unset, .unset, .unset, .unset, .unset, .unset, .unset, .unset, .unset, .unset, .unset, .unset, .unset, .unset, .unset, .unset, .unset, .unset, .unset, .unset, .unset, .unset] [(.int (32 : Int32)), (.long t0)])) (fun t k => XS.bipush X81.here hx rfl (hb hby at_159) k) ?_
    refine own_by (T' := T81) (f' := (mkF m 162 #[.val (.long i0), .second, .val (.long i1), .second, .val (.int i2), .val (.long av), .second, .val (.long bw), .second, .val (.int ng), .val (.int pq), .val (.ref b35), .val (.long a1), .second, .val (.long al), .second, .val (.long (232830643 : Int64)), .second, .val (.long (2808348672 : Int64)), .second, .val (.long t0), .second, .val (.long m1), .second, .val (.long m2), .second, .val (.long hh), .second, .unset, .unset, .unset, .unset, .unset, .unset, .unset, .unset, .unset, .unset, .unset, .unset, .unset, .unset, .unset, .unset, .unset, .unset, .unset, .unset, .unset, .unset, .unset] [(.long ((t0.toUInt64 >>> ((32 : Int32) &&& 0x3f).toInt64.toUInt64).toInt64))])) (fun t k => XS.lushr X81.here hx rfl (hb hby at_161) rfl k) ?_
    refine own_by (T' := T81) (f' := (mkF m 164 #[.val (.long i0), .second, .val (.long i1), .second, .val (.int i2), .val (.long av), .second, .val (.long bw), .second, .val (.int ng), .val (.int pq), .val (.ref b35), .val (.long a1), .second, .val (.long al), .second, .val (.long (232830643 : Int64)), .second, .val (.long (2808348672 : Int64)), .second, .val (.long t0), .second, .val (.long m1), .second, .val (.long m2), .second, .val (.long hh), .second, .unset, .unset, .unset, .unset, .unset, .unset, .unset, .unset, .unset, .unset, .unset, .unset, .unset, .unset, .unset, .unset, .unset, .unset, .unset, .unset, .unset, .unset, .unset] [(.long m1), (.long ((t0.toUInt64 >>> ((32 : Int32) &&& 0x3f).toInt64.toUInt64).toInt64))])) (fun t k => XS.lload X81.here hx rfl (hb hby at_162) rfl k) ?_
    refine own_by (T' := T81) (f' := (mkF m 167 #[.val (.long i0), .second, .val (.long i1), .second, .val (.int i2), .val (.long av), .second, .val (.long bw), .second, .val (.int ng), .val (.int pq), .val (.ref b35), .val (.long a1), .second, .val (.long al), .second, .val (.long (232830643 : Int64)), .second, .val (.long (2808348672 : Int64)), .second, .val (.long t0), .second, .val (.long m1), .second, .val (.long m2), .second, .val (.long hh), .second, .unset, .unset, .unset, .unset, .unset, .unset, .unset, .unset, .unset, .unset, .unset, .unset, .unset, .unset, .unset, .unset, .unset, .unset, .unset, .unset, .unset, .unset, .unset] [(.long (4294967295 : Int64)), (.long m1), (.long ((t0.toUInt64 >>> ((32 : Int32) &&& 0x3f).toInt64.toUInt64).toInt64))])) (fun t k => X81.ldc2Long hx hown (mvT hZ (own_w hw 27 rfl)) (g := (mkF m 164 #[.val (.long i0), .second, .val (.long i1), .second, .val (.int i2), .val (.long av), .second, .val (.long bw), .second, .val (.int ng), .val (.int pq), .val (.ref b35), .val (.long a1), .second, .val (.long al), .second, .val (.long (232830643 : Int64)), .second, .val (.long (2808348672 : Int64)), .second, .val (.long t0), .second, .val (.long m1), .second, .val (.long m2), .second, .val (.long hh), .second, .unset, .unset, .unset, .unset, .unset, .unset, .unset, .unset, .unset, .unset, .unset, .unset, .unset, .unset, .unset, .unset, .unset, .unset, .unset, .unset, .unset, .unset, .unset] [(.long m1), (.long ((t0.toUInt64 >>> ((32 : Int32) &&& 0x3f).toInt64.toUInt64).toInt64))])) rfl (hb hby at_164) _ k) ?_
    refine own_by (T' := T81) (f' := (mkF m 168 #[.val (.long i0), .second, .val (.long i1), .second, .val (.int i2), .val (.long av), .second, .val (.long bw), .second, .val (.int ng), .val (.int pq), .val (.ref b35), .val (.long a1), .second, .val (.long al), .second, .val (.long (232830643 : Int64)), .second, .val (.long (2808348672 : Int64)), .second, .val (.long t0), .second, .val (.long m1), .second, .val (.long m2), .second, .val (.long hh), .second, .unset, .unset, .unset, .unset, .unset, .unset, .unset, .unset, .unset, .unset, .unset, .unset, .unset, .unset, .unset, .unset, .unset, .unset, .unset, .unset, .unset, .unset, .unset] [(.long (m1 &&& (4294967295 : Int64))), (.long ((t0.toUInt64 >>> ((32 : Int32) &&& 0x3f).toInt64.toUInt64).toInt64))])) (fun t k => XS.land X81.here hx rfl (hb hby at_167) rfl k) ?_
    refine own_by (T' := T81) (f' := (mkF m 169 #[.val (.long i0), .second, .val (.long i1), .second, .val (.int i2), .val (.long av), .second, .val (.long bw), .second, .val (.int ng), .val (.int pq), .val (.ref b35), .val (.long a1), .second, .val (.long al), .second, .val (.long (232830643 : Int64)), .second, .val (.long (2808348672 : Int64)), .second, .val (.long t0), .second, .val (.long m1), .second, .val (.long m2), .second, .val (.long hh), .second, .unset, .unset, .unset, .unset, .unset, .unset, .unset, .unset, .unset, .unset, .unset, .unset, .unset, .unset, .unset, .unset, .unset, .unset, .unset, .unset, .unset, .unset, .unset] [(.long (((t0.toUInt64 >>> ((32 : Int32) &&& 0x3f).toInt64.toUInt64).toInt64) + (m1 &&& (4294967295 : Int64))))])) (fun t k => XS.ladd X81.here hx rfl (hb hby at_168) rfl k) ?_
    refine own_by (T' := T81) (f' := (mkF m 171 #[.val (.long i0), .second, .val (.long i1), .second, .val (.int i2), .val (.long av), .second, .val (.long bw), .second, .val (.int ng), .val (.int pq), .val (.ref b35), .val (.long a1), .second, .val (.long al), .second, .val (.long (232830643 : Int64)), .second, .val (.long (2808348672 : Int64)), .second, .val (.long t0), .second, .val (.long m1), .second, .val (.long m2), .second, .val (.long hh), .second, .unset, .unset, .unset, .unset, .unset, .unset, .unset, .unset, .unset, .unset, .unset, .unset, .unset, .unset, .unset, .unset, .unset, .unset, .unset, .unset, .unset, .unset, .unset] [(.long m2), (.long (((t0.toUInt64 >>> ((32 : Int32) &&& 0x3f).toInt64.toUInt64).toInt64) + (m1 &&& (4294967295 : Int64))))])) (fun t k => XS.lload X81.here hx rfl (hb hby at_169) rfl k) ?_
    refine own_by (T' := T81) (f' := (mkF m 174 #[.val (.long i0), .second, .val (.long i1), .second, .val (.int i2), .val (.long av), .second, .val (.long bw), .second, .val (.int ng), .val (.int pq), .val (.ref b35), .val (.long a1), .second, .val (.long al), .second, .val (.long (232830643 : Int64)), .second, .val (.long (2808348672 : Int64)), .second, .val (.long t0), .second, .val (.long m1), .second, .val (.long m2), .second, .val (.long hh), .second, .unset, .unset, .unset, .unset, .unset, .unset, .unset, .unset, .unset, .unset, .unset, .unset, .unset, .unset, .unset, .unset, .unset, .unset, .unset, .unset, .unset, .unset, .unset] [(.long (4294967295 : Int64)), (.long m2), (.long (((t0.toUInt64 >>> ((32 : Int32) &&& 0x3f).toInt64.toUInt64).toInt64) + (m1 &&& (4294967295 : Int64))))])) (fun t k => X81.ldc2Long hx hown (mvT hZ (own_w hw 27 rfl)) (g := (mkF m 171 #[.val (.long i0), .second, .val (.long i1), .second, .val (.int i2), .val (.long av), .second, .val (.long bw), .second, .val (.int ng), .val (.int pq), .val (.ref b35), .val (.long a1), .second, .val (.long al), .second, .val (.long (232830643 : Int64)), .second, .val (.long (2808348672 : Int64)), .second, .val (.long t0), .second, .val (.long m1), .second, .val (.long m2), .second, .val (.long hh), .second, .unset, .unset, .unset, .unset, .unset, .unset, .unset, .unset, .unset, .unset, .unset, .unset, .unset, .unset, .unset, .unset, .unset, .unset, .unset, .unset, .unset, .unset, .unset] [(.long m2), (.long (((t0.toUInt64 >>> ((32 : Int32) &&& 0x3f).toInt64.toUInt64).toInt64) + (m1 &&& (4294967295 : Int64))))])) rfl (hb hby at_171) _ k) ?_
    refine own_by (T' := T81) (f' := (mkF m 175 #[.val (.long i0), .second, .val (.long i1), .second, .val (.int i2), .val (.long av), .second, .val (.long bw), .second, .val (.int ng), .val (.int pq), .val (.ref b35), .val (.long a1), .second, .val (.long al), .second, .val (.long (232830643 : Int64)), .second, .val (.long (2808348672 : Int64)), .second, .val (.long t0), .second, .val (.long m1), .second, .val (.long m2), .second, .val (.long hh), .second, .unset, .unset, .unset, .unset, .unset, .unset, .unset, .unset, .unset, .unset, .unset, .unset, .unset, .unset, .unset, .unset, .unset, .unset, .unset, .unset, .unset, .unset, .unset] [(.long (m2 &&& (4294967295 : Int64))), (.long (((t0.toUInt64 >>> ((32 : Int32) &&& 0x3f).toInt64.toUInt64).toInt64) + (m1 &&& (4294967295 : Int64))))])) (fun t k => XS.land X81.here hx rfl (hb hby at_174) rfl k) ?_
    refine own_by (T' := T81) (f' := (mkF m 176 #[.val (.long i0), .second, .val (.long i1), .second, .val (.int i2), .val (.long av), .second, .val (.long bw), .second, .val (.int ng), .val (.int pq), .val (.ref b35), .val (.long a1), .second, .val (.long al), .second, .val (.long (232830643 : Int64)), .second, .val (.long (2808348672 : Int64)), .second, .val (.long t0), .second, .val (.long m1), .second, .val (.long m2), .second, .val (.long hh), .second, .unset, .unset, .unset, .unset, .unset, .unset, .unset, .unset, .unset, .unset, .unset, .unset, .unset, .unset, .unset, .unset, .unset, .unset, .unset, .unset, .unset, .unset, .unset] [(.long ((((t0.toUInt64 >>> ((32 : Int32) &&& 0x3f).toInt64.toUInt64).toInt64) + (m1 &&& (4294967295 : Int64))) + (m2 &&& (4294967295 : Int64))))])) (fun t k => XS.ladd X81.here hx rfl (hb hby at_175) rfl k) ?_
    obtain ⟨cc, hcc⟩ : ∃ z : Int64, z = ((((t0.toUInt64 >>> ((32 : Int32) &&& 0x3f).toInt64.toUInt64).toInt64) + (m1 &&& (4294967295 : Int64))) + (m2 &&& (4294967295 : Int64))) := ⟨_, rfl⟩
    rw [← hcc]
    show own_Go p e below _ T81 (mkF m 176 #[.val (.long i0), .second, .val (.long i1), .second, .val (.int i2), .val (.long av), .second, .val (.long bw), .second, .val (.int ng), .val (.int pq), .val (.ref b35), .val (.long a1), .second, .val (.long al), .second, .val (.long (232830643 : Int64)), .second, .val (.long (2808348672 : Int64)), .second, .val (.long t0), .second, .val (.long m1), .second, .val (.long m2), .second, .val (.long hh), .second, .unset, .unset, .unset, .unset, .unset, .unset, .unset, .unset, .unset, .unset, .unset, .unset, .unset, .unset, .unset, .unset, .unset, .unset, .unset, .unset, .unset, .unset, .unset] [(.long cc)])
    refine own_by (T' := T81) (f' := (mkF m 178 #[.val (.long i0), .second, .val (.long i1), .second, .val (.int i2), .val (.long av), .second, .val (.long bw), .second, .val (.int ng), .val (.int pq), .val (.ref b35), .val (.long a1), .second, .val (.long al), .second, .val (.long (232830643 : Int64)), .second, .val (.long (2808348672 : Int64)), .second, .val (.long t0), .second, .val (.long m1), .second, .val (.long m2), .second, .val (.long hh), .second, .val (.long cc), .second, .unset, .unset, .unset, .unset, .unset, .unset, .unset, .unset, .unset, .unset, .unset, .unset, .unset, .unset, .unset, .unset, .unset, .unset, .unset, .unset, .unset] [])) (fun t k => XS.lstore X81.here hx rfl (hb hby at_176) rfl (l' := #[.val (.long i0), .second, .val (.long i1), .second, .val (.int i2), .val (.long av), .second, .val (.long bw), .second, .val (.int ng), .val (.int pq), .val (.ref b35), .val (.long a1), .second, .val (.long al), .second, .val (.long (232830643 : Int64)), .second, .val (.long (2808348672 : Int64)), .second, .val (.long t0), .second, .val (.long m1), .second, .val (.long m2), .second, .val (.long hh), .second, .val (.long cc), .second, .unset, .unset, .unset, .unset, .unset, .unset, .unset, .unset, .unset, .unset, .unset, .unset, .unset, .unset, .unset, .unset, .unset, .unset, .unset, .unset, .unset]) rfl k) ?_
    refine own_by (T' := T81) (f' := (mkF m 180 #[.val (.long i0), .second, .val (.long i1), .second, .val (.int i2), .val (.long av), .second, .val (.long bw), .second, .val (.int ng), .val (.int pq), .val (.ref b35), .val (.long a1), .second, .val (.long al), .second, .val (.long (232830643 : Int64)), .second, .val (.long (2808348672 : Int64)), .second, .val (.long t0), .second, .val (.long m1), .second, .val (.long m2), .second, .val (.long hh), .second, .val (.long cc), .second, .unset, .unset, .unset, .unset, .unset, .unset, .unset, .unset, .unset, .unset, .unset, .unset, .unset, .unset, .unset, .unset, .unset, .unset, .unset, .unset, .unset] [(.long cc)])) (fun t k => XS.lload X81.here hx rfl (hb hby at_178) rfl k) ?_
    refine own_by (T' := T81) (f' := (mkF m 182 #[.val (.long i0), .second, .val (.long i1), .second, .val (.int i2), .val (.long av), .second, .val (.long bw), .second, .val (.int ng), .val (.int pq), .val (.ref b35), .val (.long a1), .second, .val (.long al), .second, .val (.long (232830643 : Int64)), .second, .val (.long (2808348672 : Int64)), .second, .val (.long t0), .second, .val (.long m1), .second, .val (.long m2), .second, .val (.long hh), .second, .val (.long cc), .second, .unset, .unset, .unset, .unset, .unset, .unset, .unset, .unset, .unset, .unset, .unset, .unset, .unset, .unset, .unset, .unset, .unset, .unset, .unset, .unset, .unset] [(.int (32 : Int32)), (.long cc)])) (fun t k => XS.bipush X81.here hx rfl (hb hby at_180) k) ?_
    refine own_by (T' := T81) (f' := (mkF m 183 #[.val (.long i0), .second, .val (.long i1), .second, .val (.int i2), .val (.long av), .second, .val (.long bw), .second, .val (.int ng), .val (.int pq), .val (.ref b35), .val (.long a1), .second, .val (.long al), .second, .val (.long (232830643 : Int64)), .second, .val (.long (2808348672 : Int64)), .second, .val (.long t0), .second, .val (.long m1), .second, .val (.long m2), .second, .val (.long hh), .second, .val (.long cc), .second, .unset, .unset, .unset, .unset, .unset, .unset, .unset, .unset, .unset, .unset, .unset, .unset, .unset, .unset, .unset, .unset, .unset, .unset, .unset, .unset, .unset] [(.long (cc <<< ((32 : Int32) &&& 0x3f).toInt64))])) (fun t k => XS.lshl X81.here hx rfl (hb hby at_182) rfl k) ?_
    refine own_by (T' := T81) (f' := (mkF m 185 #[.val (.long i0), .second, .val (.long i1), .second, .val (.int i2), .val (.long av), .second, .val (.long bw), .second, .val (.int ng), .val (.int pq), .val (.ref b35), .val (.long a1), .second, .val (.long al), .second, .val (.long (232830643 : Int64)), .second, .val (.long (2808348672 : Int64)), .second, .val (.long t0), .second, .val (.long m1), .second, .val (.long m2), .second, .val (.long hh), .second, .val (.long cc), .second, .unset, .unset, .unset, .unset, .unset, .unset, .unset, .unset, .unset, .unset, .unset, .unset, .unset, .unset, .unset, .unset, .unset, .unset, .unset, .unset, .unset] [(.long t0), (.long (cc <<< ((32 : Int32) &&& 0x3f).toInt64))])) (fun t k => XS.lload X81.here hx rfl (hb hby at_183) rfl k) ?_
    refine own_by (T' := T81) (f' := (mkF m 188 #[.val (.long i0), .second, .val (.long i1), .second, .val (.int i2), .val (.long av), .second, .val (.long bw), .second, .val (.int ng), .val (.int pq), .val (.ref b35), .val (.long a1), .second, .val (.long al), .second, .val (.long (232830643 : Int64)), .second, .val (.long (2808348672 : Int64)), .second, .val (.long t0), .second, .val (.long m1), .second, .val (.long m2), .second, .val (.long hh), .second, .val (.long cc), .second, .unset, .unset, .unset, .unset, .unset, .unset, .unset, .unset, .unset, .unset, .unset, .unset, .unset, .unset, .unset, .unset, .unset, .unset, .unset, .unset, .unset] [(.long (4294967295 : Int64)), (.long t0), (.long (cc <<< ((32 : Int32) &&& 0x3f).toInt64))])) (fun t k => X81.ldc2Long hx hown (mvT hZ (own_w hw 27 rfl)) (g := (mkF m 185 #[.val (.long i0), .second, .val (.long i1), .second, .val (.int i2), .val (.long av), .second, .val (.long bw), .second, .val (.int ng), .val (.int pq), .val (.ref b35), .val (.long a1), .second, .val (.long al), .second, .val (.long (232830643 : Int64)), .second, .val (.long (2808348672 : Int64)), .second, .val (.long t0), .second, .val (.long m1), .second, .val (.long m2), .second, .val (.long hh), .second, .val (.long cc), .second, .unset, .unset, .unset, .unset, .unset, .unset, .unset, .unset, .unset, .unset, .unset, .unset, .unset, .unset, .unset, .unset, .unset, .unset, .unset, .unset, .unset] [(.long t0), (.long (cc <<< ((32 : Int32) &&& 0x3f).toInt64))])) rfl (hb hby at_185) _ k) ?_
    refine own_by (T' := T81) (f' := (mkF m 189 #[.val (.long i0), .second, .val (.long i1), .second, .val (.int i2), .val (.long av), .second, .val (.long bw), .second, .val (.int ng), .val (.int pq), .val (.ref b35), .val (.long a1), .second, .val (.long al), .second, .val (.long (232830643 : Int64)), .second, .val (.long (2808348672 : Int64)), .second, .val (.long t0), .second, .val (.long m1), .second, .val (.long m2), .second, .val (.long hh), .second, .val (.long cc), .second, .unset, .unset, .unset, .unset, .unset, .unset, .unset, .unset, .unset, .unset, .unset, .unset, .unset, .unset, .unset, .unset, .unset, .unset, .unset, .unset, .unset] [(.long (t0 &&& (4294967295 : Int64))), (.long (cc <<< ((32 : Int32) &&& 0x3f).toInt64))])) (fun t k => XS.land X81.here hx rfl (hb hby at_188) rfl k) ?_
    refine own_by (T' := T81) (f' := (mkF m 190 #[.val (.long i0), .second, .val (.long i1), .second, .val (.int i2), .val (.long av), .second, .val (.long bw), .second, .val (.int ng), .val (.int pq), .val (.ref b35), .val (.long a1), .second, .val (.long al), .second, .val (.long (232830643 : Int64)), .second, .val (.long (2808348672 : Int64)), .second, .val (.long t0), .second, .val (.long m1), .second, .val (.long m2), .second, .val (.long hh), .second, .val (.long cc), .second, .unset, .unset, .unset, .unset, .unset, .unset, .unset, .unset, .unset, .unset, .unset, .unset, .unset, .unset, .unset, .unset, .unset, .unset, .unset, .unset, .unset] [(.long ((cc <<< ((32 : Int32) &&& 0x3f).toInt64) ||| (t0 &&& (4294967295 : Int64))))])) (fun t k => XS.lor X81.here hx rfl (hb hby at_189) rfl k) ?_
    obtain ⟨lo, hlo⟩ : ∃ z : Int64, z = ((cc <<< ((32 : Int32) &&& 0x3f).toInt64) ||| (t0 &&& (4294967295 : Int64))) := ⟨_, rfl⟩
    rw [← hlo]
    show own_Go p e below _ T81 (mkF m 190 #[.val (.long i0), .second, .val (.long i1), .second, .val (.int i2), .val (.long av), .second, .val (.long bw), .second, .val (.int ng), .val (.int pq), .val (.ref b35), .val (.long a1), .second, .val (.long al), .second, .val (.long (232830643 : Int64)), .second, .val (.long (2808348672 : Int64)), .second, .val (.long t0), .second, .val (.long m1), .second, .val (.long m2), .second, .val (.long hh), .second, .val (.long cc), .second, .unset, .unset, .unset, .unset, .unset, .unset, .unset, .unset, .unset, .unset, .unset, .unset, .unset, .unset, .unset, .unset, .unset, .unset, .unset, .unset, .unset] [(.long lo)])
    refine own_by (T' := T81) (f' := (mkF m 192 #[.val (.long i0), .second, .val (.long i1), .second, .val (.int i2), .val (.long av), .second, .val (.long bw), .second, .val (.int ng), .val (.int pq), .val (.ref b35), .val (.long a1), .second, .val (.long al), .second, .val (.long (232830643 : Int64)), .second, .val (.long (2808348672 : Int64)), .second, .val (.long t0), .second, .val (.long m1), .second, .val (.long m2), .second, .val (.long hh), .second, .val (.long cc), .second, .val (.long lo), .second, .unset, .unset, .unset, .unset, .unset, .unset, .unset, .unset, .unset, .unset, .unset, .unset, .unset, .unset, .unset, .unset, .unset, .unset, .unset] [])) (fun t k => XS.lstore X81.here hx rfl (hb hby at_190) rfl (l' := #[.val (.long i0), .second, .val (.long i1), .second, .val (.int i2), .val (.long av), .second, .val (.long bw), .second, .val (.int ng), .val (.int pq), .val (.ref b35), .val (.long a1), .second, .val (.long al), .second, .val (.long (232830643 : Int64)), .second, .val (.long (2808348672 : Int64)), .second, .val (.long t0), .second, .val (.long m1), .second, .val (.long m2), .second, .val (.long hh), .second, .val (.long cc), .second, .val (.long lo), .second, .unset, .unset, .unset, .unset, .unset, .unset, .unset, .unset, .unset, .unset, .unset, .unset, .unset, .unset, .unset, .unset, .unset, .unset, .unset]) rfl k) ?_
    refine own_by (T' := T81) (f' := (mkF m 194 #[.val (.long i0), .second, .val (.long i1), .second, .val (.int i2), .val (.long av), .second, .val (.long bw), .second, .val (.int ng), .val (.int pq), .val (.ref b35), .val (.long a1), .second, .val (.long al), .second, .val (.long (232830643 : Int64)), .second, .val (.long (2808348672 : Int64)), .second, .val (.long t0), .second, .val (.long m1), .second, .val (.long m2), .second, .val (.long hh), .second, .val (.long cc), .second, .val (.long lo), .second, .unset, .unset, .unset, .unset, .unset, .unset, .unset, .unset, .unset, .unset, .unset, .unset, .unset, .unset, .unset, .unset, .unset, .unset, .unset] [(.long hh)])) (fun t k => XS.lload X81.here hx rfl (hb hby at_192) rfl k) ?_
    refine own_by (T' := T81) (f' := (mkF m 196 #[.val (.long i0), .second, .val (.long i1), .second, .val (.int i2), .val (.long av), .second, .val (.long bw), .second, .val (.int ng), .val (.int pq), .val (.ref b35), .val (.long a1), .second, .val (.long al), .second, .val (.long (232830643 : Int64)), .second, .val (.long (2808348672 : Int64)), .second, .val (.long t0), .second, .val (.long m1), .second, .val (.long m2), .second, .val (.long hh), .second, .val (.long cc), .second, .val (.long lo), .second, .unset, .unset, .unset, .unset, .unset, .unset, .unset, .unset, .unset, .unset, .unset, .unset, .unset, .unset, .unset, .unset, .unset, .unset, .unset] [(.long m1), (.long hh)])) (fun t k => XS.lload X81.here hx rfl (hb hby at_194) rfl k) ?_
    refine own_by (T' := T81) (f' := (mkF m 198 #[.val (.long i0), .second, .val (.long i1), .second, .val (.int i2), .val (.long av), .second, .val (.long bw), .second, .val (.int ng), .val (.int pq), .val (.ref b35), .val (.long a1), .second, .val (.long al), .second, .val (.long (232830643 : Int64)), .second, .val (.long (2808348672 : Int64)), .second, .val (.long t0), .second, .val (.long m1), .second, .val (.long m2), .second, .val (.long hh), .second, .val (.long cc), .second, .val (.long lo), .second, .unset, .unset, .unset, .unset, .unset, .unset, .unset, .unset, .unset, .unset, .unset, .unset, .unset, .unset, .unset, .unset, .unset, .unset, .unset] [(.int (32 : Int32)), (.long m1), (.long hh)])) (fun t k => XS.bipush X81.here hx rfl (hb hby at_196) k) ?_
    refine own_by (T' := T81) (f' := (mkF m 199 #[.val (.long i0), .second, .val (.long i1), .second, .val (.int i2), .val (.long av), .second, .val (.long bw), .second, .val (.int ng), .val (.int pq), .val (.ref b35), .val (.long a1), .second, .val (.long al), .second, .val (.long (232830643 : Int64)), .second, .val (.long (2808348672 : Int64)), .second, .val (.long t0), .second, .val (.long m1), .second, .val (.long m2), .second, .val (.long hh), .second, .val (.long cc), .second, .val (.long lo), .second, .unset, .unset, .unset, .unset, .unset, .unset, .unset, .unset, .unset, .unset, .unset, .unset, .unset, .unset, .unset, .unset, .unset, .unset, .unset] [(.long ((m1.toUInt64 >>> ((32 : Int32) &&& 0x3f).toInt64.toUInt64).toInt64)), (.long hh)])) (fun t k => XS.lushr X81.here hx rfl (hb hby at_198) rfl k) ?_
    refine own_by (T' := T81) (f' := (mkF m 200 #[.val (.long i0), .second, .val (.long i1), .second, .val (.int i2), .val (.long av), .second, .val (.long bw), .second, .val (.int ng), .val (.int pq), .val (.ref b35), .val (.long a1), .second, .val (.long al), .second, .val (.long (232830643 : Int64)), .second, .val (.long (2808348672 : Int64)), .second, .val (.long t0), .second, .val (.long m1), .second, .val (.long m2), .second, .val (.long hh), .second, .val (.long cc), .second, .val (.long lo), .second, .unset, .unset, .unset, .unset, .unset, .unset, .unset, .unset, .unset, .unset, .unset, .unset, .unset, .unset, .unset, .unset, .unset, .unset, .unset] [(.long (hh + ((m1.toUInt64 >>> ((32 : Int32) &&& 0x3f).toInt64.toUInt64).toInt64)))])) (fun t k => XS.ladd X81.here hx rfl (hb hby at_199) rfl k) ?_
    refine own_by (T' := T81) (f' := (mkF m 202 #[.val (.long i0), .second, .val (.long i1), .second, .val (.int i2), .val (.long av), .second, .val (.long bw), .second, .val (.int ng), .val (.int pq), .val (.ref b35), .val (.long a1), .second, .val (.long al), .second, .val (.long (232830643 : Int64)), .second, .val (.long (2808348672 : Int64)), .second, .val (.long t0), .second, .val (.long m1), .second, .val (.long m2), .second, .val (.long hh), .second, .val (.long cc), .second, .val (.long lo), .second, .unset, .unset, .unset, .unset, .unset, .unset, .unset, .unset, .unset, .unset, .unset, .unset, .unset, .unset, .unset, .unset, .unset, .unset, .unset] [(.long m2), (.long (hh + ((m1.toUInt64 >>> ((32 : Int32) &&& 0x3f).toInt64.toUInt64).toInt64)))])) (fun t k => XS.lload X81.here hx rfl (hb hby at_200) rfl k) ?_
    refine own_by (T' := T81) (f' := (mkF m 204 #[.val (.long i0), .second, .val (.long i1), .second, .val (.int i2), .val (.long av), .second, .val (.long bw), .second, .val (.int ng), .val (.int pq), .val (.ref b35), .val (.long a1), .second, .val (.long al), .second, .val (.long (232830643 : Int64)), .second, .val (.long (2808348672 : Int64)), .second, .val (.long t0), .second, .val (.long m1), .second, .val (.long m2), .second, .val (.long hh), .second, .val (.long cc), .second, .val (.long lo), .second, .unset, .unset, .unset, .unset, .unset, .unset, .unset, .unset, .unset, .unset, .unset, .unset, .unset, .unset, .unset, .unset, .unset, .unset, .unset] [(.int (32 : Int32)), (.long m2), (.long (hh + ((m1.toUInt64 >>> ((32 : Int32) &&& 0x3f).toInt64.toUInt64).toInt64)))])) (fun t k => XS.bipush X81.here hx rfl (hb hby at_202) k) ?_
    refine own_by (T' := T81) (f' := (mkF m 205 #[.val (.long i0), .second, .val (.long i1), .second, .val (.int i2), .val (.long av), .second, .val (.long bw), .second, .val (.int ng), .val (.int pq), .val (.ref b35), .val (.long a1), .second, .val (.long al), .second, .val (.long (232830643 : Int64)), .second, .val (.long (2808348672 : Int64)), .second, .val (.long t0), .second, .val (.long m1), .second, .val (.long m2), .second, .val (.long hh), .second, .val (.long cc), .second, .val (.long lo), .second, .unset, .unset, .unset, .unset, .unset, .unset, .unset, .unset, .unset, .unset, .unset, .unset, .unset, .unset, .unset, .unset, .unset, .unset, .unset] [(.long ((m2.toUInt64 >>> ((32 : Int32) &&& 0x3f).toInt64.toUInt64).toInt64)), (.long (hh + ((m1.toUInt64 >>> ((32 : Int32) &&& 0x3f).toInt64.toUInt64).toInt64)))])) (fun t k => XS.lushr X81.here hx rfl (hb hby at_204) rfl k) ?_
    refine own_by (T' := T81) (f' := (mkF m 206 #[.val (.long i0), .second, .val (.long i1), .second, .val (.int i2), .val (.long av), .second, .val (.long bw), .second, .val (.int ng), .val (.int pq), .val (.ref b35), .val (.long a1), .second, .val (.long al), .second, .val (.long (232830643 : Int64)), .second, .val (.long (2808348672 : Int64)), .second, .val (.long t0), .second, .val (.long m1), .second, .val (.long m2), .second, .val (.long hh), .second, .val (.long cc), .second, .val (.long lo), .second, .unset, .unset, .unset, .unset, .unset, .unset, .unset, .unset, .unset, .unset, .unset, .unset, .unset, .unset, .unset, .unset, .unset, .unset, .unset] [(.long ((hh + ((m1.toUInt64 >>> ((32 : Int32) &&& 0x3f).toInt64.toUInt64).toInt64)) + ((m2.toUInt64 >>> ((32 : Int32) &&& 0x3f).toInt64.toUInt64).toInt64)))])) (fun t k => XS.ladd X81.here hx rfl (hb hby at_205) rfl k) ?_
    refine own_by (T' := T81) (f' := (mkF m 208 #[.val (.long i0), .second, .val (.long i1), .second, .val (.int i2), .val (.long av), .second, .val (.long bw), .second, .val (.int ng), .val (.int pq), .val (.ref b35), .val (.long a1), .second, .val (.long al), .second, .val (.long (232830643 : Int64)), .second, .val (.long (2808348672 : Int64)), .second, .val (.long t0), .second, .val (.long m1), .second, .val (.long m2), .second, .val (.long hh), .second, .val (.long cc), .second, .val (.long lo), .second, .unset, .unset, .unset, .unset, .unset, .unset, .unset, .unset, .unset, .unset, .unset, .unset, .unset, .unset, .unset, .unset, .unset, .unset, .unset] [(.long cc), (.long ((hh + ((m1.toUInt64 >>> ((32 : Int32) &&& 0x3f).toInt64.toUInt64).toInt64)) + ((m2.toUInt64 >>> ((32 : Int32) &&& 0x3f).toInt64.toUInt64).toInt64)))])) (fun t k => XS.lload X81.here hx rfl (hb hby at_206) rfl k) ?_
    refine own_by (T' := T81) (f' := (mkF m 210 #[.val (.long i0), .second, .val (.long i1), .second, .val (.int i2), .val (.long av), .second, .val (.long bw), .second, .val (.int ng), .val (.int pq), .val (.ref b35), .val (.long a1), .second, .val (.long al), .second, .val (.long (232830643 : Int64)), .second, .val (.long (2808348672 : Int64)), .second, .val (.long t0), .second, .val (.long m1), .second, .val (.long m2), .second, .val (.long hh), .second, .val (.long cc), .second, .val (.long lo), .second, .unset, .unset, .unset, .unset, .unset, .unset, .unset, .unset, .unset, .unset, .unset, .unset, .unset, .unset, .unset, .unset, .unset, .unset, .unset] [(.int (32 : Int32)), (.long cc), (.long ((hh + ((m1.toUInt64 >>> ((32 : Int32) &&& 0x3f).toInt64.toUInt64).toInt64)) + ((m2.toUInt64 >>> ((32 : Int32) &&& 0x3f).toInt64.toUInt64).toInt64)))])) (fun t k => XS.bipush X81.here hx rfl (hb hby at_208) k) ?_
    refine own_by (T' := T81) (f' := (mkF m 211 #[.val (.long i0), .second, .val (.long i1), .second, .val (.int i2), .val (.long av), .second, .val (.long bw), .second, .val (.int ng), .val (.int pq), .val (.ref b35), .val (.long a1), .second, .val (.long al), .second, .val (.long (232830643 : Int64)), .second, .val (.long (2808348672 : Int64)), .second, .val (.long t0), .second, .val (.long m1), .second, .val (.long m2), .second, .val (.long hh), .second, .val (.long cc), .second, .val (.long lo), .second, .unset, .unset, .unset, .unset, .unset, .unset, .unset, .unset, .unset, .unset, .unset, .unset, .unset, .unset, .unset, .unset, .unset, .unset, .unset] [(.long ((cc.toUInt64 >>> ((32 : Int32) &&& 0x3f).toInt64.toUInt64).toInt64)), (.long ((hh + ((m1.toUInt64 >>> ((32 : Int32) &&& 0x3f).toInt64.toUInt64).toInt64)) + ((m2.toUInt64 >>> ((32 : Int32) &&& 0x3f).toInt64.toUInt64).toInt64)))])) (fun t k => XS.lushr X81.here hx rfl (hb hby at_210) rfl k) ?_
    refine own_by (T' := T81) (f' := (mkF m 212 #[.val (.long i0), .second, .val (.long i1), .second, .val (.int i2), .val (.long av), .second, .val (.long bw), .second, .val (.int ng), .val (.int pq), .val (.ref b35), .val (.long a1), .second, .val (.long al), .second, .val (.long (232830643 : Int64)), .second, .val (.long (2808348672 : Int64)), .second, .val (.long t0), .second, .val (.long m1), .second, .val (.long m2), .second, .val (.long hh), .second, .val (.long cc), .second, .val (.long lo), .second, .unset, .unset, .unset, .unset, .unset, .unset, .unset, .unset, .unset, .unset, .unset, .unset, .unset, .unset, .unset, .unset, .unset, .unset, .unset] [(.long (((hh + ((m1.toUInt64 >>> ((32 : Int32) &&& 0x3f).toInt64.toUInt64).toInt64)) + ((m2.toUInt64 >>> ((32 : Int32) &&& 0x3f).toInt64.toUInt64).toInt64)) + ((cc.toUInt64 >>> ((32 : Int32) &&& 0x3f).toInt64.toUInt64).toInt64)))])) (fun t k => XS.ladd X81.here hx rfl (hb hby at_211) rfl k) ?_
    obtain ⟨hi, hhi⟩ : ∃ z : Int64, z = (((hh + ((m1.toUInt64 >>> ((32 : Int32) &&& 0x3f).toInt64.toUInt64).toInt64)) + ((m2.toUInt64 >>> ((32 : Int32) &&& 0x3f).toInt64.toUInt64).toInt64)) + ((cc.toUInt64 >>> ((32 : Int32) &&& 0x3f).toInt64.toUInt64).toInt64)) := ⟨_, rfl⟩
    rw [← hhi]
    show own_Go p e below _ T81 (mkF m 212 #[.val (.long i0), .second, .val (.long i1), .second, .val (.int i2), .val (.long av), .second, .val (.long bw), .second, .val (.int ng), .val (.int pq), .val (.ref b35), .val (.long a1), .second, .val (.long al), .second, .val (.long (232830643 : Int64)), .second, .val (.long (2808348672 : Int64)), .second, .val (.long t0), .second, .val (.long m1), .second, .val (.long m2), .second, .val (.long hh), .second, .val (.long cc), .second, .val (.long lo), .second, .unset, .unset, .unset, .unset, .unset, .unset, .unset, .unset, .unset, .unset, .unset, .unset, .unset, .unset, .unset, .unset, .unset, .unset, .unset] [(.long hi)])
    refine own_by (T' := T81) (f' := (mkF m 214 #[.val (.long i0), .second, .val (.long i1), .second, .val (.int i2), .val (.long av), .second, .val (.long bw), .second, .val (.int ng), .val (.int pq), .val (.ref b35), .val (.long a1), .second, .val (.long al), .second, .val (.long (232830643 : Int64)), .second, .val (.long (2808348672 : Int64)), .second, .val (.long t0), .second, .val (.long m1), .second, .val (.long m2), .second, .val (.long hh), .second, .val (.long cc), .second, .val (.long lo), .second, .val (.long hi), .second, .unset, .unset, .unset, .unset, .unset, .unset, .unset, .unset, .unset, .unset, .unset, .unset, .unset, .unset, .unset, .unset, .unset] [])) (fun t k => XS.lstore X81.here hx rfl (hb hby at_212) rfl (l' := #[.val (.long i0), .second, .val (.long i1), .second, .val (.int i2), .val (.long av), .second, .val (.long bw), .second, .val (.int ng), .val (.int pq), .val (.ref b35), .val (.long a1), .second, .val (.long al), .second, .val (.long (232830643 : Int64)), .second, .val (.long (2808348672 : Int64)), .second, .val (.long t0), .second, .val (.long m1), .second, .val (.long m2), .second, .val (.long hh), .second, .val (.long cc), .second, .val (.long lo), .second, .val (.long hi), .second, .unset, .unset, .unset, .unset, .unset, .unset, .unset, .unset, .unset, .unset, .unset, .unset, .unset, .unset, .unset, .unset, .unset]) rfl k) ?_
    refine own_by (T' := T81) (f' := (mkF m 216 #[.val (.long i0), .second, .val (.long i1), .second, .val (.int i2), .val (.long av), .second, .val (.long bw), .second, .val (.int ng), .val (.int pq), .val (.ref b35), .val (.long a1), .second, .val (.long al), .second, .val (.long (232830643 : Int64)), .second, .val (.long (2808348672 : Int64)), .second, .val (.long t0), .second, .val (.long m1), .second, .val (.long m2), .second, .val (.long hh), .second, .val (.long cc), .second, .val (.long lo), .second, .val (.long hi), .second, .unset, .unset, .unset, .unset, .unset, .unset, .unset, .unset, .unset, .unset, .unset, .unset, .unset, .unset, .unset, .unset, .unset] [(.long lo)])) (fun t k => XS.lload X81.here hx rfl (hb hby at_214) rfl k) ?_
    refine own_by (T' := T81) (f' := (mkF m 218 #[.val (.long i0), .second, .val (.long i1), .second, .val (.int i2), .val (.long av), .second, .val (.long bw), .second, .val (.int ng), .val (.int pq), .val (.ref b35), .val (.long a1), .second, .val (.long al), .second, .val (.long (232830643 : Int64)), .second, .val (.long (2808348672 : Int64)), .second, .val (.long t0), .second, .val (.long m1), .second, .val (.long m2), .second, .val (.long hh), .second, .val (.long cc), .second, .val (.long lo), .second, .val (.long hi), .second, .unset, .unset, .unset, .unset, .unset, .unset, .unset, .unset, .unset, .unset, .unset, .unset, .unset, .unset, .unset, .unset, .unset] [(.long bw), (.long lo)])) (fun t k => XS.lload X81.here hx rfl (hb hby at_216) rfl k) ?_
    refine own_by (T' := T81) (f' := (mkF m 219 #[.val (.long i0), .second, .val (.long i1), .second, .val (.int i2), .val (.long av), .second, .val (.long bw), .second, .val (.int ng), .val (.int pq), .val (.ref b35), .val (.long a1), .second, .val (.long al), .second, .val (.long (232830643 : Int64)), .second, .val (.long (2808348672 : Int64)), .second, .val (.long t0), .second, .val (.long m1), .second, .val (.long m2), .second, .val (.long hh), .second, .val (.long cc), .second, .val (.long lo), .second, .val (.long hi), .second, .unset, .unset, .unset, .unset, .unset, .unset, .unset, .unset, .unset, .unset, .unset, .unset, .unset, .unset, .unset, .unset, .unset] [(.long (lo + bw))])) (fun t k => XS.ladd X81.here hx rfl (hb hby at_218) rfl k) ?_
    obtain ⟨lo2, hlo2⟩ : ∃ z : Int64, z = (lo + bw) := ⟨_, rfl⟩
    rw [← hlo2]
    show own_Go p e below _ T81 (mkF m 219 #[.val (.long i0), .second, .val (.long i1), .second, .val (.int i2), .val (.long av), .second, .val (.long bw), .second, .val (.int ng), .val (.int pq), .val (.ref b35), .val (.long a1), .second, .val (.long al), .second, .val (.long (232830643 : Int64)), .second, .val (.long (2808348672 : Int64)), .second, .val (.long t0), .second, .val (.long m1), .second, .val (.long m2), .second, .val (.long hh), .second, .val (.long cc), .second, .val (.long lo), .second, .val (.long hi), .second, .unset, .unset, .unset, .unset, .unset, .unset, .unset, .unset, .unset, .unset, .unset, .unset, .unset, .unset, .unset, .unset, .unset] [(.long lo2)])
    refine own_by (T' := T81) (f' := (mkF m 221 #[.val (.long i0), .second, .val (.long i1), .second, .val (.int i2), .val (.long av), .second, .val (.long bw), .second, .val (.int ng), .val (.int pq), .val (.ref b35), .val (.long a1), .second, .val (.long al), .second, .val (.long (232830643 : Int64)), .second, .val (.long (2808348672 : Int64)), .second, .val (.long t0), .second, .val (.long m1), .second, .val (.long m2), .second, .val (.long hh), .second, .val (.long cc), .second, .val (.long lo), .second, .val (.long hi), .second, .val (.long lo2), .second, .unset, .unset, .unset, .unset, .unset, .unset, .unset, .unset, .unset, .unset, .unset, .unset, .unset, .unset, .unset] [])) (fun t k => XS.lstore X81.here hx rfl (hb hby at_219) rfl (l' := #[.val (.long i0), .second, .val (.long i1), .second, .val (.int i2), .val (.long av), .second, .val (.long bw), .second, .val (.int ng), .val (.int pq), .val (.ref b35), .val (.long a1), .second, .val (.long al), .second, .val (.long (232830643 : Int64)), .second, .val (.long (2808348672 : Int64)), .second, .val (.long t0), .second, .val (.long m1), .second, .val (.long m2), .second, .val (.long hh), .second, .val (.long cc), .second, .val (.long lo), .second, .val (.long hi), .second, .val (.long lo2), .second, .unset, .unset, .unset, .unset, .unset, .unset, .unset, .unset, .unset, .unset, .unset, .unset, .unset, .unset, .unset]) rfl k) ?_
    refine own_by (T' := T81) (f' := (mkF m 223 #[.val (.long i0), .second, .val (.long i1), .second, .val (.int i2), .val (.long av), .second, .val (.long bw), .second, .val (.int ng), .val (.int pq), .val (.ref b35), .val (.long a1), .second, .val (.long al), .second, .val (.long (232830643 : Int64)), .second, .val (.long (2808348672 : Int64)), .second, .val (.long t0), .second, .val (.long m1), .second, .val (.long m2), .second, .val (.long hh), .second, .val (.long cc), .second, .val (.long lo), .second, .val (.long hi), .second, .val (.long lo2), .second, .unset, .unset, .unset, .unset, .unset, .unset, .unset, .unset, .unset, .unset, .unset, .unset, .unset, .unset, .unset] [(.long lo2)])) (fun t k => XS.lload X81.here hx rfl (hb hby at_221) rfl k) ?_
    refine own_by (T' := T81) (f' := (mkF m 226 #[.val (.long i0), .second, .val (.long i1), .second, .val (.int i2), .val (.long av), .second, .val (.long bw), .second, .val (.int ng), .val (.int pq), .val (.ref b35), .val (.long a1), .second, .val (.long al), .second, .val (.long (232830643 : Int64)), .second, .val (.long (2808348672 : Int64)), .second, .val (.long t0), .second, .val (.long m1), .second, .val (.long m2), .second, .val (.long hh), .second, .val (.long cc), .second, .val (.long lo), .second, .val (.long hi), .second, .val (.long lo2), .second, .unset, .unset, .unset, .unset, .unset, .unset, .unset, .unset, .unset, .unset, .unset, .unset, .unset, .unset, .unset] [(.long (-9223372036854775808 : Int64)), (.long lo2)])) (fun t k => X81.ldc2Long hx hown (mvT hZ (own_w hw 30 rfl)) (g := (mkF m 223 #[.val (.long i0), .second, .val (.long i1), .second, .val (.int i2), .val (.long av), .second, .val (.long bw), .second, .val (.int ng), .val (.int pq), .val (.ref b35), .val (.long a1), .second, .val (.long al), .second, .val (.long (232830643 : Int64)), .second, .val (.long (2808348672 : Int64)), .second, .val (.long t0), .second, .val (.long m1), .second, .val (.long m2), .second, .val (.long hh), .second, .val (.long cc), .second, .val (.long lo), .second, .val (.long hi), .second, .val (.long lo2), .second, .unset, .unset, .unset, .unset, .unset, .unset, .unset, .unset, .unset, .unset, .unset, .unset, .unset, .unset, .unset] [(.long lo2)])) rfl (hb hby at_223) _ k) ?_
    refine own_by (T' := T81) (f' := (mkF m 227 #[.val (.long i0), .second, .val (.long i1), .second, .val (.int i2), .val (.long av), .second, .val (.long bw), .second, .val (.int ng), .val (.int pq), .val (.ref b35), .val (.long a1), .second, .val (.long al), .second, .val (.long (232830643 : Int64)), .second, .val (.long (2808348672 : Int64)), .second, .val (.long t0), .second, .val (.long m1), .second, .val (.long m2), .second, .val (.long hh), .second, .val (.long cc), .second, .val (.long lo), .second, .val (.long hi), .second, .val (.long lo2), .second, .unset, .unset, .unset, .unset, .unset, .unset, .unset, .unset, .unset, .unset, .unset, .unset, .unset, .unset, .unset] [(.long (lo2 ^^^ (-9223372036854775808 : Int64)))])) (fun t k => XS.lxor X81.here hx rfl (hb hby at_226) rfl k) ?_
    refine own_by (T' := T81) (f' := (mkF m 229 #[.val (.long i0), .second, .val (.long i1), .second, .val (.int i2), .val (.long av), .second, .val (.long bw), .second, .val (.int ng), .val (.int pq), .val (.ref b35), .val (.long a1), .second, .val (.long al), .second, .val (.long (232830643 : Int64)), .second, .val (.long (2808348672 : Int64)), .second, .val (.long t0), .second, .val (.long m1), .second, .val (.long m2), .second, .val (.long hh), .second, .val (.long cc), .second, .val (.long lo), .second, .val (.long hi), .second, .val (.long lo2), .second, .unset, .unset, .unset, .unset, .unset, .unset, .unset, .unset, .unset, .unset, .unset, .unset, .unset, .unset, .unset] [(.long lo), (.long (lo2 ^^^ (-9223372036854775808 : Int64)))])) (fun t k => XS.lload X81.here hx rfl (hb hby at_227) rfl k) ?_
    refine own_by (T' := T81) (f' := (mkF m 232 #[.val (.long i0), .second, .val (.long i1), .second, .val (.int i2), .val (.long av), .second, .val (.long bw), .second, .val (.int ng), .val (.int pq), .val (.ref b35), .val (.long a1), .second, .val (.long al), .second, .val (.long (232830643 : Int64)), .second, .val (.long (2808348672 : Int64)), .second, .val (.long t0), .second, .val (.long m1), .second, .val (.long m2), .second, .val (.long hh), .second, .val (.long cc), .second, .val (.long lo), .second, .val (.long hi), .second, .val (.long lo2), .second, .unset, .unset, .unset, .unset, .unset, .unset, .unset, .unset, .unset, .unset, .unset, .unset, .unset, .unset, .unset] [(.long (-9223372036854775808 : Int64)), (.long lo), (.long (lo2 ^^^ (-9223372036854775808 : Int64)))])) (fun t k => X81.ldc2Long hx hown (mvT hZ (own_w hw 30 rfl)) (g := (mkF m 229 #[.val (.long i0), .second, .val (.long i1), .second, .val (.int i2), .val (.long av), .second, .val (.long bw), .second, .val (.int ng), .val (.int pq), .val (.ref b35), .val (.long a1), .second, .val (.long al), .second, .val (.long (232830643 : Int64)), .second, .val (.long (2808348672 : Int64)), .second, .val (.long t0), .second, .val (.long m1), .second, .val (.long m2), .second, .val (.long hh), .second, .val (.long cc), .second, .val (.long lo), .second, .val (.long hi), .second, .val (.long lo2), .second, .unset, .unset, .unset, .unset, .unset, .unset, .unset, .unset, .unset, .unset, .unset, .unset, .unset, .unset, .unset] [(.long lo), (.long (lo2 ^^^ (-9223372036854775808 : Int64)))])) rfl (hb hby at_229) _ k) ?_
    refine own_by (T' := T81) (f' := (mkF m 233 #[.val (.long i0), .second, .val (.long i1), .second, .val (.int i2), .val (.long av), .second, .val (.long bw), .second, .val (.int ng), .val (.int pq), .val (.ref b35), .val (.long a1), .second, .val (.long al), .second, .val (.long (232830643 : Int64)), .second, .val (.long (2808348672 : Int64)), .second, .val (.long t0), .second, .val (.long m1), .second, .val (.long m2), .second, .val (.long hh), .second, .val (.long cc), .second, .val (.long lo), .second, .val (.long hi), .second, .val (.long lo2), .second, .unset, .unset, .unset, .unset, .unset, .unset, .unset, .unset, .unset, .unset, .unset, .unset, .unset, .unset, .unset] [(.long (lo ^^^ (-9223372036854775808 : Int64))), (.long (lo2 ^^^ (-9223372036854775808 : Int64)))])) (fun t k => XS.lxor X81.here hx rfl (hb hby at_232) rfl k) ?_
    refine own_by (T' := T81) (f' := (mkF m 234 #[.val (.long i0), .second, .val (.long i1), .second, .val (.int i2), .val (.long av), .second, .val (.long bw), .second, .val (.int ng), .val (.int pq), .val (.ref b35), .val (.long a1), .second, .val (.long al), .second, .val (.long (232830643 : Int64)), .second, .val (.long (2808348672 : Int64)), .second, .val (.long t0), .second, .val (.long m1), .second, .val (.long m2), .second, .val (.long hh), .second, .val (.long cc), .second, .val (.long lo), .second, .val (.long hi), .second, .val (.long lo2), .second, .unset, .unset, .unset, .unset, .unset, .unset, .unset, .unset, .unset, .unset, .unset, .unset, .unset, .unset, .unset] [(.int (lcmpW (lo2 ^^^ (-9223372036854775808 : Int64)) (lo ^^^ (-9223372036854775808 : Int64))))])) (fun t k => XS.lcmp X81.here hx rfl (hb hby at_233) rfl k) ?_
    have mg84 : ∀ t, Steps p.tables e below (T81.setTop (mkF m 242 #[.val (.long i0), .second, .val (.long i1), .second, .val (.int i2), .val (.long av), .second, .val (.long bw), .second, .val (.int ng), .val (.int pq), .val (.ref b35), .val (.long a1), .second, .val (.long al), .second, .val (.long (232830643 : Int64)), .second, .val (.long (2808348672 : Int64)), .second, .val (.long t0), .second, .val (.long m1), .second, .val (.long m2), .second, .val (.long hh), .second, .val (.long cc), .second, .val (.long lo), .second, .val (.long hi), .second, .val (.long lo2), .second, .unset, .unset, .unset, .unset, .unset, .unset, .unset, .unset, .unset, .unset, .unset, .unset, .unset, .unset, .unset] [(.long (if (lo2 ^^^ (-9223372036854775808 : Int64)) < (lo ^^^ (-9223372036854775808 : Int64)) then (1 : Int64) else (0 : Int64)))])) t → Steps p.tables e below (T81.setTop (mkF m 234 #[.val (.long i0), .second, .val (.long i1), .second, .val (.int i2), .val (.long av), .second, .val (.long bw), .second, .val (.int ng), .val (.int pq), .val (.ref b35), .val (.long a1), .second, .val (.long al), .second, .val (.long (232830643 : Int64)), .second, .val (.long (2808348672 : Int64)), .second, .val (.long t0), .second, .val (.long m1), .second, .val (.long m2), .second, .val (.long hh), .second, .val (.long cc), .second, .val (.long lo), .second, .val (.long hi), .second, .val (.long lo2), .second, .unset, .unset, .unset, .unset, .unset, .unset, .unset, .unset, .unset, .unset, .unset, .unset, .unset, .unset, .unset] [(.int (lcmpW (lo2 ^^^ (-9223372036854775808 : Int64)) (lo ^^^ (-9223372036854775808 : Int64))))])) t := by
      intro t k0
      by_cases hm83 : (lo2 ^^^ (-9223372036854775808 : Int64)) < (lo ^^^ (-9223372036854775808 : Int64))
      · skip
        refine XS.ifNo X81.here hx rfl (hb hby at_234) rfl ((if0 _ _).trans (tlt ((lw_lt _ _).mpr hm83)).2.1) ?_
        show Steps p.tables e below (T81.setTop (mkF m 237 #[.val (.long i0), .second, .val (.long i1), .second, .val (.int i2), .val (.long av), .second, .val (.long bw), .second, .val (.int ng), .val (.int pq), .val (.ref b35), .val (.long a1), .second, .val (.long al), .second, .val (.long (232830643 : Int64)), .second, .val (.long (2808348672 : Int64)), .second, .val (.long t0), .second, .val (.long m1), .second, .val (.long m2), .second, .val (.long hh), .second, .val (.long cc), .second, .val (.long lo), .second, .val (.long hi), .second, .val (.long lo2), .second, .unset, .unset, .unset, .unset, .unset, .unset, .unset, .unset, .unset, .unset, .unset, .unset, .unset, .unset, .unset] [])) _
        refine XS.lconst X81.here hx rfl (hb hby at_237) ?_
        show Steps p.tables e below (T81.setTop (mkF m 238 #[.val (.long i0), .second, .val (.long i1), .second, .val (.int i2), .val (.long av), .second, .val (.long bw), .second, .val (.int ng), .val (.int pq), .val (.ref b35), .val (.long a1), .second, .val (.long al), .second, .val (.long (232830643 : Int64)), .second, .val (.long (2808348672 : Int64)), .second, .val (.long t0), .second, .val (.long m1), .second, .val (.long m2), .second, .val (.long hh), .second, .val (.long cc), .second, .val (.long lo), .second, .val (.long hi), .second, .val (.long lo2), .second, .unset, .unset, .unset, .unset, .unset, .unset, .unset, .unset, .unset, .unset, .unset, .unset, .unset, .unset, .unset] [(.long (1 : Int64))])) _
        refine XS.goto X81.here hx rfl (pc0 := 238) (pc' := 242) rfl (hb hby at_238) (by decide) (by decide) ?_
        show Steps p.tables e below (T81.setTop (mkF m 242 #[.val (.long i0), .second, .val (.long i1), .second, .val (.int i2), .val (.long av), .second, .val (.long bw), .second, .val (.int ng), .val (.int pq), .val (.ref b35), .val (.long a1), .second, .val (.long al), .second, .val (.long (232830643 : Int64)), .second, .val (.long (2808348672 : Int64)), .second, .val (.long t0), .second, .val (.long m1), .second, .val (.long m2), .second, .val (.long hh), .second, .val (.long cc), .second, .val (.long lo), .second, .val (.long hi), .second, .val (.long lo2), .second, .unset, .unset, .unset, .unset, .unset, .unset, .unset, .unset, .unset, .unset, .unset, .unset, .unset, .unset, .unset] [(.long (1 : Int64))])) _
        try simp only [if_pos hm83] at k0
        exact k0
      · skip
        refine XS.ifYes X81.here hx rfl (pc0 := 234) (pc' := 241) rfl (hb hby at_234) rfl ((if0 _ _).trans (flt (mt (lw_lt _ _).mp hm83)).2.1) (by decide) (by decide) ?_
        show Steps p.tables e below (T81.setTop (mkF m 241 #[.val (.long i0), .second, .val (.long i1), .second, .val (.int i2), .val (.long av), .second, .val (.long bw), .second, .val (.int ng), .val (.int pq), .val (.ref b35), .val (.long a1), .second, .val (.long al), .second, .val (.long (232830643 : Int64)), .second, .val (.long (2808348672 : Int64)), .second, .val (.long t0), .second, .val (.long m1), .second, .val (.long m2), .second, .val (.long hh), .second, .val (.long cc), .second, .val (.long lo), .second, .val (.long hi), .second, .val (.long lo2), .second, .unset, .unset, .unset, .unset, .unset, .unset, .unset, .unset, .unset, .unset, .unset, .unset, .unset, .unset, .unset] [])) _
        refine XS.lconst X81.here hx rfl (hb hby at_241) ?_
        show Steps p.tables e below (T81.setTop (mkF m 242 #[.val (.long i0), .second, .val (.long i1), .second, .val (.int i2), .val (.long av), .second, .val (.long bw), .second, .val (.int ng), .val (.int pq), .val (.ref b35), .val (.long a1), .second, .val (.long al), .second, .val (.long (232830643 : Int64)), .second, .val (.long (2808348672 : Int64)), .second, .val (.long t0), .second, .val (.long m1), .second, .val (.long m2), .second, .val (.long hh), .second, .val (.long cc), .second, .val (.long lo), .second, .val (.long hi), .second, .val (.long lo2), .second, .unset, .unset, .unset, .unset, .unset, .unset, .unset, .unset, .unset, .unset, .unset, .unset, .unset, .unset, .unset] [(.long (0 : Int64))])) _
        try simp only [if_neg hm83] at k0
        exact k0
    refine own_by mg84 ?_
    obtain ⟨cy, hcy⟩ : ∃ z : Int64, z = (if (lo2 ^^^ (-9223372036854775808 : Int64)) < (lo ^^^ (-9223372036854775808 : Int64)) then (1 : Int64) else (0 : Int64)) := ⟨_, rfl⟩
    rw [← hcy]
    show own_Go p e below _ T81 (mkF m 242 #[.val (.long i0), .second, .val (.long i1), .second, .val (.int i2), .val (.long av), .second, .val (.long bw), .second, .val (.int ng), .val (.int pq), .val (.ref b35), .val (.long a1), .second, .val (.long al), .second, .val (.long (232830643 : Int64)), .second, .val (.long (2808348672 : Int64)), .second, .val (.long t0), .second, .val (.long m1), .second, .val (.long m2), .second, .val (.long hh), .second, .val (.long cc), .second, .val (.long lo), .second, .val (.long hi), .second, .val (.long lo2), .second, .unset, .unset, .unset, .unset, .unset, .unset, .unset, .unset, .unset, .unset, .unset, .unset, .unset, .unset, .unset] [(.long cy)])
    refine own_by (T' := T81) (f' := (mkF m 244 #[.val (.long i0), .second, .val (.long i1), .second, .val (.int i2), .val (.long av), .second, .val (.long bw), .second, .val (.int ng), .val (.int pq), .val (.ref b35), .val (.long a1), .second, .val (.long al), .second, .val (.long (232830643 : Int64)), .second, .val (.long (2808348672 : Int64)), .second, .val (.long t0), .second, .val (.long m1), .second, .val (.long m2), .second, .val (.long hh), .second, .val (.long cc), .second, .val (.long lo), .second, .val (.long hi), .second, .val (.long lo2), .second, .val (.long cy), .second, .unset, .unset, .unset, .unset, .unset, .unset, .unset, .unset, .unset, .unset, .unset, .unset, .unset] [])) (fun t k => XS.lstore X81.here hx rfl (hb hby at_242) rfl (l' := #[.val (.long i0), .second, .val (.long i1), .second, .val (.int i2), .val (.long av), .second, .val (.long bw), .second, .val (.int ng), .val (.int pq), .val (.ref b35), .val (.long a1), .second, .val (.long al), .second, .val (.long (232830643 : Int64)), .second, .val (.long (2808348672 : Int64)), .second, .val (.long t0), .second, .val (.long m1), .second, .val (.long m2), .second, .val (.long hh), .second, .val (.long cc), .second, .val (.long lo), .second, .val (.long hi), .second, .val (.long lo2), .second, .val (.long cy), .second, .unset, .unset, .unset, .unset, .unset, .unset, .unset, .unset, .unset, .unset, .unset, .unset, .unset]) rfl k) ?_
    refine own_by (T' := T81) (f' := (mkF m 246 #[.val (.long i0), .second, .val (.long i1), .second, .val (.int i2), .val (.long av), .second, .val (.long bw), .second, .val (.int ng), .val (.int pq), .val (.ref b35), .val (.long a1), .second, .val (.long al), .second, .val (.long (232830643 : Int64)), .second, .val (.long (2808348672 : Int64)), .second, .val (.long t0), .second, .val (.long m1), .second, .val (.long m2), .second, .val (.long hh), .second, .val (.long cc), .second, .val (.long lo), .second, .val (.long hi), .second, .val (.long lo2), .second, .val (.long cy), .second, .unset, .unset, .unset, .unset, .unset, .unset, .unset, .unset, .unset, .unset, .unset, .unset, .unset] [(.long hi)])) (fun t k => XS.lload X81.here hx rfl (hb hby at_244) rfl k) ?_
    refine own_by (T' := T81) (f' := (mkF m 248 #[.val (.long i0), .second, .val (.long i1), .second, .val (.int i2), .val (.long av), .second, .val (.long bw), .second, .val (.int ng), .val (.int pq), .val (.ref b35), .val (.long a1), .second, .val (.long al), .second, .val (.long (232830643 : Int64)), .second, .val (.long (2808348672 : Int64)), .second, .val (.long t0), .second, .val (.long m1), .second, .val (.long m2), .second, .val (.long hh), .second, .val (.long cc), .second, .val (.long lo), .second, .val (.long hi), .second, .val (.long lo2), .second, .val (.long cy), .second, .unset, .unset, .unset, .unset, .unset, .unset, .unset, .unset, .unset, .unset, .unset, .unset, .unset] [(.long cy), (.long hi)])) (fun t k => XS.lload X81.here hx rfl (hb hby at_246) rfl k) ?_
    refine own_by (T' := T81) (f' := (mkF m 249 #[.val (.long i0), .second, .val (.long i1), .second, .val (.int i2), .val (.long av), .second, .val (.long bw), .second, .val (.int ng), .val (.int pq), .val (.ref b35), .val (.long a1), .second, .val (.long al), .second, .val (.long (232830643 : Int64)), .second, .val (.long (2808348672 : Int64)), .second, .val (.long t0), .second, .val (.long m1), .second, .val (.long m2), .second, .val (.long hh), .second, .val (.long cc), .second, .val (.long lo), .second, .val (.long hi), .second, .val (.long lo2), .second, .val (.long cy), .second, .unset, .unset, .unset, .unset, .unset, .unset, .unset, .unset, .unset, .unset, .unset, .unset, .unset] [(.long (hi + cy))])) (fun t k => XS.ladd X81.here hx rfl (hb hby at_248) rfl k) ?_
    obtain ⟨hi2, hhi2⟩ : ∃ z : Int64, z = (hi + cy) := ⟨_, rfl⟩
    rw [← hhi2]
    show own_Go p e below _ T81 (mkF m 249 #[.val (.long i0), .second, .val (.long i1), .second, .val (.int i2), .val (.long av), .second, .val (.long bw), .second, .val (.int ng), .val (.int pq), .val (.ref b35), .val (.long a1), .second, .val (.long al), .second, .val (.long (232830643 : Int64)), .second, .val (.long (2808348672 : Int64)), .second, .val (.long t0), .second, .val (.long m1), .second, .val (.long m2), .second, .val (.long hh), .second, .val (.long cc), .second, .val (.long lo), .second, .val (.long hi), .second, .val (.long lo2), .second, .val (.long cy), .second, .unset, .unset, .unset, .unset, .unset, .unset, .unset, .unset, .unset, .unset, .unset, .unset, .unset] [(.long hi2)])
    refine own_by (T' := T81) (f' := (mkF m 251 #[.val (.long i0), .second, .val (.long i1), .second, .val (.int i2), .val (.long av), .second, .val (.long bw), .second, .val (.int ng), .val (.int pq), .val (.ref b35), .val (.long a1), .second, .val (.long al), .second, .val (.long (232830643 : Int64)), .second, .val (.long (2808348672 : Int64)), .second, .val (.long t0), .second, .val (.long m1), .second, .val (.long m2), .second, .val (.long hh), .second, .val (.long cc), .second, .val (.long lo), .second, .val (.long hi), .second, .val (.long lo2), .second, .val (.long cy), .second, .val (.long hi2), .second, .unset, .unset, .unset, .unset, .unset, .unset, .unset, .unset, .unset, .unset, .unset] [])) (fun t k => XS.lstore X81.here hx rfl (hb hby at_249) rfl (l' := #[.val (.long i0), .second, .val (.long i1), .second, .val (.int i2), .val (.long av), .second, .val (.long bw), .second, .val (.int ng), .val (.int pq), .val (.ref b35), .val (.long a1), .second, .val (.long al), .second, .val (.long (232830643 : Int64)), .second, .val (.long (2808348672 : Int64)), .second, .val (.long t0), .second, .val (.long m1), .second, .val (.long m2), .second, .val (.long hh), .second, .val (.long cc), .second, .val (.long lo), .second, .val (.long hi), .second, .val (.long lo2), .second, .val (.long cy), .second, .val (.long hi2), .second, .unset, .unset, .unset, .unset, .unset, .unset, .unset, .unset, .unset, .unset, .unset]) rfl k) ?_
    refine own_by (T' := T81) (f' := (mkF m 253 #[.val (.long i0), .second, .val (.long i1), .second, .val (.int i2), .val (.long av), .second, .val (.long bw), .second, .val (.int ng), .val (.int pq), .val (.ref b35), .val (.long a1), .second, .val (.long al), .second, .val (.long (232830643 : Int64)), .second, .val (.long (2808348672 : Int64)), .second, .val (.long t0), .second, .val (.long m1), .second, .val (.long m2), .second, .val (.long hh), .second, .val (.long cc), .second, .val (.long lo), .second, .val (.long hi), .second, .val (.long lo2), .second, .val (.long cy), .second, .val (.long hi2), .second, .unset, .unset, .unset, .unset, .unset, .unset, .unset, .unset, .unset, .unset, .unset] [(.long lo2)])) (fun t k => XS.lload X81.here hx rfl (hb hby at_251) rfl k) ?_
    refine own_by (T' := T81) (f' := (mkF m 254 #[.val (.long i0), .second, .val (.long i1), .second, .val (.int i2), .val (.long av), .second, .val (.long bw), .second, .val (.int ng), .val (.int pq), .val (.ref b35), .val (.long a1), .second, .val (.long al), .second, .val (.long (232830643 : Int64)), .second, .val (.long (2808348672 : Int64)), .second, .val (.long t0), .second, .val (.long m1), .second, .val (.long m2), .second, .val (.long hh), .second, .val (.long cc), .second, .val (.long lo), .second, .val (.long hi), .second, .val (.long lo2), .second, .val (.long cy), .second, .val (.long hi2), .second, .unset, .unset, .unset, .unset, .unset, .unset, .unset, .unset, .unset, .unset, .unset] [(.long (0 : Int64)), (.long lo2)])) (fun t k => XS.lconst X81.here hx rfl (hb hby at_253) k) ?_
    refine own_by (T' := T81) (f' := (mkF m 255 #[.val (.long i0), .second, .val (.long i1), .second, .val (.int i2), .val (.long av), .second, .val (.long bw), .second, .val (.int ng), .val (.int pq), .val (.ref b35), .val (.long a1), .second, .val (.long al), .second, .val (.long (232830643 : Int64)), .second, .val (.long (2808348672 : Int64)), .second, .val (.long t0), .second, .val (.long m1), .second, .val (.long m2), .second, .val (.long hh), .second, .val (.long cc), .second, .val (.long lo), .second, .val (.long hi), .second, .val (.long lo2), .second, .val (.long cy), .second, .val (.long hi2), .second, .unset, .unset, .unset, .unset, .unset, .unset, .unset, .unset, .unset, .unset, .unset] [(.int (lcmpW lo2 (0 : Int64)))])) (fun t k => XS.lcmp X81.here hx rfl (hb hby at_254) rfl k) ?_
    have mg86 : ∀ t, Steps p.tables e below (T81.setTop (mkF m 263 #[.val (.long i0), .second, .val (.long i1), .second, .val (.int i2), .val (.long av), .second, .val (.long bw), .second, .val (.int ng), .val (.int pq), .val (.ref b35), .val (.long a1), .second, .val (.long al), .second, .val (.long (232830643 : Int64)), .second, .val (.long (2808348672 : Int64)), .second, .val (.long t0), .second, .val (.long m1), .second, .val (.long m2), .second, .val (.long hh), .second, .val (.long cc), .second, .val (.long lo), .second, .val (.long hi), .second, .val (.long lo2), .second, .val (.long cy), .second, .val (.long hi2), .second, .unset, .unset, .unset, .unset, .unset, .unset, .unset, .unset, .unset, .unset, .unset] [(.long (if lo2 = (0 : Int64) then (0 : Int64) else (1 : Int64)))])) t → Steps p.tables e below (T81.setTop (mkF m 255 #[.val (.long i0), .second, .val (.long i1), .second, .val (.int i2), .val (.long av), .second, .val (.long bw), .second, .val (.int ng), .val (.int pq), .val (.ref b35), .val (.long a1), .second, .val (.long al), .second, .val (.long (232830643 : Int64)), .second, .val (.long (2808348672 : Int64)), .second, .val (.long t0), .second, .val (.long m1), .second, .val (.long m2), .second, .val (.long hh), .second, .val (.long cc), .second, .val (.long lo), .second, .val (.long hi), .second, .val (.long lo2), .second, .val (.long cy), .second, .val (.long hi2), .second, .unset, .unset, .unset, .unset, .unset, .unset, .unset, .unset, .unset, .unset, .unset] [(.int (lcmpW lo2 (0 : Int64)))])) t := by
      intro t k0
      by_cases hm85 : lo2 = (0 : Int64)
      · skip
        refine XS.ifYes X81.here hx rfl (pc0 := 255) (pc' := 262) rfl (hb hby at_255) rfl ((if0 _ _).trans (teq ((lw_eq _ _).mpr hm85)).1) (by decide) (by decide) ?_
        show Steps p.tables e below (T81.setTop (mkF m 262 #[.val (.long i0), .second, .val (.long i1), .second, .val (.int i2), .val (.long av), .second, .val (.long bw), .second, .val (.int ng), .val (.int pq), .val (.ref b35), .val (.long a1), .second, .val (.long al), .second, .val (.long (232830643 : Int64)), .second, .val (.long (2808348672 : Int64)), .second, .val (.long t0), .second, .val (.long m1), .second, .val (.long m2), .second, .val (.long hh), .second, .val (.long cc), .second, .val (.long lo), .second, .val (.long hi), .second, .val (.long lo2), .second, .val (.long cy), .second, .val (.long hi2), .second, .unset, .unset, .unset, .unset, .unset, .unset, .unset, .unset, .unset, .unset, .unset] [])) _
        refine XS.lconst X81.here hx rfl (hb hby at_262) ?_
        show Steps p.tables e below (T81.setTop (mkF m 263 #[.val (.long i0), .second, .val (.long i1), .second, .val (.int i2), .val (.long av), .second, .val (.long bw), .second, .val (.int ng), .val (.int pq), .val (.ref b35), .val (.long a1), .second, .val (.long al), .second, .val (.long (232830643 : Int64)), .second, .val (.long (2808348672 : Int64)), .second, .val (.long t0), .second, .val (.long m1), .second, .val (.long m2), .second, .val (.long hh), .second, .val (.long cc), .second, .val (.long lo), .second, .val (.long hi), .second, .val (.long lo2), .second, .val (.long cy), .second, .val (.long hi2), .second, .unset, .unset, .unset, .unset, .unset, .unset, .unset, .unset, .unset, .unset, .unset] [(.long (0 : Int64))])) _
        try simp only [if_pos hm85] at k0
        exact k0
      · skip
        refine XS.ifNo X81.here hx rfl (hb hby at_255) rfl ((if0 _ _).trans (feq (mt (lw_eq _ _).mp hm85)).1) ?_
        show Steps p.tables e below (T81.setTop (mkF m 258 #[.val (.long i0), .second, .val (.long i1), .second, .val (.int i2), .val (.long av), .second, .val (.long bw), .second, .val (.int ng), .val (.int pq), .val (.ref b35), .val (.long a1), .second, .val (.long al), .second, .val (.long (232830643 : Int64)), .second, .val (.long (2808348672 : Int64)), .second, .val (.long t0), .second, .val (.long m1), .second, .val (.long m2), .second, .val (.long hh), .second, .val (.long cc), .second, .val (.long lo), .second, .val (.long hi), .second, .val (.long lo2), .second, .val (.long cy), .second, .val (.long hi2), .second, .unset, .unset, .unset, .unset, .unset, .unset, .unset, .unset, .unset, .unset, .unset] [])) _
        refine XS.lconst X81.here hx rfl (hb hby at_258) ?_
        show Steps p.tables e below (T81.setTop (mkF m 259 #[.val (.long i0), .second, .val (.long i1), .second, .val (.int i2), .val (.long av), .second, .val (.long bw), .second, .val (.int ng), .val (.int pq), .val (.ref b35), .val (.long a1), .second, .val (.long al), .second, .val (.long (232830643 : Int64)), .second, .val (.long (2808348672 : Int64)), .second, .val (.long t0), .second, .val (.long m1), .second, .val (.long m2), .second, .val (.long hh), .second, .val (.long cc), .second, .val (.long lo), .second, .val (.long hi), .second, .val (.long lo2), .second, .val (.long cy), .second, .val (.long hi2), .second, .unset, .unset, .unset, .unset, .unset, .unset, .unset, .unset, .unset, .unset, .unset] [(.long (1 : Int64))])) _
        refine XS.goto X81.here hx rfl (pc0 := 259) (pc' := 263) rfl (hb hby at_259) (by decide) (by decide) ?_
        show Steps p.tables e below (T81.setTop (mkF m 263 #[.val (.long i0), .second, .val (.long i1), .second, .val (.int i2), .val (.long av), .second, .val (.long bw), .second, .val (.int ng), .val (.int pq), .val (.ref b35), .val (.long a1), .second, .val (.long al), .second, .val (.long (232830643 : Int64)), .second, .val (.long (2808348672 : Int64)), .second, .val (.long t0), .second, .val (.long m1), .second, .val (.long m2), .second, .val (.long hh), .second, .val (.long cc), .second, .val (.long lo), .second, .val (.long hi), .second, .val (.long lo2), .second, .val (.long cy), .second, .val (.long hi2), .second, .unset, .unset, .unset, .unset, .unset, .unset, .unset, .unset, .unset, .unset, .unset] [(.long (1 : Int64))])) _
        try simp only [if_neg hm85] at k0
        exact k0
    refine own_by mg86 ?_
    obtain ⟨bo, hbo⟩ : ∃ z : Int64, z = (if lo2 = (0 : Int64) then (0 : Int64) else (1 : Int64)) := ⟨_, rfl⟩
    rw [← hbo]
    show own_Go p e below _ T81 (mkF m 263 #[.val (.long i0), .second, .val (.long i1), .second, .val (.int i2), .val (.long av), .second, .val (.long bw), .second, .val (.int ng), .val (.int pq), .val (.ref b35), .val (.long a1), .second, .val (.long al), .second, .val (.long (232830643 : Int64)), .second, .val (.long (2808348672 : Int64)), .second, .val (.long t0), .second, .val (.long m1), .second, .val (.long m2), .second, .val (.long hh), .second, .val (.long cc), .second, .val (.long lo), .second, .val (.long hi), .second, .val (.long lo2), .second, .val (.long cy), .second, .val (.long hi2), .second, .unset, .unset, .unset, .unset, .unset, .unset, .unset, .unset, .unset, .unset, .unset] [(.long bo)])
    refine own_by (T' := T81) (f' := (mkF m 265 #[.val (.long i0), .second, .val (.long i1), .second, .val (.int i2), .val (.long av), .second, .val (.long bw), .second, .val (.int ng), .val (.int pq), .val (.ref b35), .val (.long a1), .second, .val (.long al), .second, .val (.long (232830643 : Int64)), .second, .val (.long (2808348672 : Int64)), .second, .val (.long t0), .second, .val (.long m1), .second, .val (.long m2), .second, .val (.long hh), .second, .val (.long cc), .second, .val (.long lo), .second, .val (.long hi), .second, .val (.long lo2), .second, .val (.long cy), .second, .val (.long hi2), .second, .val (.long bo), .second, .unset, .unset, .unset, .unset, .unset, .unset, .unset, .unset, .unset] [])) (fun t k => XS.lstore X81.here hx rfl (hb hby at_263) rfl (l' := #[.val (.long i0), .second, .val (.long i1), .second, .val (.int i2), .val (.long av), .second, .val (.long bw), .second, .val (.int ng), .val (.int pq), .val (.ref b35), .val (.long a1), .second, .val (.long al), .second, .val (.long (232830643 : Int64)), .second, .val (.long (2808348672 : Int64)), .second, .val (.long t0), .second, .val (.long m1), .second, .val (.long m2), .second, .val (.long hh), .second, .val (.long cc), .second, .val (.long lo), .second, .val (.long hi), .second, .val (.long lo2), .second, .val (.long cy), .second, .val (.long hi2), .second, .val (.long bo), .second, .unset, .unset, .unset, .unset, .unset, .unset, .unset, .unset, .unset]) rfl k) ?_
    refine own_by (T' := T81) (f' := (mkF m 267 #[.val (.long i0), .second, .val (.long i1), .second, .val (.int i2), .val (.long av), .second, .val (.long bw), .second, .val (.int ng), .val (.int pq), .val (.ref b35), .val (.long a1), .second, .val (.long al), .second, .val (.long (232830643 : Int64)), .second, .val (.long (2808348672 : Int64)), .second, .val (.long t0), .second, .val (.long m1), .second, .val (.long m2), .second, .val (.long hh), .second, .val (.long cc), .second, .val (.long lo), .second, .val (.long hi), .second, .val (.long lo2), .second, .val (.long cy), .second, .val (.long hi2), .second, .val (.long bo), .second, .unset, .unset, .unset, .unset, .unset, .unset, .unset, .unset, .unset] [(.int ng)])) (fun t k => XS.iload X81.here hx rfl (hb hby at_265) rfl k) ?_
    have mg88 : ∀ t, Steps p.tables e below (T81.setTop (mkF m 282 #[.val (.long i0), .second, .val (.long i1), .second, .val (.int i2), .val (.long av), .second, .val (.long bw), .second, .val (.int ng), .val (.int pq), .val (.ref b35), .val (.long a1), .second, .val (.long al), .second, .val (.long (232830643 : Int64)), .second, .val (.long (2808348672 : Int64)), .second, .val (.long t0), .second, .val (.long m1), .second, .val (.long m2), .second, .val (.long hh), .second, .val (.long cc), .second, .val (.long lo), .second, .val (.long hi), .second, .val (.long lo2), .second, .val (.long cy), .second, .val (.long hi2), .second, .val (.long bo), .second, .unset, .unset, .unset, .unset, .unset, .unset, .unset, .unset, .unset] [(.long (if ng = (0 : Int32) then hi2 else (((0 : Int64) - hi2) - bo)))])) t → Steps p.tables e below (T81.setTop (mkF m 267 #[.val (.long i0), .second, .val (.long i1), .second, .val (.int i2), .val (.long av), .second, .val (.long bw), .second, .val (.int ng), .val (.int pq), .val (.ref b35), .val (.long a1), .second, .val (.long al), .second, .val (.long (232830643 : Int64)), .second, .val (.long (2808348672 : Int64)), .second, .val (.long t0), .second, .val (.long m1), .second, .val (.long m2), .second, .val (.long hh), .second, .val (.long cc), .second, .val (.long lo), .second, .val (.long hi), .second, .val (.long lo2), .second, .val (.long cy), .second, .val (.long hi2), .second, .val (.long bo), .second, .unset, .unset, .unset, .unset, .unset, .unset, .unset, .unset, .unset] [(.int ng)])) t := by
      intro t k0
      by_cases hm87 : ng = (0 : Int32)
      · skip
        refine XS.ifYes X81.here hx rfl (pc0 := 267) (pc' := 280) rfl (hb hby at_267) rfl ((if0 _ _).trans (teq hm87).1) (by decide) (by decide) ?_
        show Steps p.tables e below (T81.setTop (mkF m 280 #[.val (.long i0), .second, .val (.long i1), .second, .val (.int i2), .val (.long av), .second, .val (.long bw), .second, .val (.int ng), .val (.int pq), .val (.ref b35), .val (.long a1), .second, .val (.long al), .second, .val (.long (232830643 : Int64)), .second, .val (.long (2808348672 : Int64)), .second, .val (.long t0), .second, .val (.long m1), .second, .val (.long m2), .second, .val (.long hh), .second, .val (.long cc), .second, .val (.long lo), .second, .val (.long hi), .second, .val (.long lo2), .second, .val (.long cy), .second, .val (.long hi2), .second, .val (.long bo), .second, .unset, .unset, .unset, .unset, .unset, .unset, .unset, .unset, .unset] [])) _
        refine XS.lload X81.here hx rfl (hb hby at_280) rfl ?_
        show Steps p.tables e below (T81.setTop (mkF m 282 #[.val (.long i0), .second, .val (.long i1), .second, .val (.int i2), .val (.long av), .second, .val (.long bw), .second, .val (.int ng), .val (.int pq), .val (.ref b35), .val (.long a1), .second, .val (.long al), .second, .val (.long (232830643 : Int64)), .second, .val (.long (2808348672 : Int64)), .second, .val (.long t0), .second, .val (.long m1), .second, .val (.long m2), .second, .val (.long hh), .second, .val (.long cc), .second, .val (.long lo), .second, .val (.long hi), .second, .val (.long lo2), .second, .val (.long cy), .second, .val (.long hi2), .second, .val (.long bo), .second, .unset, .unset, .unset, .unset, .unset, .unset, .unset, .unset, .unset] [(.long hi2)])) _
        try simp only [if_pos hm87] at k0
        exact k0
      · skip
        refine XS.ifNo X81.here hx rfl (hb hby at_267) rfl ((if0 _ _).trans (feq hm87).1) ?_
        show Steps p.tables e below (T81.setTop (mkF m 270 #[.val (.long i0), .second, .val (.long i1), .second, .val (.int i2), .val (.long av), .second, .val (.long bw), .second, .val (.int ng), .val (.int pq), .val (.ref b35), .val (.long a1), .second, .val (.long al), .second, .val (.long (232830643 : Int64)), .second, .val (.long (2808348672 : Int64)), .second, .val (.long t0), .second, .val (.long m1), .second, .val (.long m2), .second, .val (.long hh), .second, .val (.long cc), .second, .val (.long lo), .second, .val (.long hi), .second, .val (.long lo2), .second, .val (.long cy), .second, .val (.long hi2), .second, .val (.long bo), .second, .unset, .unset, .unset, .unset, .unset, .unset, .unset, .unset, .unset] [])) _
        refine XS.lconst X81.here hx rfl (hb hby at_270) ?_
        show Steps p.tables e below (T81.setTop (mkF m 271 #[.val (.long i0), .second, .val (.long i1), .second, .val (.int i2), .val (.long av), .second, .val (.long bw), .second, .val (.int ng), .val (.int pq), .val (.ref b35), .val (.long a1), .second, .val (.long al), .second, .val (.long (232830643 : Int64)), .second, .val (.long (2808348672 : Int64)), .second, .val (.long t0), .second, .val (.long m1), .second, .val (.long m2), .second, .val (.long hh), .second, .val (.long cc), .second, .val (.long lo), .second, .val (.long hi), .second, .val (.long lo2), .second, .val (.long cy), .second, .val (.long hi2), .second, .val (.long bo), .second, .unset, .unset, .unset, .unset, .unset, .unset, .unset, .unset, .unset] [(.long (0 : Int64))])) _
        refine XS.lload X81.here hx rfl (hb hby at_271) rfl ?_
        show Steps p.tables e below (T81.setTop (mkF m 273 #[.val (.long i0), .second, .val (.long i1), .second, .val (.int i2), .val (.long av), .second, .val (.long bw), .second, .val (.int ng), .val (.int pq), .val (.ref b35), .val (.long a1), .second, .val (.long al), .second, .val (.long (232830643 : Int64)), .second, .val (.long (2808348672 : Int64)), .second, .val (.long t0), .second, .val (.long m1), .second, .val (.long m2), .second, .val (.long hh), .second, .val (.long cc), .second, .val (.long lo), .second, .val (.long hi), .second, .val (.long lo2), .second, .val (.long cy), .second, .val (.long hi2), .second, .val (.long bo), .second, .unset, .unset, .unset, .unset, .unset, .unset, .unset, .unset, .unset] [(.long hi2), (.long (0 : Int64))])) _
        refine XS.lsub X81.here hx rfl (hb hby at_273) rfl ?_
        show Steps p.tables e below (T81.setTop (mkF m 274 #[.val (.long i0), .second, .val (.long i1), .second, .val (.int i2), .val (.long av), .second, .val (.long bw), .second, .val (.int ng), .val (.int pq), .val (.ref b35), .val (.long a1), .second, .val (.long al), .second, .val (.long (232830643 : Int64)), .second, .val (.long (2808348672 : Int64)), .second, .val (.long t0), .second, .val (.long m1), .second, .val (.long m2), .second, .val (.long hh), .second, .val (.long cc), .second, .val (.long lo), .second, .val (.long hi), .second, .val (.long lo2), .second, .val (.long cy), .second, .val (.long hi2), .second, .val (.long bo), .second, .unset, .unset, .unset, .unset, .unset, .unset, .unset, .unset, .unset] [(.long ((0 : Int64) - hi2))])) _
        refine XS.lload X81.here hx rfl (hb hby at_274) rfl ?_
        show Steps p.tables e below (T81.setTop (mkF m 276 #[.val (.long i0), .second, .val (.long i1), .second, .val (.int i2), .val (.long av), .second, .val (.long bw), .second, .val (.int ng), .val (.int pq), .val (.ref b35), .val (.long a1), .second, .val (.long al), .second, .val (.long (232830643 : Int64)), .second, .val (.long (2808348672 : Int64)), .second, .val (.long t0), .second, .val (.long m1), .second, .val (.long m2), .second, .val (.long hh), .second, .val (.long cc), .second, .val (.long lo), .second, .val (.long hi), .second, .val (.long lo2), .second, .val (.long cy), .second, .val (.long hi2), .second, .val (.long bo), .second, .unset, .unset, .unset, .unset, .unset, .unset, .unset, .unset, .unset] [(.long bo), (.long ((0 : Int64) - hi2))])) _
        refine XS.lsub X81.here hx rfl (hb hby at_276) rfl ?_
        show Steps p.tables e below (T81.setTop (mkF m 277 #[.val (.long i0), .second, .val (.long i1), .second, .val (.int i2), .val (.long av), .second, .val (.long bw), .second, .val (.int ng), .val (.int pq), .val (.ref b35), .val (.long a1), .second, .val (.long al), .second, .val (.long (232830643 : Int64)), .second, .val (.long (2808348672 : Int64)), .second, .val (.long t0), .second, .val (.long m1), .second, .val (.long m2), .second, .val (.long hh), .second, .val (.long cc), .second, .val (.long lo), .second, .val (.long hi), .second, .val (.long lo2), .second, .val (.long cy), .second, .val (.long hi2), .second, .val (.long bo), .second, .unset, .unset, .unset, .unset, .unset, .unset, .unset, .unset, .unset] [(.long (((0 : Int64) - hi2) - bo))])) _
        refine XS.goto X81.here hx rfl (pc0 := 277) (pc' := 282) rfl (hb hby at_277) (by decide) (by decide) ?_
        show Steps p.tables e below (T81.setTop (mkF m 282 #[.val (.long i0), .second, .val (.long i1), .second, .val (.int i2), .val (.long av), .second, .val (.long bw), .second, .val (.int ng), .val (.int pq), .val (.ref b35), .val (.long a1), .second, .val (.long al), .second, .val (.long (232830643 : Int64)), .second, .val (.long (2808348672 : Int64)), .second, .val (.long t0), .second, .val (.long m1), .second, .val (.long m2), .second, .val (.long hh), .second, .val (.long cc), .second, .val (.long lo), .second, .val (.long hi), .second, .val (.long lo2), .second, .val (.long cy), .second, .val (.long hi2), .second, .val (.long bo), .second, .unset, .unset, .unset, .unset, .unset, .unset, .unset, .unset, .unset] [(.long (((0 : Int64) - hi2) - bo))])) _
        try simp only [if_neg hm87] at k0
        exact k0
    refine own_by mg88 ?_
    obtain ⟨eh, heh⟩ : ∃ z : Int64, z = (if ng = (0 : Int32) then hi2 else (((0 : Int64) - hi2) - bo)) := ⟨_, rfl⟩
    rw [← heh]
    show own_Go p e below _ T81 (mkF m 282 #[.val (.long i0), .second, .val (.long i1), .second, .val (.int i2), .val (.long av), .second, .val (.long bw), .second, .val (.int ng), .val (.int pq), .val (.ref b35), .val (.long a1), .second, .val (.long al), .second, .val (.long (232830643 : Int64)), .second, .val (.long (2808348672 : Int64)), .second, .val (.long t0), .second, .val (.long m1), .second, .val (.long m2), .second, .val (.long hh), .second, .val (.long cc), .second, .val (.long lo), .second, .val (.long hi), .second, .val (.long lo2), .second, .val (.long cy), .second, .val (.long hi2), .second, .val (.long bo), .second, .unset, .unset, .unset, .unset, .unset, .unset, .unset, .unset, .unset] [(.long eh)])
    refine own_by (T' := T81) (f' := (mkF m 284 #[.val (.long i0), .second, .val (.long i1), .second, .val (.int i2), .val (.long av), .second, .val (.long bw), .second, .val (.int ng), .val (.int pq), .val (.ref b35), .val (.long a1), .second, .val (.long al), .second, .val (.long (232830643 : Int64)), .second, .val (.long (2808348672 : Int64)), .second, .val (.long t0), .second, .val (.long m1), .second, .val (.long m2), .second, .val (.long hh), .second, .val (.long cc), .second, .val (.long lo), .second, .val (.long hi), .second, .val (.long lo2), .second, .val (.long cy), .second, .val (.long hi2), .second, .val (.long bo), .second, .val (.long eh), .second, .unset, .unset, .unset, .unset, .unset, .unset, .unset] [])) (fun t k => XS.lstore X81.here hx rfl (hb hby at_282) rfl (l' := #[.val (.long i0), .second, .val (.long i1), .second, .val (.int i2), .val (.long av), .second, .val (.long bw), .second, .val (.int ng), .val (.int pq), .val (.ref b35), .val (.long a1), .second, .val (.long al), .second, .val (.long (232830643 : Int64)), .second, .val (.long (2808348672 : Int64)), .second, .val (.long t0), .second, .val (.long m1), .second, .val (.long m2), .second, .val (.long hh), .second, .val (.long cc), .second, .val (.long lo), .second, .val (.long hi), .second, .val (.long lo2), .second, .val (.long cy), .second, .val (.long hi2), .second, .val (.long bo), .second, .val (.long eh), .second, .unset, .unset, .unset, .unset, .unset, .unset, .unset]) rfl k) ?_
    refine own_by (T' := T81) (f' := (mkF m 286 #[.val (.long i0), .second, .val (.long i1), .second, .val (.int i2), .val (.long av), .second, .val (.long bw), .second, .val (.int ng), .val (.int pq), .val (.ref b35), .val (.long a1), .second, .val (.long al), .second, .val (.long (232830643 : Int64)), .second, .val (.long (2808348672 : Int64)), .second, .val (.long t0), .second, .val (.long m1), .second, .val (.long m2), .second, .val (.long hh), .second, .val (.long cc), .second, .val (.long lo), .second, .val (.long hi), .second, .val (.long lo2), .second, .val (.long cy), .second, .val (.long hi2), .second, .val (.long bo), .second, .val (.long eh), .second, .unset, .unset, .unset, .unset, .unset, .unset, .unset] [(.int ng)])) (fun t k => XS.iload X81.here hx rfl (hb hby at_284) rfl k) ?_
    have mg90 : ∀ t, Steps p.tables e below (T81.setTop (mkF m 298 #[.val (.long i0), .second, .val (.long i1), .second, .val (.int i2), .val (.long av), .second, .val (.long bw), .second, .val (.int ng), .val (.int pq), .val (.ref b35), .val (.long a1), .second, .val (.long al), .second, .val (.long (232830643 : Int64)), .second, .val (.long (2808348672 : Int64)), .second, .val (.long t0), .second, .val (.long m1), .second, .val (.long m2), .second, .val (.long hh), .second, .val (.long cc), .second, .val (.long lo), .second, .val (.long hi), .second, .val (.long lo2), .second, .val (.long cy), .second, .val (.long hi2), .second, .val (.long bo), .second, .val (.long eh), .second, .unset, .unset, .unset, .unset, .unset, .unset, .unset] [(.long (if ng = (0 : Int32) then lo2 else ((0 : Int64) - lo2)))])) t → Steps p.tables e below (T81.setTop (mkF m 286 #[.val (.long i0), .second, .val (.long i1), .second, .val (.int i2), .val (.long av), .second, .val (.long bw), .second, .val (.int ng), .val (.int pq), .val (.ref b35), .val (.long a1), .second, .val (.long al), .second, .val (.long (232830643 : Int64)), .second, .val (.long (2808348672 : Int64)), .second, .val (.long t0), .second, .val (.long m1), .second, .val (.long m2), .second, .val (.long hh), .second, .val (.long cc), .second, .val (.long lo), .second, .val (.long hi), .second, .val (.long lo2), .second, .val (.long cy), .second, .val (.long hi2), .second, .val (.long bo), .second, .val (.long eh), .second, .unset, .unset, .unset, .unset, .unset, .unset, .unset] [(.int ng)])) t := by
      intro t k0
      by_cases hm89 : ng = (0 : Int32)
      · skip
        refine XS.ifYes X81.here hx rfl (pc0 := 286) (pc' := 296) rfl (hb hby at_286) rfl ((if0 _ _).trans (teq hm89).1) (by decide) (by decide) ?_
        show Steps p.tables e below (T81.setTop (mkF m 296 #[.val (.long i0), .second, .val (.long i1), .second, .val (.int i2), .val (.long av), .second, .val (.long bw), .second, .val (.int ng), .val (.int pq), .val (.ref b35), .val (.long a1), .second, .val (.long al), .second, .val (.long (232830643 : Int64)), .second, .val (.long (2808348672 : Int64)), .second, .val (.long t0), .second, .val (.long m1), .second, .val (.long m2), .second, .val (.long hh), .second, .val (.long cc), .second, .val (.long lo), .second, .val (.long hi), .second, .val (.long lo2), .second, .val (.long cy), .second, .val (.long hi2), .second, .val (.long bo), .second, .val (.long eh), .second, .unset, .unset, .unset, .unset, .unset, .unset, .unset] [])) _
        refine XS.lload X81.here hx rfl (hb hby at_296) rfl ?_
        show Steps p.tables e below (T81.setTop (mkF m 298 #[.val (.long i0), .second, .val (.long i1), .second, .val (.int i2), .val (.long av), .second, .val (.long bw), .second, .val (.int ng), .val (.int pq), .val (.ref b35), .val (.long a1), .second, .val (.long al), .second, .val (.long (232830643 : Int64)), .second, .val (.long (2808348672 : Int64)), .second, .val (.long t0), .second, .val (.long m1), .second, .val (.long m2), .second, .val (.long hh), .second, .val (.long cc), .second, .val (.long lo), .second, .val (.long hi), .second, .val (.long lo2), .second, .val (.long cy), .second, .val (.long hi2), .second, .val (.long bo), .second, .val (.long eh), .second, .unset, .unset, .unset, .unset, .unset, .unset, .unset] [(.long lo2)])) _
        try simp only [if_pos hm89] at k0
        exact k0
      · skip
        refine XS.ifNo X81.here hx rfl (hb hby at_286) rfl ((if0 _ _).trans (feq hm89).1) ?_
        show Steps p.tables e below (T81.setTop (mkF m 289 #[.val (.long i0), .second, .val (.long i1), .second, .val (.int i2), .val (.long av), .second, .val (.long bw), .second, .val (.int ng), .val (.int pq), .val (.ref b35), .val (.long a1), .second, .val (.long al), .second, .val (.long (232830643 : Int64)), .second, .val (.long (2808348672 : Int64)), .second, .val (.long t0), .second, .val (.long m1), .second, .val (.long m2), .second, .val (.long hh), .second, .val (.long cc), .second, .val (.long lo), .second, .val (.long hi), .second, .val (.long lo2), .second, .val (.long cy), .second, .val (.long hi2), .second, .val (.long bo), .second, .val (.long eh), .second, .unset, .unset, .unset, .unset, .unset, .unset, .unset] [])) _
        refine XS.lconst X81.here hx rfl (hb hby at_289) ?_
        show Steps p.tables e below (T81.setTop (mkF m 290 #[.val (.long i0), .second, .val (.long i1), .second, .val (.int i2), .val (.long av), .second, .val (.long bw), .second, .val (.int ng), .val (.int pq), .val (.ref b35), .val (.long a1), .second, .val (.long al), .second, .val (.long (232830643 : Int64)), .second, .val (.long (2808348672 : Int64)), .second, .val (.long t0), .second, .val (.long m1), .second, .val (.long m2), .second, .val (.long hh), .second, .val (.long cc), .second, .val (.long lo), .second, .val (.long hi), .second, .val (.long lo2), .second, .val (.long cy), .second, .val (.long hi2), .second, .val (.long bo), .second, .val (.long eh), .second, .unset, .unset, .unset, .unset, .unset, .unset, .unset] [(.long (0 : Int64))])) _
        refine XS.lload X81.here hx rfl (hb hby at_290) rfl ?_
        show Steps p.tables e below (T81.setTop (mkF m 292 #[.val (.long i0), .second, .val (.long i1), .second, .val (.int i2), .val (.long av), .second, .val (.long bw), .second, .val (.int ng), .val (.int pq), .val (.ref b35), .val (.long a1), .second, .val (.long al), .second, .val (.long (232830643 : Int64)), .second, .val (.long (2808348672 : Int64)), .second, .val (.long t0), .second, .val (.long m1), .second, .val (.long m2), .second, .val (.long hh), .second, .val (.long cc), .second, .val (.long lo), .second, .val (.long hi), .second, .val (.long lo2), .second, .val (.long cy), .second, .val (.long hi2), .second, .val (.long bo), .second, .val (.long eh), .second, .unset, .unset, .unset, .unset, .unset, .unset, .unset] [(.long lo2), (.long (0 : Int64))])) _
        refine XS.lsub X81.here hx rfl (hb hby at_292) rfl ?_
        show Steps p.tables e below (T81.setTop (mkF m 293 #[.val (.long i0), .second, .val (.long i1), .second, .val (.int i2), .val (.long av), .second, .val (.long bw), .second, .val (.int ng), .val (.int pq), .val (.ref b35), .val (.long a1), .second, .val (.long al), .second, .val (.long (232830643 : Int64)), .second, .val (.long (2808348672 : Int64)), .second, .val (.long t0), .second, .val (.long m1), .second, .val (.long m2), .second, .val (.long hh), .second, .val (.long cc), .second, .val (.long lo), .second, .val (.long hi), .second, .val (.long lo2), .second, .val (.long cy), .second, .val (.long hi2), .second, .val (.long bo), .second, .val (.long eh), .second, .unset, .unset, .unset, .unset, .unset, .unset, .unset] [(.long ((0 : Int64) - lo2))])) _
        refine XS.goto X81.here hx rfl (pc0 := 293) (pc' := 298) rfl (hb hby at_293) (by decide) (by decide) ?_
        show Steps p.tables e below (T81.setTop (mkF m 298 #[.val (.long i0), .second, .val (.long i1), .second, .val (.int i2), .val (.long av), .second, .val (.long bw), .second, .val (.int ng), .val (.int pq), .val (.ref b35), .val (.long a1), .second, .val (.long al), .second, .val (.long (232830643 : Int64)), .second, .val (.long (2808348672 : Int64)), .second, .val (.long t0), .second, .val (.long m1), .second, .val (.long m2), .second, .val (.long hh), .second, .val (.long cc), .second, .val (.long lo), .second, .val (.long hi), .second, .val (.long lo2), .second, .val (.long cy), .second, .val (.long hi2), .second, .val (.long bo), .second, .val (.long eh), .second, .unset, .unset, .unset, .unset, .unset, .unset, .unset] [(.long ((0 : Int64) - lo2))])) _
        try simp only [if_neg hm89] at k0
        exact k0
    refine own_by mg90 ?_
    obtain ⟨el, hel⟩ : ∃ z : Int64, z = (if ng = (0 : Int32) then lo2 else ((0 : Int64) - lo2)) := ⟨_, rfl⟩
    rw [← hel]
    show own_Go p e below _ T81 (mkF m 298 #[.val (.long i0), .second, .val (.long i1), .second, .val (.int i2), .val (.long av), .second, .val (.long bw), .second, .val (.int ng), .val (.int pq), .val (.ref b35), .val (.long a1), .second, .val (.long al), .second, .val (.long (232830643 : Int64)), .second, .val (.long (2808348672 : Int64)), .second, .val (.long t0), .second, .val (.long m1), .second, .val (.long m2), .second, .val (.long hh), .second, .val (.long cc), .second, .val (.long lo), .second, .val (.long hi), .second, .val (.long lo2), .second, .val (.long cy), .second, .val (.long hi2), .second, .val (.long bo), .second, .val (.long eh), .second, .unset, .unset, .unset, .unset, .unset, .unset, .unset] [(.long el)])
    refine own_by (T' := T81) (f' := (mkF m 300 #[.val (.long i0), .second, .val (.long i1), .second, .val (.int i2), .val (.long av), .second, .val (.long bw), .second, .val (.int ng), .val (.int pq), .val (.ref b35), .val (.long a1), .second, .val (.long al), .second, .val (.long (232830643 : Int64)), .second, .val (.long (2808348672 : Int64)), .second, .val (.long t0), .second, .val (.long m1), .second, .val (.long m2), .second, .val (.long hh), .second, .val (.long cc), .second, .val (.long lo), .second, .val (.long hi), .second, .val (.long lo2), .second, .val (.long cy), .second, .val (.long hi2), .second, .val (.long bo), .second, .val (.long eh), .second, .val (.long el), .second, .unset, .unset, .unset, .unset, .unset] [])) (fun t k => XS.lstore X81.here hx rfl (hb hby at_298) rfl (l' := #[.val (.long i0), .second, .val (.long i1), .second, .val (.int i2), .val (.long av), .second, .val (.long bw), .second, .val (.int ng), .val (.int pq), .val (.ref b35), .val (.long a1), .second, .val (.long al), .second, .val (.long (232830643 : Int64)), .second, .val (.long (2808348672 : Int64)), .second, .val (.long t0), .second, .val (.long m1), .second, .val (.long m2), .second, .val (.long hh), .second, .val (.long cc), .second, .val (.long lo), .second, .val (.long hi), .second, .val (.long lo2), .second, .val (.long cy), .second, .val (.long hi2), .second, .val (.long bo), .second, .val (.long eh), .second, .val (.long el), .second, .unset, .unset, .unset, .unset, .unset]) rfl k) ?_
    have REF := own_ref hnna ltna hnnb ltnb ha1 hal ht0 hm1 hm2 hhh hcc hlo hhi hlo2 hcy hhi2
    refine own_new X81 hx hZ hown rfl (hb hby at_300) (own_w hw 31 rfl) (own_w hw 32 rfl) (own_w hw 33 rfl) (by decide) (by decide) ?_
    intro T91 h91 b91 X91 e91 g91 E91 A91 D91
    have ne91_b35 : b35 ≠ b91 := Nat.ne_of_lt (by rw [g91]; exact A81.lt)
    have gn91 : n0 ≤ b91 := by rw [g91]; exact sz82
    show own_Go p e below _ T91 (mkF m 303 #[.val (.long i0), .second, .val (.long i1), .second, .val (.int i2), .val (.long av), .second, .val (.long bw), .second, .val (.int ng), .val (.int pq), .val (.ref b35), .val (.long a1), .second, .val (.long al), .second, .val (.long (232830643 : Int64)), .second, .val (.long (2808348672 : Int64)), .second, .val (.long t0), .second, .val (.long m1), .second, .val (.long m2), .second, .val (.long hh), .second, .val (.long cc), .second, .val (.long lo), .second, .val (.long hi), .second, .val (.long lo2), .second, .val (.long cy), .second, .val (.long hi2), .second, .val (.long bo), .second, .val (.long eh), .second, .val (.long el), .second, .unset, .unset, .unset, .unset, .unset] [(.ref b91)])
    have F91_characters : Fld Z h91 b91 "com/example/tally_of_atoms/tallyofatoms/Numeral" "characters" "[C" .null := D91 (Or.inl (own_w hw 46 rfl)) (ty := (.array .char)) (by decide)
    have F91_start : Fld Z h91 b91 "com/example/tally_of_atoms/tallyofatoms/Numeral" "start" "I" (.int (0 : Int32)) := D91 (Or.inl (own_w hw 48 rfl)) (ty := .int) (by decide)
    have F91_special : Fld Z h91 b91 "com/example/tally_of_atoms/tallyofatoms/Numeral" "special" "I" (.int (0 : Int32)) := D91 (Or.inl (own_w hw 50 rfl)) (ty := .int) (by decide)
    have F91_negative : Fld Z h91 b91 "com/example/tally_of_atoms/tallyofatoms/Numeral" "negative" "Z" (.int (0 : Int32)) := D91 (Or.inl (own_w hw 52 rfl)) (ty := .boolean) (by decide)
    have F91_significand : Fld Z h91 b91 "com/example/tally_of_atoms/tallyofatoms/Numeral" "significand" "J" (.long (0 : Int64)) := D91 (Or.inl (own_w hw 54 rfl)) (ty := .long) (by decide)
    have F91_significandHigh : Fld Z h91 b91 "com/example/tally_of_atoms/tallyofatoms/Numeral" "significandHigh" "J" (.long (0 : Int64)) := D91 (Or.inl (own_w hw 56 rfl)) (ty := .long) (by decide)
    have F91_significantDigits : Fld Z h91 b91 "com/example/tally_of_atoms/tallyofatoms/Numeral" "significantDigits" "I" (.int (0 : Int32)) := D91 (Or.inl (own_w hw 58 rfl)) (ty := .int) (by decide)
    have F91_scale : Fld Z h91 b91 "com/example/tally_of_atoms/tallyofatoms/Numeral" "scale" "I" (.int (0 : Int32)) := D91 (Or.inl (own_w hw 60 rfl)) (ty := .int) (by decide)
    have F91_exponentValue : Fld Z h91 b91 "com/example/tally_of_atoms/tallyofatoms/Numeral" "exponentValue" "I" (.int (0 : Int32)) := D91 (Or.inl (own_w hw 62 rfl)) (ty := .int) (by decide)
    have F91_digits : Fld Z h91 b91 "com/example/tally_of_atoms/tallyofatoms/Numeral" "digits" "I" (.int (0 : Int32)) := D91 (Or.inl (own_w hw 90 rfl)) (ty := .int) (by decide)
    have F91_point : Fld Z h91 b91 "com/example/tally_of_atoms/tallyofatoms/Numeral" "point" "Z" (.int (0 : Int32)) := D91 (Or.inl (own_w hw 92 rfl)) (ty := .boolean) (by decide)
    have F91_exponent : Fld Z h91 b91 "com/example/tally_of_atoms/tallyofatoms/Numeral" "exponent" "Z" (.int (0 : Int32)) := D91 (Or.inl (own_w hw 94 rfl)) (ty := .boolean) (by decide)
    have F91_exponentDigits : Fld Z h91 b91 "com/example/tally_of_atoms/tallyofatoms/Numeral" "exponentDigits" "Z" (.int (0 : Int32)) := D91 (Or.inl (own_w hw 96 rfl)) (ty := .boolean) (by decide)
    have F91_end : Fld Z h91 b91 "com/example/tally_of_atoms/tallyofatoms/Numeral" "end" "I" (.int (0 : Int32)) := D91 (Or.inl (own_w hw 98 rfl)) (ty := .int) (by decide)
    have sz92 : n0 ≤ h91.size := Nat.le_trans sz82 E91.1
    refine own_by (T' := T91) (f' := (mkF m 304 #[.val (.long i0), .second, .val (.long i1), .second, .val (.int i2), .val (.long av), .second, .val (.long bw), .second, .val (.int ng), .val (.int pq), .val (.ref b35), .val (.long a1), .second, .val (.long al), .second, .val (.long (232830643 : Int64)), .second, .val (.long (2808348672 : Int64)), .second, .val (.long t0), .second, .val (.long m1), .second, .val (.long m2), .second, .val (.long hh), .second, .val (.long cc), .second, .val (.long lo), .second, .val (.long hi), .second, .val (.long lo2), .second, .val (.long cy), .second, .val (.long hi2), .second, .val (.long bo), .second, .val (.long eh), .second, .val (.long el), .second, .unset, .unset, .unset, .unset, .unset] [(.ref b91), (.ref b91)])) (fun t k => XS.dup X91.here hx rfl (hb hby at_303) rfl rfl k) ?_
    refine own_callN X91 hx hZ hown e91 (hb hby at_304) [] [(.ref b91)] 1 (rmIN l Z a0 hw [] b91 h91) (own_w hw 34 rfl) (own_w hw 35 rfl) (own_w hw 33 rfl) (own_w hw 36 rfl) rfl (by decide) pd___V (by rw [hml]; rfl) rfl rfl (Nat.le_of_eq rfl) (by decide) (by decide) (by decide) (by decide) ?_
    rintro T93 _ L93 X93 ⟨rfl, rfl, e93⟩
    show own_Go p e below _ T93 (mkF m 307 #[.val (.long i0), .second, .val (.long i1), .second, .val (.int i2), .val (.long av), .second, .val (.long bw), .second, .val (.int ng), .val (.int pq), .val (.ref b35), .val (.long a1), .second, .val (.long al), .second, .val (.long (232830643 : Int64)), .second, .val (.long (2808348672 : Int64)), .second, .val (.long t0), .second, .val (.long m1), .second, .val (.long m2), .second, .val (.long hh), .second, .val (.long cc), .second, .val (.long lo), .second, .val (.long hi), .second, .val (.long lo2), .second, .val (.long cy), .second, .val (.long hi2), .second, .val (.long bo), .second, .val (.long eh), .second, .val (.long el), .second, .unset, .unset, .unset, .unset, .unset] [(.ref b91)])
    rw [List.append_nil] at X93
    refine own_by (T' := T93) (f' := (mkF m 309 #[.val (.long i0), .second, .val (.long i1), .second, .val (.int i2), .val (.long av), .second, .val (.long bw), .second, .val (.int ng), .val (.int pq), .val (.ref b35), .val (.long a1), .second, .val (.long al), .second, .val (.long (232830643 : Int64)), .second, .val (.long (2808348672 : Int64)), .second, .val (.long t0), .second, .val (.long m1), .second, .val (.long m2), .second, .val (.long hh), .second, .val (.long cc), .second, .val (.long lo), .second, .val (.long hi), .second, .val (.long lo2), .second, .val (.long cy), .second, .val (.long hi2), .second, .val (.long bo), .second, .val (.long eh), .second, .val (.long el), .second, .val (.ref b91), .unset, .unset, .unset, .unset] [])) (fun t k => XS.astore X93.here hx rfl (hb hby at_307) rfl rfl (l' := #[.val (.long i0), .second, .val (.long i1), .second, .val (.int i2), .val (.long av), .second, .val (.long bw), .second, .val (.int ng), .val (.int pq), .val (.ref b35), .val (.long a1), .second, .val (.long al), .second, .val (.long (232830643 : Int64)), .second, .val (.long (2808348672 : Int64)), .second, .val (.long t0), .second, .val (.long m1), .second, .val (.long m2), .second, .val (.long hh), .second, .val (.long cc), .second, .val (.long lo), .second, .val (.long hi), .second, .val (.long lo2), .second, .val (.long cy), .second, .val (.long hi2), .second, .val (.long bo), .second, .val (.long eh), .second, .val (.long el), .second, .val (.ref b91), .unset, .unset, .unset, .unset]) rfl k) ?_
    refine own_by (T' := T93) (f' := (mkF m 311 #[.val (.long i0), .second, .val (.long i1), .second, .val (.int i2), .val (.long av), .second, .val (.long bw), .second, .val (.int ng), .val (.int pq), .val (.ref b35), .val (.long a1), .second, .val (.long al), .second, .val (.long (232830643 : Int64)), .second, .val (.long (2808348672 : Int64)), .second, .val (.long t0), .second, .val (.long m1), .second, .val (.long m2), .second, .val (.long hh), .second, .val (.long cc), .second, .val (.long lo), .second, .val (.long hi), .second, .val (.long lo2), .second, .val (.long cy), .second, .val (.long hi2), .second, .val (.long bo), .second, .val (.long eh), .second, .val (.long el), .second, .val (.ref b91), .unset, .unset, .unset, .unset] [(.ref b91)])) (fun t k => XS.aload X93.here hx rfl (hb hby at_309) rfl rfl k) ?_
    refine own_by (T' := T93) (f' := (mkF m 313 #[.val (.long i0), .second, .val (.long i1), .second, .val (.int i2), .val (.long av), .second, .val (.long bw), .second, .val (.int ng), .val (.int pq), .val (.ref b35), .val (.long a1), .second, .val (.long al), .second, .val (.long (232830643 : Int64)), .second, .val (.long (2808348672 : Int64)), .second, .val (.long t0), .second, .val (.long m1), .second, .val (.long m2), .second, .val (.long hh), .second, .val (.long cc), .second, .val (.long lo), .second, .val (.long hi), .second, .val (.long lo2), .second, .val (.long cy), .second, .val (.long hi2), .second, .val (.long bo), .second, .val (.long eh), .second, .val (.long el), .second, .val (.ref b91), .unset, .unset, .unset, .unset] [(.ref b35), (.ref b91)])) (fun t k => XS.aload X93.here hx rfl (hb hby at_311) rfl rfl k) ?_
    refine own_by (T' := T93) (f' := (mkF m 314 #[.val (.long i0), .second, .val (.long i1), .second, .val (.int i2), .val (.long av), .second, .val (.long bw), .second, .val (.int ng), .val (.int pq), .val (.ref b35), .val (.long a1), .second, .val (.long al), .second, .val (.long (232830643 : Int64)), .second, .val (.long (2808348672 : Int64)), .second, .val (.long t0), .second, .val (.long m1), .second, .val (.long m2), .second, .val (.long hh), .second, .val (.long cc), .second, .val (.long lo), .second, .val (.long hi), .second, .val (.long lo2), .second, .val (.long cy), .second, .val (.long hi2), .second, .val (.long bo), .second, .val (.long eh), .second, .val (.long el), .second, .val (.ref b91), .unset, .unset, .unset, .unset] [(.int (0 : Int32)), (.ref b35), (.ref b91)])) (fun t k => XS.iconst X93.here hx rfl (hb hby at_313) k) ?_
    refine own_by (T' := T93) (f' := (mkF m 316 #[.val (.long i0), .second, .val (.long i1), .second, .val (.int i2), .val (.long av), .second, .val (.long bw), .second, .val (.int ng), .val (.int pq), .val (.ref b35), .val (.long a1), .second, .val (.long al), .second, .val (.long (232830643 : Int64)), .second, .val (.long (2808348672 : Int64)), .second, .val (.long t0), .second, .val (.long m1), .second, .val (.long m2), .second, .val (.long hh), .second, .val (.long cc), .second, .val (.long lo), .second, .val (.long hi), .second, .val (.long lo2), .second, .val (.long cy), .second, .val (.long hi2), .second, .val (.long bo), .second, .val (.long eh), .second, .val (.long el), .second, .val (.ref b91), .unset, .unset, .unset, .unset] [(.int (37 : Int32)), (.int (0 : Int32)), (.ref b35), (.ref b91)])) (fun t k => XS.bipush X93.here hx rfl (hb hby at_314) k) ?_
    have q94 : ∀ x ∈ [b91], ∃ c : Cell, h91[x]? = some c ∧ c.vm.isStatics = false := (allS (own_ns A91) all0)
    have f95 := (A81.ext E91)
    refine own_callV X93 hx hZ hown e93 (hb hby at_316) [(.ref b35), (.int (0 : Int32)), (.int (37 : Int32))] [] 0 (rmSC l Z a0 hw [] b91 b35 (0 : Int32) (37 : Int32) 0 37 g3 .null (.int (0 : Int32)) (.int (0 : Int32)) (.int (0 : Int32)) (.int (0 : Int32)) (.int (0 : Int32)) (.int (0 : Int32)) (.int (0 : Int32)) (.int (0 : Int32)) (.long (0 : Int64)) (.long (0 : Int64)) (.int (0 : Int32)) (.int (0 : Int32)) (.int (0 : Int32)) h91 n0 sz92 gn91 ne91_b35 (by decide) (by decide) (by decide) (by decide) HV.2 f95 A91 F91_characters F91_start F91_end F91_digits F91_point F91_exponent F91_exponentDigits F91_special F91_negative F91_significand F91_significandHigh F91_significantDigits F91_scale F91_exponentValue) A91 (own_w hw 40 rfl) (own_w hw 41 rfl) (notFace_of_selects (args := #[]) (mvT hZ (own_w hw 43 rfl))) (own_w hw 43 rfl) (own_w hw 42 rfl) (own_w hw 33 rfl) (own_w hw 44 rfl) (by decide) pd___CII_Lcom_example_tally_of_atoms_tallyofatoms_Numeral_ (by rw [hml]; rfl) rfl rfl (Nat.le_of_eq rfl) (by decide) (by decide) (by decide) (by decide) ?_
    rintro T96 _ L96 X96 ⟨rfl, N96q, K96, v9, v10, hrep, u0, u1, u2, u3, u4, u5, u6, u7, u11, u12, u13, P0, P1, P2, P3, P4, P5, P6, P7, P8, P9, P10, P11, P12, P13⟩
    show own_Go p e below _ T96 (mkF m 319 #[.val (.long i0), .second, .val (.long i1), .second, .val (.int i2), .val (.long av), .second, .val (.long bw), .second, .val (.int ng), .val (.int pq), .val (.ref b35), .val (.long a1), .second, .val (.long al), .second, .val (.long (232830643 : Int64)), .second, .val (.long (2808348672 : Int64)), .second, .val (.long t0), .second, .val (.long m1), .second, .val (.long m2), .second, .val (.long hh), .second, .val (.long cc), .second, .val (.long lo), .second, .val (.long hi), .second, .val (.long lo2), .second, .val (.long cy), .second, .val (.long hi2), .second, .val (.long bo), .second, .val (.long eh), .second, .val (.long el), .second, .val (.ref b91), .unset, .unset, .unset, .unset] [(.ref b91)])
    have N96 := Fr.app N81 N96q
    have sz97 : n0 ≤ T96.heap.size := Nat.le_trans sz92 K96.1
    rw [HV.1] at hrep
    obtain ⟨rl, rh⟩ := own_rep_inj hrep REF
    refine own_by (T' := T96) (f' := (mkF m 320 #[.val (.long i0), .second, .val (.long i1), .second, .val (.int i2), .val (.long av), .second, .val (.long bw), .second, .val (.int ng), .val (.int pq), .val (.ref b35), .val (.long a1), .second, .val (.long al), .second, .val (.long (232830643 : Int64)), .second, .val (.long (2808348672 : Int64)), .second, .val (.long t0), .second, .val (.long m1), .second, .val (.long m2), .second, .val (.long hh), .second, .val (.long cc), .second, .val (.long lo), .second, .val (.long hi), .second, .val (.long lo2), .second, .val (.long cy), .second, .val (.long hi2), .second, .val (.long bo), .second, .val (.long eh), .second, .val (.long el), .second, .val (.ref b91), .unset, .unset, .unset, .unset] [])) (fun t k => XS.pop X96.here hx rfl (hb hby at_319) rfl rfl k) ?_
    refine own_by (T' := T96) (f' := (mkF m 322 #[.val (.long i0), .second, .val (.long i1), .second, .val (.int i2), .val (.long av), .second, .val (.long bw), .second, .val (.int ng), .val (.int pq), .val (.ref b35), .val (.long a1), .second, .val (.long al), .second, .val (.long (232830643 : Int64)), .second, .val (.long (2808348672 : Int64)), .second, .val (.long t0), .second, .val (.long m1), .second, .val (.long m2), .second, .val (.long hh), .second, .val (.long cc), .second, .val (.long lo), .second, .val (.long hi), .second, .val (.long lo2), .second, .val (.long cy), .second, .val (.long hi2), .second, .val (.long bo), .second, .val (.long eh), .second, .val (.long el), .second, .val (.ref b91), .unset, .unset, .unset, .unset] [(.int ng)])) (fun t k => XS.iload X96.here hx rfl (hb hby at_320) rfl k) ?_
    by_cases hc322_98 : ng = (0 : Int32)
    · have _ := X96
      refine own_by (T' := T96) (f' := (mkF m 330 #[.val (.long i0), .second, .val (.long i1), .second, .val (.int i2), .val (.long av), .second, .val (.long bw), .second, .val (.int ng), .val (.int pq), .val (.ref b35), .val (.long a1), .second, .val (.long al), .second, .val (.long (232830643 : Int64)), .second, .val (.long (2808348672 : Int64)), .second, .val (.long t0), .second, .val (.long m1), .second, .val (.long m2), .second, .val (.long hh), .second, .val (.long cc), .second, .val (.long lo), .second, .val (.long hi), .second, .val (.long lo2), .second, .val (.long cy), .second, .val (.long hi2), .second, .val (.long bo), .second, .val (.long eh), .second, .val (.long el), .second, .val (.ref b91), .unset, .unset, .unset, .unset] [])) (fun t k => XS.ifYes X96.here hx rfl (pc0 := 322) (pc' := 330) rfl (hb hby at_322) rfl ((if0 _ _).trans (teq hc322_98).1) (by decide) (by decide) k) ?_
      refine own_by (T' := T96) (f' := (mkF m 332 #[.val (.long i0), .second, .val (.long i1), .second, .val (.int i2), .val (.long av), .second, .val (.long bw), .second, .val (.int ng), .val (.int pq), .val (.ref b35), .val (.long a1), .second, .val (.long al), .second, .val (.long (232830643 : Int64)), .second, .val (.long (2808348672 : Int64)), .second, .val (.long t0), .second, .val (.long m1), .second, .val (.long m2), .second, .val (.long hh), .second, .val (.long cc), .second, .val (.long lo), .second, .val (.long hi), .second, .val (.long lo2), .second, .val (.long cy), .second, .val (.long hi2), .second, .val (.long bo), .second, .val (.long eh), .second, .val (.long el), .second, .val (.ref b91), .unset, .unset, .unset, .unset] [(.ref b91)])) (fun t k => XS.aload X96.here hx rfl (hb hby at_330) rfl rfl k) ?_
      have f99 := (A91.keep K96)
      refine own_callV X96 hx hZ hown rfl (hb hby at_332) [] [] 0 (rmUH l Z a0 hw [] b91 (0 : Int32) v9 v10 T96.heap P8 P9 P10) f99 (own_w hw 99 rfl) (own_w hw 100 rfl) (notFace_of_selects (args := #[]) (mvT hZ (own_w hw 102 rfl))) (own_w hw 102 rfl) (own_w hw 101 rfl) (own_w hw 33 rfl) (own_w hw 103 rfl) (by decide) pd___J (by rw [hml]; rfl) rfl rfl (Nat.le_of_eq rfl) (by decide) (by decide) (by decide) (by decide) ?_
      rintro T100 _ L100 X100 ⟨rfl, rfl, e100⟩
      show own_Go p e below _ T100 (mkF m 335 #[.val (.long i0), .second, .val (.long i1), .second, .val (.int i2), .val (.long av), .second, .val (.long bw), .second, .val (.int ng), .val (.int pq), .val (.ref b35), .val (.long a1), .second, .val (.long al), .second, .val (.long (232830643 : Int64)), .second, .val (.long (2808348672 : Int64)), .second, .val (.long t0), .second, .val (.long m1), .second, .val (.long m2), .second, .val (.long hh), .second, .val (.long cc), .second, .val (.long lo), .second, .val (.long hi), .second, .val (.long lo2), .second, .val (.long cy), .second, .val (.long hi2), .second, .val (.long bo), .second, .val (.long eh), .second, .val (.long el), .second, .val (.ref b91), .unset, .unset, .unset, .unset] [(.long (own_uh (0 : Int32) v9 v10))])
      rw [List.append_nil] at X100
      refine own_by (T' := T100) (f' := (mkF m 337 #[.val (.long i0), .second, .val (.long i1), .second, .val (.int i2), .val (.long av), .second, .val (.long bw), .second, .val (.int ng), .val (.int pq), .val (.ref b35), .val (.long a1), .second, .val (.long al), .second, .val (.long (232830643 : Int64)), .second, .val (.long (2808348672 : Int64)), .second, .val (.long t0), .second, .val (.long m1), .second, .val (.long m2), .second, .val (.long hh), .second, .val (.long cc), .second, .val (.long lo), .second, .val (.long hi), .second, .val (.long lo2), .second, .val (.long cy), .second, .val (.long hi2), .second, .val (.long bo), .second, .val (.long eh), .second, .val (.long el), .second, .val (.ref b91), .val (.long (own_uh (0 : Int32) v9 v10)), .second, .unset, .unset] [])) (fun t k => XS.lstore X100.here hx rfl (hb hby at_335) rfl (l' := #[.val (.long i0), .second, .val (.long i1), .second, .val (.int i2), .val (.long av), .second, .val (.long bw), .second, .val (.int ng), .val (.int pq), .val (.ref b35), .val (.long a1), .second, .val (.long al), .second, .val (.long (232830643 : Int64)), .second, .val (.long (2808348672 : Int64)), .second, .val (.long t0), .second, .val (.long m1), .second, .val (.long m2), .second, .val (.long hh), .second, .val (.long cc), .second, .val (.long lo), .second, .val (.long hi), .second, .val (.long lo2), .second, .val (.long cy), .second, .val (.long hi2), .second, .val (.long bo), .second, .val (.long eh), .second, .val (.long el), .second, .val (.ref b91), .val (.long (own_uh (0 : Int32) v9 v10)), .second, .unset, .unset]) rfl k) ?_
      refine own_by (T' := T100) (f' := (mkF m 339 #[.val (.long i0), .second, .val (.long i1), .second, .val (.int i2), .val (.long av), .second, .val (.long bw), .second, .val (.int ng), .val (.int pq), .val (.ref b35), .val (.long a1), .second, .val (.long al), .second, .val (.long (232830643 : Int64)), .second, .val (.long (2808348672 : Int64)), .second, .val (.long t0), .second, .val (.long m1), .second, .val (.long m2), .second, .val (.long hh), .second, .val (.long cc), .second, .val (.long lo), .second, .val (.long hi), .second, .val (.long lo2), .second, .val (.long cy), .second, .val (.long hi2), .second, .val (.long bo), .second, .val (.long eh), .second, .val (.long el), .second, .val (.ref b91), .val (.long (own_uh (0 : Int32) v9 v10)), .second, .unset, .unset] [(.ref b91)])) (fun t k => XS.aload X100.here hx rfl (hb hby at_337) rfl rfl k) ?_
      refine own_callV X100 hx hZ hown e100 (hb hby at_339) [] [] 0 (rmUL l Z a0 hw [] b91 (0 : Int32) v9 T96.heap P8 P9) f99 (own_w hw 104 rfl) (own_w hw 105 rfl) (notFace_of_selects (args := #[]) (mvT hZ (own_w hw 107 rfl))) (own_w hw 107 rfl) (own_w hw 106 rfl) (own_w hw 33 rfl) (own_w hw 108 rfl) (by decide) pd___J (by rw [hml]; rfl) rfl rfl (Nat.le_of_eq rfl) (by decide) (by decide) (by decide) (by decide) ?_
      rintro T101 _ L101 X101 ⟨rfl, rfl, e101⟩
      show own_Go p e below _ T101 (mkF m 342 #[.val (.long i0), .second, .val (.long i1), .second, .val (.int i2), .val (.long av), .second, .val (.long bw), .second, .val (.int ng), .val (.int pq), .val (.ref b35), .val (.long a1), .second, .val (.long al), .second, .val (.long (232830643 : Int64)), .second, .val (.long (2808348672 : Int64)), .second, .val (.long t0), .second, .val (.long m1), .second, .val (.long m2), .second, .val (.long hh), .second, .val (.long cc), .second, .val (.long lo), .second, .val (.long hi), .second, .val (.long lo2), .second, .val (.long cy), .second, .val (.long hi2), .second, .val (.long bo), .second, .val (.long eh), .second, .val (.long el), .second, .val (.ref b91), .val (.long (own_uh (0 : Int32) v9 v10)), .second, .unset, .unset] [(.long (own_ul (0 : Int32) v9))])
      rw [List.append_nil] at X101
      refine own_by (T' := T101) (f' := (mkF m 344 #[.val (.long i0), .second, .val (.long i1), .second, .val (.int i2), .val (.long av), .second, .val (.long bw), .second, .val (.int ng), .val (.int pq), .val (.ref b35), .val (.long a1), .second, .val (.long al), .second, .val (.long (232830643 : Int64)), .second, .val (.long (2808348672 : Int64)), .second, .val (.long t0), .second, .val (.long m1), .second, .val (.long m2), .second, .val (.long hh), .second, .val (.long cc), .second, .val (.long lo), .second, .val (.long hi), .second, .val (.long lo2), .second, .val (.long cy), .second, .val (.long hi2), .second, .val (.long bo), .second, .val (.long eh), .second, .val (.long el), .second, .val (.ref b91), .val (.long (own_uh (0 : Int32) v9 v10)), .second, .val (.long (own_ul (0 : Int32) v9)), .second] [])) (fun t k => XS.lstore X101.here hx rfl (hb hby at_342) rfl (l' := #[.val (.long i0), .second, .val (.long i1), .second, .val (.int i2), .val (.long av), .second, .val (.long bw), .second, .val (.int ng), .val (.int pq), .val (.ref b35), .val (.long a1), .second, .val (.long al), .second, .val (.long (232830643 : Int64)), .second, .val (.long (2808348672 : Int64)), .second, .val (.long t0), .second, .val (.long m1), .second, .val (.long m2), .second, .val (.long hh), .second, .val (.long cc), .second, .val (.long lo), .second, .val (.long hi), .second, .val (.long lo2), .second, .val (.long cy), .second, .val (.long hi2), .second, .val (.long bo), .second, .val (.long eh), .second, .val (.long el), .second, .val (.ref b91), .val (.long (own_uh (0 : Int32) v9 v10)), .second, .val (.long (own_ul (0 : Int32) v9)), .second]) rfl k) ?_
      have EH : own_uh (0 : Int32) v9 v10 = eh := by rw [heh, if_pos hc322_98, ← rh]; exact if_pos rfl
      have EL : own_ul (0 : Int32) v9 = el := by rw [hel, if_pos hc322_98, ← rl]; exact if_pos rfl
      refine own_by (T' := T101) (f' := (mkF m 346 #[.val (.long i0), .second, .val (.long i1), .second, .val (.int i2), .val (.long av), .second, .val (.long bw), .second, .val (.int ng), .val (.int pq), .val (.ref b35), .val (.long a1), .second, .val (.long al), .second, .val (.long (232830643 : Int64)), .second, .val (.long (2808348672 : Int64)), .second, .val (.long t0), .second, .val (.long m1), .second, .val (.long m2), .second, .val (.long hh), .second, .val (.long cc), .second, .val (.long lo), .second, .val (.long hi), .second, .val (.long lo2), .second, .val (.long cy), .second, .val (.long hi2), .second, .val (.long bo), .second, .val (.long eh), .second, .val (.long el), .second, .val (.ref b91), .val (.long (own_uh (0 : Int32) v9 v10)), .second, .val (.long (own_ul (0 : Int32) v9)), .second] [(.long (own_uh (0 : Int32) v9 v10))])) (fun t k => XS.lload X101.here hx rfl (hb hby at_344) rfl k) ?_
      refine own_by (T' := T101) (f' := (mkF m 348 #[.val (.long i0), .second, .val (.long i1), .second, .val (.int i2), .val (.long av), .second, .val (.long bw), .second, .val (.int ng), .val (.int pq), .val (.ref b35), .val (.long a1), .second, .val (.long al), .second, .val (.long (232830643 : Int64)), .second, .val (.long (2808348672 : Int64)), .second, .val (.long t0), .second, .val (.long m1), .second, .val (.long m2), .second, .val (.long hh), .second, .val (.long cc), .second, .val (.long lo), .second, .val (.long hi), .second, .val (.long lo2), .second, .val (.long cy), .second, .val (.long hi2), .second, .val (.long bo), .second, .val (.long eh), .second, .val (.long el), .second, .val (.ref b91), .val (.long (own_uh (0 : Int32) v9 v10)), .second, .val (.long (own_ul (0 : Int32) v9)), .second] [(.long eh), (.long (own_uh (0 : Int32) v9 v10))])) (fun t k => XS.lload X101.here hx rfl (hb hby at_346) rfl k) ?_
      refine own_by (T' := T101) (f' := (mkF m 349 #[.val (.long i0), .second, .val (.long i1), .second, .val (.int i2), .val (.long av), .second, .val (.long bw), .second, .val (.int ng), .val (.int pq), .val (.ref b35), .val (.long a1), .second, .val (.long al), .second, .val (.long (232830643 : Int64)), .second, .val (.long (2808348672 : Int64)), .second, .val (.long t0), .second, .val (.long m1), .second, .val (.long m2), .second, .val (.long hh), .second, .val (.long cc), .second, .val (.long lo), .second, .val (.long hi), .second, .val (.long lo2), .second, .val (.long cy), .second, .val (.long hi2), .second, .val (.long bo), .second, .val (.long eh), .second, .val (.long el), .second, .val (.ref b91), .val (.long (own_uh (0 : Int32) v9 v10)), .second, .val (.long (own_ul (0 : Int32) v9)), .second] [(.int (lcmpW (own_uh (0 : Int32) v9 v10) eh))])) (fun t k => XS.lcmp X101.here hx rfl (hb hby at_348) rfl k) ?_
      have hc349_102 : (own_uh (0 : Int32) v9 v10) = eh := EH
      refine own_by (T' := T101) (f' := (mkF m 352 #[.val (.long i0), .second, .val (.long i1), .second, .val (.int i2), .val (.long av), .second, .val (.long bw), .second, .val (.int ng), .val (.int pq), .val (.ref b35), .val (.long a1), .second, .val (.long al), .second, .val (.long (232830643 : Int64)), .second, .val (.long (2808348672 : Int64)), .second, .val (.long t0), .second, .val (.long m1), .second, .val (.long m2), .second, .val (.long hh), .second, .val (.long cc), .second, .val (.long lo), .second, .val (.long hi), .second, .val (.long lo2), .second, .val (.long cy), .second, .val (.long hi2), .second, .val (.long bo), .second, .val (.long eh), .second, .val (.long el), .second, .val (.ref b91), .val (.long (own_uh (0 : Int32) v9 v10)), .second, .val (.long (own_ul (0 : Int32) v9)), .second] [])) (fun t k => XS.ifNo X101.here hx rfl (hb hby at_349) rfl ((if0 _ _).trans (teq ((lw_eq _ _).mpr hc349_102)).2) k) ?_
      refine own_by (T' := T101) (f' := (mkF m 354 #[.val (.long i0), .second, .val (.long i1), .second, .val (.int i2), .val (.long av), .second, .val (.long bw), .second, .val (.int ng), .val (.int pq), .val (.ref b35), .val (.long a1), .second, .val (.long al), .second, .val (.long (232830643 : Int64)), .second, .val (.long (2808348672 : Int64)), .second, .val (.long t0), .second, .val (.long m1), .second, .val (.long m2), .second, .val (.long hh), .second, .val (.long cc), .second, .val (.long lo), .second, .val (.long hi), .second, .val (.long lo2), .second, .val (.long cy), .second, .val (.long hi2), .second, .val (.long bo), .second, .val (.long eh), .second, .val (.long el), .second, .val (.ref b91), .val (.long (own_uh (0 : Int32) v9 v10)), .second, .val (.long (own_ul (0 : Int32) v9)), .second] [(.long (own_ul (0 : Int32) v9))])) (fun t k => XS.lload X101.here hx rfl (hb hby at_352) rfl k) ?_
      refine own_by (T' := T101) (f' := (mkF m 356 #[.val (.long i0), .second, .val (.long i1), .second, .val (.int i2), .val (.long av), .second, .val (.long bw), .second, .val (.int ng), .val (.int pq), .val (.ref b35), .val (.long a1), .second, .val (.long al), .second, .val (.long (232830643 : Int64)), .second, .val (.long (2808348672 : Int64)), .second, .val (.long t0), .second, .val (.long m1), .second, .val (.long m2), .second, .val (.long hh), .second, .val (.long cc), .second, .val (.long lo), .second, .val (.long hi), .second, .val (.long lo2), .second, .val (.long cy), .second, .val (.long hi2), .second, .val (.long bo), .second, .val (.long eh), .second, .val (.long el), .second, .val (.ref b91), .val (.long (own_uh (0 : Int32) v9 v10)), .second, .val (.long (own_ul (0 : Int32) v9)), .second] [(.long el), (.long (own_ul (0 : Int32) v9))])) (fun t k => XS.lload X101.here hx rfl (hb hby at_354) rfl k) ?_
      refine own_by (T' := T101) (f' := (mkF m 357 #[.val (.long i0), .second, .val (.long i1), .second, .val (.int i2), .val (.long av), .second, .val (.long bw), .second, .val (.int ng), .val (.int pq), .val (.ref b35), .val (.long a1), .second, .val (.long al), .second, .val (.long (232830643 : Int64)), .second, .val (.long (2808348672 : Int64)), .second, .val (.long t0), .second, .val (.long m1), .second, .val (.long m2), .second, .val (.long hh), .second, .val (.long cc), .second, .val (.long lo), .second, .val (.long hi), .second, .val (.long lo2), .second, .val (.long cy), .second, .val (.long hi2), .second, .val (.long bo), .second, .val (.long eh), .second, .val (.long el), .second, .val (.ref b91), .val (.long (own_uh (0 : Int32) v9 v10)), .second, .val (.long (own_ul (0 : Int32) v9)), .second] [(.int (lcmpW (own_ul (0 : Int32) v9) el))])) (fun t k => XS.lcmp X101.here hx rfl (hb hby at_356) rfl k) ?_
      have hc357_103 : (own_ul (0 : Int32) v9) = el := EL
      refine own_by (T' := T101) (f' := (mkF m 360 #[.val (.long i0), .second, .val (.long i1), .second, .val (.int i2), .val (.long av), .second, .val (.long bw), .second, .val (.int ng), .val (.int pq), .val (.ref b35), .val (.long a1), .second, .val (.long al), .second, .val (.long (232830643 : Int64)), .second, .val (.long (2808348672 : Int64)), .second, .val (.long t0), .second, .val (.long m1), .second, .val (.long m2), .second, .val (.long hh), .second, .val (.long cc), .second, .val (.long lo), .second, .val (.long hi), .second, .val (.long lo2), .second, .val (.long cy), .second, .val (.long hi2), .second, .val (.long bo), .second, .val (.long eh), .second, .val (.long el), .second, .val (.ref b91), .val (.long (own_uh (0 : Int32) v9 v10)), .second, .val (.long (own_ul (0 : Int32) v9)), .second] [])) (fun t k => XS.ifNo X101.here hx rfl (hb hby at_357) rfl ((if0 _ _).trans (teq ((lw_eq _ _).mpr hc357_103)).2) k) ?_
      refine own_by (T' := T101) (f' := (mkF m 361 #[.val (.long i0), .second, .val (.long i1), .second, .val (.int i2), .val (.long av), .second, .val (.long bw), .second, .val (.int ng), .val (.int pq), .val (.ref b35), .val (.long a1), .second, .val (.long al), .second, .val (.long (232830643 : Int64)), .second, .val (.long (2808348672 : Int64)), .second, .val (.long t0), .second, .val (.long m1), .second, .val (.long m2), .second, .val (.long hh), .second, .val (.long cc), .second, .val (.long lo), .second, .val (.long hi), .second, .val (.long lo2), .second, .val (.long cy), .second, .val (.long hi2), .second, .val (.long bo), .second, .val (.long eh), .second, .val (.long el), .second, .val (.ref b91), .val (.long (own_uh (0 : Int32) v9 v10)), .second, .val (.long (own_ul (0 : Int32) v9)), .second] [(.int (1 : Int32))])) (fun t k => XS.iconst X101.here hx rfl (hb hby at_360) k) ?_
      refine own_by (T' := T101) (f' := (mkF m 365 #[.val (.long i0), .second, .val (.long i1), .second, .val (.int i2), .val (.long av), .second, .val (.long bw), .second, .val (.int ng), .val (.int pq), .val (.ref b35), .val (.long a1), .second, .val (.long al), .second, .val (.long (232830643 : Int64)), .second, .val (.long (2808348672 : Int64)), .second, .val (.long t0), .second, .val (.long m1), .second, .val (.long m2), .second, .val (.long hh), .second, .val (.long cc), .second, .val (.long lo), .second, .val (.long hi), .second, .val (.long lo2), .second, .val (.long cy), .second, .val (.long hi2), .second, .val (.long bo), .second, .val (.long eh), .second, .val (.long el), .second, .val (.ref b91), .val (.long (own_uh (0 : Int32) v9 v10)), .second, .val (.long (own_ul (0 : Int32) v9)), .second] [(.int (1 : Int32))])) (fun t k => XS.goto X101.here hx rfl (pc0 := 361) (pc' := 365) rfl (hb hby at_361) (by decide) (by decide) k) ?_
      refine own_retZ X101 hx hret hlk (hb hby at_365) (Or.inr rfl) (by decide) (by decide) ?_
      try rw [e101]
      exact ⟨rfl, N96⟩
    · have _ := X96
      refine own_by (T' := T96) (f' := (mkF m 325 #[.val (.long i0), .second, .val (.long i1), .second, .val (.int i2), .val (.long av), .second, .val (.long bw), .second, .val (.int ng), .val (.int pq), .val (.ref b35), .val (.long a1), .second, .val (.long al), .second, .val (.long (232830643 : Int64)), .second, .val (.long (2808348672 : Int64)), .second, .val (.long t0), .second, .val (.long m1), .second, .val (.long m2), .second, .val (.long hh), .second, .val (.long cc), .second, .val (.long lo), .second, .val (.long hi), .second, .val (.long lo2), .second, .val (.long cy), .second, .val (.long hi2), .second, .val (.long bo), .second, .val (.long eh), .second, .val (.long el), .second, .val (.ref b91), .unset, .unset, .unset, .unset] [])) (fun t k => XS.ifNo X96.here hx rfl (hb hby at_322) rfl ((if0 _ _).trans (feq hc322_98).1) k) ?_
      refine own_by (T' := T96) (f' := (mkF m 327 #[.val (.long i0), .second, .val (.long i1), .second, .val (.int i2), .val (.long av), .second, .val (.long bw), .second, .val (.int ng), .val (.int pq), .val (.ref b35), .val (.long a1), .second, .val (.long al), .second, .val (.long (232830643 : Int64)), .second, .val (.long (2808348672 : Int64)), .second, .val (.long t0), .second, .val (.long m1), .second, .val (.long m2), .second, .val (.long hh), .second, .val (.long cc), .second, .val (.long lo), .second, .val (.long hi), .second, .val (.long lo2), .second, .val (.long cy), .second, .val (.long hi2), .second, .val (.long bo), .second, .val (.long eh), .second, .val (.long el), .second, .val (.ref b91), .unset, .unset, .unset, .unset] [(.ref b91)])) (fun t k => XS.aload X96.here hx rfl (hb hby at_325) rfl rfl k) ?_
      have f104 := (A91.keep K96)
      have q105 : ∀ x ∈ [b91], ∃ c : Cell, T96.heap[x]? = some c ∧ c.vm.isStatics = false := (allS (own_ns f104) all0)
      refine own_callV X96 hx hZ hown rfl (hb hby at_327) [] [] 0 (rmNG l Z a0 hw [] b91 (0 : Int32) v9 v10 T96.heap n0 sz97 gn91 f104 P8 P9 P10) f104 (own_w hw 109 rfl) (own_w hw 110 rfl) (notFace_of_selects (args := #[]) (mvT hZ (own_w hw 112 rfl))) (own_w hw 112 rfl) (own_w hw 111 rfl) (own_w hw 33 rfl) (own_w hw 113 rfl) (by decide) pd___V (by rw [hml]; rfl) rfl rfl (Nat.le_of_eq rfl) (by decide) (by decide) (by decide) (by decide) ?_
      rintro T106 _ L106 X106 ⟨rfl, N106q, K106, Q8, Q9, Q10⟩
      show own_Go p e below _ T106 (mkF m 330 #[.val (.long i0), .second, .val (.long i1), .second, .val (.int i2), .val (.long av), .second, .val (.long bw), .second, .val (.int ng), .val (.int pq), .val (.ref b35), .val (.long a1), .second, .val (.long al), .second, .val (.long (232830643 : Int64)), .second, .val (.long (2808348672 : Int64)), .second, .val (.long t0), .second, .val (.long m1), .second, .val (.long m2), .second, .val (.long hh), .second, .val (.long cc), .second, .val (.long lo), .second, .val (.long hi), .second, .val (.long lo2), .second, .val (.long cy), .second, .val (.long hi2), .second, .val (.long bo), .second, .val (.long eh), .second, .val (.long el), .second, .val (.ref b91), .unset, .unset, .unset, .unset] [])
      have N106 := Fr.app N96 N106q
      have sz107 : n0 ≤ T106.heap.size := Nat.le_trans sz97 K106.1
      refine own_by (T' := T106) (f' := (mkF m 332 #[.val (.long i0), .second, .val (.long i1), .second, .val (.int i2), .val (.long av), .second, .val (.long bw), .second, .val (.int ng), .val (.int pq), .val (.ref b35), .val (.long a1), .second, .val (.long al), .second, .val (.long (232830643 : Int64)), .second, .val (.long (2808348672 : Int64)), .second, .val (.long t0), .second, .val (.long m1), .second, .val (.long m2), .second, .val (.long hh), .second, .val (.long cc), .second, .val (.long lo), .second, .val (.long hi), .second, .val (.long lo2), .second, .val (.long cy), .second, .val (.long hi2), .second, .val (.long bo), .second, .val (.long eh), .second, .val (.long el), .second, .val (.ref b91), .unset, .unset, .unset, .unset] [(.ref b91)])) (fun t k => XS.aload X106.here hx rfl (hb hby at_330) rfl rfl k) ?_
      have f108 := (f104.keep K106)
      refine own_callV X106 hx hZ hown rfl (hb hby at_332) [] [] 0 (rmUH l Z a0 hw [] b91 (1 : Int32) v9 v10 T106.heap Q8 Q9 Q10) f108 (own_w hw 99 rfl) (own_w hw 100 rfl) (notFace_of_selects (args := #[]) (mvT hZ (own_w hw 102 rfl))) (own_w hw 102 rfl) (own_w hw 101 rfl) (own_w hw 33 rfl) (own_w hw 103 rfl) (by decide) pd___J (by rw [hml]; rfl) rfl rfl (Nat.le_of_eq rfl) (by decide) (by decide) (by decide) (by decide) ?_
      rintro T109 _ L109 X109 ⟨rfl, rfl, e109⟩
      show own_Go p e below _ T109 (mkF m 335 #[.val (.long i0), .second, .val (.long i1), .second, .val (.int i2), .val (.long av), .second, .val (.long bw), .second, .val (.int ng), .val (.int pq), .val (.ref b35), .val (.long a1), .second, .val (.long al), .second, .val (.long (232830643 : Int64)), .second, .val (.long (2808348672 : Int64)), .second, .val (.long t0), .second, .val (.long m1), .second, .val (.long m2), .second, .val (.long hh), .second, .val (.long cc), .second, .val (.long lo), .second, .val (.long hi), .second, .val (.long lo2), .second, .val (.long cy), .second, .val (.long hi2), .second, .val (.long bo), .second, .val (.long eh), .second, .val (.long el), .second, .val (.ref b91), .unset, .unset, .unset, .unset] [(.long (own_uh (1 : Int32) v9 v10))])
      rw [List.append_nil] at X109
      refine own_by (T' := T109) (f' := (mkF m 337 #[.val (.long i0), .second, .val (.long i1), .second, .val (.int i2), .val (.long av), .second, .val (.long bw), .second, .val (.int ng), .val (.int pq), .val (.ref b35), .val (.long a1), .second, .val (.long al), .second, .val (.long (232830643 : Int64)), .second, .val (.long (2808348672 : Int64)), .second, .val (.long t0), .second, .val (.long m1), .second, .val (.long m2), .second, .val (.long hh), .second, .val (.long cc), .second, .val (.long lo), .second, .val (.long hi), .second, .val (.long lo2), .second, .val (.long cy), .second, .val (.long hi2), .second, .val (.long bo), .second, .val (.long eh), .second, .val (.long el), .second, .val (.ref b91), .val (.long (own_uh (1 : Int32) v9 v10)), .second, .unset, .unset] [])) (fun t k => XS.lstore X109.here hx rfl (hb hby at_335) rfl (l' := #[.val (.long i0), .second, .val (.long i1), .second, .val (.int i2), .val (.long av), .second, .val (.long bw), .second, .val (.int ng), .val (.int pq), .val (.ref b35), .val (.long a1), .second, .val (.long al), .second, .val (.long (232830643 : Int64)), .second, .val (.long (2808348672 : Int64)), .second, .val (.long t0), .second, .val (.long m1), .second, .val (.long m2), .second, .val (.long hh), .second, .val (.long cc), .second, .val (.long lo), .second, .val (.long hi), .second, .val (.long lo2), .second, .val (.long cy), .second, .val (.long hi2), .second, .val (.long bo), .second, .val (.long eh), .second, .val (.long el), .second, .val (.ref b91), .val (.long (own_uh (1 : Int32) v9 v10)), .second, .unset, .unset]) rfl k) ?_
      refine own_by (T' := T109) (f' := (mkF m 339 #[.val (.long i0), .second, .val (.long i1), .second, .val (.int i2), .val (.long av), .second, .val (.long bw), .second, .val (.int ng), .val (.int pq), .val (.ref b35), .val (.long a1), .second, .val (.long al), .second, .val (.long (232830643 : Int64)), .second, .val (.long (2808348672 : Int64)), .second, .val (.long t0), .second, .val (.long m1), .second, .val (.long m2), .second, .val (.long hh), .second, .val (.long cc), .second, .val (.long lo), .second, .val (.long hi), .second, .val (.long lo2), .second, .val (.long cy), .second, .val (.long hi2), .second, .val (.long bo), .second, .val (.long eh), .second, .val (.long el), .second, .val (.ref b91), .val (.long (own_uh (1 : Int32) v9 v10)), .second, .unset, .unset] [(.ref b91)])) (fun t k => XS.aload X109.here hx rfl (hb hby at_337) rfl rfl k) ?_
      refine own_callV X109 hx hZ hown e109 (hb hby at_339) [] [] 0 (rmUL l Z a0 hw [] b91 (1 : Int32) v9 T106.heap Q8 Q9) f108 (own_w hw 104 rfl) (own_w hw 105 rfl) (notFace_of_selects (args := #[]) (mvT hZ (own_w hw 107 rfl))) (own_w hw 107 rfl) (own_w hw 106 rfl) (own_w hw 33 rfl) (own_w hw 108 rfl) (by decide) pd___J (by rw [hml]; rfl) rfl rfl (Nat.le_of_eq rfl) (by decide) (by decide) (by decide) (by decide) ?_
      rintro T110 _ L110 X110 ⟨rfl, rfl, e110⟩
      show own_Go p e below _ T110 (mkF m 342 #[.val (.long i0), .second, .val (.long i1), .second, .val (.int i2), .val (.long av), .second, .val (.long bw), .second, .val (.int ng), .val (.int pq), .val (.ref b35), .val (.long a1), .second, .val (.long al), .second, .val (.long (232830643 : Int64)), .second, .val (.long (2808348672 : Int64)), .second, .val (.long t0), .second, .val (.long m1), .second, .val (.long m2), .second, .val (.long hh), .second, .val (.long cc), .second, .val (.long lo), .second, .val (.long hi), .second, .val (.long lo2), .second, .val (.long cy), .second, .val (.long hi2), .second, .val (.long bo), .second, .val (.long eh), .second, .val (.long el), .second, .val (.ref b91), .val (.long (own_uh (1 : Int32) v9 v10)), .second, .unset, .unset] [(.long (own_ul (1 : Int32) v9))])
      rw [List.append_nil] at X110
      refine own_by (T' := T110) (f' := (mkF m 344 #[.val (.long i0), .second, .val (.long i1), .second, .val (.int i2), .val (.long av), .second, .val (.long bw), .second, .val (.int ng), .val (.int pq), .val (.ref b35), .val (.long a1), .second, .val (.long al), .second, .val (.long (232830643 : Int64)), .second, .val (.long (2808348672 : Int64)), .second, .val (.long t0), .second, .val (.long m1), .second, .val (.long m2), .second, .val (.long hh), .second, .val (.long cc), .second, .val (.long lo), .second, .val (.long hi), .second, .val (.long lo2), .second, .val (.long cy), .second, .val (.long hi2), .second, .val (.long bo), .second, .val (.long eh), .second, .val (.long el), .second, .val (.ref b91), .val (.long (own_uh (1 : Int32) v9 v10)), .second, .val (.long (own_ul (1 : Int32) v9)), .second] [])) (fun t k => XS.lstore X110.here hx rfl (hb hby at_342) rfl (l' := #[.val (.long i0), .second, .val (.long i1), .second, .val (.int i2), .val (.long av), .second, .val (.long bw), .second, .val (.int ng), .val (.int pq), .val (.ref b35), .val (.long a1), .second, .val (.long al), .second, .val (.long (232830643 : Int64)), .second, .val (.long (2808348672 : Int64)), .second, .val (.long t0), .second, .val (.long m1), .second, .val (.long m2), .second, .val (.long hh), .second, .val (.long cc), .second, .val (.long lo), .second, .val (.long hi), .second, .val (.long lo2), .second, .val (.long cy), .second, .val (.long hi2), .second, .val (.long bo), .second, .val (.long eh), .second, .val (.long el), .second, .val (.ref b91), .val (.long (own_uh (1 : Int32) v9 v10)), .second, .val (.long (own_ul (1 : Int32) v9)), .second]) rfl k) ?_
      have EH : own_uh (1 : Int32) v9 v10 = eh := by rw [heh, if_neg hc322_98, ← rh, ← own_negH (lo := v9) (by rw [rl]; exact hbo)]; exact if_neg (by decide)
      have EL : own_ul (1 : Int32) v9 = el := by rw [hel, if_neg hc322_98, ← rl, ← own_negL]; exact if_neg (by decide)
      refine own_by (T' := T110) (f' := (mkF m 346 #[.val (.long i0), .second, .val (.long i1), .second, .val (.int i2), .val (.long av), .second, .val (.long bw), .second, .val (.int ng), .val (.int pq), .val (.ref b35), .val (.long a1), .second, .val (.long al), .second, .val (.long (232830643 : Int64)), .second, .val (.long (2808348672 : Int64)), .second, .val (.long t0), .second, .val (.long m1), .second, .val (.long m2), .second, .val (.long hh), .second, .val (.long cc), .second, .val (.long lo), .second, .val (.long hi), .second, .val (.long lo2), .second, .val (.long cy), .second, .val (.long hi2), .second, .val (.long bo), .second, .val (.long eh), .second, .val (.long el), .second, .val (.ref b91), .val (.long (own_uh (1 : Int32) v9 v10)), .second, .val (.long (own_ul (1 : Int32) v9)), .second] [(.long (own_uh (1 : Int32) v9 v10))])) (fun t k => XS.lload X110.here hx rfl (hb hby at_344) rfl k) ?_
      refine own_by (T' := T110) (f' := (mkF m 348 #[.val (.long i0), .second, .val (.long i1), .second, .val (.int i2), .val (.long av), .second, .val (.long bw), .second, .val (.int ng), .val (.int pq), .val (.ref b35), .val (.long a1), .second, .val (.long al), .second, .val (.long (232830643 : Int64)), .second, .val (.long (2808348672 : Int64)), .second, .val (.long t0), .second, .val (.long m1), .second, .val (.long m2), .second, .val (.long hh), .second, .val (.long cc), .second, .val (.long lo), .second, .val (.long hi), .second, .val (.long lo2), .second, .val (.long cy), .second, .val (.long hi2), .second, .val (.long bo), .second, .val (.long eh), .second, .val (.long el), .second, .val (.ref b91), .val (.long (own_uh (1 : Int32) v9 v10)), .second, .val (.long (own_ul (1 : Int32) v9)), .second] [(.long eh), (.long (own_uh (1 : Int32) v9 v10))])) (fun t k => XS.lload X110.here hx rfl (hb hby at_346) rfl k) ?_
      refine own_by (T' := T110) (f' := (mkF m 349 #[.val (.long i0), .second, .val (.long i1), .second, .val (.int i2), .val (.long av), .second, .val (.long bw), .second, .val (.int ng), .val (.int pq), .val (.ref b35), .val (.long a1), .second, .val (.long al), .second, .val (.long (232830643 : Int64)), .second, .val (.long (2808348672 : Int64)), .second, .val (.long t0), .second, .val (.long m1), .second, .val (.long m2), .second, .val (.long hh), .second, .val (.long cc), .second, .val (.long lo), .second, .val (.long hi), .second, .val (.long lo2), .second, .val (.long cy), .second, .val (.long hi2), .second, .val (.long bo), .second, .val (.long eh), .second, .val (.long el), .second, .val (.ref b91), .val (.long (own_uh (1 : Int32) v9 v10)), .second, .val (.long (own_ul (1 : Int32) v9)), .second] [(.int (lcmpW (own_uh (1 : Int32) v9 v10) eh))])) (fun t k => XS.lcmp X110.here hx rfl (hb hby at_348) rfl k) ?_
      have hc349_111 : (own_uh (1 : Int32) v9 v10) = eh := EH
      refine own_by (T' := T110) (f' := (mkF m 352 #[.val (.long i0), .second, .val (.long i1), .second, .val (.int i2), .val (.long av), .second, .val (.long bw), .second, .val (.int ng), .val (.int pq), .val (.ref b35), .val (.long a1), .second, .val (.long al), .second, .val (.long (232830643 : Int64)), .second, .val (.long (2808348672 : Int64)), .second, .val (.long t0), .second, .val (.long m1), .second, .val (.long m2), .second, .val (.long hh), .second, .val (.long cc), .second, .val (.long lo), .second, .val (.long hi), .second, .val (.long lo2), .second, .val (.long cy), .second, .val (.long hi2), .second, .val (.long bo), .second, .val (.long eh), .second, .val (.long el), .second, .val (.ref b91), .val (.long (own_uh (1 : Int32) v9 v10)), .second, .val (.long (own_ul (1 : Int32) v9)), .second] [])) (fun t k => XS.ifNo X110.here hx rfl (hb hby at_349) rfl ((if0 _ _).trans (teq ((lw_eq _ _).mpr hc349_111)).2) k) ?_
      refine own_by (T' := T110) (f' := (mkF m 354 #[.val (.long i0), .second, .val (.long i1), .second, .val (.int i2), .val (.long av), .second, .val (.long bw), .second, .val (.int ng), .val (.int pq), .val (.ref b35), .val (.long a1), .second, .val (.long al), .second, .val (.long (232830643 : Int64)), .second, .val (.long (2808348672 : Int64)), .second, .val (.long t0), .second, .val (.long m1), .second, .val (.long m2), .second, .val (.long hh), .second, .val (.long cc), .second, .val (.long lo), .second, .val (.long hi), .second, .val (.long lo2), .second, .val (.long cy), .second, .val (.long hi2), .second, .val (.long bo), .second, .val (.long eh), .second, .val (.long el), .second, .val (.ref b91), .val (.long (own_uh (1 : Int32) v9 v10)), .second, .val (.long (own_ul (1 : Int32) v9)), .second] [(.long (own_ul (1 : Int32) v9))])) (fun t k => XS.lload X110.here hx rfl (hb hby at_352) rfl k) ?_
      refine own_by (T' := T110) (f' := (mkF m 356 #[.val (.long i0), .second, .val (.long i1), .second, .val (.int i2), .val (.long av), .second, .val (.long bw), .second, .val (.int ng), .val (.int pq), .val (.ref b35), .val (.long a1), .second, .val (.long al), .second, .val (.long (232830643 : Int64)), .second, .val (.long (2808348672 : Int64)), .second, .val (.long t0), .second, .val (.long m1), .second, .val (.long m2), .second, .val (.long hh), .second, .val (.long cc), .second, .val (.long lo), .second, .val (.long hi), .second, .val (.long lo2), .second, .val (.long cy), .second, .val (.long hi2), .second, .val (.long bo), .second, .val (.long eh), .second, .val (.long el), .second, .val (.ref b91), .val (.long (own_uh (1 : Int32) v9 v10)), .second, .val (.long (own_ul (1 : Int32) v9)), .second] [(.long el), (.long (own_ul (1 : Int32) v9))])) (fun t k => XS.lload X110.here hx rfl (hb hby at_354) rfl k) ?_
      refine own_by (T' := T110) (f' := (mkF m 357 #[.val (.long i0), .second, .val (.long i1), .second, .val (.int i2), .val (.long av), .second, .val (.long bw), .second, .val (.int ng), .val (.int pq), .val (.ref b35), .val (.long a1), .second, .val (.long al), .second, .val (.long (232830643 : Int64)), .second, .val (.long (2808348672 : Int64)), .second, .val (.long t0), .second, .val (.long m1), .second, .val (.long m2), .second, .val (.long hh), .second, .val (.long cc), .second, .val (.long lo), .second, .val (.long hi), .second, .val (.long lo2), .second, .val (.long cy), .second, .val (.long hi2), .second, .val (.long bo), .second, .val (.long eh), .second, .val (.long el), .second, .val (.ref b91), .val (.long (own_uh (1 : Int32) v9 v10)), .second, .val (.long (own_ul (1 : Int32) v9)), .second] [(.int (lcmpW (own_ul (1 : Int32) v9) el))])) (fun t k => XS.lcmp X110.here hx rfl (hb hby at_356) rfl k) ?_
      have hc357_112 : (own_ul (1 : Int32) v9) = el := EL
      refine own_by (T' := T110) (f' := (mkF m 360 #[.val (.long i0), .second, .val (.long i1), .second, .val (.int i2), .val (.long av), .second, .val (.long bw), .second, .val (.int ng), .val (.int pq), .val (.ref b35), .val (.long a1), .second, .val (.long al), .second, .val (.long (232830643 : Int64)), .second, .val (.long (2808348672 : Int64)), .second, .val (.long t0), .second, .val (.long m1), .second, .val (.long m2), .second, .val (.long hh), .second, .val (.long cc), .second, .val (.long lo), .second, .val (.long hi), .second, .val (.long lo2), .second, .val (.long cy), .second, .val (.long hi2), .second, .val (.long bo), .second, .val (.long eh), .second, .val (.long el), .second, .val (.ref b91), .val (.long (own_uh (1 : Int32) v9 v10)), .second, .val (.long (own_ul (1 : Int32) v9)), .second] [])) (fun t k => XS.ifNo X110.here hx rfl (hb hby at_357) rfl ((if0 _ _).trans (teq ((lw_eq _ _).mpr hc357_112)).2) k) ?_
      refine own_by (T' := T110) (f' := (mkF m 361 #[.val (.long i0), .second, .val (.long i1), .second, .val (.int i2), .val (.long av), .second, .val (.long bw), .second, .val (.int ng), .val (.int pq), .val (.ref b35), .val (.long a1), .second, .val (.long al), .second, .val (.long (232830643 : Int64)), .second, .val (.long (2808348672 : Int64)), .second, .val (.long t0), .second, .val (.long m1), .second, .val (.long m2), .second, .val (.long hh), .second, .val (.long cc), .second, .val (.long lo), .second, .val (.long hi), .second, .val (.long lo2), .second, .val (.long cy), .second, .val (.long hi2), .second, .val (.long bo), .second, .val (.long eh), .second, .val (.long el), .second, .val (.ref b91), .val (.long (own_uh (1 : Int32) v9 v10)), .second, .val (.long (own_ul (1 : Int32) v9)), .second] [(.int (1 : Int32))])) (fun t k => XS.iconst X110.here hx rfl (hb hby at_360) k) ?_
      refine own_by (T' := T110) (f' := (mkF m 365 #[.val (.long i0), .second, .val (.long i1), .second, .val (.int i2), .val (.long av), .second, .val (.long bw), .second, .val (.int ng), .val (.int pq), .val (.ref b35), .val (.long a1), .second, .val (.long al), .second, .val (.long (232830643 : Int64)), .second, .val (.long (2808348672 : Int64)), .second, .val (.long t0), .second, .val (.long m1), .second, .val (.long m2), .second, .val (.long hh), .second, .val (.long cc), .second, .val (.long lo), .second, .val (.long hi), .second, .val (.long lo2), .second, .val (.long cy), .second, .val (.long hi2), .second, .val (.long bo), .second, .val (.long eh), .second, .val (.long el), .second, .val (.ref b91), .val (.long (own_uh (1 : Int32) v9 v10)), .second, .val (.long (own_ul (1 : Int32) v9)), .second] [(.int (1 : Int32))])) (fun t k => XS.goto X110.here hx rfl (pc0 := 361) (pc' := 365) rfl (hb hby at_361) (by decide) (by decide) k) ?_
      refine own_retZ X110 hx hret hlk (hb hby at_365) (Or.inr rfl) (by decide) (by decide) ?_
      try rw [e110]
      exact ⟨rfl, N106⟩
set_option maxRecDepth 65536 in
set_option maxHeartbeats 40000000 in
theorem comes_1 {Post : Tables → Env → Array Value → State → Outcome → State → Prop} (hpost : ∀ tb e args s v u, (limb_1_1.after args s (.returned v) u = true ∧ limb_1_2.after args s (.returned v) u = true ∧ True) → FrameEnd s (.returned v) u (Jvm.fieldLocs frame_1_writes args s ++ Jvm.arrayLocs frame_1_arrays args s ++ Jvm.staticLocs frame_1_statics s) 16 192 → Post tb e args s (.returned v) u) :
    ArmFor flags0 classFile x code maxLocals ret World_1 tables_1 room_1 Calls_1 rest_1 Pre_1 Post := by
  intro l hfl _ _ p e ha hc hk s m args below hf hA hF happ hP
  obtain ⟨hcalls, hrest, hpre⟩ := hP
  obtain ⟨-, -, -, hnamed, -, -, -, hat⟩ := (Spec.applies_iff hf).mp happ
  obtain ⟨hg, hn⟩ := and_e (Cond.before_iff.mp (show (Jvm.Cond.and given_1 narrow_1).before args s = true from hpre))
  obtain ⟨gc, gr0⟩ := and_e hg
  obtain ⟨ga0, gr1⟩ := and_e gr0
  obtain ⟨ga1, gr2⟩ := and_e gr1
  obtain ⟨w0, w1, w2, rfl⟩ : ∃ w0 w1 w2 : Value, args = #[w0, w1, w2] := by
    have hs : args.size = 3 := by simpa [Cond.value, given_1] using gc
    obtain ⟨L⟩ := args
    match L, hs with
    | [w0, w1, w2], _ => exact ⟨w0, w1, w2, rfl⟩
  have hw := fun d (hd : d ∈ tables_1) => atoms_spec (ws := Jvm.Cond.code x code maxLocals ret :: tables_1) hat d (List.mem_cons_of_mem _ hd)
  have hfit : Fit s := fun {y c} hc i hi => by
    obtain ⟨ha, rfl⟩ := Array.getElem?_eq_some_iff.mp hc
    have q := List.all_eq_true.mp ((Array.all_eq_true_iff_forall_mem.mp hF) _ (Array.getElem_mem ha)) i (List.mem_range.mpr hi)
    simpa [Array.getElem?_eq_getElem hi] using q
  obtain ⟨i0, ei0⟩ := isL_v ga0
  obtain rfl : w0 = (.long i0) := Option.some.inj ei0
  obtain ⟨i1, ei1⟩ := isL_v ga1
  obtain rfl : w1 = (.long i1) := Option.some.inj ei1
  obtain ⟨i2, ei2⟩ := is_v gr2
  obtain rfl : w2 = (.int i2) := Option.some.inj ei2
  obtain ⟨n, o, h1, h2, h3, _, L, rfl, ⟨rfl, N⟩, hq⟩ := rm0 l s _ hw tables_1 i0 i1 i2 s.heap s.heap.size (Nat.le_refl _) p e ha hc hk s m _ below hf ((Spec.applies_iff_loose hf).mp happ).1 ⟨rfl, State.Warmed39.refl s, rfl⟩ trivial
  refine ⟨n, _, h1, h2, h3, hpost _ _ _ _ _ _ ⟨Cond.after_iff.mpr rfl, Cond.after_iff.mpr (eq_i res_at (Term.int_eval (1)) rfl), trivial⟩ ⟨hq.1, hq.2.1, (hq.2.2.sift fun y hy => Or.inr (N y hy)).mono (by decide) (by decide)⟩⟩
theorem main_1_1 : Claimed_1_1 := comes_1 fun _ _ _ _ _ _ h hF => ⟨h.1, hF⟩
theorem main_1_2 : Claimed_1_2 := comes_1 fun _ _ _ _ _ _ h hF => ⟨h.2.1, hF⟩
end Jvm.Pilot.@@N@@
namespace Jvm.Pilot.@@N@@
open Jvm Jvm.ClassFile Sem Op Lib Jvm.Free Jvm.Stand Jvm.Pilot.@@N@@.Jvm.D
/-! MADE BY PROGRAM (witnessworld.py) out of the Statement's table words and the real class files: 17 classes; the members and pool entries that the words name. The judged class is class 1, her method 3. -/
namespace start1
open Jvm.ClassFile
def u (s : String) : CpInfo := .utf8 (stringToUtf16 s)
/-- a pool by its gaps: so many unusable entries, then the entry; so many at the end -/
def gap : Nat → List CpInfo → List CpInfo
  | 0, r => r
  | n + 1, r => .unusable :: gap n r
def poolList (es : List (Nat × CpInfo)) (last : Nat) : List CpInfo := es.foldr (fun e r => gap e.1 (e.2 :: r)) (gap last [])
def pool (es : List (Nat × CpInfo)) (last : Nat) : Array CpInfo := ⟨poolList es last⟩
def fileOf (pool : Array CpInfo) (this : Nat) (attrs : Array Attribute := #[]) (ms : Array MethodInfo := #[]) (fl : Nat := 33) (sup : Nat := 0) (ifs : Array Nat := #[]) (fds : Array FieldInfo := #[]) : ClassFile where
  minorVersion := 0
  majorVersion := 65
  constantPool := pool
  accessFlags := fl
  thisClass := this
  superClass := sup
  interfaces := ifs
  fields := fds
  methods := ms
  attributes := attrs
def plain (name : String) (sup : Option ClassId) : Class where
  name := name
  kind := .ordinary
  loader := none
  accessFlags := 33
  super := sup
  interfaces := #[]
  cf := none
  fields := #[]
  methods := #[]
  instanceTypes := #[]
  staticTypes := #[]
  resolved := #[]
  callSites := []
  init := .initialized
  statics := none
  mirror := none

def pool0 : Array CpInfo := pool [(5, u "<init>"), (0, u "()V"), (1, .class_ 10), (1, u "java/lang/Object")] 113

def k0c0 : Code := { maxStack := 0, maxLocals := 1, code := object_method_1_code, exceptionTable := #[], attributes := #[] }
def k0m0 : Method := { name := "<init>", desc := "()V", sig := { parameters := [], returnType := none }, accessFlags := 1, code := some k0c0 }
/-- java/lang/Object -/
def k0 : Class := { plain "java/lang/Object" none with
  accessFlags := 33
  interfaces := #[]
  cf := some (fileOf pool0 8 #[] #[{ accessFlags := 1, nameIndex := 5, descriptorIndex := 6, attributes := #[] }] 33 0 #[] #[])
  fields := #[]
  methods := #[k0m0]
  instanceTypes := #[]
  staticTypes := #[]
  resolved := Array.replicate 124 none
  statics := none }

def pool1 : Array CpInfo := pool [(2, .class_ 4), (0, .nameAndType 5 6), (0, u "java/lang/Object"), (0, u "<init>"), (0, u "()V"), (0, .long 10), (1, .long 100000000000000000), (1, .methodref 12 13), (0, .class_ 14), (0, .nameAndType 15 16), (0, u "com/example/tally_of_atoms/tallyofatoms/NumeralUnscaledHighPinLaw"), (0, u "digit"), (0, u "(JJ)C"), (0, .long 10000000000000000), (1, .long 1000000000000000), (1, .long 100000000000000), (1, .long 10000000000000), (1, .long 1000000000000), (1, .long 100000000000), (1, .long 10000000000), (1, .long 1000000000), (1, .long 100000000), (1, .long 10000000), (1, .long 1000000), (1, .long 100000), (1, .long 10000), (1, .long 1000), (1, .long 100), (3, .long 9223372036854775807), (1, .long 1000000000000000000), (1, .methodref 12 54), (0, .nameAndType 55 56), (0, u "fill"), (0, u "([CIJ)V"), (0, .long 4294967295), (1, .long 232830643), (1, .long 2808348672), (1, .long 9223372036854775808), (1, .class_ 66), (0, u "com/example/tally_of_atoms/tallyofatoms/Numeral"), (0, .methodref 65 3), (0, .methodref 65 69), (0, .nameAndType 70 71), (0, u "scan"), (0, u "([CII)Lcom/example/tally_of_atoms/tallyofatoms/Numeral;"), (0, .methodref 65 73), (0, .nameAndType 74 6), (0, u "negate"), (0, .methodref 65 76), (0, .nameAndType 77 78), (0, u "unscaledHigh"), (0, u "()J"), (0, .methodref 65 80), (0, .nameAndType 81 78), (0, u "unscaledLow"), (0, u "E18"), (0, u "J"), (1, u "MASK32"), (2, u "law"), (0, u "(JJI)Z")] 5

def k1m0 : Method := { name := "<init>", desc := "()V", sig := { parameters := [], returnType := none }, accessFlags := 1, code := none }
def k1c1 : Code := { maxStack := 5, maxLocals := 4, code := method_2_code, exceptionTable := #[], attributes := #[] }
def k1m1 : Method := { name := "digit", desc := "(JJ)C", sig := { parameters := [.long, .long], returnType := some .char }, accessFlags := 10, code := some k1c1 }
def k1c2 : Code := { maxStack := 6, maxLocals := 4, code := method_3_code, exceptionTable := #[], attributes := #[] }
def k1m2 : Method := { name := "fill", desc := "([CIJ)V", sig := { parameters := [(.array .char), .int, .long], returnType := none }, accessFlags := 10, code := some k1c2 }
def k1c3 : Code := { maxStack := 6, maxLocals := 51, code := code, exceptionTable := #[], attributes := #[] }
def k1m3 : Method := { name := "law", desc := "(JJI)Z", sig := { parameters := [.long, .long, .int], returnType := some .boolean }, accessFlags := 9, code := some k1c3 }
/-- com/example/tally_of_atoms/tallyofatoms/NumeralUnscaledHighPinLaw -/
def k1 : Class := { plain "com/example/tally_of_atoms/tallyofatoms/NumeralUnscaledHighPinLaw" (some 0) with
  accessFlags := 49
  interfaces := #[]
  cf := some (fileOf pool1 12 #[] #[{ accessFlags := 1, nameIndex := 5, descriptorIndex := 6, attributes := #[] }, { accessFlags := 10, nameIndex := 15, descriptorIndex := 16, attributes := #[] }, { accessFlags := 10, nameIndex := 55, descriptorIndex := 56, attributes := #[] }, { accessFlags := 9, nameIndex := 88, descriptorIndex := 89, attributes := #[] }] 49 2 #[] #[{ accessFlags := 26, nameIndex := 82, descriptorIndex := 83, attributes := #[] }, { accessFlags := 26, nameIndex := 85, descriptorIndex := 83, attributes := #[] }])
  fields := #[{ name := "E18", type := .long, accessFlags := 26, slot := 0, constantValue := 0 }, { name := "MASK32", type := .long, accessFlags := 26, slot := 1, constantValue := 0 }]
  methods := #[k1m0, k1m1, k1m2, k1m3]
  instanceTypes := #[]
  staticTypes := #[.long, .long]
  resolved := Array.replicate 95 none
  statics := none }

def pool2 : Array CpInfo := pool [(1, .methodref 2 3), (0, .class_ 4), (0, .nameAndType 5 6), (0, u "java/lang/Object"), (0, u "<init>"), (0, u "()V"), (0, .fieldref 8 9), (0, .class_ 10), (0, .nameAndType 11 12), (0, u "com/example/tally_of_atoms/tallyofatoms/Numeral"), (0, u "characters"), (0, u "[C"), (0, .fieldref 8 14), (0, .nameAndType 15 16), (0, u "start"), (0, u "I"), (0, .fieldref 8 18), (0, .nameAndType 19 16), (0, u "special"), (0, .fieldref 8 21), (0, .nameAndType 22 23), (0, u "negative"), (0, u "Z"), (0, .fieldref 8 25), (0, .nameAndType 26 27), (0, u "significand"), (0, u "J"), (0, .fieldref 8 29), (0, .nameAndType 30 27), (0, u "significandHigh"), (0, .fieldref 8 32), (0, .nameAndType 33 16), (0, u "significantDigits"), (0, .fieldref 8 35), (0, .nameAndType 36 16), (0, u "scale"), (0, .fieldref 8 38), (0, .nameAndType 39 16), (0, u "exponentValue"), (0, .methodref 8 41), (0, .nameAndType 42 43), (0, u "readDigits"), (0, u "([CII)I"), (0, .fieldref 8 45), (0, .nameAndType 46 16), (0, u "digits"), (0, .fieldref 8 48), (0, .nameAndType 49 23), (0, u "point"), (0, .fieldref 8 51), (0, .nameAndType 52 23), (0, u "exponent"), (0, .fieldref 8 54), (0, .nameAndType 55 23), (0, u "exponentDigits"), (0, .fieldref 8 57), (0, .nameAndType 58 16), (0, u "end"), (0, .methodref 8 60), (0, .nameAndType 61 62), (0, u "isDigit"), (0, u "(C)Z"), (0, .integer 1000000), (1, .class_ 67), (1, u "java/lang/Math"), (4, u "SPECIALS"), (0, u "[Ljava/lang/String;"), (6, u "scan"), (0, u "([CII)Lcom/example/tally_of_atoms/tallyofatoms/Numeral;"), (4, .long 18446744073709551615), (6, u "SPECIAL_VALUES"), (0, u "[D"), (50, u "unscaledLow"), (0, u "()J"), (11, u "negate"), (14, .long 10), (1, .long 48), (1, .methodref 8 178), (0, .nameAndType 179 180), (0, u "appendTo128Bits"), (0, u "(I)V"), (0, .methodref 65 182), (0, .nameAndType 183 184), (0, u "multiplyHigh"), (0, u "(JJ)J"), (0, .methodref 186 187), (0, .class_ 188), (0, .nameAndType 189 190), (0, u "java/lang/Long"), (0, u "compareUnsigned"), (0, u "(JJ)I"), (14, u "COMPACT_DIGITS"), (2, u "DIGITS_IN_128_BITS"), (1, u "EXPONENT_CAP"), (9, u "unscaledHigh")] 9

def k2c0 : Code := { maxStack := 1, maxLocals := 1, code := prog_102_method_1_code, exceptionTable := #[], attributes := #[] }
def k2m0 : Method := { name := "<init>", desc := "()V", sig := { parameters := [], returnType := none }, accessFlags := 0, code := some k2c0 }
def k2c1 : Code := { maxStack := 4, maxLocals := 9, code := prog_102_method_2_code, exceptionTable := #[], attributes := #[] }
def k2m1 : Method := { name := "scan", desc := "([CII)Lcom/example/tally_of_atoms/tallyofatoms/Numeral;", sig := { parameters := [(.array .char), .int, .int], returnType := some (.object "com/example/tally_of_atoms/tallyofatoms/Numeral") }, accessFlags := 0, code := some k2c1 }
def k2c2 : Code := { maxStack := 2, maxLocals := 1, code := prog_102_method_4_code, exceptionTable := #[], attributes := #[] }
def k2m2 : Method := { name := "negate", desc := "()V", sig := { parameters := [], returnType := none }, accessFlags := 0, code := some k2c2 }
def k2c3 : Code := { maxStack := 6, maxLocals := 1, code := prog_102_method_13_code, exceptionTable := #[], attributes := #[] }
def k2m3 : Method := { name := "unscaledHigh", desc := "()J", sig := { parameters := [], returnType := some .long }, accessFlags := 0, code := some k2c3 }
def k2c4 : Code := { maxStack := 2, maxLocals := 1, code := prog_102_method_14_code, exceptionTable := #[], attributes := #[] }
def k2m4 : Method := { name := "unscaledLow", desc := "()J", sig := { parameters := [], returnType := some .long }, accessFlags := 0, code := some k2c4 }
def k2c5 : Code := { maxStack := 5, maxLocals := 5, code := prog_102_method_24_code, exceptionTable := #[], attributes := #[] }
def k2m5 : Method := { name := "readDigits", desc := "([CII)I", sig := { parameters := [(.array .char), .int, .int], returnType := some .int }, accessFlags := 2, code := some k2c5 }
def k2c6 : Code := { maxStack := 7, maxLocals := 8, code := prog_102_method_25_code, exceptionTable := #[], attributes := #[] }
def k2m6 : Method := { name := "appendTo128Bits", desc := "(I)V", sig := { parameters := [.int], returnType := none }, accessFlags := 2, code := some k2c6 }
def k2c7 : Code := { maxStack := 2, maxLocals := 1, code := prog_102_method_26_code, exceptionTable := #[], attributes := #[] }
def k2m7 : Method := { name := "isDigit", desc := "(C)Z", sig := { parameters := [.char], returnType := some .boolean }, accessFlags := 10, code := some k2c7 }
/-- com/example/tally_of_atoms/tallyofatoms/Numeral -/
def k2 : Class := { plain "com/example/tally_of_atoms/tallyofatoms/Numeral" (some 0) with
  accessFlags := 32
  interfaces := #[]
  cf := some (fileOf pool2 8 #[] #[{ accessFlags := 0, nameIndex := 5, descriptorIndex := 6, attributes := #[] }, { accessFlags := 0, nameIndex := 80, descriptorIndex := 81, attributes := #[] }, { accessFlags := 0, nameIndex := 158, descriptorIndex := 6, attributes := #[] }, { accessFlags := 0, nameIndex := 220, descriptorIndex := 146, attributes := #[] }, { accessFlags := 0, nameIndex := 145, descriptorIndex := 146, attributes := #[] }, { accessFlags := 2, nameIndex := 42, descriptorIndex := 43, attributes := #[] }, { accessFlags := 2, nameIndex := 179, descriptorIndex := 180, attributes := #[] }, { accessFlags := 10, nameIndex := 61, descriptorIndex := 62, attributes := #[] }] 32 2 #[] #[{ accessFlags := 26, nameIndex := 72, descriptorIndex := 73, attributes := #[] }, { accessFlags := 26, nameIndex := 93, descriptorIndex := 94, attributes := #[] }, { accessFlags := 26, nameIndex := 205, descriptorIndex := 16, attributes := #[] }, { accessFlags := 26, nameIndex := 208, descriptorIndex := 16, attributes := #[] }, { accessFlags := 26, nameIndex := 210, descriptorIndex := 16, attributes := #[] }, { accessFlags := 2, nameIndex := 11, descriptorIndex := 12, attributes := #[] }, { accessFlags := 2, nameIndex := 15, descriptorIndex := 16, attributes := #[] }, { accessFlags := 2, nameIndex := 58, descriptorIndex := 16, attributes := #[] }, { accessFlags := 2, nameIndex := 46, descriptorIndex := 16, attributes := #[] }, { accessFlags := 2, nameIndex := 49, descriptorIndex := 23, attributes := #[] }, { accessFlags := 2, nameIndex := 52, descriptorIndex := 23, attributes := #[] }, { accessFlags := 2, nameIndex := 55, descriptorIndex := 23, attributes := #[] }, { accessFlags := 2, nameIndex := 19, descriptorIndex := 16, attributes := #[] }, { accessFlags := 2, nameIndex := 22, descriptorIndex := 23, attributes := #[] }, { accessFlags := 2, nameIndex := 26, descriptorIndex := 27, attributes := #[] }, { accessFlags := 2, nameIndex := 30, descriptorIndex := 27, attributes := #[] }, { accessFlags := 2, nameIndex := 33, descriptorIndex := 16, attributes := #[] }, { accessFlags := 2, nameIndex := 36, descriptorIndex := 16, attributes := #[] }, { accessFlags := 2, nameIndex := 39, descriptorIndex := 16, attributes := #[] }])
  fields := #[{ name := "SPECIALS", type := (.array (.object "java/lang/String")), accessFlags := 26, slot := 0, constantValue := 0 }, { name := "SPECIAL_VALUES", type := (.array .double), accessFlags := 26, slot := 1, constantValue := 0 }, { name := "COMPACT_DIGITS", type := .int, accessFlags := 26, slot := 2, constantValue := 0 }, { name := "DIGITS_IN_128_BITS", type := .int, accessFlags := 26, slot := 3, constantValue := 0 }, { name := "EXPONENT_CAP", type := .int, accessFlags := 26, slot := 4, constantValue := 0 }, { name := "characters", type := (.array .char), accessFlags := 2, slot := 0, constantValue := 0 }, { name := "start", type := .int, accessFlags := 2, slot := 1, constantValue := 0 }, { name := "end", type := .int, accessFlags := 2, slot := 2, constantValue := 0 }, { name := "digits", type := .int, accessFlags := 2, slot := 3, constantValue := 0 }, { name := "point", type := .boolean, accessFlags := 2, slot := 4, constantValue := 0 }, { name := "exponent", type := .boolean, accessFlags := 2, slot := 5, constantValue := 0 }, { name := "exponentDigits", type := .boolean, accessFlags := 2, slot := 6, constantValue := 0 }, { name := "special", type := .int, accessFlags := 2, slot := 7, constantValue := 0 }, { name := "negative", type := .boolean, accessFlags := 2, slot := 8, constantValue := 0 }, { name := "significand", type := .long, accessFlags := 2, slot := 9, constantValue := 0 }, { name := "significandHigh", type := .long, accessFlags := 2, slot := 10, constantValue := 0 }, { name := "significantDigits", type := .int, accessFlags := 2, slot := 11, constantValue := 0 }, { name := "scale", type := .int, accessFlags := 2, slot := 12, constantValue := 0 }, { name := "exponentValue", type := .int, accessFlags := 2, slot := 13, constantValue := 0 }]
  methods := #[k2m0, k2m1, k2m2, k2m3, k2m4, k2m5, k2m6, k2m7]
  instanceTypes := #[(.array .char), .int, .int, .int, .boolean, .boolean, .boolean, .int, .boolean, .long, .long, .int, .int, .int]
  staticTypes := #[(.array (.object "java/lang/String")), (.array .double), .int, .int, .int]
  resolved := Array.replicate 230 none
  statics := none }

def pool3 : Array CpInfo := pool [(1, .class_ 2), (0, u "java/lang/Math"), (1, .class_ 6), (1, u "java/lang/Object"), (0, u "<init>"), (0, u "()V"), (89, .class_ 100), (1, u "java/lang/Math$RandomNumberGeneratorHolder"), (20, u "(JJ)J"), (16, .long 4294967295), (3, u "multiplyHigh"), (29, u "negativeZeroFloatBits"), (0, u "J"), (2, u "negativeZeroDoubleBits"), (68, u "$assertionsDisabled"), (0, u "Z"), (91, u "twoToTheDoubleScaleDown"), (0, u "D"), (4, u "twoToTheDoubleScaleUp"), (9, u "E"), (3, u "PI"), (2, u "TAU"), (2, u "DEGREES_TO_RADIANS"), (0, u "RADIANS_TO_DEGREES")] 94

def k3m0 : Method := { name := "<init>", desc := "()V", sig := { parameters := [], returnType := none }, accessFlags := 2, code := none }
def k3c1 : Code := { maxStack := 6, maxLocals := 20, code := jdk_29_method_45_code, exceptionTable := #[], attributes := #[] }
def k3m1 : Method := { name := "multiplyHigh", desc := "(JJ)J", sig := { parameters := [.long, .long], returnType := some .long }, accessFlags := 9, code := some k3c1 }
/-- java/lang/Math -/
def k3 : Class := { plain "java/lang/Math" (some 0) with
  accessFlags := 49
  interfaces := #[]
  cf := some (fileOf pool3 1 #[.nestMembers #[98]] #[{ accessFlags := 2, nameIndex := 7, descriptorIndex := 8, attributes := #[] }, { accessFlags := 9, nameIndex := 142, descriptorIndex := 121, attributes := #[] }] 49 4 #[] #[{ accessFlags := 25, nameIndex := 354, descriptorIndex := 339, attributes := #[] }, { accessFlags := 25, nameIndex := 358, descriptorIndex := 339, attributes := #[] }, { accessFlags := 25, nameIndex := 361, descriptorIndex := 339, attributes := #[] }, { accessFlags := 26, nameIndex := 364, descriptorIndex := 339, attributes := #[] }, { accessFlags := 26, nameIndex := 365, descriptorIndex := 339, attributes := #[] }, { accessFlags := 26, nameIndex := 172, descriptorIndex := 173, attributes := #[] }, { accessFlags := 26, nameIndex := 176, descriptorIndex := 173, attributes := #[] }, { accessFlags := 8, nameIndex := 344, descriptorIndex := 339, attributes := #[] }, { accessFlags := 8, nameIndex := 338, descriptorIndex := 339, attributes := #[] }, { accessFlags := 4120, nameIndex := 245, descriptorIndex := 246, attributes := #[] }])
  fields := #[{ name := "E", type := .double, accessFlags := 25, slot := 0, constantValue := 0 }, { name := "PI", type := .double, accessFlags := 25, slot := 1, constantValue := 0 }, { name := "TAU", type := .double, accessFlags := 25, slot := 2, constantValue := 0 }, { name := "DEGREES_TO_RADIANS", type := .double, accessFlags := 26, slot := 3, constantValue := 0 }, { name := "RADIANS_TO_DEGREES", type := .double, accessFlags := 26, slot := 4, constantValue := 0 }, { name := "negativeZeroFloatBits", type := .long, accessFlags := 26, slot := 5, constantValue := 0 }, { name := "negativeZeroDoubleBits", type := .long, accessFlags := 26, slot := 6, constantValue := 0 }, { name := "twoToTheDoubleScaleUp", type := .double, accessFlags := 8, slot := 7, constantValue := 0 }, { name := "twoToTheDoubleScaleDown", type := .double, accessFlags := 8, slot := 8, constantValue := 0 }, { name := "$assertionsDisabled", type := .boolean, accessFlags := 4120, slot := 9, constantValue := 0 }]
  methods := #[k3m0, k3m1]
  instanceTypes := #[]
  staticTypes := #[.double, .double, .double, .double, .double, .long, .long, .double, .double, .boolean]
  resolved := Array.replicate 460 none
  statics := none }

def pool4 : Array CpInfo := pool [(1, .class_ 2), (0, u "java/io/Serializable"), (0, .class_ 4), (0, u "java/lang/Object")] 2

/-- java/io/Serializable -/
def k4 : Class := { plain "java/io/Serializable" (some 0) with
  accessFlags := 1537
  interfaces := #[]
  cf := some (fileOf pool4 1 #[] #[] 1537 3 #[] #[])
  fields := #[]
  methods := #[]
  instanceTypes := #[]
  staticTypes := #[]
  resolved := Array.replicate 7 none
  statics := none }

def pool5 : Array CpInfo := pool [(2, .class_ 4), (1, u "java/lang/Object"), (0, u "<init>"), (0, u "()V"), (1, .class_ 10), (1, u "java/lang/Number"), (2, .class_ 14), (0, u "java/io/Serializable"), (0, u "serialVersionUID"), (0, u "J")] 20

def k5m0 : Method := { name := "<init>", desc := "()V", sig := { parameters := [], returnType := none }, accessFlags := 1, code := none }
/-- java/lang/Number -/
def k5 : Class := { plain "java/lang/Number" (some 0) with
  accessFlags := 1057
  interfaces := #[4]
  cf := some (fileOf pool5 8 #[] #[{ accessFlags := 1, nameIndex := 5, descriptorIndex := 6, attributes := #[] }] 1057 2 #[13] #[{ accessFlags := 26, nameIndex := 15, descriptorIndex := 16, attributes := #[] }])
  fields := #[{ name := "serialVersionUID", type := .long, accessFlags := 26, slot := 0, constantValue := 0 }]
  methods := #[k5m0]
  instanceTypes := #[]
  staticTypes := #[.long]
  resolved := Array.replicate 37 none
  statics := none }

def pool6 : Array CpInfo := pool [(1, .class_ 2), (0, u "java/lang/Comparable"), (0, .class_ 4), (0, u "java/lang/Object")] 7

/-- java/lang/Comparable -/
def k6 : Class := { plain "java/lang/Comparable" (some 0) with
  accessFlags := 1537
  interfaces := #[]
  cf := some (fileOf pool6 1 #[] #[] 1537 3 #[] #[])
  fields := #[]
  methods := #[]
  instanceTypes := #[]
  staticTypes := #[]
  resolved := Array.replicate 12 none
  statics := none }

def pool7 : Array CpInfo := pool [(1, .class_ 2), (0, u "java/lang/constant/Constable"), (0, .class_ 4), (0, u "java/lang/Object")] 6

/-- java/lang/constant/Constable -/
def k7 : Class := { plain "java/lang/constant/Constable" (some 0) with
  accessFlags := 1537
  interfaces := #[]
  cf := some (fileOf pool7 1 #[] #[] 1537 3 #[] #[])
  fields := #[]
  methods := #[]
  instanceTypes := #[]
  staticTypes := #[]
  resolved := Array.replicate 11 none
  statics := none }

def pool8 : Array CpInfo := pool [(1, .class_ 2), (0, u "java/lang/constant/ConstantDesc"), (0, .class_ 4), (0, u "java/lang/Object")] 32

/-- java/lang/constant/ConstantDesc -/
def k8 : Class := { plain "java/lang/constant/ConstantDesc" (some 0) with
  accessFlags := 1537
  interfaces := #[]
  cf := some (fileOf pool8 1 #[] #[] 1537 3 #[] #[])
  fields := #[]
  methods := #[]
  instanceTypes := #[]
  staticTypes := #[]
  resolved := Array.replicate 37 none
  statics := none }

def pool9 : Array CpInfo := pool [(1, .class_ 2), (0, u "java/lang/Long"), (165, .long 9223372036854775808), (66, .class_ 237), (1, u "java/lang/Long$LongCache"), (33, .class_ 272), (0, u "java/lang/Number"), (2, u "value"), (0, u "J"), (25, .methodref 1 303), (0, .nameAndType 304 305), (0, u "compare"), (0, u "(JJ)I"), (55, u "TYPE"), (0, u "Ljava/lang/Class;"), (0, .class_ 364), (0, u "java/lang/Comparable"), (0, .class_ 366), (0, u "java/lang/constant/Constable"), (0, .class_ 368), (0, u "java/lang/constant/ConstantDesc"), (0, u "MIN_VALUE"), (1, u "MAX_VALUE"), (4, u "SIZE"), (0, u "I"), (1, u "BYTES"), (1, u "serialVersionUID"), (87, u "compareUnsigned")] 54

def k9c0 : Code := { maxStack := 4, maxLocals := 4, code := jdk_35_method_42_code, exceptionTable := #[], attributes := #[] }
def k9m0 : Method := { name := "compare", desc := "(JJ)I", sig := { parameters := [.long, .long], returnType := some .int }, accessFlags := 9, code := some k9c0 }
def k9c1 : Code := { maxStack := 6, maxLocals := 4, code := jdk_35_method_43_code, exceptionTable := #[], attributes := #[] }
def k9m1 : Method := { name := "compareUnsigned", desc := "(JJ)I", sig := { parameters := [.long, .long], returnType := some .int }, accessFlags := 9, code := some k9c1 }
/-- java/lang/Long -/
def k9 : Class := { plain "java/lang/Long" (some 5) with
  accessFlags := 49
  interfaces := #[6, 7, 8]
  cf := some (fileOf pool9 1 #[.nestMembers #[235]] #[{ accessFlags := 9, nameIndex := 304, descriptorIndex := 305, attributes := #[] }, { accessFlags := 9, nameIndex := 469, descriptorIndex := 305, attributes := #[] }] 49 271 #[363, 365, 367] #[{ accessFlags := 25, nameIndex := 369, descriptorIndex := 276, attributes := #[] }, { accessFlags := 25, nameIndex := 371, descriptorIndex := 276, attributes := #[] }, { accessFlags := 25, nameIndex := 361, descriptorIndex := 362, attributes := #[] }, { accessFlags := 18, nameIndex := 275, descriptorIndex := 276, attributes := #[] }, { accessFlags := 25, nameIndex := 376, descriptorIndex := 377, attributes := #[] }, { accessFlags := 25, nameIndex := 379, descriptorIndex := 377, attributes := #[] }, { accessFlags := 26, nameIndex := 381, descriptorIndex := 276, attributes := #[] }])
  fields := #[{ name := "MIN_VALUE", type := .long, accessFlags := 25, slot := 0, constantValue := 0 }, { name := "MAX_VALUE", type := .long, accessFlags := 25, slot := 1, constantValue := 0 }, { name := "TYPE", type := (.object "java/lang/Class"), accessFlags := 25, slot := 2, constantValue := 0 }, { name := "value", type := .long, accessFlags := 18, slot := 0, constantValue := 0 }, { name := "SIZE", type := .int, accessFlags := 25, slot := 3, constantValue := 0 }, { name := "BYTES", type := .int, accessFlags := 25, slot := 4, constantValue := 0 }, { name := "serialVersionUID", type := .long, accessFlags := 26, slot := 5, constantValue := 0 }]
  methods := #[k9m0, k9m1]
  instanceTypes := #[.long]
  staticTypes := #[.long, .long, (.object "java/lang/Class"), .int, .int, .long]
  resolved := Array.replicate 524 none
  statics := none }

def pool10 : Array CpInfo := pool [(1, u "java/lang/Cloneable"), (0, .class_ 1), (0, u "java/lang/Object"), (0, .class_ 3)] 3

/-- java/lang/Cloneable -/
def k10 : Class := { plain "java/lang/Cloneable" (some 0) with
  accessFlags := 1537
  interfaces := #[]
  cf := some (fileOf pool10 2 #[] #[] 1537 4 #[] #[])
  fields := #[]
  methods := #[]
  instanceTypes := #[]
  staticTypes := #[]
  resolved := Array.replicate 8 none
  statics := none }

/-- the primitive byte -/
def k11 : Class := { plain "byte" none with kind := .primitive 'B', accessFlags := 0x411 }
/-- [B -/
def k12 : Class := { plain "[B" (some 0) with kind := .array 11 .byte, interfaces := #[10, 4], accessFlags := 1041 }

/-- the primitive char -/
def k13 : Class := { plain "char" none with kind := .primitive 'C', accessFlags := 0x411 }
/-- [C -/
def k14 : Class := { plain "[C" (some 0) with kind := .array 13 .char, interfaces := #[10, 4], accessFlags := 1041 }

/-- the primitive int -/
def k15 : Class := { plain "int" none with kind := .primitive 'I', accessFlags := 0x411 }
/-- [I -/
def k16 : Class := { plain "[I" (some 0) with kind := .array 15 .int, interfaces := #[10, 4], accessFlags := 1041 }

def heap : Heap := #[]
def classes : Array Class := #[k0, k1, k2, k3, k4, k5, k6, k7, k8, k9, k10, k11, k12, k13, k14, k15, k16]
def interned : List (Array UInt16 × Addr) := []
def slotsUsed : Nat := 0
def theMethod : MethodId := ⟨1, 3⟩
def args0 : Array Value := #[.long 5, .long 5, .int 5]
def aboutOver (below : List Frame) : State where
  vm := { classes := classes, interned := interned.toArray }
  heap := heap
  slotsUsed := slotsUsed
  threads := #[{ frames := .invoking theMethod args0 :: below }]
def below0 : List Frame := [.native { method := ⟨0, 0⟩, args := #[] }]
def about1 : State := aboutOver below0
def p0 : Program := .bare "" "" ""
def e0 : Env := launch0.env 0 0 0
theorem w_frames : about1.frames = Frame.invoking theMethod args0 :: below0 := rfl
set_option maxRecDepth 65536 in
theorem w_args : argsFit about1.vm theMethod args0 = true := by decide +kernel
set_option maxRecDepth 65536 in
theorem w_heap : heapFits about1 = true := by decide +kernel
set_option maxRecDepth 65536 in
theorem w_runnable : about1.curStatus? = some .runnable := by decide +kernel
set_option maxRecDepth 65536 in
theorem w_alone : about1.alone = true := by decide +kernel
set_option maxRecDepth 65536 in
theorem w_named : about1.methodNamed? x = some theMethod := by decide +kernel
set_option maxRecDepth 65536 in
theorem w_hears : about1.hears theMethod below0 = true := by decide +kernel
set_option maxRecDepth 65536 in
theorem w_ripe : about1.ripe theMethod args0 below0 = true := by decide +kernel
theorem w_running : about1.status = .running := rfl
set_option maxRecDepth 65536 in
theorem w_room : about1.hasRoom e0.platform room_1 = true :=
  launch0.hasRoom_least _ room_1 (by decide +kernel) (by decide +kernel) (by decide +kernel) (by decide +kernel) (by decide +kernel) (by decide +kernel)
theorem allAtoms_all (ts : List Jvm.Cond) (a : Array Jvm.Value) (st : Jvm.State) : (allAtoms ts).before a st = ts.all (fun c => c.before a st) := by
  induction ts with
  | nil => rfl
  | cons c t ih =>
    show (Jvm.Cond.and c (allAtoms t)).before a st = _
    rw [Jvm.Cond.before_and, ih, List.all_cons]
def words1 : List Jvm.Cond := Jvm.Cond.code x code maxLocals ret :: tables_1
/-- a 'code' word, met by the world's own term for the bytes: nothing is compared byte by byte -/
theorem code_word {y : MethodName} {bytes : ByteArray} {mx : Nat} {rt : Option FieldType} {a : Array Value} {s : State} {m : MethodId} {meth : Method} {c : Code} (h1 : s.methodNamed? y = some m) (h2 : s.vm.method? m = some meth) (h3 : meth.code = some c) (h4 : c.code = bytes)
    (h5 : (c.maxLocals == mx && c.exceptionTable.isEmpty && decide (c.maxStack ≤ mostOperands) && decide (meth.sig.returnType = rt) && !meth.locks && decide (parseMethodDescriptor y.desc = some meth.sig)) = true) : (Jvm.Cond.code y bytes mx rt).before a s = true := by
  simp only [Bool.and_eq_true, beq_iff_eq, Bool.not_eq_true', decide_eq_true_eq] at h5
  obtain ⟨⟨⟨⟨⟨g1, g2⟩, g3⟩, g4⟩, g5⟩, g6⟩ := h5
  simp [Cond.before, Cond.holds, Cond.value, h1, h2, h3, h4, g1, g2, g3, g4, g5, g6]
def isCode : Jvm.Cond → Bool
  | .code _ _ _ _ => true
  | _ => false
theorem all_split {L : List Jvm.Cond} {P : Jvm.Cond → Bool} (h1 : L.all (fun c => isCode c || P c) = true) (h2 : ∀ c ∈ L.filter isCode, P c = true) : L.all P = true := by
  refine List.all_eq_true.mpr fun c hc => ?_
  have h := List.all_eq_true.mp h1 c hc
  rcases Bool.eq_false_or_eq_true (isCode c) with hi | hi
  · exact h2 c (List.mem_filter.mpr ⟨hc, hi⟩)
  · simpa [hi] using h
set_option maxRecDepth 65536 in
theorem w_c0 : (Jvm.Cond.code x code maxLocals ret).before args0 about1 = true := code_word (m := ⟨1, 3⟩) (meth := k1m3) (c := k1c3) (by decide +kernel) rfl rfl rfl (by decide +kernel)
set_option maxRecDepth 65536 in
theorem w_c1 : (Jvm.Cond.code ({ cls := "com/example/tally_of_atoms/tallyofatoms/NumeralUnscaledHighPinLaw", name := "fill", desc := "([CIJ)V" } : Jvm.MethodName) method_3_code (4 : Nat) (Option.none : Option Jvm.ClassFile.FieldType)).before args0 about1 = true := code_word (m := ⟨1, 2⟩) (meth := k1m2) (c := k1c2) (by decide +kernel) rfl rfl rfl (by decide +kernel)
set_option maxRecDepth 65536 in
theorem w_c2 : (Jvm.Cond.code ({ cls := "com/example/tally_of_atoms/tallyofatoms/NumeralUnscaledHighPinLaw", name := "digit", desc := "(JJ)C" } : Jvm.MethodName) method_2_code (4 : Nat) (Option.some Jvm.ClassFile.FieldType.char)).before args0 about1 = true := code_word (m := ⟨1, 1⟩) (meth := k1m1) (c := k1c1) (by decide +kernel) rfl rfl rfl (by decide +kernel)
set_option maxRecDepth 65536 in
theorem w_c3 : (Jvm.Cond.code ({ cls := "com/example/tally_of_atoms/tallyofatoms/Numeral", name := "<init>", desc := "()V" } : Jvm.MethodName) prog_102_method_1_code (1 : Nat) (Option.none : Option Jvm.ClassFile.FieldType)).before args0 about1 = true := code_word (m := ⟨2, 0⟩) (meth := k2m0) (c := k2c0) (by decide +kernel) rfl rfl rfl (by decide +kernel)
set_option maxRecDepth 65536 in
theorem w_c4 : (Jvm.Cond.code ({ cls := "java/lang/Object", name := "<init>", desc := "()V" } : Jvm.MethodName) object_method_1_code (1 : Nat) (Option.none : Option Jvm.ClassFile.FieldType)).before args0 about1 = true := code_word (m := ⟨0, 0⟩) (meth := k0m0) (c := k0c0) (by decide +kernel) rfl rfl rfl (by decide +kernel)
set_option maxRecDepth 65536 in
theorem w_c5 : (Jvm.Cond.code ({ cls := "com/example/tally_of_atoms/tallyofatoms/Numeral", name := "scan", desc := "([CII)Lcom/example/tally_of_atoms/tallyofatoms/Numeral;" } : Jvm.MethodName) prog_102_method_2_code (9 : Nat) (Option.some (Jvm.ClassFile.FieldType.object "com/example/tally_of_atoms/tallyofatoms/Numeral"))).before args0 about1 = true := code_word (m := ⟨2, 1⟩) (meth := k2m1) (c := k2c1) (by decide +kernel) rfl rfl rfl (by decide +kernel)
set_option maxRecDepth 65536 in
theorem w_c6 : (Jvm.Cond.code ({ cls := "com/example/tally_of_atoms/tallyofatoms/Numeral", name := "readDigits", desc := "([CII)I" } : Jvm.MethodName) prog_102_method_24_code (5 : Nat) (Option.some Jvm.ClassFile.FieldType.int)).before args0 about1 = true := code_word (m := ⟨2, 5⟩) (meth := k2m5) (c := k2c5) (by decide +kernel) rfl rfl rfl (by decide +kernel)
set_option maxRecDepth 65536 in
theorem w_c7 : (Jvm.Cond.code ({ cls := "com/example/tally_of_atoms/tallyofatoms/Numeral", name := "isDigit", desc := "(C)Z" } : Jvm.MethodName) prog_102_method_26_code (1 : Nat) (Option.some Jvm.ClassFile.FieldType.boolean)).before args0 about1 = true := code_word (m := ⟨2, 7⟩) (meth := k2m7) (c := k2c7) (by decide +kernel) rfl rfl rfl (by decide +kernel)
set_option maxRecDepth 65536 in
theorem w_c8 : (Jvm.Cond.code ({ cls := "com/example/tally_of_atoms/tallyofatoms/Numeral", name := "appendTo128Bits", desc := "(I)V" } : Jvm.MethodName) prog_102_method_25_code (8 : Nat) (Option.none : Option Jvm.ClassFile.FieldType)).before args0 about1 = true := code_word (m := ⟨2, 6⟩) (meth := k2m6) (c := k2c6) (by decide +kernel) rfl rfl rfl (by decide +kernel)
set_option maxRecDepth 65536 in
theorem w_c9 : (Jvm.Cond.code ({ cls := "java/lang/Math", name := "multiplyHigh", desc := "(JJ)J" } : Jvm.MethodName) jdk_29_method_45_code (20 : Nat) (Option.some Jvm.ClassFile.FieldType.long)).before args0 about1 = true := code_word (m := ⟨3, 1⟩) (meth := k3m1) (c := k3c1) (by decide +kernel) rfl rfl rfl (by decide +kernel)
set_option maxRecDepth 65536 in
theorem w_c10 : (Jvm.Cond.code ({ cls := "java/lang/Long", name := "compareUnsigned", desc := "(JJ)I" } : Jvm.MethodName) jdk_35_method_43_code (4 : Nat) (Option.some Jvm.ClassFile.FieldType.int)).before args0 about1 = true := code_word (m := ⟨9, 1⟩) (meth := k9m1) (c := k9c1) (by decide +kernel) rfl rfl rfl (by decide +kernel)
set_option maxRecDepth 65536 in
theorem w_c11 : (Jvm.Cond.code ({ cls := "java/lang/Long", name := "compare", desc := "(JJ)I" } : Jvm.MethodName) jdk_35_method_42_code (4 : Nat) (Option.some Jvm.ClassFile.FieldType.int)).before args0 about1 = true := code_word (m := ⟨9, 0⟩) (meth := k9m0) (c := k9c0) (by decide +kernel) rfl rfl rfl (by decide +kernel)
set_option maxRecDepth 65536 in
theorem w_c12 : (Jvm.Cond.code ({ cls := "com/example/tally_of_atoms/tallyofatoms/Numeral", name := "unscaledHigh", desc := "()J" } : Jvm.MethodName) prog_102_method_13_code (1 : Nat) (Option.some Jvm.ClassFile.FieldType.long)).before args0 about1 = true := code_word (m := ⟨2, 3⟩) (meth := k2m3) (c := k2c3) (by decide +kernel) rfl rfl rfl (by decide +kernel)
set_option maxRecDepth 65536 in
theorem w_c13 : (Jvm.Cond.code ({ cls := "com/example/tally_of_atoms/tallyofatoms/Numeral", name := "unscaledLow", desc := "()J" } : Jvm.MethodName) prog_102_method_14_code (1 : Nat) (Option.some Jvm.ClassFile.FieldType.long)).before args0 about1 = true := code_word (m := ⟨2, 4⟩) (meth := k2m4) (c := k2c4) (by decide +kernel) rfl rfl rfl (by decide +kernel)
set_option maxRecDepth 65536 in
theorem w_c14 : (Jvm.Cond.code ({ cls := "com/example/tally_of_atoms/tallyofatoms/Numeral", name := "negate", desc := "()V" } : Jvm.MethodName) prog_102_method_4_code (1 : Nat) (Option.none : Option Jvm.ClassFile.FieldType)).before args0 about1 = true := code_word (m := ⟨2, 2⟩) (meth := k2m2) (c := k2c2) (by decide +kernel) rfl rfl rfl (by decide +kernel)
def codes1 : List Jvm.Cond := [Jvm.Cond.code x code maxLocals ret, Jvm.Cond.code ({ cls := "com/example/tally_of_atoms/tallyofatoms/NumeralUnscaledHighPinLaw", name := "fill", desc := "([CIJ)V" } : Jvm.MethodName) method_3_code (4 : Nat) (Option.none : Option Jvm.ClassFile.FieldType), Jvm.Cond.code ({ cls := "com/example/tally_of_atoms/tallyofatoms/NumeralUnscaledHighPinLaw", name := "digit", desc := "(JJ)C" } : Jvm.MethodName) method_2_code (4 : Nat) (Option.some Jvm.ClassFile.FieldType.char), Jvm.Cond.code ({ cls := "com/example/tally_of_atoms/tallyofatoms/Numeral", name := "<init>", desc := "()V" } : Jvm.MethodName) prog_102_method_1_code (1 : Nat) (Option.none : Option Jvm.ClassFile.FieldType), Jvm.Cond.code ({ cls := "java/lang/Object", name := "<init>", desc := "()V" } : Jvm.MethodName) object_method_1_code (1 : Nat) (Option.none : Option Jvm.ClassFile.FieldType), Jvm.Cond.code ({ cls := "com/example/tally_of_atoms/tallyofatoms/Numeral", name := "scan", desc := "([CII)Lcom/example/tally_of_atoms/tallyofatoms/Numeral;" } : Jvm.MethodName) prog_102_method_2_code (9 : Nat) (Option.some (Jvm.ClassFile.FieldType.object "com/example/tally_of_atoms/tallyofatoms/Numeral")), Jvm.Cond.code ({ cls := "com/example/tally_of_atoms/tallyofatoms/Numeral", name := "readDigits", desc := "([CII)I" } : Jvm.MethodName) prog_102_method_24_code (5 : Nat) (Option.some Jvm.ClassFile.FieldType.int), Jvm.Cond.code ({ cls := "com/example/tally_of_atoms/tallyofatoms/Numeral", name := "isDigit", desc := "(C)Z" } : Jvm.MethodName) prog_102_method_26_code (1 : Nat) (Option.some Jvm.ClassFile.FieldType.boolean), Jvm.Cond.code ({ cls := "com/example/tally_of_atoms/tallyofatoms/Numeral", name := "appendTo128Bits", desc := "(I)V" } : Jvm.MethodName) prog_102_method_25_code (8 : Nat) (Option.none : Option Jvm.ClassFile.FieldType), Jvm.Cond.code ({ cls := "java/lang/Math", name := "multiplyHigh", desc := "(JJ)J" } : Jvm.MethodName) jdk_29_method_45_code (20 : Nat) (Option.some Jvm.ClassFile.FieldType.long), Jvm.Cond.code ({ cls := "java/lang/Long", name := "compareUnsigned", desc := "(JJ)I" } : Jvm.MethodName) jdk_35_method_43_code (4 : Nat) (Option.some Jvm.ClassFile.FieldType.int), Jvm.Cond.code ({ cls := "java/lang/Long", name := "compare", desc := "(JJ)I" } : Jvm.MethodName) jdk_35_method_42_code (4 : Nat) (Option.some Jvm.ClassFile.FieldType.int), Jvm.Cond.code ({ cls := "com/example/tally_of_atoms/tallyofatoms/Numeral", name := "unscaledHigh", desc := "()J" } : Jvm.MethodName) prog_102_method_13_code (1 : Nat) (Option.some Jvm.ClassFile.FieldType.long), Jvm.Cond.code ({ cls := "com/example/tally_of_atoms/tallyofatoms/Numeral", name := "unscaledLow", desc := "()J" } : Jvm.MethodName) prog_102_method_14_code (1 : Nat) (Option.some Jvm.ClassFile.FieldType.long), Jvm.Cond.code ({ cls := "com/example/tally_of_atoms/tallyofatoms/Numeral", name := "negate", desc := "()V" } : Jvm.MethodName) prog_102_method_4_code (1 : Nat) (Option.none : Option Jvm.ClassFile.FieldType)]
set_option maxRecDepth 65536 in
theorem codes_eq : words1.filter isCode = codes1 := rfl
theorem w_codes : ∀ c ∈ words1.filter isCode, c.before args0 about1 = true := by
  rw [codes_eq]
  intro c hc
  simp only [codes1, List.mem_cons, List.not_mem_nil, or_false] at hc
  rcases hc with rfl | rfl | rfl | rfl | rfl | rfl | rfl | rfl | rfl | rfl | rfl | rfl | rfl | rfl | rfl
  · exact w_c0
  · exact w_c1
  · exact w_c2
  · exact w_c3
  · exact w_c4
  · exact w_c5
  · exact w_c6
  · exact w_c7
  · exact w_c8
  · exact w_c9
  · exact w_c10
  · exact w_c11
  · exact w_c12
  · exact w_c13
  · exact w_c14
set_option maxRecDepth 65536 in
theorem w_t1 : (words1.take 24).all (fun c => isCode c || c.before args0 about1) = true := by decide +kernel
set_option maxRecDepth 65536 in
theorem w_t2 : ((words1.drop 24).take 24).all (fun c => isCode c || c.before args0 about1) = true := by decide +kernel
set_option maxRecDepth 65536 in
theorem w_t3 : (((words1.drop 24).drop 24).take 24).all (fun c => isCode c || c.before args0 about1) = true := by decide +kernel
set_option maxRecDepth 65536 in
theorem w_t4 : ((((words1.drop 24).drop 24).drop 24).take 24).all (fun c => isCode c || c.before args0 about1) = true := by decide +kernel
set_option maxRecDepth 65536 in
theorem w_t5 : ((((words1.drop 24).drop 24).drop 24).drop 24).all (fun c => isCode c || c.before args0 about1) = true := by decide +kernel
theorem w_tables : (allAtoms (Jvm.Cond.code x code maxLocals ret :: tables_1)).before args0 about1 = true := by
  rw [allAtoms_all]
  show words1.all (fun c => c.before args0 about1) = true
  refine all_split ?_ w_codes
  rw [← List.take_append_drop 24 words1, List.all_append, w_t1, ← List.take_append_drop 24 (words1.drop 24), List.all_append, w_t2, ← List.take_append_drop 24 ((words1.drop 24).drop 24), List.all_append, w_t3, ← List.take_append_drop 24 (((words1.drop 24).drop 24).drop 24), List.all_append, w_t4, w_t5]
  rfl
set_option maxRecDepth 65536 in
theorem w_case : (Jvm.Cond.and given_1 narrow_1).before args0 about1 = true := by decide +kernel
theorem w_applies : (headSpec (Jvm.Cond.code x code maxLocals ret :: tables_1) room_1).applies x e0.platform about1 = true :=
  (Spec.applies_iff w_frames).mpr ⟨w_running, w_runnable, w_alone, w_named, w_hears, w_ripe, w_room, w_tables⟩
theorem atStart : AtStart classFile x code maxLocals ret World_1 tables_1 room_1 Calls_1 rest_1 Pre_1 launch0 p0 e0 about1 theMethod args0 below0 :=
  ⟨lists_1, trivial, launch0.admits_env _ _ _, launch0.least_env, fairChoices_fair.cas, fairChoices_fair.clock, w_frames, w_args, w_heap, w_applies, trivial, trivial, w_case⟩
end start1
theorem witness_1 : WitnessClaimed_1 := ⟨start1.p0, start1.e0, start1.about1, start1.theMethod, start1.args0, start1.below0, start1.atStart⟩
end Jvm.Pilot.@@N@@
