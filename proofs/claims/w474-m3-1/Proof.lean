import JvmDerived
import JvmDerived.Pilot.@@N@@Statement
import JvmDerived.Pilot.@@N@@Code
set_option linter.unusedVariables false
set_option linter.unusedSimpArgs false
namespace Jvm.Pilot.@@N@@
open Jvm Jvm.ClassFile Sem Op Lib Jvm.Free Jvm.Stand Jvm.LawKit Jvm.RoadKit Bundle Jvm.Pilot.@@N@@.Jvm.D
section Own
variable {p : Program} {l : Launch} {e : Env} {R : Room} {s : State} {m : MethodId} {args : Array Value} {below : List Frame} {meth : Method} {c : Code} {T : State} {locs : List Loc} {cells slots : Nat} {Z : State} {a0 : Array Value} {h : Heap} {P : State → Outcome → Prop} {pc : Nat} {Ls : Array Slot} {rest st : List Value}
/-- from T, with f on top, the run comes to an end of which P holds -/
def own_Go (p : Program) (e : Env) (below : List Frame) (P : State → Outcome → Prop) (T : State) (f : JFrame) : Prop :=
  ∃ t o, Steps p.tables e below (T.setTop f) t ∧ t.status = .running ∧ Ended t below o ∧ P t o
theorem own_by {T' : State} {f f' : JFrame} (st : ∀ t, Steps p.tables e below (T'.setTop f') t → Steps p.tables e below (T.setTop f) t) (k : own_Go p e below P T' f') : own_Go p e below P T f := by
  obtain ⟨t, o, h1, h2⟩ := k
  exact ⟨t, o, st _ h1, h2⟩
/-- a method's end: what it returns, the heap, what it wrote -/
def own_Ends (s : State) (rm : Room) (Q : Option Value → Heap → List Loc → Prop) (t : State) (o : Outcome) : Prop := ∃ v L, o = .returned v ∧ Q v t.heap L ∧ FrameEnd s o t L rm.cells rm.slots
/-- a body's contract, at one list of arguments and one heap -/
def own_Ct (l : Launch) (Z : State) (y : MethodName) (bytes : ByteArray) (mx : Nat) (rt : Option FieldType) (ws : List Jvm.Cond) (rm : Room) (as' : Array Value) (h0 : Heap) (Q : Option Value → Heap → List Loc → Prop) : Prop :=
  MetFree l y (head1 (Jvm.Cond.code y bytes mx rt :: ws) rm) (fun a U => a = as' ∧ Z.Warmed39 U.vm ∧ U.heap = h0) (fun _ _ _ _ _ => True) (fun _ U o U' => own_Ends U rm Q U' o)
theorem own_of {y : MethodName} {bytes : ByteArray} {mx : Nat} {rt : Option FieldType} {ws : List Jvm.Cond} {rm : Room} {as' : Array Value} {h0 : Heap} {Q : Option Value → Heap → List Loc → Prop} (hpl : plainFor y = true)
    (body : ∀ (p : Program) (e : Env) (s : State) (m : MethodId) (below : List Frame) (meth : Method) (c : Code) (s₁ : State), p.tables.exec = Jvm.exec → c.code = bytes → c.maxLocals = mx → s.vm.findClass y.cls = some m.cls → meth.name = y.name → meth.sig.returnType = rt → meth.locks = false → Z.Warmed39 s.vm →
      Stand p l e rm s m as' below meth c s₁ [] 0 0 → s₁.heap = h0 → own_Go p e below (own_Ends s rm Q) s₁ (entryFrame m as' mx)) : own_Ct l Z y bytes mx rt ws rm as' h0 Q := by
  refine MetFree.of_bodySF hpl hisR ?_
  intro p e s m args below meth c s₁ Bd hml hP hK
  obtain ⟨rfl, hZ, hh⟩ := hP
  exact body p e s m below meth c s₁ Bd.exec Bd.bytes hml (findClass_of_methodNamed Bd.named) (name_of_methodNamed Bd.named Bd.method).1 Bd.returns Bd.notSynchronized hZ (Stand.of_body Bd) (by rw [← hh, Bd.state]; rfl)
theorem own_ret {rm : Room} {Q : Option Value → Heap → List Loc → Prop} {t : FieldType} {w : Value} {i : Instr} (X : Stand p l e R s m args below meth c T locs cells slots) (hx : p.tables.exec = Jvm.exec) (hret : meth.sig.returnType = some t) (hlk : meth.locks = false) (hd : decode c.code pc = .ok (i, 1)) (hn : narrow t w = w)
    (hi : (i = .ireturn ∧ (t = .int ∨ t = .boolean ∨ t = .byte ∨ t = .char ∨ t = .short) ∧ ∃ z, w = .int z) ∨ (i = .lreturn ∧ t = .long ∧ ∃ z, w = .long z) ∨ (i = .dreturn ∧ t = .double ∧ ∃ z, w = .double z) ∨ (i = .freturn ∧ t = .float ∧ ∃ z, w = .float z) ∨ (i = .areturn ∧ t.isReference = true ∧ w.isRef = true))
    (hc : cells ≤ rm.cells) (hs : slots ≤ rm.slots) (hq : Q (some w) T.heap locs) : own_Go p e below (own_Ends s rm Q) T (mkF m pc Ls (w :: rest)) := by
  obtain ⟨fs, hr, hrun, hended, hW, hsame⟩ := X.leave (v := some w) (fun h => by rw [hret] at h; cases h) hlk
  exact ⟨_, _, retOut X hx hret hn hi hd hr, hrun, hended, _, _, rfl, hq, ⟨_, rfl⟩, hW, hsame.mono hc hs⟩
theorem own_retI {rm : Room} {Q : Option Value → Heap → List Loc → Prop} {w : Int32} (X : Stand p l e R s m args below meth c T locs cells slots) (hx : p.tables.exec = Jvm.exec) (hret : meth.sig.returnType = some .int) (hlk : meth.locks = false) (hd : decode c.code pc = .ok (.ireturn, 1)) 
    (hc : cells ≤ rm.cells) (hs : slots ≤ rm.slots) (hq : Q (some (.int w)) T.heap locs) : own_Go p e below (own_Ends s rm Q) T (mkF m pc Ls (.int w :: rest)) :=
  own_ret X hx hret hlk hd rfl (Or.inl ⟨rfl, Or.inl rfl, _, rfl⟩) hc hs hq
theorem own_retZ {rm : Room} {Q : Option Value → Heap → List Loc → Prop} {w : Int32} (X : Stand p l e R s m args below meth c T locs cells slots) (hx : p.tables.exec = Jvm.exec) (hret : meth.sig.returnType = some .boolean) (hlk : meth.locks = false) (hd : decode c.code pc = .ok (.ireturn, 1)) (hw : w = 0 ∨ w = 1)
    (hc : cells ≤ rm.cells) (hs : slots ≤ rm.slots) (hq : Q (some (.int w)) T.heap locs) : own_Go p e below (own_Ends s rm Q) T (mkF m pc Ls (.int w :: rest)) :=
  own_ret X hx hret hlk hd (by rcases hw with rfl | rfl <;> rfl) (Or.inl ⟨rfl, Or.inr (Or.inl rfl), _, rfl⟩) hc hs hq
theorem own_retJ {rm : Room} {Q : Option Value → Heap → List Loc → Prop} {w : Int64} (X : Stand p l e R s m args below meth c T locs cells slots) (hx : p.tables.exec = Jvm.exec) (hret : meth.sig.returnType = some .long) (hlk : meth.locks = false) (hd : decode c.code pc = .ok (.lreturn, 1)) 
    (hc : cells ≤ rm.cells) (hs : slots ≤ rm.slots) (hq : Q (some (.long w)) T.heap locs) : own_Go p e below (own_Ends s rm Q) T (mkF m pc Ls (.long w :: rest)) :=
  own_ret X hx hret hlk hd rfl (Or.inr (Or.inl ⟨rfl, rfl, _, rfl⟩)) hc hs hq
theorem own_retA {rm : Room} {Q : Option Value → Heap → List Loc → Prop} {w : Value} {t : FieldType} (X : Stand p l e R s m args below meth c T locs cells slots) (hx : p.tables.exec = Jvm.exec) (hret : meth.sig.returnType = some t) (hlk : meth.locks = false) (hd : decode c.code pc = .ok (.areturn, 1)) (ht : t.isReference = true) (hn : narrow t w = w) (hw : w.isRef = true)
    (hc : cells ≤ rm.cells) (hs : slots ≤ rm.slots) (hq : Q (some w) T.heap locs) : own_Go p e below (own_Ends s rm Q) T (mkF m pc Ls (w :: rest)) :=
  own_ret X hx hret hlk hd hn (Or.inr (Or.inr (Or.inr (Or.inr ⟨rfl, ht, hw⟩)))) hc hs hq
theorem own_retV {rm : Room} {Q : Option Value → Heap → List Loc → Prop} (X : Stand p l e R s m args below meth c T locs cells slots) (hx : p.tables.exec = Jvm.exec) (hret : meth.sig.returnType = none) (hlk : meth.locks = false) (hd : decode c.code pc = .ok (.return_, 1))
    (hc : cells ≤ rm.cells) (hs : slots ≤ rm.slots) (hq : Q none T.heap locs) : own_Go p e below (own_Ends s rm Q) T (mkF m pc Ls []) := by
  obtain ⟨fs, hr, hrun, hended, hW, hsame⟩ := X.leave (v := none) (fun _ => rfl) hlk
  exact ⟨_, _, X.returnOut hx hret hd hr, hrun, hended, _, _, rfl, hq, ⟨_, rfl⟩, hW, hsame.mono hc hs⟩
abbrev own_K (p : Program) (l : Launch) (e : Env) (R : Room) (s : State) (m : MethodId) (args : Array Value) (below : List Frame) (meth : Method) (c : Code) (P : State → Outcome → Prop) (locs : List Loc) (cells slots : Nat) (rm : Room) (Q : Option Value → Heap → List Loc → Prop) (pc : Nat) (Ls : Array Slot) (rest : List Value) : Prop :=
  ∀ (T' : State) (v : Option Value) (L : List Loc), Stand p l e R s m args below meth c T' (locs ++ L) (cells + rm.cells) (slots + rm.slots) → Q v T'.heap L → own_Go p e below P T' (mkF m pc Ls (v.toList ++ rest))
theorem own_callS {own : String} {index : Nat} {y : MethodName} {bytes : ByteArray} {maxL : Nat} {ret : Option FieldType} {rm : Room} {Q : Option Value → Heap → List Loc → Prop} {ps : List FieldType} {r : Option FieldType} (X : Stand p l e R s m args below meth c T locs cells slots) (hx : p.tables.exec = Jvm.exec) (hZ : Z.Warmed39 s.vm) (hown : s.vm.findClass own = some m.cls) (eT : T.heap = h) (hd : decode c.code pc = .ok (.invokestatic index, 3))
    (argsL rest : List Value) (W : Nat) (C : own_Ct l Z y bytes maxL ret [] rm argsL.toArray h Q) (w1 : (Cond.methodLink own index y).before a0 Z = true) (w2 : (Cond.static y).before a0 Z = true) (w3 : (Cond.initialized y.cls).before a0 Z = true) (w4 : (Cond.code y bytes maxL ret).before a0 Z = true)
    (hy : y.cls ≠ "java/lang/invoke/MethodHandle" ∧ y.cls ≠ "java/lang/invoke/VarHandle") (hpd : parseMethodDescriptor y.desc = some ⟨ps, r⟩) (hsize : Ls.size = c.maxLocals) (hlen : argsL.length = ps.length) (hst : st = argsL.reverse ++ rest)
    (hW : (rest.map fun v => v.category).sum ≤ W) (hf : rm.frames + 1 ≤ R.frames) (hl : W + (maxL + 11) + rm.locals ≤ R.locals) (hc : cells + rm.cells ≤ R.cells) (hs : slots + rm.slots ≤ R.slots)
    (k : own_K p l e R s m args below meth c P locs cells slots rm Q (pc + 3) Ls rest) : own_Go p e below P T (mkF m pc Ls st) := by
  obtain ⟨v, _, ⟨T', L', k', n'⟩, -, X', ⟨Lc, hQ, l', y', z'⟩, stp⟩ := Jvm.LawKit.callS X hx (y := y) hown (mvT hZ w1) (mvT hZ w2) (mvT hZ w3) (mvT hZ w4) hy (backOf (W := W) (Q := Q) C hZ w4 w3 hf hl) (g := mkF m pc Ls st) rfl hsize (argsL := argsL) (rest := rest) (lenOf hpd hlen) hst (by show 2 * 0 + _ ≤ _; omega) hd (fun _ _ => ⟨rfl, eT, hc, hs⟩)
  dsimp only [Pt.U, Pt.locs, Pt.cells, Pt.slots] at X' l' y' z' stp hQ
  subst l' y' z'
  exact own_by stp (k T' v Lc X' hQ)
theorem own_callN {own : String} {index : Nat} {y : MethodName} {bytes : ByteArray} {maxL : Nat} {rm : Room} {Q : Option Value → Heap → List Loc → Prop} {ps : List FieldType} {r : Option FieldType} {a : Addr} (X : Stand p l e R s m args below meth c T locs cells slots) (hx : p.tables.exec = Jvm.exec) (hZ : Z.Warmed39 s.vm) (hown : s.vm.findClass own = some m.cls) (eT : T.heap = h) (hd : decode c.code pc = .ok (.invokespecial index, 3))
    (argsL rest : List Value) (W : Nat) (C : own_Ct l Z y bytes maxL none [] rm (.ref a :: argsL).toArray h Q) (w1 : (Cond.methodLink own index y).before a0 Z = true) (w2 : (Cond.instanceMethod y).before a0 Z = true) (w3 : (Cond.initialized y.cls).before a0 Z = true) (w4 : (Cond.code y bytes maxL none).before a0 Z = true)
    (hyi : y.name = "<init>") (hy : y.cls ≠ "java/lang/invoke/MethodHandle" ∧ y.cls ≠ "java/lang/invoke/VarHandle") (hpd : parseMethodDescriptor y.desc = some ⟨ps, r⟩) (hsize : Ls.size = c.maxLocals) (hlen : argsL.length = ps.length) (hst : st = argsL.reverse ++ .ref a :: rest)
    (hW : (rest.map fun v => v.category).sum ≤ W) (hf : rm.frames + 1 ≤ R.frames) (hl : W + (maxL + 11) + rm.locals ≤ R.locals) (hc : cells + rm.cells ≤ R.cells) (hs : slots + rm.slots ≤ R.slots)
    (k : own_K p l e R s m args below meth c P locs cells slots rm Q (pc + 3) Ls rest) : own_Go p e below P T (mkF m pc Ls st) := by
  obtain ⟨v, _, ⟨T', L', k', n'⟩, -, X', ⟨Lc, hQ, l', y', z'⟩, stp⟩ := X.specialBack hx (y := y) hyi hown (mvT hZ w1) (mvT hZ w2) (mvT hZ w4) hy (backOf (W := W) (Q := Q) C hZ w4 w3 hf hl) (g := mkF m pc Ls st) rfl hsize (Steps.refl _) (a := a) (argsL := argsL) (rest := rest) (lenOf hpd hlen) hst (by show 2 * 0 + _ ≤ _; omega) hd (fun _ _ => ⟨rfl, eT, hc, hs⟩)
  dsimp only [Pt.U, Pt.locs, Pt.cells, Pt.slots] at X' l' y' z' stp hQ
  subst l' y' z'
  exact own_by (fun _ k => stp.trans k) (k T' v Lc X' hQ)
theorem own_callV {own : String} {index : Nat} {C0 : String} {y z : MethodName} {bytes : ByteArray} {maxL : Nat} {ret : Option FieldType} {rm : Room} {Q : Option Value → Heap → List Loc → Prop} {ps : List FieldType} {r : Option FieldType} {a : Addr} (X : Stand p l e R s m args below meth c T locs cells slots) (hx : p.tables.exec = Jvm.exec) (hZ : Z.Warmed39 s.vm) (hown : s.vm.findClass own = some m.cls) (eT : T.heap = h) (hd : decode c.code pc = .ok (.invokevirtual index, 3))
    (argsL rest : List Value) (W : Nat) (C : own_Ct l Z z bytes maxL ret [] rm (.ref a :: argsL).toArray h Q) (E : Exa Z h a C0) (w1 : (Cond.methodLink own index y).before a0 Z = true) (w0 : (Cond.declares y).before a0 Z = true) (nf : NotFace s y) (ws : (Cond.selects C0 y z).before a0 Z = true) (w2 : (Cond.instanceMethod z).before a0 Z = true) (w3 : (Cond.initialized z.cls).before a0 Z = true) (w4 : (Cond.code z bytes maxL ret).before a0 Z = true)
    (hy : y.cls ≠ "java/lang/invoke/MethodHandle" ∧ y.cls ≠ "java/lang/invoke/VarHandle") (hpd : parseMethodDescriptor y.desc = some ⟨ps, r⟩) (hsize : Ls.size = c.maxLocals) (hlen : argsL.length = ps.length) (hst : st = argsL.reverse ++ .ref a :: rest)
    (hW : (rest.map fun v => v.category).sum ≤ W) (hf : rm.frames + 1 ≤ R.frames) (hl : W + (maxL + 11) + rm.locals ≤ R.locals) (hc : cells + rm.cells ≤ R.cells) (hs : slots + rm.slots ≤ R.slots)
    (k : own_K p l e R s m args below meth c P locs cells slots rm Q (pc + 3) Ls rest) : own_Go p e below P T (mkF m pc Ls st) := by
  obtain ⟨cq, kq, qa, qb, qc⟩ := isOf hZ eT E
  obtain ⟨v, _, ⟨T', L', k', n'⟩, -, X', ⟨Lc, hQ, l', y', z'⟩, stp⟩ := X.virtualBack hx (y := y) (z := z) hown (mvT hZ w1) (mvT hZ w0) nf (mvT hZ ws) (mvT hZ w2) hy (backOf (W := W) (Q := Q) C hZ w4 w3 hf hl) qa qc (g := mkF m pc Ls st) rfl hsize (Steps.refl _) (argsL := argsL) (rest := rest) (lenOf hpd hlen) hst (by show 2 * 0 + _ ≤ _; omega) hd (fun _ _ => ⟨rfl, eT, hc, hs⟩)
  dsimp only [Pt.U, Pt.locs, Pt.cells, Pt.slots] at X' l' y' z' stp hQ
  subst l' y' z'
  exact own_by (fun _ k => stp.trans k) (k T' v Lc X' hQ)
theorem own_callP {own : String} {index : Nat} {C0 : String} {y : MethodName} {bytes : ByteArray} {maxL : Nat} {ret : Option FieldType} {rm : Room} {Q : Option Value → Heap → List Loc → Prop} {ps : List FieldType} {r : Option FieldType} {a : Addr} (X : Stand p l e R s m args below meth c T locs cells slots) (hx : p.tables.exec = Jvm.exec) (hZ : Z.Warmed39 s.vm) (hown : s.vm.findClass own = some m.cls) (eT : T.heap = h) (hd : decode c.code pc = .ok (.invokevirtual index, 3))
    (argsL rest : List Value) (W : Nat) (C : own_Ct l Z y bytes maxL ret [] rm (.ref a :: argsL).toArray h Q) (E : Exa Z h a C0) (w1 : (Cond.methodLink own index y).before a0 Z = true) (w2 : (Cond.instanceMethod y).before a0 Z = true) (ws : (Cond.selects y.cls y y).before a0 Z = true) (wp : (Cond.privateMethod y).before a0 Z = true) (w3 : (Cond.initialized y.cls).before a0 Z = true) (w4 : (Cond.code y bytes maxL ret).before a0 Z = true)
    (hy : y.cls ≠ "java/lang/invoke/MethodHandle" ∧ y.cls ≠ "java/lang/invoke/VarHandle") (hpd : parseMethodDescriptor y.desc = some ⟨ps, r⟩) (hsize : Ls.size = c.maxLocals) (hlen : argsL.length = ps.length) (hst : st = argsL.reverse ++ .ref a :: rest)
    (hW : (rest.map fun v => v.category).sum ≤ W) (hf : rm.frames + 1 ≤ R.frames) (hl : W + (maxL + 11) + rm.locals ≤ R.locals) (hc : cells + rm.cells ≤ R.cells) (hs : slots + rm.slots ≤ R.slots)
    (k : own_K p l e R s m args below meth c P locs cells slots rm Q (pc + 3) Ls rest) : own_Go p e below P T (mkF m pc Ls st) := by
  obtain ⟨cq, q1, q2⟩ := E.cell
  obtain ⟨v, _, ⟨T', L', k', n'⟩, -, X', ⟨Lc, hQ, l', y', z'⟩, stp⟩ := X.privateBack hx (y := y) hown (mvT hZ w1) (mvT hZ w2) (mvT hZ ws) (Cond.privateMethod_at (mvP hZ wp (args := #[]))) (mvT hZ w4) hy (backOf (W := W) (Q := Q) C hZ w4 w3 hf hl) (g := mkF m pc Ls st) rfl hsize (Steps.refl _) (a := a) (by rw [eT]; exact q1) q2 (argsL := argsL) (rest := rest) (lenOf hpd hlen) hst (by show 2 * 0 + _ ≤ _; omega) hd (fun _ _ => ⟨rfl, eT, hc, hs⟩)
  dsimp only [Pt.U, Pt.locs, Pt.cells, Pt.slots] at X' l' y' z' stp hQ
  subst l' y' z'
  exact own_by (fun _ k => stp.trans k) (k T' v Lc X' hQ)
abbrev own_K0 (p : Program) (l : Launch) (e : Env) (R : Room) (s : State) (m : MethodId) (args : Array Value) (below : List Frame) (meth : Method) (c : Code) (P : State → Outcome → Prop) (locs : List Loc) (cells slots : Nat) (h : Heap) (pc : Nat) (Ls : Array Slot) (st : List Value) : Prop :=
  ∀ (T' : State), Stand p l e R s m args below meth c T' locs cells slots → T'.heap = h → own_Go p e below P T' (mkF m pc Ls st)
theorem own_init {own : String} {index : Nat} {a : Addr} (X : Stand p l e R s m args below meth c T locs cells slots) (hx : p.tables.exec = Jvm.exec) (hZ : Z.Warmed39 s.vm) (hown : s.vm.findClass own = some m.cls) (eT : T.heap = h) (hd : decode c.code pc = .ok (.invokespecial index, 3)) (W : Nat)
    (w1 : (Cond.methodLink own index Lib.objectInit).before a0 Z = true) (w2 : (Cond.instanceMethod Lib.objectInit).before a0 Z = true) (w3 : (Cond.code Lib.objectInit ⟨#[0xb1]⟩ 1 none).before a0 Z = true) (hsize : Ls.size = c.maxLocals) (hW : (rest.map fun v => v.category).sum ≤ W) (hf : 1 ≤ R.frames) (hl : W + 12 ≤ R.locals)
    (k : own_K0 p l e R s m args below meth c P locs cells slots h (pc + 3) Ls rest) : own_Go p e below P T (mkF m pc Ls (.ref a :: rest)) := by
  obtain ⟨T', X', e', st⟩ := initO X hx hZ hown w1 w2 w3 eT (g := mkF m pc Ls (.ref a :: rest)) rfl hsize rfl hd hf (W := W) (by show 2 * 0 + _ ≤ _; omega) hl
  exact own_by st (k T' X' e')
theorem own_getF {own R0 O n d host : String} {index : Nat} {a : Addr} {v : Value} (X : Stand p l e R s m args below meth c T locs cells slots) (hx : p.tables.exec = Jvm.exec) (hZ : Z.Warmed39 s.vm) (hown : s.vm.findClass own = some m.cls) (eT : T.heap = h) (hd : decode c.code pc = .ok (.getfield index, 3))
    (w : (Cond.fieldLink own index R0 n d).before a0 Z = true ∨ (Cond.fieldLinkNest own index R0 n d host).before a0 Z = true) (via : Via Z R0 O n d) (F : Fld Z h a O n d v)
    (k : own_K0 p l e R s m args below meth c P locs cells slots h (pc + 3) Ls (v :: rest)) : own_Go p e below P T (mkF m pc Ls (.ref a :: rest)) := by
  obtain ⟨T', X', e', st⟩ := getF X hx hZ hown w via eT F (g := mkF m pc Ls (.ref a :: rest)) rfl rfl hd
  exact own_by st (k T' X' e')
theorem own_getS {own R0 O n d host : String} {index : Nat} {v : Value} (X : Stand p l e R s m args below meth c T locs cells slots) (hx : p.tables.exec = Jvm.exec) (hZ : Z.Warmed39 s.vm) (hown : s.vm.findClass own = some m.cls) (eT : T.heap = h) (hd : decode c.code pc = .ok (.getstatic index, 3))
    (w : (Cond.fieldLink own index R0 n d).before a0 Z = true ∨ (Cond.fieldLinkNest own index R0 n d host).before a0 Z = true) (via : Via Z R0 O n d) (F : Sta Z h O n d v)
    (k : own_K0 p l e R s m args below meth c P locs cells slots h (pc + 3) Ls (v :: st)) : own_Go p e below P T (mkF m pc Ls st) := by
  obtain ⟨T', X', e', stp⟩ := getS2 X hx hZ hown w via eT F (g := mkF m pc Ls st) rfl hd
  exact own_by stp (k T' X' e')
theorem own_new {own C : String} {index n : Nat} (X : Stand p l e R s m args below meth c T locs cells slots) (hx : p.tables.exec = Jvm.exec) (hZ : Z.Warmed39 s.vm) (hown : s.vm.findClass own = some m.cls) (eT : T.heap = h) (hd : decode c.code pc = .ok (.new index, 3))
    (w : (Cond.classLink own index C).before a0 Z = true) (wi : (Cond.instantiable C n).before a0 Z = true) (wz : (Cond.initialized C).before a0 Z = true) (hc : cells + 1 ≤ R.cells) (hl : slots + n ≤ R.slots)
    (k : ∀ (T' : State) (h' : Heap) (b : Addr), Stand p l e R s m args below meth c T' locs (cells + 1) (slots + n) → T'.heap = h' → b = h.size → Ext h h' → Exa Z h' b C → (∀ {O nm d : String} {ty : FieldType}, Laid Z a0 C O nm d → parseFieldDescriptor d = some ty → Fld Z h' b O nm d (defaultValue ty)) → own_Go p e below P T' (mkF m (pc + 3) Ls (.ref b :: st))) :
    own_Go p e below P T (mkF m pc Ls st) := by
  obtain ⟨T', h', X', e', E, A, D, -, stp⟩ := newO X hx hZ hown w wi wz eT (g := mkF m pc Ls st) rfl hd hc hl
  exact own_by stp (k T' h' _ X' e' rfl E A D)
theorem own_putF {own R0 O n d host C : String} {index kk : Nat} {ty : FieldType} {a : Addr} {v old : Value} (X : Stand p l e R s m args below meth c T locs cells slots) (hx : p.tables.exec = Jvm.exec) (hZ : Z.Warmed39 s.vm) (hown : s.vm.findClass own = some m.cls) (eT : T.heap = h) (hd : decode c.code pc = .ok (.putfield index, 3))
    (w : (Cond.fieldLink own index R0 n d).before a0 Z = true ∨ (Cond.fieldLinkNest own index R0 n d host).before a0 Z = true) (via : Via Z R0 O n d) (F : Fld Z h a O n d old) (E : Exa Z h a C) (L : (Cond.lays C O n d).before a0 Z = true ∨ ((Cond.laysFinal C O n d).before a0 Z = true ∧ own = O ∧ meth.name = "<init>")) (wi : (Cond.instantiable C kk).before a0 Z = true)
    (hty : parseFieldDescriptor d = some ty) (hn : narrow ty v = v) (hf : fits ty v = true)
    (k : ∀ (T' : State) (h' : Heap), Stand p l e R s m args below meth c T' (locs ++ [⟨a, Jvm.RoadKit.slotOf Z O n d⟩]) cells slots → T'.heap = h' → Wr h h' a (Jvm.RoadKit.slotOf Z O n d) v → own_Go p e below P T' (mkF m (pc + 3) Ls rest)) :
    own_Go p e below P T (mkF m pc Ls (v :: .ref a :: rest)) := by
  obtain ⟨T', h', X', e', W, st⟩ := putF X hx hZ hown w via eT F E L wi hty hn hf (g := mkF m pc Ls (v :: .ref a :: rest)) rfl rfl hd
  exact own_by st (k T' h' X' e' W)
theorem own_newA {aty : ArrayType} {n : Int32} (X : Stand p l e R s m args below meth c T locs cells slots) (hx : p.tables.exec = Jvm.exec) (hZ : Z.Warmed39 s.vm) (eT : T.heap = h) (hd : decode c.code pc = .ok (.newarray aty, 2))
    (w : (Cond.arrayClass (newarray.typeOf aty)).before a0 Z = true) (hn : ¬ n < 0) (cap : Nat) (hcap : n.toNatClampNeg ≤ cap) (hb : cap * 8 ≤ 536870912) (hc : cells + 1 ≤ R.cells) (hl : slots + cap ≤ R.slots)
    (k : ∀ (T' : State) (h' : Heap) (b : Addr) (cA : ClassId), Stand p l e R s m args below meth c T' locs (cells + 1) (slots + cap) → T'.heap = h' → b = h.size → Ext h h' → Arv Z h' b cA (newarray.typeOf aty) n [] (defaultValue (newarray.typeOf aty)) → own_Go p e below P T' (mkF m (pc + 2) Ls (.ref b :: rest))) :
    own_Go p e below P T (mkF m pc Ls (.int n :: rest)) := by
  obtain ⟨T', h', cA, X', e', E, A, stp⟩ := newP X hx hZ w eT (g := mkF m pc Ls (.int n :: rest)) rfl hd rfl hn hcap hb hc hl
  exact own_by stp (k T' h' _ cA X' e' rfl E (Arv.new A hn))
theorem own_ldcI {own : String} {index : Nat} {i : Int32} (X : Stand p l e R s m args below meth c T locs cells slots) (hx : p.tables.exec = Jvm.exec) (hZ : Z.Warmed39 s.vm) (hown : s.vm.findClass own = some m.cls) (hd : decode c.code pc = .ok (.ldc index, 2)) (w : (Cond.constant own index i).before a0 Z = true)
    (k : own_Go p e below P T (mkF m (pc + 2) Ls (.int i :: st))) : own_Go p e below P T (mkF m pc Ls st) :=
  own_by (fun t k => X.ldcInt hx hown (mvT hZ w) (g := mkF m pc Ls st) rfl hd t k) k
theorem own_ldcJ {own : String} {index : Nat} {i : Int64} (X : Stand p l e R s m args below meth c T locs cells slots) (hx : p.tables.exec = Jvm.exec) (hZ : Z.Warmed39 s.vm) (hown : s.vm.findClass own = some m.cls) (hd : decode c.code pc = .ok (.ldc2_w index, 3)) (w : (Cond.constantLong own index i).before a0 Z = true)
    (k : own_Go p e below P T (mkF m (pc + 3) Ls (.long i :: st))) : own_Go p e below P T (mkF m pc Ls st) :=
  own_by (fun t k => X.ldc2Long hx hown (mvT hZ w) (g := mkF m pc Ls st) rfl hd t k) k
theorem own_ns {a : Addr} {C : String} (F : Exa Z h a C) : ∃ c : Cell, h[a]? = some c ∧ c.vm.isStatics = false := by obtain ⟨c, _, h1, -, -, h4, -⟩ := F; exact ⟨c, h1, h4⟩
theorem own_sta_keep {h' : Heap} {C n d : String} {v : Value} {ws : List Addr} (F : Sta Z h C n d v) (K : Keep h h' ws) (q : ∀ x ∈ ws, ∃ c : Cell, h[x]? = some c ∧ c.vm.isStatics = false) : Sta Z h' C n d v := by
  obtain ⟨cf, i, k, f, st, cell, h1, h2, h3, h4, h5, h6, h7⟩ := F
  refine ⟨cf, i, k, f, st, cell, h1, h2, h3, h4, K.2.1 st cell h5 fun z => ?_, h6, h7⟩
  obtain ⟨c, c1, c2⟩ := q st z
  cases h5.symm.trans c1
  rw [h6] at c2; cases c2
end Own
section OwnArr
variable {p : Program} {l : Launch} {e : Env} {R : Room} {s : State} {m : MethodId} {args : Array Value} {below : List Frame} {meth : Method} {c : Code} {T : State} {locs : List Loc} {cells slots : Nat} {Z : State} {a0 : Array Value} {h h' : Heap} {P : State → Outcome → Prop} {pc : Nat} {Ls : Array Slot} {rest st : List Value} {a b : Addr} {ty : FieldType} {n : Nat} {f g : Nat → Int32}
/-- an array of ints (chars, bytes ..): its length, its elements -/
def own_A (Z : State) (h : Heap) (a : Addr) (ty : FieldType) (n : Nat) (f : Nat → Int32) : Prop := ∃ cl : Cell, Arr Z h a cl ty ∧ cl.slots.size = n ∧ n < 2147483648 ∧ ∀ i, i < n → cl.slots[i]? = some (.int (f i))
theorem own_A.lt (F : own_A Z h a ty n f) : a < h.size := by obtain ⟨_, A, -⟩ := F; exact A.lt
theorem own_A.ext (F : own_A Z h a ty n f) (E : Ext h h') : own_A Z h' a ty n f := by obtain ⟨cl, A, r⟩ := F; exact ⟨cl, A.ext E, r⟩
theorem own_A.other {sl : Nat} {v : Value} (F : own_A Z h b ty n f) (W : Wr h h' a sl v) (q : b ≠ a) : own_A Z h' b ty n f := by obtain ⟨cl, A, r⟩ := F; exact ⟨cl, A.other W q, r⟩
theorem own_A.keep {ws : List Addr} (F : own_A Z h a ty n f) (K : Keep h h' ws) (q : a ∉ ws) : own_A Z h' a ty n f := by obtain ⟨cl, A, r⟩ := F; exact ⟨cl, ⟨K.2.1 a cl A.1 q, A.2⟩, r⟩
theorem own_A.small (F : own_A Z h a ty n f) : n < 2147483648 := by obtain ⟨_, _, _, q, _⟩ := F; exact q
theorem own_A.congr (F : own_A Z h a ty n f) (q : ∀ i, i < n → f i = g i) : own_A Z h a ty n g := by
  obtain ⟨cl, A, h1, h2, h3⟩ := F
  exact ⟨cl, A, h1, h2, fun i hi => by rw [h3 i hi, q i hi]⟩
theorem own_A.set {j : Nat} {v : Int32} (F : own_A Z h a ty n f) (W : Wr h h' a j (.int v)) : own_A Z h' a ty n (fun i => if i = j then v else f i) := by
  obtain ⟨cl, A, h1, h2, h3⟩ := F
  have hw : j < cl.slots.size := by obtain ⟨c', q1, -, q3, -⟩ := W; cases q1.symm.trans A.1; exact q3
  refine ⟨_, A.same W, by rw [sz_set]; exact h1, h2, fun i hi => ?_⟩
  by_cases q : i = j
  · subst q; simp [Cell.setSlot, hw]
  · show _ = some (Value.int (if i = j then v else f i))
    rw [if_neg q, ← h3 i hi]; exact Array.getElem?_setIfInBounds_ne (Ne.symm q)
theorem own_nsA (F : own_A Z h a ty n f) : ∃ c : Cell, h[a]? = some c ∧ c.vm.isStatics = false := by obtain ⟨cl, A, -⟩ := F; exact ⟨cl, A.1, A.plain⟩
theorem own_clamp {j : Int32} (h0 : 0 ≤ j.toInt) : j.toNatClampNeg = j.toInt.toNat := rfl
theorem own_inb {j : Int32} {k : Nat} (h0 : 0 ≤ j.toInt) (h1 : j.toInt < k) : ¬ (j < 0 ∨ k ≤ j.toNatClampNeg) := by
  rintro (q | q)
  · have := Int32.lt_iff_toInt_lt.mp q
    have e : (0 : Int32).toInt = 0 := by decide
    omega
  · rw [own_clamp h0] at q; omega
theorem own_A.new {k : ClassId} {z : Int32} {v : Int32} (F : Arv Z h a k ty z [] (.int v)) : own_A Z h a ty z.toInt.toNat (fun _ => v) := by
  obtain ⟨cl, A, -, h2, h3, H, -⟩ := F
  have e : z.toNatClampNeg = z.toInt.toNat := rfl
  refine ⟨cl, A, h2.trans e, ?_, fun i hi => ?_⟩
  · have := rng32 z; omega
  · rw [H i (by rw [h2, e]; exact hi)]; rfl
theorem own_alen {j : Int32} (X : Stand p l e R s m args below meth c T locs cells slots) (hx : p.tables.exec = Jvm.exec) (hZ : Z.Warmed39 s.vm) (eT : T.heap = h) (hd : decode c.code pc = .ok (.arraylength, 1)) (F : own_A Z h a ty n f) (hj : j.toInt = n)
    (k : own_Go p e below P T (mkF m (pc + 1) Ls (.int j :: rest))) : own_Go p e below P T (mkF m pc Ls (.ref a :: rest)) := by
  obtain ⟨cl, A, h1, h2, -⟩ := F
  have e1 : cl.slots.size.toInt32 = j := by
    apply Int32.toInt_inj.mp
    rw [hj, h1]; exact Int32.toInt_ofNat_of_lt h2
  refine own_by (fun t k => X.arraylength hx (by rw [eT]; exact A.1) (State.isArrayOf_alike hZ.alike A.2.1) (g := mkF m pc Ls (.ref a :: rest)) rfl rfl hd t k) ?_
  rw [e1]; exact k
theorem own_ldI {j : Int32} (X : Stand p l e R s m args below meth c T locs cells slots) (hx : p.tables.exec = Jvm.exec) (hZ : Z.Warmed39 s.vm) (eT : T.heap = h) (hd : decode c.code pc = .ok (.iaload, 1)) (F : own_A Z h a .int n f) (h0 : 0 ≤ j.toInt) (h1 : j.toInt < n)
    (k : own_Go p e below P T (mkF m (pc + 1) Ls (.int (f j.toInt.toNat) :: rest))) : own_Go p e below P T (mkF m pc Ls (.int j :: .ref a :: rest)) := by
  obtain ⟨cl, A, e1, e2, e3⟩ := F
  exact own_by (fun t k => X.iaload hx (j := j) (v := .int (f j.toInt.toNat)) (by rw [eT]; exact A.1) (State.isArrayOf_alike hZ.alike A.2.1) A.2.2 (by rw [e1]; exact own_inb h0 h1) (e3 j.toInt.toNat (by omega)) (g := mkF m pc Ls (.int j :: .ref a :: rest)) rfl rfl hd t k) k
theorem own_ldC {j : Int32} (X : Stand p l e R s m args below meth c T locs cells slots) (hx : p.tables.exec = Jvm.exec) (hZ : Z.Warmed39 s.vm) (eT : T.heap = h) (hd : decode c.code pc = .ok (.caload, 1)) (F : own_A Z h a .char n f) (h0 : 0 ≤ j.toInt) (h1 : j.toInt < n)
    (k : own_Go p e below P T (mkF m (pc + 1) Ls (.int (f j.toInt.toNat) :: rest))) : own_Go p e below P T (mkF m pc Ls (.int j :: .ref a :: rest)) := by
  obtain ⟨cl, A, e1, e2, e3⟩ := F
  exact own_by (fun t k => X.caload hx (j := j) (v := .int (f j.toInt.toNat)) (by rw [eT]; exact A.1) (State.isArrayOf_alike hZ.alike A.2.1) A.2.2 (by rw [e1]; exact own_inb h0 h1) (e3 j.toInt.toNat (by omega)) (g := mkF m pc Ls (.int j :: .ref a :: rest)) rfl rfl hd t k) k
theorem own_ldB {j : Int32} (X : Stand p l e R s m args below meth c T locs cells slots) (hx : p.tables.exec = Jvm.exec) (hZ : Z.Warmed39 s.vm) (eT : T.heap = h) (hd : decode c.code pc = .ok (.baload, 1)) (F : own_A Z h a .byte n f) (h0 : 0 ≤ j.toInt) (h1 : j.toInt < n)
    (k : own_Go p e below P T (mkF m (pc + 1) Ls (.int (f j.toInt.toNat) :: rest))) : own_Go p e below P T (mkF m pc Ls (.int j :: .ref a :: rest)) := by
  obtain ⟨cl, A, e1, e2, e3⟩ := F
  exact own_by (fun t k => X.baloadBytes hx (j := j) (v := .int (f j.toInt.toNat)) (by rw [eT]; exact A.1) (State.isArrayOf_alike hZ.alike A.2.1) A.2.2 (by rw [e1]; exact own_inb h0 h1) (e3 j.toInt.toNat (by omega)) (g := mkF m pc Ls (.int j :: .ref a :: rest)) rfl rfl hd t k) k
abbrev own_KW (p : Program) (l : Launch) (e : Env) (R : Room) (s : State) (m : MethodId) (args : Array Value) (below : List Frame) (meth : Method) (c : Code) (P : State → Outcome → Prop) (locs : List Loc) (cells slots : Nat) (Z : State) (h : Heap) (a : Addr) (ty : FieldType) (n : Nat) (f : Nat → Int32) (j : Nat) (v : Int32) (pc : Nat) (Ls : Array Slot) (st : List Value) : Prop :=
  ∀ (T' : State) (h' : Heap), Stand p l e R s m args below meth c T' (locs ++ [⟨a, j⟩]) cells slots → T'.heap = h' → Wr h h' a j (.int v) → own_A Z h' a ty n (fun i => if i = j then v else f i) → own_Go p e below P T' (mkF m pc Ls st)
theorem own_stI {j x : Int32} (X : Stand p l e R s m args below meth c T locs cells slots) (hx : p.tables.exec = Jvm.exec) (hZ : Z.Warmed39 s.vm) (eT : T.heap = h) (hd : decode c.code pc = .ok (.iastore, 1)) (F : own_A Z h a .int n f) (h0 : 0 ≤ j.toInt) (h1 : j.toInt < n)
    (k : own_KW p l e R s m args below meth c P locs cells slots Z h a .int n f j.toInt.toNat x (pc + 1) Ls rest) : own_Go p e below P T (mkF m pc Ls (.int x :: .int j :: .ref a :: rest)) := by
  obtain ⟨cl, A, e1, e2, e3⟩ := F
  obtain ⟨T', h', X', e', W, stp⟩ := stI X hx hZ eT A (j := j) (x := x) (by rw [e1]; exact own_inb h0 h1) (g := mkF m pc Ls (.int x :: .int j :: .ref a :: rest)) rfl rfl hd
  exact own_by stp (k T' h' X' e' W (own_A.set ⟨cl, A, e1, e2, e3⟩ W))
theorem own_stC {j x : Int32} (X : Stand p l e R s m args below meth c T locs cells slots) (hx : p.tables.exec = Jvm.exec) (hZ : Z.Warmed39 s.vm) (eT : T.heap = h) (hd : decode c.code pc = .ok (.castore, 1)) (F : own_A Z h a .char n f) (h0 : 0 ≤ j.toInt) (h1 : j.toInt < n)
    (k : own_KW p l e R s m args below meth c P locs cells slots Z h a .char n f j.toInt.toNat (nar .char x) (pc + 1) Ls rest) : own_Go p e below P T (mkF m pc Ls (.int x :: .int j :: .ref a :: rest)) := by
  obtain ⟨cl, A, e1, e2, e3⟩ := F
  obtain ⟨T', h', X', e', W, stp⟩ := stC X hx hZ eT A (j := j) (x := x) (by rw [e1]; exact own_inb h0 h1) (g := mkF m pc Ls (.int x :: .int j :: .ref a :: rest)) rfl rfl hd
  exact own_by stp (k T' h' X' e' W (own_A.set ⟨cl, A, e1, e2, e3⟩ W))
theorem own_stB {j x : Int32} (X : Stand p l e R s m args below meth c T locs cells slots) (hx : p.tables.exec = Jvm.exec) (hZ : Z.Warmed39 s.vm) (eT : T.heap = h) (hd : decode c.code pc = .ok (.bastore, 1)) (F : own_A Z h a .byte n f) (h0 : 0 ≤ j.toInt) (h1 : j.toInt < n)
    (k : own_KW p l e R s m args below meth c P locs cells slots Z h a .byte n f j.toInt.toNat (nar .byte x) (pc + 1) Ls rest) : own_Go p e below P T (mkF m pc Ls (.int x :: .int j :: .ref a :: rest)) := by
  obtain ⟨cl, A, e1, e2, e3⟩ := F
  obtain ⟨T', h', X', e', W, stp⟩ := stB X hx hZ eT A (j := j) (x := x) (by rw [e1]; exact own_inb h0 h1) (g := mkF m pc Ls (.int x :: .int j :: .ref a :: rest)) rfl rfl hd
  exact own_by stp (k T' h' X' e' W (own_A.set ⟨cl, A, e1, e2, e3⟩ W))
theorem own_mkA {aty : ArrayType} {z : Int32} {v : Int32} (X : Stand p l e R s m args below meth c T locs cells slots) (hx : p.tables.exec = Jvm.exec) (hZ : Z.Warmed39 s.vm) (eT : T.heap = h) (hd : decode c.code pc = .ok (.newarray aty, 2))
    (w : (Cond.arrayClass (newarray.typeOf aty)).before a0 Z = true) (hv : defaultValue (newarray.typeOf aty) = .int v) (h0 : 0 ≤ z.toInt) (cap : Nat) (hcap : z.toInt ≤ cap) (hb : cap * 8 ≤ 536870912) (hc : cells + 1 ≤ R.cells) (hl : slots + cap ≤ R.slots)
    (k : ∀ (T' : State) (h' : Heap) (b : Addr), Stand p l e R s m args below meth c T' locs (cells + 1) (slots + cap) → T'.heap = h' → b = h.size → Ext h h' → own_A Z h' b (newarray.typeOf aty) z.toInt.toNat (fun _ => v) → own_Go p e below P T' (mkF m (pc + 2) Ls (.ref b :: rest))) :
    own_Go p e below P T (mkF m pc Ls (.int z :: rest)) := by
  have e0 : (0 : Int32).toInt = 0 := by decide
  refine own_newA X hx hZ eT hd w (fun q => ?_) cap ?_ hb hc hl ?_
  · have := Int32.lt_iff_toInt_lt.mp q; omega
  · rw [own_clamp h0]; omega
  · intro T' h' b' cA X' e' g' E A
    rw [hv] at A
    exact k T' h' b' X' e' g' E (own_A.new A)
end OwnArr
theorem own_inc {iv : Int32} {j n : Nat} (h : iv.toInt = j) (h1 : j < n) (h2 : n < 2147483648) : (iv + (1 : Int32)).toInt = ((j + 1 : Nat) : Int) := by
  have q := c_iadd iv 1
  have e1 : (1 : Int32).toInt = 1 := by decide
  have r := rng32 (iv + 1)
  omega
theorem own_narC {w : Int32} (h0 : 0 ≤ w.toInt) (h1 : w.toInt < 65536) : narrow .char (.int w) = .int w := by
  have q := c_i2c w
  have e : w.toUInt32.toUInt16.toUInt32.toInt32 = w := Int32.toInt_inj.mp (by omega)
  show Value.int _ = Value.int w
  exact congrArg Value.int e
section OwnDec2
theorem own_ltn {x y : Int32} {j n : Nat} (hx : x.toInt = j) (hy : y.toInt = n) (h : x < y) : j < n := by rw [Int32.lt_iff_toInt_lt] at h; omega
theorem own_nltn {x y : Int32} {j n : Nat} (hx : x.toInt = j) (hy : y.toInt = n) (h : ¬ (x < y)) : ¬ j < n := by rw [Int32.lt_iff_toInt_lt] at h; omega
theorem own_eqn {x y : Int32} {j n : Nat} (hx : x.toInt = j) (hy : y.toInt = n) (h : x = y) : j = n := by rw [h] at hx; omega
theorem own_neqn {x y : Int32} {j n : Nat} (hx : x.toInt = j) (hy : y.toInt = n) (h : ¬ (x = y)) : ¬ j = n := fun q => h (Int32.toInt_inj.mp (by omega))
theorem own_sub {x y : Int32} {a b : Nat} (hx : x.toInt = a) (hy : y.toInt = b) (h : b ≤ a) : (x - y).toInt = ((a - b : Nat) : Int) := by
  have q := c_isub x y
  have r := rng32 (x - y)
  have r1 := rng32 x
  omega
theorem own_add {x y : Int32} {a b : Nat} (hx : x.toInt = a) (hy : y.toInt = b) (h : a + b < 2147483648) : (x + y).toInt = ((a + b : Nat) : Int) := by
  have q := c_iadd x y
  have r := rng32 (x + y)
  omega
theorem own_chr (w : Int32) : 0 ≤ (w.toUInt32.toUInt16.toUInt32.toInt32).toInt ∧ (w.toUInt32.toUInt16.toUInt32.toInt32).toInt < 65536 := (c_i2c w).2
theorem own_nc {w : Int32} (h : 0 ≤ w.toInt ∧ w.toInt < 65536) : nar .char w = w := Value.int.inj (own_narC h.1 h.2)
end OwnDec2
section OwnNum
theorem own_selP {Z : State} {a0 : Array Value} {y : MethodName} {n : Nat} (wi : (Cond.instantiable y.cls n).before a0 Z = true) (w2 : (Cond.instanceMethod y).before a0 Z = true) (wp : (Cond.privateMethod y).before a0 Z = true) (hy : y.cls ≠ "java/lang/invoke/MethodHandle" ∧ y.cls ≠ "java/lang/invoke/VarHandle") : (Cond.selects y.cls y y).before a0 Z = true := by
  obtain ⟨c, k, h1, h2, -, h4, -⟩ := Cond.instantiable_spec wi
  exact selects_self_of_private h1 h2 (Bool.or_eq_false_iff.mp h4).1 (Cond.privateMethod_at wp) w2 hy
def own_dig (c : Int32) : Int32 := (if c < (48 : Int32) then (0 : Int32) else (if (57 : Int32) < c then (0 : Int32) else (1 : Int32)))
def own_nzd (c : Int32) : Int32 := (if c < (49 : Int32) then (0 : Int32) else (if (57 : Int32) < c then (0 : Int32) else (1 : Int32)))
theorem own_dig01 (c : Int32) : own_dig c = 0 ∨ own_dig c = 1 := by
  unfold own_dig; split
  · exact Or.inl rfl
  · split
    · exact Or.inl rfl
    · exact Or.inr rfl
theorem own_nzd01 (c : Int32) : own_nzd c = 0 ∨ own_nzd c = 1 := by
  unfold own_nzd; split
  · exact Or.inl rfl
  · split
    · exact Or.inl rfl
    · exact Or.inr rfl
def own_rp (f : Nat → Int32) : Nat → Nat → Nat
  | 0, j => j
  | k + 1, j => if own_dig (f j) = 0 then j else own_rp f k (j + 1)
def own_rs (f : Nat → Int32) : Nat → Nat → Nat → Nat
  | 0, _, sd => sd
  | k + 1, j, sd => if own_dig (f j) = 0 then sd else own_rs f k (j + 1) (if 0 < sd ∨ ¬ f j = (48 : Int32) then sd + 1 else sd)
theorem own_rp_le (f : Nat → Int32) : ∀ k j, j ≤ own_rp f k j ∧ own_rp f k j ≤ j + k
  | 0, j => ⟨Nat.le_refl _, Nat.le_refl _⟩
  | k + 1, j => by
    unfold own_rp
    split
    · omega
    · have := own_rp_le f k (j + 1); omega
theorem own_rs_le (f : Nat → Int32) : ∀ k j sd, own_rs f k j sd ≤ sd + k
  | 0, j, sd => Nat.le_refl _
  | k + 1, j, sd => by
    unfold own_rs
    split
    · omega
    · have := own_rs_le f k (j + 1) (if 0 < sd ∨ ¬ f j = (48 : Int32) then sd + 1 else sd)
      split at this <;> rename_i hh <;> simp only [hh, if_true, if_false] <;> omega
/-- what scan leaves: the end of the digits, their number, the significant ones; the point's place is p1 -/
def own_p1 (f : Nat → Int32) (s lim : Nat) : Nat := own_rp f (lim - s) s
def own_s1 (f : Nat → Int32) (s lim : Nat) : Nat := own_rs f (lim - s) s 0
def own_pnt (f : Nat → Int32) (s lim : Nat) : Prop := own_p1 f s lim < lim ∧ f (own_p1 f s lim) = (46 : Int32)
instance (f : Nat → Int32) (s lim : Nat) : Decidable (own_pnt f s lim) := by unfold own_pnt; infer_instance
def own_p2 (f : Nat → Int32) (s lim : Nat) : Nat := if own_pnt f s lim then own_rp f (lim - (own_p1 f s lim + 1)) (own_p1 f s lim + 1) else own_p1 f s lim
def own_s2 (f : Nat → Int32) (s lim : Nat) : Nat := if own_pnt f s lim then own_rs f (lim - (own_p1 f s lim + 1)) (own_p1 f s lim + 1) (own_s1 f s lim) else own_s1 f s lim
def own_dgs (f : Nat → Int32) (s lim : Nat) : Nat := if own_pnt f s lim then (own_p1 f s lim - s) + (own_p2 f s lim - (own_p1 f s lim + 1)) else own_p1 f s lim - s
def own_exq (f : Nat → Int32) (s lim : Nat) : Prop := ¬ own_dgs f s lim = 0 ∧ own_p2 f s lim < lim ∧ (f (own_p2 f s lim) = (101 : Int32) ∨ f (own_p2 f s lim) = (69 : Int32))
instance (f : Nat → Int32) (s lim : Nat) : Decidable (own_exq f s lim) := by unfold own_exq; infer_instance
end OwnNum
section OwnNumLaw
/-- the law's own stop -/
def own_st1 (f : Nat → Int32) (fr lim p : Nat) : Nat := if fr ≤ p ∧ own_dig (f p) = 0 ∧ p < lim then p else lim
def own_st (f : Nat → Int32) (fr lim p q : Nat) : Nat := own_st1 f fr (own_st1 f fr lim p) q
def own_ff (f : Nat → Int32) (p q : Nat) : Prop := ∀ i, i < 48 → i ≠ p → i ≠ q → f i = if i < 4 then (48 : Int32) else (57 : Int32)
theorem own_ff_dig {f : Nat → Int32} {p q i : Nat} (H : own_ff f p q) (h : i < 48) (h1 : i ≠ p) (h2 : i ≠ q) : ¬ own_dig (f i) = 0 := by
  rw [H i h h1 h2]; split <;> decide
theorem own_ff_nz {f : Nat → Int32} {p q i : Nat} (H : own_ff f p q) (h : i < 48) (h1 : i ≠ p) (h2 : i ≠ q) (h4 : 4 ≤ i) : own_nzd (f i) = 1 := by
  rw [H i h h1 h2, if_neg (by omega)]; decide
theorem own_ff_z {f : Nat → Int32} {p q i : Nat} (H : own_ff f p q) (h : i < 48) (h1 : i ≠ p) (h2 : i ≠ q) (h4 : i < 4) : own_nzd (f i) = 0 := by
  rw [H i h h1 h2, if_pos h4]; decide
theorem own_rp_is (f : Nat → Int32) : ∀ k j R, j ≤ R → R ≤ j + k → (∀ i, j ≤ i → i < R → ¬ own_dig (f i) = 0) → (R = j + k ∨ own_dig (f R) = 0) → own_rp f k j = R
  | 0, j, R, h1, h2, _, _ => by unfold own_rp; omega
  | k + 1, j, R, h1, h2, h3, h4 => by
    unfold own_rp
    by_cases hd : own_dig (f j) = 0
    · rw [if_pos hd]
      by_cases e : j = R
      · exact e
      · exact absurd hd (h3 j (Nat.le_refl _) (by omega))
    · rw [if_neg hd]
      have hne : j ≠ R := fun e => by
        subst e
        rcases h4 with h4 | h4
        · omega
        · exact hd h4
      exact own_rp_is f k (j + 1) R (by omega) (by omega) (fun i a b => h3 i (by omega) b) (h4.elim (fun e => Or.inl (by omega)) Or.inr)
theorem own_st1_le (f : Nat → Int32) (fr lim p : Nat) (h : fr ≤ lim) : fr ≤ own_st1 f fr lim p ∧ own_st1 f fr lim p ≤ lim := by
  unfold own_st1; split <;> omega
theorem own_st_le (f : Nat → Int32) (fr lim p q : Nat) (h : fr ≤ lim) : fr ≤ own_st f fr lim p q ∧ own_st f fr lim p q ≤ lim := by
  have h1 := own_st1_le f fr lim p h
  have h2 := own_st1_le f fr (own_st1 f fr lim p) q h1.1
  unfold own_st; omega
theorem own_rp_st {f : Nat → Int32} {p q fr lim : Nat} (H : own_ff f p q) (h : fr ≤ lim) (h48 : lim ≤ 48) : own_rp f (lim - fr) fr = own_st f fr lim p q := by
  have hb := own_st_le f fr lim p q h
  refine own_rp_is f _ _ _ hb.1 (by omega) ?_ ?_
  · intro i a b c
    have b0 := b
    unfold own_st at b
    by_cases ep : i = p
    · subst ep
      have : own_st1 f fr lim i = i := if_pos ⟨a, c, by omega⟩
      rw [this] at b
      have := own_st1_le f fr i q a
      omega
    · by_cases eq : i = q
      · subst eq
        have h1 := own_st1_le f fr lim p h
        have : i < own_st1 f fr lim p := by
          have := own_st1_le f fr (own_st1 f fr lim p) i h1.1
          omega
        rw [own_st1, if_pos ⟨a, c, this⟩] at b
        omega
      · exact own_ff_dig H (by omega) ep eq c
  · have h1 := own_st1_le f fr lim p h
    unfold own_st
    by_cases c2 : fr ≤ q ∧ own_dig (f q) = 0 ∧ q < own_st1 f fr lim p
    · have e : own_st1 f fr (own_st1 f fr lim p) q = q := if_pos c2
      rw [e]; exact Or.inr c2.2.1
    · have e : own_st1 f fr (own_st1 f fr lim p) q = own_st1 f fr lim p := if_neg c2
      rw [e]
      by_cases c1 : fr ≤ p ∧ own_dig (f p) = 0 ∧ p < lim
      · have e : own_st1 f fr lim p = p := if_pos c1
        rw [e]; exact Or.inr c1.2.1
      · have e : own_st1 f fr lim p = lim := if_neg c1
        rw [e]; exact Or.inl (by omega)
theorem own_nz_dig {c : Int32} (h : ¬ own_dig c = 0) : (own_nzd c = 0 → c = 48) ∧ (own_nzd c = 1 → ¬ c = 48) := by
  refine ⟨fun q => ?_, fun q e => by rw [e] at q; exact absurd q (by decide)⟩
  unfold own_dig at h; unfold own_nzd at q
  by_cases a : c < 48
  · rw [if_pos a] at h; exact absurd rfl h
  · rw [if_neg a] at h
    by_cases b : 57 < c
    · rw [if_pos b] at h; exact absurd rfl h
    · rw [if_neg b] at q
      by_cases d : c < 49
      · rw [Int32.lt_iff_toInt_lt] at a d
        have e1 : (48 : Int32).toInt = 48 := by decide
        have e2 : (49 : Int32).toInt = 49 := by decide
        exact Int32.toInt_inj.mp (by omega)
      · rw [if_neg d] at q; exact absurd q (by decide)
theorem own_rs_pos (f : Nat → Int32) : ∀ k j sd, 0 < sd → own_rs f k j sd = sd + (own_rp f k j - j)
  | 0, j, sd, _ => by unfold own_rs own_rp; omega
  | k + 1, j, sd, h => by
    unfold own_rs own_rp
    by_cases c : own_dig (f j) = 0
    · rw [if_pos c, if_pos c]; omega
    · rw [if_neg c, if_neg c, if_pos (Or.inl h), own_rs_pos f k (j + 1) (sd + 1) (by omega)]
      have := own_rp_le f k (j + 1)
      omega
theorem own_rs_zero (f : Nat → Int32) : ∀ k j g, j ≤ g → g ≤ own_rp f k j → (∀ i, j ≤ i → i < g → own_nzd (f i) = 0) → (g < own_rp f k j → own_nzd (f g) = 1) → own_rs f k j 0 = own_rp f k j - g
  | 0, j, g, h1, h2, _, _ => by unfold own_rp at h2 ⊢; unfold own_rs; omega
  | k + 1, j, g, h1, h2, h3, h4 => by
    unfold own_rs
    have hle := own_rp_le f k (j + 1)
    by_cases c : own_dig (f j) = 0
    · rw [if_pos c]; unfold own_rp at h2 ⊢; rw [if_pos c] at h2 ⊢; omega
    · rw [if_neg c]
      have er : own_rp f (k + 1) j = own_rp f k (j + 1) := by rw [own_rp, if_neg c]
      rw [er] at h2 h4 ⊢
      by_cases e : g = j
      · subst e
        have := (own_nz_dig c).2 (h4 (by omega))
        rw [if_pos (Or.inr this), own_rs_pos f k (g + 1) (0 + 1) (by omega)]
        omega
      · have := (own_nz_dig c).1 (h3 j (Nat.le_refl _) (by omega))
        rw [if_neg (fun q => q.elim (fun z => absurd z (Nat.lt_irrefl 0)) (fun z => z this))]
        exact own_rs_zero f k (j + 1) g (by omega) h2 (fun i a b => h3 i (by omega) b) h4
def own_b0 (p q : Nat) : Nat := if 4 = p ∨ 4 = q then 5 else 4
def own_bb (p q : Nat) : Nat := if own_b0 p q = p ∨ own_b0 p q = q then own_b0 p q + 1 else own_b0 p q
theorem own_bb_is (p q : Nat) : 4 ≤ own_bb p q ∧ own_bb p q ≤ 6 ∧ own_bb p q ≠ p ∧ own_bb p q ≠ q ∧ ∀ i, 4 ≤ i → i < own_bb p q → i = p ∨ i = q := by
  by_cases a : 4 = p ∨ 4 = q
  · have e0 : own_b0 p q = 5 := if_pos a
    by_cases b : 5 = p ∨ 5 = q
    · have e : own_bb p q = 6 := by rw [own_bb, e0, if_pos b]
      rw [e]; exact ⟨by omega, by omega, by omega, by omega, fun i c d => by omega⟩
    · have e : own_bb p q = 5 := by rw [own_bb, e0, if_neg b]
      rw [e]; exact ⟨by omega, by omega, by omega, by omega, fun i c d => by omega⟩
  · have e0 : own_b0 p q = 4 := if_neg a
    have e : own_bb p q = 4 := by rw [own_bb, e0, if_neg a]
    rw [e]; exact ⟨by omega, by omega, by omega, by omega, fun i c d => by omega⟩
def own_g0 (p q p2 : Nat) : Nat := if own_bb p q < p2 then own_bb p q else 48
def own_gx (f : Nat → Int32) (s p2 p g : Nat) : Nat := if own_nzd (f p) = 1 ∧ s ≤ p ∧ p < p2 ∧ p < g then p else g
def own_g (f : Nat → Int32) (s p2 p q : Nat) : Nat := own_gx f s p2 q (own_gx f s p2 p (own_g0 p q p2))
theorem own_g_is {f : Nat → Int32} {p q s p2 : Nat} (H : own_ff f p q) (hs : s ≤ 4) (h48 : p2 ≤ 48) :
    s ≤ own_g f s p2 p q ∧ (own_g f s p2 p q < p2 → own_nzd (f (own_g f s p2 p q)) = 1) ∧ ∀ i, s ≤ i → i < own_g f s p2 p q → i < p2 → own_nzd (f i) = 0 := by
  have hb := own_bb_is p q
  obtain ⟨g0, e0⟩ : ∃ z, z = own_g0 p q p2 := ⟨_, rfl⟩
  have P0 : s ≤ g0 ∧ (g0 < p2 → own_nzd (f g0) = 1) ∧ ∀ i, s ≤ i → i < g0 → i < p2 → i ≠ p → i ≠ q → own_nzd (f i) = 0 := by
    unfold own_g0 at e0
    split at e0
    · rename_i hlt
      subst e0
      exact ⟨by omega, fun _ => own_ff_nz H (by omega) hb.2.2.1 hb.2.2.2.1 hb.1, fun i a b c d e => own_ff_z H (by omega) d e (Nat.lt_of_not_le fun z => (hb.2.2.2.2 i z b).elim d e)⟩
    · rename_i hlt
      subst e0
      exact ⟨by omega, fun z => by omega, fun i a b c d e => own_ff_z H b d e (Nat.lt_of_not_le fun z => (hb.2.2.2.2 i z (by omega)).elim d e)⟩
  obtain ⟨g1, e1⟩ : ∃ z, z = own_gx f s p2 p g0 := ⟨_, rfl⟩
  have P1 : s ≤ g1 ∧ (g1 < p2 → own_nzd (f g1) = 1) ∧ ∀ i, s ≤ i → i < g1 → i < p2 → i ≠ q → own_nzd (f i) = 0 := by
    unfold own_gx at e1
    split at e1
    · rename_i hc
      subst e1
      exact ⟨hc.2.1, fun _ => hc.1, fun i a b c d => P0.2.2 i a (by omega) c (by omega) d⟩
    · rename_i hc
      subst e1
      refine ⟨P0.1, P0.2.1, fun i a b c d => ?_⟩
      by_cases ei : i = p
      · subst ei
        exact (own_nzd01 (f i)).elim id (fun z => absurd ⟨z, a, c, b⟩ hc)
      · exact P0.2.2 i a b c ei d
  show s ≤ own_gx f s p2 q (own_gx f s p2 p (own_g0 p q p2)) ∧ (own_gx f s p2 q (own_gx f s p2 p (own_g0 p q p2)) < p2 → own_nzd (f (own_gx f s p2 q (own_gx f s p2 p (own_g0 p q p2)))) = 1) ∧ ∀ i, s ≤ i → i < own_gx f s p2 q (own_gx f s p2 p (own_g0 p q p2)) → i < p2 → own_nzd (f i) = 0
  rw [← e0, ← e1]
  obtain ⟨g2, e2⟩ : ∃ z, z = own_gx f s p2 q g1 := ⟨_, rfl⟩
  rw [← e2]
  unfold own_gx at e2
  split at e2
  · rename_i hc
    subst e2
    exact ⟨hc.2.1, fun _ => hc.1, fun i a b c => P1.2.2 i a (by omega) c (by omega)⟩
  · rename_i hc
    subst e2
    refine ⟨P1.1, P1.2.1, fun i a b c => ?_⟩
    by_cases ei : i = q
    · subst ei
      exact (own_nzd01 (f i)).elim id (fun z => absurd ⟨z, a, c, b⟩ hc)
    · exact P1.2.2 i a b c ei
def own_sig (f : Nat → Int32) (s lim p q : Nat) : Nat :=
  if own_g f s (own_p2 f s lim) p q < own_p2 f s lim then own_p2 f s lim - own_g f s (own_p2 f s lim) p q - (if own_pnt f s lim ∧ own_g f s (own_p2 f s lim) p q < own_p1 f s lim then 1 else 0) else 0
theorem own_p2_le (f : Nat → Int32) (s lim : Nat) (h : s ≤ lim) : s ≤ own_p1 f s lim ∧ own_p1 f s lim ≤ own_p2 f s lim ∧ own_p2 f s lim ≤ lim := by
  have h1 := own_rp_le f (lim - s) s
  have h2 := own_rp_le f (lim - (own_p1 f s lim + 1)) (own_p1 f s lim + 1)
  unfold own_p2
  change s ≤ own_p1 f s lim ∧ own_p1 f s lim ≤ _ at h1
  split
  · rename_i hp; have := hp.1; omega
  · omega
theorem own_sig_is {f : Nat → Int32} {p q s lim : Nat} (H : own_ff f p q) (hs : s ≤ 4) (h : s ≤ lim) (h48 : lim ≤ 48) : own_sig f s lim p q = own_s2 f s lim := by
  have hp := own_p2_le f s lim h
  obtain ⟨g, eg⟩ : ∃ z, z = own_g f s (own_p2 f s lim) p q := ⟨_, rfl⟩
  have G := own_g_is (s := s) (p2 := own_p2 f s lim) H hs (by omega)
  unfold own_sig
  rw [← eg] at G ⊢
  obtain ⟨g1, g2, g3⟩ := G
  by_cases pt : own_pnt f s lim
  · have e2 : own_p2 f s lim = own_rp f (lim - (own_p1 f s lim + 1)) (own_p1 f s lim + 1) := if_pos pt
    have es : own_s2 f s lim = own_rs f (lim - (own_p1 f s lim + 1)) (own_p1 f s lim + 1) (own_s1 f s lim) := if_pos pt
    have hle := own_rp_le f (lim - (own_p1 f s lim + 1)) (own_p1 f s lim + 1)
    have hg1 : g ≠ own_p1 f s lim := fun e => by
      have := g2 (by omega)
      rw [e, pt.2] at this
      exact absurd this (by decide)
    rw [es]
    by_cases lt1 : g < own_p1 f s lim
    · have e1 : own_s1 f s lim = own_p1 f s lim - g := own_rs_zero f (lim - s) s g g1 (Nat.le_of_lt lt1) (fun i a b => g3 i a b (by omega)) (fun _ => g2 (by omega))
      rw [e1, own_rs_pos f _ _ _ (by omega), if_pos (by omega), if_pos ⟨pt, lt1⟩, ← e2]
      omega
    · have e1 : own_s1 f s lim = own_p1 f s lim - own_p1 f s lim := own_rs_zero f (lim - s) s (own_p1 f s lim) hp.1 (Nat.le_refl _) (fun i a b => g3 i a (by omega) (by omega)) (fun z => absurd z (Nat.lt_irrefl _))
      rw [e1, Nat.sub_self]
      by_cases lt2 : g < own_p2 f s lim
      · rw [if_pos lt2, if_neg (fun z => lt1 z.2)]
        rw [e2] at lt2 g2 g3 ⊢
        rw [own_rs_zero f _ _ g (by omega) (by omega) (fun i a b => g3 i (by omega) b (by omega)) (fun _ => g2 lt2)]
        omega
      · rw [if_neg lt2]
        rw [e2] at lt2 g2 g3
        rw [own_rs_zero f _ _ _ hle.1 (Nat.le_refl _) (fun i a b => g3 i (by omega) (by omega) b) (fun z => absurd z (Nat.lt_irrefl _))]
        omega
  · have e2 : own_p2 f s lim = own_p1 f s lim := if_neg pt
    have es : own_s2 f s lim = own_s1 f s lim := if_neg pt
    rw [es, e2]
    rw [e2] at g2 g3
    by_cases lt1 : g < own_p1 f s lim
    · have e1 : own_s1 f s lim = own_p1 f s lim - g := own_rs_zero f (lim - s) s g g1 (Nat.le_of_lt lt1) (fun i a b => g3 i a b (by omega)) (fun _ => g2 (by omega))
      rw [e1, if_pos lt1, if_neg (fun z => pt z.1)]; omega
    · have e1 : own_s1 f s lim = own_p1 f s lim - own_p1 f s lim := own_rs_zero f (lim - s) s (own_p1 f s lim) hp.1 (Nat.le_refl _) (fun i a b => g3 i a (by omega) b) (fun z => absurd z (Nat.lt_irrefl _))
      rw [e1, if_neg lt1]; omega
def own_fits (xv dv sv : Int32) : Int32 := (if xv = (0 : Int32) then (if (0 : Int32) < dv then (if (38 : Int32) < sv then (0 : Int32) else (1 : Int32)) else (0 : Int32)) else (0 : Int32))
theorem own_fits01 (xv dv sv : Int32) : own_fits xv dv sv = 0 ∨ own_fits xv dv sv = 1 := by
  unfold own_fits
  by_cases a : xv = 0
  · rw [if_pos a]
    by_cases b : (0 : Int32) < dv
    · rw [if_pos b]
      by_cases c : (38 : Int32) < sv
      · rw [if_pos c]; exact Or.inl rfl
      · rw [if_neg c]; exact Or.inr rfl
    · rw [if_neg b]; exact Or.inl rfl
  · rw [if_neg a]; exact Or.inl rfl
def own_bs (k i : Nat) : Int32 := if i < k then (if i < 4 then (48 : Int32) else (57 : Int32)) else 0
theorem own_bs_step {w : Int32} {k : Nat} (h : (if k < 4 then (48 : Int32) else (57 : Int32)) = w) (i : Nat) : (if i = k then w else own_bs k i) = own_bs (k + 1) i := by
  by_cases e : i = k
  · subst e
    rw [if_pos rfl]
    exact h.symm.trans (if_pos (Nat.lt_succ_self i)).symm
  · rw [if_neg e]
    by_cases e2 : i < k
    · exact (if_pos e2).trans (if_pos (Nat.lt_succ_of_lt e2)).symm
    · exact (if_neg e2).trans (if_neg (fun q => e2 (by omega))).symm
theorem own_bsA {Z : State} {h : Heap} {a : Addr} {j w : Int32} {k : Nat} (F : own_A Z h a .char 48 (fun i => if i = j.toInt.toNat then nar .char w else own_bs k i)) (hj : j.toInt.toNat = k) (hw : (if k < 4 then (48 : Int32) else (57 : Int32)) = nar .char w) : own_A Z h a .char 48 (own_bs (k + 1)) :=
  F.congr (fun i _ => by subst hj; exact own_bs_step hw i)
theorem own_modn (x k : Int32) (n : Nat) (hk : k.toInt = (n : Int)) (hn : 0 < n) : ∃ j : Nat, ((x &&& (2147483647 : Int32)) % k).toInt = (j : Int) ∧ j < n := by
  have h1 := c_mask x 2147483647 31 (by decide) (by decide)
  have h0 : 0 ≤ (x &&& (2147483647 : Int32)).toInt := by omega
  have h2 := (c_irem (x &&& (2147483647 : Int32)) k n hk).1 h0
  have h3 := Int.emod_nonneg (x &&& (2147483647 : Int32)).toInt (b := (n : Int)) (by omega)
  have h4 := Int.emod_lt_of_pos (x &&& (2147483647 : Int32)).toInt (b := (n : Int)) (by omega)
  exact ⟨((x &&& (2147483647 : Int32)) % k).toInt.toNat, by omega, by omega⟩
theorem own_pt0 {c : Prop} [Decidable c] {v : Int32} (h : v = if c then 1 else 0) : (v = 0 → ¬ c) ∧ (¬ v = 0 → c) := by
  by_cases a : c
  · rw [if_pos a] at h; exact ⟨fun q => absurd (q.symm.trans h) (by decide), fun _ => a⟩
  · rw [if_neg a] at h; exact ⟨fun _ => a, fun q => absurd h q⟩
end OwnNumLaw
theorem own_w {Z : State} {a0 : Array Value} (hw : ∀ d ∈ tables_1, d.before a0 Z = true) (i : Nat) {d : Jvm.Cond} (h : tables_1[i]? = some d) : d.before a0 Z = true := hw d (List.mem_of_getElem? h)
abbrev own_k0 : String := "com/example/tally_of_atoms/tallyofatoms/Numeral"
abbrev own_H (Z : State) (a0 : Array Value) : Prop := ∀ d ∈ tables_1, d.before a0 Z = true
section OwnSn
variable {Z : State} {a0 : Array Value}
theorem sn_0 (hw : own_H Z a0) : Jvm.RoadKit.slotOf Z own_k0 "significand" "J" ≠ Jvm.RoadKit.slotOf Z own_k0 "significandHigh" "J" := slot_ne (Or.inl (own_w hw 29 rfl)) (Or.inl (own_w hw 31 rfl)) (by decide) (t := .long) (t' := .long) (by decide) (by decide)
theorem sn_1 (hw : own_H Z a0) : Jvm.RoadKit.slotOf Z own_k0 "characters" "[C" ≠ Jvm.RoadKit.slotOf Z own_k0 "significandHigh" "J" := slot_ne (Or.inl (own_w hw 21 rfl)) (Or.inl (own_w hw 31 rfl)) (by decide) (t := (.array .char)) (t' := .long) (by decide) (by decide)
theorem sn_2 (hw : own_H Z a0) : Jvm.RoadKit.slotOf Z own_k0 "characters" "[C" ≠ Jvm.RoadKit.slotOf Z own_k0 "significand" "J" := slot_ne (Or.inl (own_w hw 21 rfl)) (Or.inl (own_w hw 29 rfl)) (by decide) (t := (.array .char)) (t' := .long) (by decide) (by decide)
theorem sn_3 (hw : own_H Z a0) : Jvm.RoadKit.slotOf Z own_k0 "start" "I" ≠ Jvm.RoadKit.slotOf Z own_k0 "significandHigh" "J" := slot_ne (Or.inl (own_w hw 23 rfl)) (Or.inl (own_w hw 31 rfl)) (by decide) (t := .int) (t' := .long) (by decide) (by decide)
theorem sn_4 (hw : own_H Z a0) : Jvm.RoadKit.slotOf Z own_k0 "start" "I" ≠ Jvm.RoadKit.slotOf Z own_k0 "significand" "J" := slot_ne (Or.inl (own_w hw 23 rfl)) (Or.inl (own_w hw 29 rfl)) (by decide) (t := .int) (t' := .long) (by decide) (by decide)
theorem sn_5 (hw : own_H Z a0) : Jvm.RoadKit.slotOf Z own_k0 "end" "I" ≠ Jvm.RoadKit.slotOf Z own_k0 "significandHigh" "J" := slot_ne (Or.inl (own_w hw 54 rfl)) (Or.inl (own_w hw 31 rfl)) (by decide) (t := .int) (t' := .long) (by decide) (by decide)
theorem sn_6 (hw : own_H Z a0) : Jvm.RoadKit.slotOf Z own_k0 "end" "I" ≠ Jvm.RoadKit.slotOf Z own_k0 "significand" "J" := slot_ne (Or.inl (own_w hw 54 rfl)) (Or.inl (own_w hw 29 rfl)) (by decide) (t := .int) (t' := .long) (by decide) (by decide)
theorem sn_7 (hw : own_H Z a0) : Jvm.RoadKit.slotOf Z own_k0 "digits" "I" ≠ Jvm.RoadKit.slotOf Z own_k0 "significandHigh" "J" := slot_ne (Or.inl (own_w hw 46 rfl)) (Or.inl (own_w hw 31 rfl)) (by decide) (t := .int) (t' := .long) (by decide) (by decide)
theorem sn_8 (hw : own_H Z a0) : Jvm.RoadKit.slotOf Z own_k0 "digits" "I" ≠ Jvm.RoadKit.slotOf Z own_k0 "significand" "J" := slot_ne (Or.inl (own_w hw 46 rfl)) (Or.inl (own_w hw 29 rfl)) (by decide) (t := .int) (t' := .long) (by decide) (by decide)
theorem sn_9 (hw : own_H Z a0) : Jvm.RoadKit.slotOf Z own_k0 "point" "Z" ≠ Jvm.RoadKit.slotOf Z own_k0 "significandHigh" "J" := slot_ne (Or.inl (own_w hw 48 rfl)) (Or.inl (own_w hw 31 rfl)) (by decide) (t := .boolean) (t' := .long) (by decide) (by decide)
theorem sn_10 (hw : own_H Z a0) : Jvm.RoadKit.slotOf Z own_k0 "point" "Z" ≠ Jvm.RoadKit.slotOf Z own_k0 "significand" "J" := slot_ne (Or.inl (own_w hw 48 rfl)) (Or.inl (own_w hw 29 rfl)) (by decide) (t := .boolean) (t' := .long) (by decide) (by decide)
theorem sn_11 (hw : own_H Z a0) : Jvm.RoadKit.slotOf Z own_k0 "exponent" "Z" ≠ Jvm.RoadKit.slotOf Z own_k0 "significandHigh" "J" := slot_ne (Or.inl (own_w hw 50 rfl)) (Or.inl (own_w hw 31 rfl)) (by decide) (t := .boolean) (t' := .long) (by decide) (by decide)
theorem sn_12 (hw : own_H Z a0) : Jvm.RoadKit.slotOf Z own_k0 "exponent" "Z" ≠ Jvm.RoadKit.slotOf Z own_k0 "significand" "J" := slot_ne (Or.inl (own_w hw 50 rfl)) (Or.inl (own_w hw 29 rfl)) (by decide) (t := .boolean) (t' := .long) (by decide) (by decide)
theorem sn_13 (hw : own_H Z a0) : Jvm.RoadKit.slotOf Z own_k0 "exponentDigits" "Z" ≠ Jvm.RoadKit.slotOf Z own_k0 "significandHigh" "J" := slot_ne (Or.inl (own_w hw 52 rfl)) (Or.inl (own_w hw 31 rfl)) (by decide) (t := .boolean) (t' := .long) (by decide) (by decide)
theorem sn_14 (hw : own_H Z a0) : Jvm.RoadKit.slotOf Z own_k0 "exponentDigits" "Z" ≠ Jvm.RoadKit.slotOf Z own_k0 "significand" "J" := slot_ne (Or.inl (own_w hw 52 rfl)) (Or.inl (own_w hw 29 rfl)) (by decide) (t := .boolean) (t' := .long) (by decide) (by decide)
theorem sn_15 (hw : own_H Z a0) : Jvm.RoadKit.slotOf Z own_k0 "special" "I" ≠ Jvm.RoadKit.slotOf Z own_k0 "significandHigh" "J" := slot_ne (Or.inl (own_w hw 25 rfl)) (Or.inl (own_w hw 31 rfl)) (by decide) (t := .int) (t' := .long) (by decide) (by decide)
theorem sn_16 (hw : own_H Z a0) : Jvm.RoadKit.slotOf Z own_k0 "special" "I" ≠ Jvm.RoadKit.slotOf Z own_k0 "significand" "J" := slot_ne (Or.inl (own_w hw 25 rfl)) (Or.inl (own_w hw 29 rfl)) (by decide) (t := .int) (t' := .long) (by decide) (by decide)
theorem sn_17 (hw : own_H Z a0) : Jvm.RoadKit.slotOf Z own_k0 "negative" "Z" ≠ Jvm.RoadKit.slotOf Z own_k0 "significandHigh" "J" := slot_ne (Or.inl (own_w hw 27 rfl)) (Or.inl (own_w hw 31 rfl)) (by decide) (t := .boolean) (t' := .long) (by decide) (by decide)
theorem sn_18 (hw : own_H Z a0) : Jvm.RoadKit.slotOf Z own_k0 "negative" "Z" ≠ Jvm.RoadKit.slotOf Z own_k0 "significand" "J" := slot_ne (Or.inl (own_w hw 27 rfl)) (Or.inl (own_w hw 29 rfl)) (by decide) (t := .boolean) (t' := .long) (by decide) (by decide)
theorem sn_19 (hw : own_H Z a0) : Jvm.RoadKit.slotOf Z own_k0 "significandHigh" "J" ≠ Jvm.RoadKit.slotOf Z own_k0 "significand" "J" := slot_ne (Or.inl (own_w hw 31 rfl)) (Or.inl (own_w hw 29 rfl)) (by decide) (t := .long) (t' := .long) (by decide) (by decide)
theorem sn_20 (hw : own_H Z a0) : Jvm.RoadKit.slotOf Z own_k0 "significantDigits" "I" ≠ Jvm.RoadKit.slotOf Z own_k0 "significandHigh" "J" := slot_ne (Or.inl (own_w hw 33 rfl)) (Or.inl (own_w hw 31 rfl)) (by decide) (t := .int) (t' := .long) (by decide) (by decide)
theorem sn_21 (hw : own_H Z a0) : Jvm.RoadKit.slotOf Z own_k0 "significantDigits" "I" ≠ Jvm.RoadKit.slotOf Z own_k0 "significand" "J" := slot_ne (Or.inl (own_w hw 33 rfl)) (Or.inl (own_w hw 29 rfl)) (by decide) (t := .int) (t' := .long) (by decide) (by decide)
theorem sn_22 (hw : own_H Z a0) : Jvm.RoadKit.slotOf Z own_k0 "scale" "I" ≠ Jvm.RoadKit.slotOf Z own_k0 "significandHigh" "J" := slot_ne (Or.inl (own_w hw 35 rfl)) (Or.inl (own_w hw 31 rfl)) (by decide) (t := .int) (t' := .long) (by decide) (by decide)
theorem sn_23 (hw : own_H Z a0) : Jvm.RoadKit.slotOf Z own_k0 "scale" "I" ≠ Jvm.RoadKit.slotOf Z own_k0 "significand" "J" := slot_ne (Or.inl (own_w hw 35 rfl)) (Or.inl (own_w hw 29 rfl)) (by decide) (t := .int) (t' := .long) (by decide) (by decide)
theorem sn_24 (hw : own_H Z a0) : Jvm.RoadKit.slotOf Z own_k0 "exponentValue" "I" ≠ Jvm.RoadKit.slotOf Z own_k0 "significandHigh" "J" := slot_ne (Or.inl (own_w hw 37 rfl)) (Or.inl (own_w hw 31 rfl)) (by decide) (t := .int) (t' := .long) (by decide) (by decide)
theorem sn_25 (hw : own_H Z a0) : Jvm.RoadKit.slotOf Z own_k0 "exponentValue" "I" ≠ Jvm.RoadKit.slotOf Z own_k0 "significand" "J" := slot_ne (Or.inl (own_w hw 37 rfl)) (Or.inl (own_w hw 29 rfl)) (by decide) (t := .int) (t' := .long) (by decide) (by decide)
theorem sn_26 (hw : own_H Z a0) : Jvm.RoadKit.slotOf Z own_k0 "characters" "[C" ≠ Jvm.RoadKit.slotOf Z own_k0 "significantDigits" "I" := slot_ne (Or.inl (own_w hw 21 rfl)) (Or.inl (own_w hw 33 rfl)) (by decide) (t := (.array .char)) (t' := .int) (by decide) (by decide)
theorem sn_27 (hw : own_H Z a0) : Jvm.RoadKit.slotOf Z own_k0 "start" "I" ≠ Jvm.RoadKit.slotOf Z own_k0 "significantDigits" "I" := slot_ne (Or.inl (own_w hw 23 rfl)) (Or.inl (own_w hw 33 rfl)) (by decide) (t := .int) (t' := .int) (by decide) (by decide)
theorem sn_28 (hw : own_H Z a0) : Jvm.RoadKit.slotOf Z own_k0 "end" "I" ≠ Jvm.RoadKit.slotOf Z own_k0 "significantDigits" "I" := slot_ne (Or.inl (own_w hw 54 rfl)) (Or.inl (own_w hw 33 rfl)) (by decide) (t := .int) (t' := .int) (by decide) (by decide)
theorem sn_29 (hw : own_H Z a0) : Jvm.RoadKit.slotOf Z own_k0 "digits" "I" ≠ Jvm.RoadKit.slotOf Z own_k0 "significantDigits" "I" := slot_ne (Or.inl (own_w hw 46 rfl)) (Or.inl (own_w hw 33 rfl)) (by decide) (t := .int) (t' := .int) (by decide) (by decide)
theorem sn_30 (hw : own_H Z a0) : Jvm.RoadKit.slotOf Z own_k0 "point" "Z" ≠ Jvm.RoadKit.slotOf Z own_k0 "significantDigits" "I" := slot_ne (Or.inl (own_w hw 48 rfl)) (Or.inl (own_w hw 33 rfl)) (by decide) (t := .boolean) (t' := .int) (by decide) (by decide)
theorem sn_31 (hw : own_H Z a0) : Jvm.RoadKit.slotOf Z own_k0 "exponent" "Z" ≠ Jvm.RoadKit.slotOf Z own_k0 "significantDigits" "I" := slot_ne (Or.inl (own_w hw 50 rfl)) (Or.inl (own_w hw 33 rfl)) (by decide) (t := .boolean) (t' := .int) (by decide) (by decide)
theorem sn_32 (hw : own_H Z a0) : Jvm.RoadKit.slotOf Z own_k0 "exponentDigits" "Z" ≠ Jvm.RoadKit.slotOf Z own_k0 "significantDigits" "I" := slot_ne (Or.inl (own_w hw 52 rfl)) (Or.inl (own_w hw 33 rfl)) (by decide) (t := .boolean) (t' := .int) (by decide) (by decide)
theorem sn_33 (hw : own_H Z a0) : Jvm.RoadKit.slotOf Z own_k0 "special" "I" ≠ Jvm.RoadKit.slotOf Z own_k0 "significantDigits" "I" := slot_ne (Or.inl (own_w hw 25 rfl)) (Or.inl (own_w hw 33 rfl)) (by decide) (t := .int) (t' := .int) (by decide) (by decide)
theorem sn_34 (hw : own_H Z a0) : Jvm.RoadKit.slotOf Z own_k0 "negative" "Z" ≠ Jvm.RoadKit.slotOf Z own_k0 "significantDigits" "I" := slot_ne (Or.inl (own_w hw 27 rfl)) (Or.inl (own_w hw 33 rfl)) (by decide) (t := .boolean) (t' := .int) (by decide) (by decide)
theorem sn_35 (hw : own_H Z a0) : Jvm.RoadKit.slotOf Z own_k0 "significand" "J" ≠ Jvm.RoadKit.slotOf Z own_k0 "significantDigits" "I" := slot_ne (Or.inl (own_w hw 29 rfl)) (Or.inl (own_w hw 33 rfl)) (by decide) (t := .long) (t' := .int) (by decide) (by decide)
theorem sn_36 (hw : own_H Z a0) : Jvm.RoadKit.slotOf Z own_k0 "significandHigh" "J" ≠ Jvm.RoadKit.slotOf Z own_k0 "significantDigits" "I" := slot_ne (Or.inl (own_w hw 31 rfl)) (Or.inl (own_w hw 33 rfl)) (by decide) (t := .long) (t' := .int) (by decide) (by decide)
theorem sn_37 (hw : own_H Z a0) : Jvm.RoadKit.slotOf Z own_k0 "scale" "I" ≠ Jvm.RoadKit.slotOf Z own_k0 "significantDigits" "I" := slot_ne (Or.inl (own_w hw 35 rfl)) (Or.inl (own_w hw 33 rfl)) (by decide) (t := .int) (t' := .int) (by decide) (by decide)
theorem sn_38 (hw : own_H Z a0) : Jvm.RoadKit.slotOf Z own_k0 "exponentValue" "I" ≠ Jvm.RoadKit.slotOf Z own_k0 "significantDigits" "I" := slot_ne (Or.inl (own_w hw 37 rfl)) (Or.inl (own_w hw 33 rfl)) (by decide) (t := .int) (t' := .int) (by decide) (by decide)
theorem sn_39 (hw : own_H Z a0) : Jvm.RoadKit.slotOf Z own_k0 "exponentValue" "I" ≠ Jvm.RoadKit.slotOf Z own_k0 "exponentDigits" "Z" := slot_ne (Or.inl (own_w hw 37 rfl)) (Or.inl (own_w hw 52 rfl)) (by decide) (t := .int) (t' := .boolean) (by decide) (by decide)
theorem sn_40 (hw : own_H Z a0) : Jvm.RoadKit.slotOf Z own_k0 "end" "I" ≠ Jvm.RoadKit.slotOf Z own_k0 "exponentDigits" "Z" := slot_ne (Or.inl (own_w hw 54 rfl)) (Or.inl (own_w hw 52 rfl)) (by decide) (t := .int) (t' := .boolean) (by decide) (by decide)
theorem sn_41 (hw : own_H Z a0) : Jvm.RoadKit.slotOf Z own_k0 "end" "I" ≠ Jvm.RoadKit.slotOf Z own_k0 "exponentValue" "I" := slot_ne (Or.inl (own_w hw 54 rfl)) (Or.inl (own_w hw 37 rfl)) (by decide) (t := .int) (t' := .int) (by decide) (by decide)
theorem sn_42 (hw : own_H Z a0) : Jvm.RoadKit.slotOf Z own_k0 "characters" "[C" ≠ Jvm.RoadKit.slotOf Z own_k0 "exponentDigits" "Z" := slot_ne (Or.inl (own_w hw 21 rfl)) (Or.inl (own_w hw 52 rfl)) (by decide) (t := (.array .char)) (t' := .boolean) (by decide) (by decide)
theorem sn_43 (hw : own_H Z a0) : Jvm.RoadKit.slotOf Z own_k0 "characters" "[C" ≠ Jvm.RoadKit.slotOf Z own_k0 "exponentValue" "I" := slot_ne (Or.inl (own_w hw 21 rfl)) (Or.inl (own_w hw 37 rfl)) (by decide) (t := (.array .char)) (t' := .int) (by decide) (by decide)
theorem sn_44 (hw : own_H Z a0) : Jvm.RoadKit.slotOf Z own_k0 "characters" "[C" ≠ Jvm.RoadKit.slotOf Z own_k0 "end" "I" := slot_ne (Or.inl (own_w hw 21 rfl)) (Or.inl (own_w hw 54 rfl)) (by decide) (t := (.array .char)) (t' := .int) (by decide) (by decide)
theorem sn_45 (hw : own_H Z a0) : Jvm.RoadKit.slotOf Z own_k0 "start" "I" ≠ Jvm.RoadKit.slotOf Z own_k0 "exponentDigits" "Z" := slot_ne (Or.inl (own_w hw 23 rfl)) (Or.inl (own_w hw 52 rfl)) (by decide) (t := .int) (t' := .boolean) (by decide) (by decide)
theorem sn_46 (hw : own_H Z a0) : Jvm.RoadKit.slotOf Z own_k0 "start" "I" ≠ Jvm.RoadKit.slotOf Z own_k0 "exponentValue" "I" := slot_ne (Or.inl (own_w hw 23 rfl)) (Or.inl (own_w hw 37 rfl)) (by decide) (t := .int) (t' := .int) (by decide) (by decide)
theorem sn_47 (hw : own_H Z a0) : Jvm.RoadKit.slotOf Z own_k0 "start" "I" ≠ Jvm.RoadKit.slotOf Z own_k0 "end" "I" := slot_ne (Or.inl (own_w hw 23 rfl)) (Or.inl (own_w hw 54 rfl)) (by decide) (t := .int) (t' := .int) (by decide) (by decide)
theorem sn_48 (hw : own_H Z a0) : Jvm.RoadKit.slotOf Z own_k0 "digits" "I" ≠ Jvm.RoadKit.slotOf Z own_k0 "exponentDigits" "Z" := slot_ne (Or.inl (own_w hw 46 rfl)) (Or.inl (own_w hw 52 rfl)) (by decide) (t := .int) (t' := .boolean) (by decide) (by decide)
theorem sn_49 (hw : own_H Z a0) : Jvm.RoadKit.slotOf Z own_k0 "digits" "I" ≠ Jvm.RoadKit.slotOf Z own_k0 "exponentValue" "I" := slot_ne (Or.inl (own_w hw 46 rfl)) (Or.inl (own_w hw 37 rfl)) (by decide) (t := .int) (t' := .int) (by decide) (by decide)
theorem sn_50 (hw : own_H Z a0) : Jvm.RoadKit.slotOf Z own_k0 "digits" "I" ≠ Jvm.RoadKit.slotOf Z own_k0 "end" "I" := slot_ne (Or.inl (own_w hw 46 rfl)) (Or.inl (own_w hw 54 rfl)) (by decide) (t := .int) (t' := .int) (by decide) (by decide)
theorem sn_51 (hw : own_H Z a0) : Jvm.RoadKit.slotOf Z own_k0 "point" "Z" ≠ Jvm.RoadKit.slotOf Z own_k0 "exponentDigits" "Z" := slot_ne (Or.inl (own_w hw 48 rfl)) (Or.inl (own_w hw 52 rfl)) (by decide) (t := .boolean) (t' := .boolean) (by decide) (by decide)
theorem sn_52 (hw : own_H Z a0) : Jvm.RoadKit.slotOf Z own_k0 "point" "Z" ≠ Jvm.RoadKit.slotOf Z own_k0 "exponentValue" "I" := slot_ne (Or.inl (own_w hw 48 rfl)) (Or.inl (own_w hw 37 rfl)) (by decide) (t := .boolean) (t' := .int) (by decide) (by decide)
theorem sn_53 (hw : own_H Z a0) : Jvm.RoadKit.slotOf Z own_k0 "point" "Z" ≠ Jvm.RoadKit.slotOf Z own_k0 "end" "I" := slot_ne (Or.inl (own_w hw 48 rfl)) (Or.inl (own_w hw 54 rfl)) (by decide) (t := .boolean) (t' := .int) (by decide) (by decide)
theorem sn_54 (hw : own_H Z a0) : Jvm.RoadKit.slotOf Z own_k0 "exponent" "Z" ≠ Jvm.RoadKit.slotOf Z own_k0 "exponentDigits" "Z" := slot_ne (Or.inl (own_w hw 50 rfl)) (Or.inl (own_w hw 52 rfl)) (by decide) (t := .boolean) (t' := .boolean) (by decide) (by decide)
theorem sn_55 (hw : own_H Z a0) : Jvm.RoadKit.slotOf Z own_k0 "exponent" "Z" ≠ Jvm.RoadKit.slotOf Z own_k0 "exponentValue" "I" := slot_ne (Or.inl (own_w hw 50 rfl)) (Or.inl (own_w hw 37 rfl)) (by decide) (t := .boolean) (t' := .int) (by decide) (by decide)
theorem sn_56 (hw : own_H Z a0) : Jvm.RoadKit.slotOf Z own_k0 "exponent" "Z" ≠ Jvm.RoadKit.slotOf Z own_k0 "end" "I" := slot_ne (Or.inl (own_w hw 50 rfl)) (Or.inl (own_w hw 54 rfl)) (by decide) (t := .boolean) (t' := .int) (by decide) (by decide)
theorem sn_57 (hw : own_H Z a0) : Jvm.RoadKit.slotOf Z own_k0 "exponentDigits" "Z" ≠ Jvm.RoadKit.slotOf Z own_k0 "exponentValue" "I" := slot_ne (Or.inl (own_w hw 52 rfl)) (Or.inl (own_w hw 37 rfl)) (by decide) (t := .boolean) (t' := .int) (by decide) (by decide)
theorem sn_58 (hw : own_H Z a0) : Jvm.RoadKit.slotOf Z own_k0 "exponentDigits" "Z" ≠ Jvm.RoadKit.slotOf Z own_k0 "end" "I" := slot_ne (Or.inl (own_w hw 52 rfl)) (Or.inl (own_w hw 54 rfl)) (by decide) (t := .boolean) (t' := .int) (by decide) (by decide)
theorem sn_59 (hw : own_H Z a0) : Jvm.RoadKit.slotOf Z own_k0 "special" "I" ≠ Jvm.RoadKit.slotOf Z own_k0 "exponentDigits" "Z" := slot_ne (Or.inl (own_w hw 25 rfl)) (Or.inl (own_w hw 52 rfl)) (by decide) (t := .int) (t' := .boolean) (by decide) (by decide)
theorem sn_60 (hw : own_H Z a0) : Jvm.RoadKit.slotOf Z own_k0 "special" "I" ≠ Jvm.RoadKit.slotOf Z own_k0 "exponentValue" "I" := slot_ne (Or.inl (own_w hw 25 rfl)) (Or.inl (own_w hw 37 rfl)) (by decide) (t := .int) (t' := .int) (by decide) (by decide)
theorem sn_61 (hw : own_H Z a0) : Jvm.RoadKit.slotOf Z own_k0 "special" "I" ≠ Jvm.RoadKit.slotOf Z own_k0 "end" "I" := slot_ne (Or.inl (own_w hw 25 rfl)) (Or.inl (own_w hw 54 rfl)) (by decide) (t := .int) (t' := .int) (by decide) (by decide)
theorem sn_62 (hw : own_H Z a0) : Jvm.RoadKit.slotOf Z own_k0 "negative" "Z" ≠ Jvm.RoadKit.slotOf Z own_k0 "exponentDigits" "Z" := slot_ne (Or.inl (own_w hw 27 rfl)) (Or.inl (own_w hw 52 rfl)) (by decide) (t := .boolean) (t' := .boolean) (by decide) (by decide)
theorem sn_63 (hw : own_H Z a0) : Jvm.RoadKit.slotOf Z own_k0 "negative" "Z" ≠ Jvm.RoadKit.slotOf Z own_k0 "exponentValue" "I" := slot_ne (Or.inl (own_w hw 27 rfl)) (Or.inl (own_w hw 37 rfl)) (by decide) (t := .boolean) (t' := .int) (by decide) (by decide)
theorem sn_64 (hw : own_H Z a0) : Jvm.RoadKit.slotOf Z own_k0 "negative" "Z" ≠ Jvm.RoadKit.slotOf Z own_k0 "end" "I" := slot_ne (Or.inl (own_w hw 27 rfl)) (Or.inl (own_w hw 54 rfl)) (by decide) (t := .boolean) (t' := .int) (by decide) (by decide)
theorem sn_65 (hw : own_H Z a0) : Jvm.RoadKit.slotOf Z own_k0 "significand" "J" ≠ Jvm.RoadKit.slotOf Z own_k0 "exponentDigits" "Z" := slot_ne (Or.inl (own_w hw 29 rfl)) (Or.inl (own_w hw 52 rfl)) (by decide) (t := .long) (t' := .boolean) (by decide) (by decide)
theorem sn_66 (hw : own_H Z a0) : Jvm.RoadKit.slotOf Z own_k0 "significand" "J" ≠ Jvm.RoadKit.slotOf Z own_k0 "exponentValue" "I" := slot_ne (Or.inl (own_w hw 29 rfl)) (Or.inl (own_w hw 37 rfl)) (by decide) (t := .long) (t' := .int) (by decide) (by decide)
theorem sn_67 (hw : own_H Z a0) : Jvm.RoadKit.slotOf Z own_k0 "significand" "J" ≠ Jvm.RoadKit.slotOf Z own_k0 "end" "I" := slot_ne (Or.inl (own_w hw 29 rfl)) (Or.inl (own_w hw 54 rfl)) (by decide) (t := .long) (t' := .int) (by decide) (by decide)
theorem sn_68 (hw : own_H Z a0) : Jvm.RoadKit.slotOf Z own_k0 "significandHigh" "J" ≠ Jvm.RoadKit.slotOf Z own_k0 "exponentDigits" "Z" := slot_ne (Or.inl (own_w hw 31 rfl)) (Or.inl (own_w hw 52 rfl)) (by decide) (t := .long) (t' := .boolean) (by decide) (by decide)
theorem sn_69 (hw : own_H Z a0) : Jvm.RoadKit.slotOf Z own_k0 "significandHigh" "J" ≠ Jvm.RoadKit.slotOf Z own_k0 "exponentValue" "I" := slot_ne (Or.inl (own_w hw 31 rfl)) (Or.inl (own_w hw 37 rfl)) (by decide) (t := .long) (t' := .int) (by decide) (by decide)
theorem sn_70 (hw : own_H Z a0) : Jvm.RoadKit.slotOf Z own_k0 "significandHigh" "J" ≠ Jvm.RoadKit.slotOf Z own_k0 "end" "I" := slot_ne (Or.inl (own_w hw 31 rfl)) (Or.inl (own_w hw 54 rfl)) (by decide) (t := .long) (t' := .int) (by decide) (by decide)
theorem sn_71 (hw : own_H Z a0) : Jvm.RoadKit.slotOf Z own_k0 "significantDigits" "I" ≠ Jvm.RoadKit.slotOf Z own_k0 "exponentDigits" "Z" := slot_ne (Or.inl (own_w hw 33 rfl)) (Or.inl (own_w hw 52 rfl)) (by decide) (t := .int) (t' := .boolean) (by decide) (by decide)
theorem sn_72 (hw : own_H Z a0) : Jvm.RoadKit.slotOf Z own_k0 "significantDigits" "I" ≠ Jvm.RoadKit.slotOf Z own_k0 "exponentValue" "I" := slot_ne (Or.inl (own_w hw 33 rfl)) (Or.inl (own_w hw 37 rfl)) (by decide) (t := .int) (t' := .int) (by decide) (by decide)
theorem sn_73 (hw : own_H Z a0) : Jvm.RoadKit.slotOf Z own_k0 "significantDigits" "I" ≠ Jvm.RoadKit.slotOf Z own_k0 "end" "I" := slot_ne (Or.inl (own_w hw 33 rfl)) (Or.inl (own_w hw 54 rfl)) (by decide) (t := .int) (t' := .int) (by decide) (by decide)
theorem sn_74 (hw : own_H Z a0) : Jvm.RoadKit.slotOf Z own_k0 "scale" "I" ≠ Jvm.RoadKit.slotOf Z own_k0 "exponentDigits" "Z" := slot_ne (Or.inl (own_w hw 35 rfl)) (Or.inl (own_w hw 52 rfl)) (by decide) (t := .int) (t' := .boolean) (by decide) (by decide)
theorem sn_75 (hw : own_H Z a0) : Jvm.RoadKit.slotOf Z own_k0 "scale" "I" ≠ Jvm.RoadKit.slotOf Z own_k0 "exponentValue" "I" := slot_ne (Or.inl (own_w hw 35 rfl)) (Or.inl (own_w hw 37 rfl)) (by decide) (t := .int) (t' := .int) (by decide) (by decide)
theorem sn_76 (hw : own_H Z a0) : Jvm.RoadKit.slotOf Z own_k0 "scale" "I" ≠ Jvm.RoadKit.slotOf Z own_k0 "end" "I" := slot_ne (Or.inl (own_w hw 35 rfl)) (Or.inl (own_w hw 54 rfl)) (by decide) (t := .int) (t' := .int) (by decide) (by decide)
theorem sn_77 (hw : own_H Z a0) : Jvm.RoadKit.slotOf Z own_k0 "exponentValue" "I" ≠ Jvm.RoadKit.slotOf Z own_k0 "end" "I" := slot_ne (Or.inl (own_w hw 37 rfl)) (Or.inl (own_w hw 54 rfl)) (by decide) (t := .int) (t' := .int) (by decide) (by decide)
theorem sn_78 (hw : own_H Z a0) : Jvm.RoadKit.slotOf Z own_k0 "start" "I" ≠ Jvm.RoadKit.slotOf Z own_k0 "characters" "[C" := slot_ne (Or.inl (own_w hw 23 rfl)) (Or.inl (own_w hw 21 rfl)) (by decide) (t := .int) (t' := (.array .char)) (by decide) (by decide)
theorem sn_79 (hw : own_H Z a0) : Jvm.RoadKit.slotOf Z own_k0 "special" "I" ≠ Jvm.RoadKit.slotOf Z own_k0 "characters" "[C" := slot_ne (Or.inl (own_w hw 25 rfl)) (Or.inl (own_w hw 21 rfl)) (by decide) (t := .int) (t' := (.array .char)) (by decide) (by decide)
theorem sn_80 (hw : own_H Z a0) : Jvm.RoadKit.slotOf Z own_k0 "special" "I" ≠ Jvm.RoadKit.slotOf Z own_k0 "start" "I" := slot_ne (Or.inl (own_w hw 25 rfl)) (Or.inl (own_w hw 23 rfl)) (by decide) (t := .int) (t' := .int) (by decide) (by decide)
theorem sn_81 (hw : own_H Z a0) : Jvm.RoadKit.slotOf Z own_k0 "negative" "Z" ≠ Jvm.RoadKit.slotOf Z own_k0 "characters" "[C" := slot_ne (Or.inl (own_w hw 27 rfl)) (Or.inl (own_w hw 21 rfl)) (by decide) (t := .boolean) (t' := (.array .char)) (by decide) (by decide)
theorem sn_82 (hw : own_H Z a0) : Jvm.RoadKit.slotOf Z own_k0 "negative" "Z" ≠ Jvm.RoadKit.slotOf Z own_k0 "start" "I" := slot_ne (Or.inl (own_w hw 27 rfl)) (Or.inl (own_w hw 23 rfl)) (by decide) (t := .boolean) (t' := .int) (by decide) (by decide)
theorem sn_83 (hw : own_H Z a0) : Jvm.RoadKit.slotOf Z own_k0 "negative" "Z" ≠ Jvm.RoadKit.slotOf Z own_k0 "special" "I" := slot_ne (Or.inl (own_w hw 27 rfl)) (Or.inl (own_w hw 25 rfl)) (by decide) (t := .boolean) (t' := .int) (by decide) (by decide)
theorem sn_84 (hw : own_H Z a0) : Jvm.RoadKit.slotOf Z own_k0 "significand" "J" ≠ Jvm.RoadKit.slotOf Z own_k0 "characters" "[C" := slot_ne (Or.inl (own_w hw 29 rfl)) (Or.inl (own_w hw 21 rfl)) (by decide) (t := .long) (t' := (.array .char)) (by decide) (by decide)
theorem sn_85 (hw : own_H Z a0) : Jvm.RoadKit.slotOf Z own_k0 "significand" "J" ≠ Jvm.RoadKit.slotOf Z own_k0 "start" "I" := slot_ne (Or.inl (own_w hw 29 rfl)) (Or.inl (own_w hw 23 rfl)) (by decide) (t := .long) (t' := .int) (by decide) (by decide)
theorem sn_86 (hw : own_H Z a0) : Jvm.RoadKit.slotOf Z own_k0 "significand" "J" ≠ Jvm.RoadKit.slotOf Z own_k0 "special" "I" := slot_ne (Or.inl (own_w hw 29 rfl)) (Or.inl (own_w hw 25 rfl)) (by decide) (t := .long) (t' := .int) (by decide) (by decide)
theorem sn_87 (hw : own_H Z a0) : Jvm.RoadKit.slotOf Z own_k0 "significand" "J" ≠ Jvm.RoadKit.slotOf Z own_k0 "negative" "Z" := slot_ne (Or.inl (own_w hw 29 rfl)) (Or.inl (own_w hw 27 rfl)) (by decide) (t := .long) (t' := .boolean) (by decide) (by decide)
theorem sn_88 (hw : own_H Z a0) : Jvm.RoadKit.slotOf Z own_k0 "significandHigh" "J" ≠ Jvm.RoadKit.slotOf Z own_k0 "characters" "[C" := slot_ne (Or.inl (own_w hw 31 rfl)) (Or.inl (own_w hw 21 rfl)) (by decide) (t := .long) (t' := (.array .char)) (by decide) (by decide)
theorem sn_89 (hw : own_H Z a0) : Jvm.RoadKit.slotOf Z own_k0 "significandHigh" "J" ≠ Jvm.RoadKit.slotOf Z own_k0 "start" "I" := slot_ne (Or.inl (own_w hw 31 rfl)) (Or.inl (own_w hw 23 rfl)) (by decide) (t := .long) (t' := .int) (by decide) (by decide)
theorem sn_90 (hw : own_H Z a0) : Jvm.RoadKit.slotOf Z own_k0 "significandHigh" "J" ≠ Jvm.RoadKit.slotOf Z own_k0 "special" "I" := slot_ne (Or.inl (own_w hw 31 rfl)) (Or.inl (own_w hw 25 rfl)) (by decide) (t := .long) (t' := .int) (by decide) (by decide)
theorem sn_91 (hw : own_H Z a0) : Jvm.RoadKit.slotOf Z own_k0 "significandHigh" "J" ≠ Jvm.RoadKit.slotOf Z own_k0 "negative" "Z" := slot_ne (Or.inl (own_w hw 31 rfl)) (Or.inl (own_w hw 27 rfl)) (by decide) (t := .long) (t' := .boolean) (by decide) (by decide)
theorem sn_92 (hw : own_H Z a0) : Jvm.RoadKit.slotOf Z own_k0 "significantDigits" "I" ≠ Jvm.RoadKit.slotOf Z own_k0 "characters" "[C" := slot_ne (Or.inl (own_w hw 33 rfl)) (Or.inl (own_w hw 21 rfl)) (by decide) (t := .int) (t' := (.array .char)) (by decide) (by decide)
theorem sn_93 (hw : own_H Z a0) : Jvm.RoadKit.slotOf Z own_k0 "significantDigits" "I" ≠ Jvm.RoadKit.slotOf Z own_k0 "start" "I" := slot_ne (Or.inl (own_w hw 33 rfl)) (Or.inl (own_w hw 23 rfl)) (by decide) (t := .int) (t' := .int) (by decide) (by decide)
theorem sn_94 (hw : own_H Z a0) : Jvm.RoadKit.slotOf Z own_k0 "significantDigits" "I" ≠ Jvm.RoadKit.slotOf Z own_k0 "special" "I" := slot_ne (Or.inl (own_w hw 33 rfl)) (Or.inl (own_w hw 25 rfl)) (by decide) (t := .int) (t' := .int) (by decide) (by decide)
theorem sn_95 (hw : own_H Z a0) : Jvm.RoadKit.slotOf Z own_k0 "significantDigits" "I" ≠ Jvm.RoadKit.slotOf Z own_k0 "negative" "Z" := slot_ne (Or.inl (own_w hw 33 rfl)) (Or.inl (own_w hw 27 rfl)) (by decide) (t := .int) (t' := .boolean) (by decide) (by decide)
theorem sn_96 (hw : own_H Z a0) : Jvm.RoadKit.slotOf Z own_k0 "scale" "I" ≠ Jvm.RoadKit.slotOf Z own_k0 "characters" "[C" := slot_ne (Or.inl (own_w hw 35 rfl)) (Or.inl (own_w hw 21 rfl)) (by decide) (t := .int) (t' := (.array .char)) (by decide) (by decide)
theorem sn_97 (hw : own_H Z a0) : Jvm.RoadKit.slotOf Z own_k0 "scale" "I" ≠ Jvm.RoadKit.slotOf Z own_k0 "start" "I" := slot_ne (Or.inl (own_w hw 35 rfl)) (Or.inl (own_w hw 23 rfl)) (by decide) (t := .int) (t' := .int) (by decide) (by decide)
theorem sn_98 (hw : own_H Z a0) : Jvm.RoadKit.slotOf Z own_k0 "scale" "I" ≠ Jvm.RoadKit.slotOf Z own_k0 "special" "I" := slot_ne (Or.inl (own_w hw 35 rfl)) (Or.inl (own_w hw 25 rfl)) (by decide) (t := .int) (t' := .int) (by decide) (by decide)
theorem sn_99 (hw : own_H Z a0) : Jvm.RoadKit.slotOf Z own_k0 "scale" "I" ≠ Jvm.RoadKit.slotOf Z own_k0 "negative" "Z" := slot_ne (Or.inl (own_w hw 35 rfl)) (Or.inl (own_w hw 27 rfl)) (by decide) (t := .int) (t' := .boolean) (by decide) (by decide)
theorem sn_100 (hw : own_H Z a0) : Jvm.RoadKit.slotOf Z own_k0 "exponentValue" "I" ≠ Jvm.RoadKit.slotOf Z own_k0 "characters" "[C" := slot_ne (Or.inl (own_w hw 37 rfl)) (Or.inl (own_w hw 21 rfl)) (by decide) (t := .int) (t' := (.array .char)) (by decide) (by decide)
theorem sn_101 (hw : own_H Z a0) : Jvm.RoadKit.slotOf Z own_k0 "exponentValue" "I" ≠ Jvm.RoadKit.slotOf Z own_k0 "start" "I" := slot_ne (Or.inl (own_w hw 37 rfl)) (Or.inl (own_w hw 23 rfl)) (by decide) (t := .int) (t' := .int) (by decide) (by decide)
theorem sn_102 (hw : own_H Z a0) : Jvm.RoadKit.slotOf Z own_k0 "exponentValue" "I" ≠ Jvm.RoadKit.slotOf Z own_k0 "special" "I" := slot_ne (Or.inl (own_w hw 37 rfl)) (Or.inl (own_w hw 25 rfl)) (by decide) (t := .int) (t' := .int) (by decide) (by decide)
theorem sn_103 (hw : own_H Z a0) : Jvm.RoadKit.slotOf Z own_k0 "exponentValue" "I" ≠ Jvm.RoadKit.slotOf Z own_k0 "negative" "Z" := slot_ne (Or.inl (own_w hw 37 rfl)) (Or.inl (own_w hw 27 rfl)) (by decide) (t := .int) (t' := .boolean) (by decide) (by decide)
theorem sn_104 (hw : own_H Z a0) : Jvm.RoadKit.slotOf Z own_k0 "exponentValue" "I" ≠ Jvm.RoadKit.slotOf Z own_k0 "scale" "I" := slot_ne (Or.inl (own_w hw 37 rfl)) (Or.inl (own_w hw 35 rfl)) (by decide) (t := .int) (t' := .int) (by decide) (by decide)
theorem sn_105 (hw : own_H Z a0) : Jvm.RoadKit.slotOf Z own_k0 "characters" "[C" ≠ Jvm.RoadKit.slotOf Z own_k0 "start" "I" := slot_ne (Or.inl (own_w hw 21 rfl)) (Or.inl (own_w hw 23 rfl)) (by decide) (t := (.array .char)) (t' := .int) (by decide) (by decide)
theorem sn_106 (hw : own_H Z a0) : Jvm.RoadKit.slotOf Z own_k0 "characters" "[C" ≠ Jvm.RoadKit.slotOf Z own_k0 "special" "I" := slot_ne (Or.inl (own_w hw 21 rfl)) (Or.inl (own_w hw 25 rfl)) (by decide) (t := (.array .char)) (t' := .int) (by decide) (by decide)
theorem sn_107 (hw : own_H Z a0) : Jvm.RoadKit.slotOf Z own_k0 "characters" "[C" ≠ Jvm.RoadKit.slotOf Z own_k0 "negative" "Z" := slot_ne (Or.inl (own_w hw 21 rfl)) (Or.inl (own_w hw 27 rfl)) (by decide) (t := (.array .char)) (t' := .boolean) (by decide) (by decide)
theorem sn_108 (hw : own_H Z a0) : Jvm.RoadKit.slotOf Z own_k0 "characters" "[C" ≠ Jvm.RoadKit.slotOf Z own_k0 "scale" "I" := slot_ne (Or.inl (own_w hw 21 rfl)) (Or.inl (own_w hw 35 rfl)) (by decide) (t := (.array .char)) (t' := .int) (by decide) (by decide)
theorem sn_109 (hw : own_H Z a0) : Jvm.RoadKit.slotOf Z own_k0 "start" "I" ≠ Jvm.RoadKit.slotOf Z own_k0 "special" "I" := slot_ne (Or.inl (own_w hw 23 rfl)) (Or.inl (own_w hw 25 rfl)) (by decide) (t := .int) (t' := .int) (by decide) (by decide)
theorem sn_110 (hw : own_H Z a0) : Jvm.RoadKit.slotOf Z own_k0 "start" "I" ≠ Jvm.RoadKit.slotOf Z own_k0 "negative" "Z" := slot_ne (Or.inl (own_w hw 23 rfl)) (Or.inl (own_w hw 27 rfl)) (by decide) (t := .int) (t' := .boolean) (by decide) (by decide)
theorem sn_111 (hw : own_H Z a0) : Jvm.RoadKit.slotOf Z own_k0 "start" "I" ≠ Jvm.RoadKit.slotOf Z own_k0 "scale" "I" := slot_ne (Or.inl (own_w hw 23 rfl)) (Or.inl (own_w hw 35 rfl)) (by decide) (t := .int) (t' := .int) (by decide) (by decide)
theorem sn_112 (hw : own_H Z a0) : Jvm.RoadKit.slotOf Z own_k0 "end" "I" ≠ Jvm.RoadKit.slotOf Z own_k0 "characters" "[C" := slot_ne (Or.inl (own_w hw 54 rfl)) (Or.inl (own_w hw 21 rfl)) (by decide) (t := .int) (t' := (.array .char)) (by decide) (by decide)
theorem sn_113 (hw : own_H Z a0) : Jvm.RoadKit.slotOf Z own_k0 "end" "I" ≠ Jvm.RoadKit.slotOf Z own_k0 "start" "I" := slot_ne (Or.inl (own_w hw 54 rfl)) (Or.inl (own_w hw 23 rfl)) (by decide) (t := .int) (t' := .int) (by decide) (by decide)
theorem sn_114 (hw : own_H Z a0) : Jvm.RoadKit.slotOf Z own_k0 "end" "I" ≠ Jvm.RoadKit.slotOf Z own_k0 "special" "I" := slot_ne (Or.inl (own_w hw 54 rfl)) (Or.inl (own_w hw 25 rfl)) (by decide) (t := .int) (t' := .int) (by decide) (by decide)
theorem sn_115 (hw : own_H Z a0) : Jvm.RoadKit.slotOf Z own_k0 "end" "I" ≠ Jvm.RoadKit.slotOf Z own_k0 "negative" "Z" := slot_ne (Or.inl (own_w hw 54 rfl)) (Or.inl (own_w hw 27 rfl)) (by decide) (t := .int) (t' := .boolean) (by decide) (by decide)
theorem sn_116 (hw : own_H Z a0) : Jvm.RoadKit.slotOf Z own_k0 "end" "I" ≠ Jvm.RoadKit.slotOf Z own_k0 "scale" "I" := slot_ne (Or.inl (own_w hw 54 rfl)) (Or.inl (own_w hw 35 rfl)) (by decide) (t := .int) (t' := .int) (by decide) (by decide)
theorem sn_117 (hw : own_H Z a0) : Jvm.RoadKit.slotOf Z own_k0 "digits" "I" ≠ Jvm.RoadKit.slotOf Z own_k0 "characters" "[C" := slot_ne (Or.inl (own_w hw 46 rfl)) (Or.inl (own_w hw 21 rfl)) (by decide) (t := .int) (t' := (.array .char)) (by decide) (by decide)
theorem sn_118 (hw : own_H Z a0) : Jvm.RoadKit.slotOf Z own_k0 "digits" "I" ≠ Jvm.RoadKit.slotOf Z own_k0 "start" "I" := slot_ne (Or.inl (own_w hw 46 rfl)) (Or.inl (own_w hw 23 rfl)) (by decide) (t := .int) (t' := .int) (by decide) (by decide)
theorem sn_119 (hw : own_H Z a0) : Jvm.RoadKit.slotOf Z own_k0 "digits" "I" ≠ Jvm.RoadKit.slotOf Z own_k0 "special" "I" := slot_ne (Or.inl (own_w hw 46 rfl)) (Or.inl (own_w hw 25 rfl)) (by decide) (t := .int) (t' := .int) (by decide) (by decide)
theorem sn_120 (hw : own_H Z a0) : Jvm.RoadKit.slotOf Z own_k0 "digits" "I" ≠ Jvm.RoadKit.slotOf Z own_k0 "negative" "Z" := slot_ne (Or.inl (own_w hw 46 rfl)) (Or.inl (own_w hw 27 rfl)) (by decide) (t := .int) (t' := .boolean) (by decide) (by decide)
theorem sn_121 (hw : own_H Z a0) : Jvm.RoadKit.slotOf Z own_k0 "digits" "I" ≠ Jvm.RoadKit.slotOf Z own_k0 "scale" "I" := slot_ne (Or.inl (own_w hw 46 rfl)) (Or.inl (own_w hw 35 rfl)) (by decide) (t := .int) (t' := .int) (by decide) (by decide)
theorem sn_122 (hw : own_H Z a0) : Jvm.RoadKit.slotOf Z own_k0 "point" "Z" ≠ Jvm.RoadKit.slotOf Z own_k0 "characters" "[C" := slot_ne (Or.inl (own_w hw 48 rfl)) (Or.inl (own_w hw 21 rfl)) (by decide) (t := .boolean) (t' := (.array .char)) (by decide) (by decide)
theorem sn_123 (hw : own_H Z a0) : Jvm.RoadKit.slotOf Z own_k0 "point" "Z" ≠ Jvm.RoadKit.slotOf Z own_k0 "start" "I" := slot_ne (Or.inl (own_w hw 48 rfl)) (Or.inl (own_w hw 23 rfl)) (by decide) (t := .boolean) (t' := .int) (by decide) (by decide)
theorem sn_124 (hw : own_H Z a0) : Jvm.RoadKit.slotOf Z own_k0 "point" "Z" ≠ Jvm.RoadKit.slotOf Z own_k0 "special" "I" := slot_ne (Or.inl (own_w hw 48 rfl)) (Or.inl (own_w hw 25 rfl)) (by decide) (t := .boolean) (t' := .int) (by decide) (by decide)
theorem sn_125 (hw : own_H Z a0) : Jvm.RoadKit.slotOf Z own_k0 "point" "Z" ≠ Jvm.RoadKit.slotOf Z own_k0 "negative" "Z" := slot_ne (Or.inl (own_w hw 48 rfl)) (Or.inl (own_w hw 27 rfl)) (by decide) (t := .boolean) (t' := .boolean) (by decide) (by decide)
theorem sn_126 (hw : own_H Z a0) : Jvm.RoadKit.slotOf Z own_k0 "point" "Z" ≠ Jvm.RoadKit.slotOf Z own_k0 "scale" "I" := slot_ne (Or.inl (own_w hw 48 rfl)) (Or.inl (own_w hw 35 rfl)) (by decide) (t := .boolean) (t' := .int) (by decide) (by decide)
theorem sn_127 (hw : own_H Z a0) : Jvm.RoadKit.slotOf Z own_k0 "exponent" "Z" ≠ Jvm.RoadKit.slotOf Z own_k0 "characters" "[C" := slot_ne (Or.inl (own_w hw 50 rfl)) (Or.inl (own_w hw 21 rfl)) (by decide) (t := .boolean) (t' := (.array .char)) (by decide) (by decide)
theorem sn_128 (hw : own_H Z a0) : Jvm.RoadKit.slotOf Z own_k0 "exponent" "Z" ≠ Jvm.RoadKit.slotOf Z own_k0 "start" "I" := slot_ne (Or.inl (own_w hw 50 rfl)) (Or.inl (own_w hw 23 rfl)) (by decide) (t := .boolean) (t' := .int) (by decide) (by decide)
theorem sn_129 (hw : own_H Z a0) : Jvm.RoadKit.slotOf Z own_k0 "exponent" "Z" ≠ Jvm.RoadKit.slotOf Z own_k0 "special" "I" := slot_ne (Or.inl (own_w hw 50 rfl)) (Or.inl (own_w hw 25 rfl)) (by decide) (t := .boolean) (t' := .int) (by decide) (by decide)
theorem sn_130 (hw : own_H Z a0) : Jvm.RoadKit.slotOf Z own_k0 "exponent" "Z" ≠ Jvm.RoadKit.slotOf Z own_k0 "negative" "Z" := slot_ne (Or.inl (own_w hw 50 rfl)) (Or.inl (own_w hw 27 rfl)) (by decide) (t := .boolean) (t' := .boolean) (by decide) (by decide)
theorem sn_131 (hw : own_H Z a0) : Jvm.RoadKit.slotOf Z own_k0 "exponent" "Z" ≠ Jvm.RoadKit.slotOf Z own_k0 "scale" "I" := slot_ne (Or.inl (own_w hw 50 rfl)) (Or.inl (own_w hw 35 rfl)) (by decide) (t := .boolean) (t' := .int) (by decide) (by decide)
theorem sn_132 (hw : own_H Z a0) : Jvm.RoadKit.slotOf Z own_k0 "exponentDigits" "Z" ≠ Jvm.RoadKit.slotOf Z own_k0 "characters" "[C" := slot_ne (Or.inl (own_w hw 52 rfl)) (Or.inl (own_w hw 21 rfl)) (by decide) (t := .boolean) (t' := (.array .char)) (by decide) (by decide)
theorem sn_133 (hw : own_H Z a0) : Jvm.RoadKit.slotOf Z own_k0 "exponentDigits" "Z" ≠ Jvm.RoadKit.slotOf Z own_k0 "start" "I" := slot_ne (Or.inl (own_w hw 52 rfl)) (Or.inl (own_w hw 23 rfl)) (by decide) (t := .boolean) (t' := .int) (by decide) (by decide)
theorem sn_134 (hw : own_H Z a0) : Jvm.RoadKit.slotOf Z own_k0 "exponentDigits" "Z" ≠ Jvm.RoadKit.slotOf Z own_k0 "special" "I" := slot_ne (Or.inl (own_w hw 52 rfl)) (Or.inl (own_w hw 25 rfl)) (by decide) (t := .boolean) (t' := .int) (by decide) (by decide)
theorem sn_135 (hw : own_H Z a0) : Jvm.RoadKit.slotOf Z own_k0 "exponentDigits" "Z" ≠ Jvm.RoadKit.slotOf Z own_k0 "negative" "Z" := slot_ne (Or.inl (own_w hw 52 rfl)) (Or.inl (own_w hw 27 rfl)) (by decide) (t := .boolean) (t' := .boolean) (by decide) (by decide)
theorem sn_136 (hw : own_H Z a0) : Jvm.RoadKit.slotOf Z own_k0 "exponentDigits" "Z" ≠ Jvm.RoadKit.slotOf Z own_k0 "scale" "I" := slot_ne (Or.inl (own_w hw 52 rfl)) (Or.inl (own_w hw 35 rfl)) (by decide) (t := .boolean) (t' := .int) (by decide) (by decide)
theorem sn_137 (hw : own_H Z a0) : Jvm.RoadKit.slotOf Z own_k0 "special" "I" ≠ Jvm.RoadKit.slotOf Z own_k0 "negative" "Z" := slot_ne (Or.inl (own_w hw 25 rfl)) (Or.inl (own_w hw 27 rfl)) (by decide) (t := .int) (t' := .boolean) (by decide) (by decide)
theorem sn_138 (hw : own_H Z a0) : Jvm.RoadKit.slotOf Z own_k0 "special" "I" ≠ Jvm.RoadKit.slotOf Z own_k0 "scale" "I" := slot_ne (Or.inl (own_w hw 25 rfl)) (Or.inl (own_w hw 35 rfl)) (by decide) (t := .int) (t' := .int) (by decide) (by decide)
theorem sn_139 (hw : own_H Z a0) : Jvm.RoadKit.slotOf Z own_k0 "negative" "Z" ≠ Jvm.RoadKit.slotOf Z own_k0 "scale" "I" := slot_ne (Or.inl (own_w hw 27 rfl)) (Or.inl (own_w hw 35 rfl)) (by decide) (t := .boolean) (t' := .int) (by decide) (by decide)
theorem sn_140 (hw : own_H Z a0) : Jvm.RoadKit.slotOf Z own_k0 "significand" "J" ≠ Jvm.RoadKit.slotOf Z own_k0 "scale" "I" := slot_ne (Or.inl (own_w hw 29 rfl)) (Or.inl (own_w hw 35 rfl)) (by decide) (t := .long) (t' := .int) (by decide) (by decide)
theorem sn_141 (hw : own_H Z a0) : Jvm.RoadKit.slotOf Z own_k0 "significandHigh" "J" ≠ Jvm.RoadKit.slotOf Z own_k0 "scale" "I" := slot_ne (Or.inl (own_w hw 31 rfl)) (Or.inl (own_w hw 35 rfl)) (by decide) (t := .long) (t' := .int) (by decide) (by decide)
theorem sn_142 (hw : own_H Z a0) : Jvm.RoadKit.slotOf Z own_k0 "significantDigits" "I" ≠ Jvm.RoadKit.slotOf Z own_k0 "scale" "I" := slot_ne (Or.inl (own_w hw 33 rfl)) (Or.inl (own_w hw 35 rfl)) (by decide) (t := .int) (t' := .int) (by decide) (by decide)
theorem sn_143 (hw : own_H Z a0) : Jvm.RoadKit.slotOf Z own_k0 "point" "Z" ≠ Jvm.RoadKit.slotOf Z own_k0 "digits" "I" := slot_ne (Or.inl (own_w hw 48 rfl)) (Or.inl (own_w hw 46 rfl)) (by decide) (t := .boolean) (t' := .int) (by decide) (by decide)
theorem sn_144 (hw : own_H Z a0) : Jvm.RoadKit.slotOf Z own_k0 "characters" "[C" ≠ Jvm.RoadKit.slotOf Z own_k0 "digits" "I" := slot_ne (Or.inl (own_w hw 21 rfl)) (Or.inl (own_w hw 46 rfl)) (by decide) (t := (.array .char)) (t' := .int) (by decide) (by decide)
theorem sn_145 (hw : own_H Z a0) : Jvm.RoadKit.slotOf Z own_k0 "characters" "[C" ≠ Jvm.RoadKit.slotOf Z own_k0 "point" "Z" := slot_ne (Or.inl (own_w hw 21 rfl)) (Or.inl (own_w hw 48 rfl)) (by decide) (t := (.array .char)) (t' := .boolean) (by decide) (by decide)
theorem sn_146 (hw : own_H Z a0) : Jvm.RoadKit.slotOf Z own_k0 "start" "I" ≠ Jvm.RoadKit.slotOf Z own_k0 "digits" "I" := slot_ne (Or.inl (own_w hw 23 rfl)) (Or.inl (own_w hw 46 rfl)) (by decide) (t := .int) (t' := .int) (by decide) (by decide)
theorem sn_147 (hw : own_H Z a0) : Jvm.RoadKit.slotOf Z own_k0 "start" "I" ≠ Jvm.RoadKit.slotOf Z own_k0 "point" "Z" := slot_ne (Or.inl (own_w hw 23 rfl)) (Or.inl (own_w hw 48 rfl)) (by decide) (t := .int) (t' := .boolean) (by decide) (by decide)
theorem sn_148 (hw : own_H Z a0) : Jvm.RoadKit.slotOf Z own_k0 "end" "I" ≠ Jvm.RoadKit.slotOf Z own_k0 "digits" "I" := slot_ne (Or.inl (own_w hw 54 rfl)) (Or.inl (own_w hw 46 rfl)) (by decide) (t := .int) (t' := .int) (by decide) (by decide)
theorem sn_149 (hw : own_H Z a0) : Jvm.RoadKit.slotOf Z own_k0 "end" "I" ≠ Jvm.RoadKit.slotOf Z own_k0 "point" "Z" := slot_ne (Or.inl (own_w hw 54 rfl)) (Or.inl (own_w hw 48 rfl)) (by decide) (t := .int) (t' := .boolean) (by decide) (by decide)
theorem sn_150 (hw : own_H Z a0) : Jvm.RoadKit.slotOf Z own_k0 "digits" "I" ≠ Jvm.RoadKit.slotOf Z own_k0 "point" "Z" := slot_ne (Or.inl (own_w hw 46 rfl)) (Or.inl (own_w hw 48 rfl)) (by decide) (t := .int) (t' := .boolean) (by decide) (by decide)
theorem sn_151 (hw : own_H Z a0) : Jvm.RoadKit.slotOf Z own_k0 "exponent" "Z" ≠ Jvm.RoadKit.slotOf Z own_k0 "digits" "I" := slot_ne (Or.inl (own_w hw 50 rfl)) (Or.inl (own_w hw 46 rfl)) (by decide) (t := .boolean) (t' := .int) (by decide) (by decide)
theorem sn_152 (hw : own_H Z a0) : Jvm.RoadKit.slotOf Z own_k0 "exponent" "Z" ≠ Jvm.RoadKit.slotOf Z own_k0 "point" "Z" := slot_ne (Or.inl (own_w hw 50 rfl)) (Or.inl (own_w hw 48 rfl)) (by decide) (t := .boolean) (t' := .boolean) (by decide) (by decide)
theorem sn_153 (hw : own_H Z a0) : Jvm.RoadKit.slotOf Z own_k0 "exponentDigits" "Z" ≠ Jvm.RoadKit.slotOf Z own_k0 "digits" "I" := slot_ne (Or.inl (own_w hw 52 rfl)) (Or.inl (own_w hw 46 rfl)) (by decide) (t := .boolean) (t' := .int) (by decide) (by decide)
theorem sn_154 (hw : own_H Z a0) : Jvm.RoadKit.slotOf Z own_k0 "exponentDigits" "Z" ≠ Jvm.RoadKit.slotOf Z own_k0 "point" "Z" := slot_ne (Or.inl (own_w hw 52 rfl)) (Or.inl (own_w hw 48 rfl)) (by decide) (t := .boolean) (t' := .boolean) (by decide) (by decide)
theorem sn_155 (hw : own_H Z a0) : Jvm.RoadKit.slotOf Z own_k0 "special" "I" ≠ Jvm.RoadKit.slotOf Z own_k0 "digits" "I" := slot_ne (Or.inl (own_w hw 25 rfl)) (Or.inl (own_w hw 46 rfl)) (by decide) (t := .int) (t' := .int) (by decide) (by decide)
theorem sn_156 (hw : own_H Z a0) : Jvm.RoadKit.slotOf Z own_k0 "special" "I" ≠ Jvm.RoadKit.slotOf Z own_k0 "point" "Z" := slot_ne (Or.inl (own_w hw 25 rfl)) (Or.inl (own_w hw 48 rfl)) (by decide) (t := .int) (t' := .boolean) (by decide) (by decide)
theorem sn_157 (hw : own_H Z a0) : Jvm.RoadKit.slotOf Z own_k0 "negative" "Z" ≠ Jvm.RoadKit.slotOf Z own_k0 "digits" "I" := slot_ne (Or.inl (own_w hw 27 rfl)) (Or.inl (own_w hw 46 rfl)) (by decide) (t := .boolean) (t' := .int) (by decide) (by decide)
theorem sn_158 (hw : own_H Z a0) : Jvm.RoadKit.slotOf Z own_k0 "negative" "Z" ≠ Jvm.RoadKit.slotOf Z own_k0 "point" "Z" := slot_ne (Or.inl (own_w hw 27 rfl)) (Or.inl (own_w hw 48 rfl)) (by decide) (t := .boolean) (t' := .boolean) (by decide) (by decide)
theorem sn_159 (hw : own_H Z a0) : Jvm.RoadKit.slotOf Z own_k0 "significand" "J" ≠ Jvm.RoadKit.slotOf Z own_k0 "digits" "I" := slot_ne (Or.inl (own_w hw 29 rfl)) (Or.inl (own_w hw 46 rfl)) (by decide) (t := .long) (t' := .int) (by decide) (by decide)
theorem sn_160 (hw : own_H Z a0) : Jvm.RoadKit.slotOf Z own_k0 "significand" "J" ≠ Jvm.RoadKit.slotOf Z own_k0 "point" "Z" := slot_ne (Or.inl (own_w hw 29 rfl)) (Or.inl (own_w hw 48 rfl)) (by decide) (t := .long) (t' := .boolean) (by decide) (by decide)
theorem sn_161 (hw : own_H Z a0) : Jvm.RoadKit.slotOf Z own_k0 "significandHigh" "J" ≠ Jvm.RoadKit.slotOf Z own_k0 "digits" "I" := slot_ne (Or.inl (own_w hw 31 rfl)) (Or.inl (own_w hw 46 rfl)) (by decide) (t := .long) (t' := .int) (by decide) (by decide)
theorem sn_162 (hw : own_H Z a0) : Jvm.RoadKit.slotOf Z own_k0 "significandHigh" "J" ≠ Jvm.RoadKit.slotOf Z own_k0 "point" "Z" := slot_ne (Or.inl (own_w hw 31 rfl)) (Or.inl (own_w hw 48 rfl)) (by decide) (t := .long) (t' := .boolean) (by decide) (by decide)
theorem sn_163 (hw : own_H Z a0) : Jvm.RoadKit.slotOf Z own_k0 "significantDigits" "I" ≠ Jvm.RoadKit.slotOf Z own_k0 "digits" "I" := slot_ne (Or.inl (own_w hw 33 rfl)) (Or.inl (own_w hw 46 rfl)) (by decide) (t := .int) (t' := .int) (by decide) (by decide)
theorem sn_164 (hw : own_H Z a0) : Jvm.RoadKit.slotOf Z own_k0 "significantDigits" "I" ≠ Jvm.RoadKit.slotOf Z own_k0 "point" "Z" := slot_ne (Or.inl (own_w hw 33 rfl)) (Or.inl (own_w hw 48 rfl)) (by decide) (t := .int) (t' := .boolean) (by decide) (by decide)
theorem sn_165 (hw : own_H Z a0) : Jvm.RoadKit.slotOf Z own_k0 "scale" "I" ≠ Jvm.RoadKit.slotOf Z own_k0 "digits" "I" := slot_ne (Or.inl (own_w hw 35 rfl)) (Or.inl (own_w hw 46 rfl)) (by decide) (t := .int) (t' := .int) (by decide) (by decide)
theorem sn_166 (hw : own_H Z a0) : Jvm.RoadKit.slotOf Z own_k0 "scale" "I" ≠ Jvm.RoadKit.slotOf Z own_k0 "point" "Z" := slot_ne (Or.inl (own_w hw 35 rfl)) (Or.inl (own_w hw 48 rfl)) (by decide) (t := .int) (t' := .boolean) (by decide) (by decide)
theorem sn_167 (hw : own_H Z a0) : Jvm.RoadKit.slotOf Z own_k0 "exponentValue" "I" ≠ Jvm.RoadKit.slotOf Z own_k0 "digits" "I" := slot_ne (Or.inl (own_w hw 37 rfl)) (Or.inl (own_w hw 46 rfl)) (by decide) (t := .int) (t' := .int) (by decide) (by decide)
theorem sn_168 (hw : own_H Z a0) : Jvm.RoadKit.slotOf Z own_k0 "exponentValue" "I" ≠ Jvm.RoadKit.slotOf Z own_k0 "point" "Z" := slot_ne (Or.inl (own_w hw 37 rfl)) (Or.inl (own_w hw 48 rfl)) (by decide) (t := .int) (t' := .boolean) (by decide) (by decide)
theorem sn_169 (hw : own_H Z a0) : Jvm.RoadKit.slotOf Z own_k0 "exponentDigits" "Z" ≠ Jvm.RoadKit.slotOf Z own_k0 "exponent" "Z" := slot_ne (Or.inl (own_w hw 52 rfl)) (Or.inl (own_w hw 50 rfl)) (by decide) (t := .boolean) (t' := .boolean) (by decide) (by decide)
theorem sn_170 (hw : own_H Z a0) : Jvm.RoadKit.slotOf Z own_k0 "digits" "I" ≠ Jvm.RoadKit.slotOf Z own_k0 "exponent" "Z" := slot_ne (Or.inl (own_w hw 46 rfl)) (Or.inl (own_w hw 50 rfl)) (by decide) (t := .int) (t' := .boolean) (by decide) (by decide)
theorem sn_171 (hw : own_H Z a0) : Jvm.RoadKit.slotOf Z own_k0 "point" "Z" ≠ Jvm.RoadKit.slotOf Z own_k0 "exponent" "Z" := slot_ne (Or.inl (own_w hw 48 rfl)) (Or.inl (own_w hw 50 rfl)) (by decide) (t := .boolean) (t' := .boolean) (by decide) (by decide)
theorem sn_172 (hw : own_H Z a0) : Jvm.RoadKit.slotOf Z own_k0 "end" "I" ≠ Jvm.RoadKit.slotOf Z own_k0 "exponent" "Z" := slot_ne (Or.inl (own_w hw 54 rfl)) (Or.inl (own_w hw 50 rfl)) (by decide) (t := .int) (t' := .boolean) (by decide) (by decide)
theorem sn_173 (hw : own_H Z a0) : Jvm.RoadKit.slotOf Z own_k0 "characters" "[C" ≠ Jvm.RoadKit.slotOf Z own_k0 "exponent" "Z" := slot_ne (Or.inl (own_w hw 21 rfl)) (Or.inl (own_w hw 50 rfl)) (by decide) (t := (.array .char)) (t' := .boolean) (by decide) (by decide)
theorem sn_174 (hw : own_H Z a0) : Jvm.RoadKit.slotOf Z own_k0 "start" "I" ≠ Jvm.RoadKit.slotOf Z own_k0 "exponent" "Z" := slot_ne (Or.inl (own_w hw 23 rfl)) (Or.inl (own_w hw 50 rfl)) (by decide) (t := .int) (t' := .boolean) (by decide) (by decide)
theorem sn_175 (hw : own_H Z a0) : Jvm.RoadKit.slotOf Z own_k0 "special" "I" ≠ Jvm.RoadKit.slotOf Z own_k0 "exponent" "Z" := slot_ne (Or.inl (own_w hw 25 rfl)) (Or.inl (own_w hw 50 rfl)) (by decide) (t := .int) (t' := .boolean) (by decide) (by decide)
theorem sn_176 (hw : own_H Z a0) : Jvm.RoadKit.slotOf Z own_k0 "negative" "Z" ≠ Jvm.RoadKit.slotOf Z own_k0 "exponent" "Z" := slot_ne (Or.inl (own_w hw 27 rfl)) (Or.inl (own_w hw 50 rfl)) (by decide) (t := .boolean) (t' := .boolean) (by decide) (by decide)
theorem sn_177 (hw : own_H Z a0) : Jvm.RoadKit.slotOf Z own_k0 "significand" "J" ≠ Jvm.RoadKit.slotOf Z own_k0 "exponent" "Z" := slot_ne (Or.inl (own_w hw 29 rfl)) (Or.inl (own_w hw 50 rfl)) (by decide) (t := .long) (t' := .boolean) (by decide) (by decide)
theorem sn_178 (hw : own_H Z a0) : Jvm.RoadKit.slotOf Z own_k0 "significandHigh" "J" ≠ Jvm.RoadKit.slotOf Z own_k0 "exponent" "Z" := slot_ne (Or.inl (own_w hw 31 rfl)) (Or.inl (own_w hw 50 rfl)) (by decide) (t := .long) (t' := .boolean) (by decide) (by decide)
theorem sn_179 (hw : own_H Z a0) : Jvm.RoadKit.slotOf Z own_k0 "significantDigits" "I" ≠ Jvm.RoadKit.slotOf Z own_k0 "exponent" "Z" := slot_ne (Or.inl (own_w hw 33 rfl)) (Or.inl (own_w hw 50 rfl)) (by decide) (t := .int) (t' := .boolean) (by decide) (by decide)
theorem sn_180 (hw : own_H Z a0) : Jvm.RoadKit.slotOf Z own_k0 "scale" "I" ≠ Jvm.RoadKit.slotOf Z own_k0 "exponent" "Z" := slot_ne (Or.inl (own_w hw 35 rfl)) (Or.inl (own_w hw 50 rfl)) (by decide) (t := .int) (t' := .boolean) (by decide) (by decide)
theorem sn_181 (hw : own_H Z a0) : Jvm.RoadKit.slotOf Z own_k0 "exponentValue" "I" ≠ Jvm.RoadKit.slotOf Z own_k0 "exponent" "Z" := slot_ne (Or.inl (own_w hw 37 rfl)) (Or.inl (own_w hw 50 rfl)) (by decide) (t := .int) (t' := .boolean) (by decide) (by decide)
end OwnSn
theorem d11_0 : decode jdk_29_method_69_code 0 = .ok (.iload_n 0, 1) := by decide +kernel
theorem d11_1 : decode jdk_29_method_69_code 1 = .ok (.iload_n 1, 1) := by decide +kernel
theorem d11_2 : decode jdk_29_method_69_code 2 = .ok (.if_icmp .gt 7, 3) := by decide +kernel
theorem d11_9 : decode jdk_29_method_69_code 9 = .ok (.iload_n 1, 1) := by decide +kernel
theorem d11_10 : decode jdk_29_method_69_code 10 = .ok (.ireturn, 1) := by decide +kernel
theorem d11_5 : decode jdk_29_method_69_code 5 = .ok (.iload_n 0, 1) := by decide +kernel
theorem d11_6 : decode jdk_29_method_69_code 6 = .ok (.goto 4, 3) := by decide +kernel
theorem pf_java_lang_Mathmin_II_I : plainFor (⟨"java/lang/Math", "min", "(II)I"⟩ : MethodName) = true := by decide +kernel
theorem d6_0 : decode prog_102_method_26_code 0 = .ok (.iload_n 0, 1) := by decide +kernel
theorem d6_1 : decode prog_102_method_26_code 1 = .ok (.bipush 48, 2) := by decide +kernel
theorem d6_3 : decode prog_102_method_26_code 3 = .ok (.if_icmp .lt 13, 3) := by decide +kernel
theorem d6_16 : decode prog_102_method_26_code 16 = .ok (.iconst 0, 1) := by decide +kernel
theorem d6_6 : decode prog_102_method_26_code 6 = .ok (.iload_n 0, 1) := by decide +kernel
theorem d6_7 : decode prog_102_method_26_code 7 = .ok (.bipush 57, 2) := by decide +kernel
theorem d6_9 : decode prog_102_method_26_code 9 = .ok (.if_icmp .gt 7, 3) := by decide +kernel
theorem d6_12 : decode prog_102_method_26_code 12 = .ok (.iconst 1, 1) := by decide +kernel
theorem d6_13 : decode prog_102_method_26_code 13 = .ok (.goto 4, 3) := by decide +kernel
theorem d6_17 : decode prog_102_method_26_code 17 = .ok (.ireturn, 1) := by decide +kernel
theorem pn_com_example_tally_of_atoms_tallyofatoms_Numeral : plainName "com/example/tally_of_atoms/tallyofatoms/Numeral" = true := by first | (simp [plainName, overriddenIn]; done) | decide +kernel
theorem d9_0 : decode method_5_code 0 = .ok (.iload_n 0, 1) := by decide +kernel
theorem d9_1 : decode method_5_code 1 = .ok (.bipush 48, 2) := by decide +kernel
theorem d9_3 : decode method_5_code 3 = .ok (.if_icmp .lt 13, 3) := by decide +kernel
theorem d9_16 : decode method_5_code 16 = .ok (.iconst 0, 1) := by decide +kernel
theorem d9_6 : decode method_5_code 6 = .ok (.iload_n 0, 1) := by decide +kernel
theorem d9_7 : decode method_5_code 7 = .ok (.bipush 57, 2) := by decide +kernel
theorem d9_9 : decode method_5_code 9 = .ok (.if_icmp .gt 7, 3) := by decide +kernel
theorem d9_12 : decode method_5_code 12 = .ok (.iconst 1, 1) := by decide +kernel
theorem d9_13 : decode method_5_code 13 = .ok (.goto 4, 3) := by decide +kernel
theorem d9_17 : decode method_5_code 17 = .ok (.ireturn, 1) := by decide +kernel
theorem pn_com_example_tally_of_atoms_tallyofatoms_NumeralFits128BitsPinLaw : plainName "com/example/tally_of_atoms/tallyofatoms/NumeralFits128BitsPinLaw" = true := by first | (simp [plainName, overriddenIn]; done) | decide +kernel
theorem d10_0 : decode method_6_code 0 = .ok (.iload_n 0, 1) := by decide +kernel
theorem d10_1 : decode method_6_code 1 = .ok (.bipush 49, 2) := by decide +kernel
theorem d10_3 : decode method_6_code 3 = .ok (.if_icmp .lt 13, 3) := by decide +kernel
theorem d10_16 : decode method_6_code 16 = .ok (.iconst 0, 1) := by decide +kernel
theorem d10_6 : decode method_6_code 6 = .ok (.iload_n 0, 1) := by decide +kernel
theorem d10_7 : decode method_6_code 7 = .ok (.bipush 57, 2) := by decide +kernel
theorem d10_9 : decode method_6_code 9 = .ok (.if_icmp .gt 7, 3) := by decide +kernel
theorem d10_12 : decode method_6_code 12 = .ok (.iconst 1, 1) := by decide +kernel
theorem d10_13 : decode method_6_code 13 = .ok (.goto 4, 3) := by decide +kernel
theorem d10_17 : decode method_6_code 17 = .ok (.ireturn, 1) := by decide +kernel
theorem d1_0 : decode method_4_code 0 = .ok (.iload_n 0, 1) := by decide +kernel
theorem d1_1 : decode method_4_code 1 = .ok (.sipush 511, 3) := by decide +kernel
theorem d1_4 : decode method_4_code 4 = .ok (.iand, 1) := by decide +kernel
theorem d1_5 : decode method_4_code 5 = .ok (.istore_n 1, 1) := by decide +kernel
theorem d1_6 : decode method_4_code 6 = .ok (.iload_n 1, 1) := by decide +kernel
theorem d1_7 : decode method_4_code 7 = .ok (.sipush 256, 3) := by decide +kernel
theorem d1_10 : decode method_4_code 10 = .ok (.if_icmp .ge 6, 3) := by decide +kernel
theorem d1_13 : decode method_4_code 13 = .ok (.iload_n 1, 1) := by decide +kernel
theorem d1_14 : decode method_4_code 14 = .ok (.i2c, 1) := by decide +kernel
theorem d1_15 : decode method_4_code 15 = .ok (.ireturn, 1) := by decide +kernel
theorem d1_16 : decode method_4_code 16 = .ok (.iload_n 1, 1) := by decide +kernel
theorem d1_17 : decode method_4_code 17 = .ok (.iconst 3, 1) := by decide +kernel
theorem d1_18 : decode method_4_code 18 = .ok (.iand, 1) := by decide +kernel
theorem d1_19 : decode method_4_code 19 = .ok (.istore_n 2, 1) := by decide +kernel
theorem d1_20 : decode method_4_code 20 = .ok (.iload_n 2, 1) := by decide +kernel
theorem d1_21 : decode method_4_code 21 = .ok (.ifCond .ne 6, 3) := by decide +kernel
theorem d1_24 : decode method_4_code 24 = .ok (.bipush 46, 2) := by decide +kernel
theorem d1_26 : decode method_4_code 26 = .ok (.ireturn, 1) := by decide +kernel
theorem d1_27 : decode method_4_code 27 = .ok (.iload_n 2, 1) := by decide +kernel
theorem d1_28 : decode method_4_code 28 = .ok (.iconst 1, 1) := by decide +kernel
theorem d1_29 : decode method_4_code 29 = .ok (.if_icmp .ne 6, 3) := by decide +kernel
theorem d1_32 : decode method_4_code 32 = .ok (.bipush 101, 2) := by decide +kernel
theorem d1_34 : decode method_4_code 34 = .ok (.ireturn, 1) := by decide +kernel
theorem d1_35 : decode method_4_code 35 = .ok (.iload_n 2, 1) := by decide +kernel
theorem d1_36 : decode method_4_code 36 = .ok (.iconst 2, 1) := by decide +kernel
theorem d1_37 : decode method_4_code 37 = .ok (.if_icmp .ne 6, 3) := by decide +kernel
theorem d1_40 : decode method_4_code 40 = .ok (.bipush 69, 2) := by decide +kernel
theorem d1_42 : decode method_4_code 42 = .ok (.ireturn, 1) := by decide +kernel
theorem d1_43 : decode method_4_code 43 = .ok (.bipush 48, 2) := by decide +kernel
theorem d1_45 : decode method_4_code 45 = .ok (.ireturn, 1) := by decide +kernel
theorem d13_0 : decode jdk_29_method_45_code 0 = .ok (.lload_n 0, 1) := by decide +kernel
theorem d13_1 : decode jdk_29_method_45_code 1 = .ok (.bipush 32, 2) := by decide +kernel
theorem d13_3 : decode jdk_29_method_45_code 3 = .ok (.lshr, 1) := by decide +kernel
theorem d13_4 : decode jdk_29_method_45_code 4 = .ok (.lstore 4, 2) := by decide +kernel
theorem d13_6 : decode jdk_29_method_45_code 6 = .ok (.lload_n 0, 1) := by decide +kernel
theorem d13_7 : decode jdk_29_method_45_code 7 = .ok (.ldc2_w 138, 3) := by decide +kernel
theorem d13_10 : decode jdk_29_method_45_code 10 = .ok (.land, 1) := by decide +kernel
theorem d13_11 : decode jdk_29_method_45_code 11 = .ok (.lstore 6, 2) := by decide +kernel
theorem d13_13 : decode jdk_29_method_45_code 13 = .ok (.lload_n 2, 1) := by decide +kernel
theorem d13_14 : decode jdk_29_method_45_code 14 = .ok (.bipush 32, 2) := by decide +kernel
theorem d13_16 : decode jdk_29_method_45_code 16 = .ok (.lshr, 1) := by decide +kernel
theorem d13_17 : decode jdk_29_method_45_code 17 = .ok (.lstore 8, 2) := by decide +kernel
theorem d13_19 : decode jdk_29_method_45_code 19 = .ok (.lload_n 2, 1) := by decide +kernel
theorem d13_20 : decode jdk_29_method_45_code 20 = .ok (.ldc2_w 138, 3) := by decide +kernel
theorem d13_23 : decode jdk_29_method_45_code 23 = .ok (.land, 1) := by decide +kernel
theorem d13_24 : decode jdk_29_method_45_code 24 = .ok (.lstore 10, 2) := by decide +kernel
theorem d13_26 : decode jdk_29_method_45_code 26 = .ok (.lload 6, 2) := by decide +kernel
theorem d13_28 : decode jdk_29_method_45_code 28 = .ok (.lload 10, 2) := by decide +kernel
theorem d13_30 : decode jdk_29_method_45_code 30 = .ok (.lmul, 1) := by decide +kernel
theorem d13_31 : decode jdk_29_method_45_code 31 = .ok (.lstore 12, 2) := by decide +kernel
theorem d13_33 : decode jdk_29_method_45_code 33 = .ok (.lload 4, 2) := by decide +kernel
theorem d13_35 : decode jdk_29_method_45_code 35 = .ok (.lload 10, 2) := by decide +kernel
theorem d13_37 : decode jdk_29_method_45_code 37 = .ok (.lmul, 1) := by decide +kernel
theorem d13_38 : decode jdk_29_method_45_code 38 = .ok (.lload 12, 2) := by decide +kernel
theorem d13_40 : decode jdk_29_method_45_code 40 = .ok (.bipush 32, 2) := by decide +kernel
theorem d13_42 : decode jdk_29_method_45_code 42 = .ok (.lushr, 1) := by decide +kernel
theorem d13_43 : decode jdk_29_method_45_code 43 = .ok (.ladd, 1) := by decide +kernel
theorem d13_44 : decode jdk_29_method_45_code 44 = .ok (.lstore 14, 2) := by decide +kernel
theorem d13_46 : decode jdk_29_method_45_code 46 = .ok (.lload 14, 2) := by decide +kernel
theorem d13_48 : decode jdk_29_method_45_code 48 = .ok (.ldc2_w 138, 3) := by decide +kernel
theorem d13_51 : decode jdk_29_method_45_code 51 = .ok (.land, 1) := by decide +kernel
theorem d13_52 : decode jdk_29_method_45_code 52 = .ok (.lstore 16, 2) := by decide +kernel
theorem d13_54 : decode jdk_29_method_45_code 54 = .ok (.lload 14, 2) := by decide +kernel
theorem d13_56 : decode jdk_29_method_45_code 56 = .ok (.bipush 32, 2) := by decide +kernel
theorem d13_58 : decode jdk_29_method_45_code 58 = .ok (.lshr, 1) := by decide +kernel
theorem d13_59 : decode jdk_29_method_45_code 59 = .ok (.lstore 18, 2) := by decide +kernel
theorem d13_61 : decode jdk_29_method_45_code 61 = .ok (.lload 16, 2) := by decide +kernel
theorem d13_63 : decode jdk_29_method_45_code 63 = .ok (.lload 6, 2) := by decide +kernel
theorem d13_65 : decode jdk_29_method_45_code 65 = .ok (.lload 8, 2) := by decide +kernel
theorem d13_67 : decode jdk_29_method_45_code 67 = .ok (.lmul, 1) := by decide +kernel
theorem d13_68 : decode jdk_29_method_45_code 68 = .ok (.ladd, 1) := by decide +kernel
theorem d13_69 : decode jdk_29_method_45_code 69 = .ok (.lstore 16, 2) := by decide +kernel
theorem d13_71 : decode jdk_29_method_45_code 71 = .ok (.lload 4, 2) := by decide +kernel
theorem d13_73 : decode jdk_29_method_45_code 73 = .ok (.lload 8, 2) := by decide +kernel
theorem d13_75 : decode jdk_29_method_45_code 75 = .ok (.lmul, 1) := by decide +kernel
theorem d13_76 : decode jdk_29_method_45_code 76 = .ok (.lload 18, 2) := by decide +kernel
theorem d13_78 : decode jdk_29_method_45_code 78 = .ok (.ladd, 1) := by decide +kernel
theorem d13_79 : decode jdk_29_method_45_code 79 = .ok (.lload 16, 2) := by decide +kernel
theorem d13_81 : decode jdk_29_method_45_code 81 = .ok (.bipush 32, 2) := by decide +kernel
theorem d13_83 : decode jdk_29_method_45_code 83 = .ok (.lshr, 1) := by decide +kernel
theorem d13_84 : decode jdk_29_method_45_code 84 = .ok (.ladd, 1) := by decide +kernel
theorem d13_85 : decode jdk_29_method_45_code 85 = .ok (.lreturn, 1) := by decide +kernel
theorem pf_java_lang_MathmultiplyHigh_JJ_J : plainFor (⟨"java/lang/Math", "multiplyHigh", "(JJ)J"⟩ : MethodName) = true := by decide +kernel
theorem d15_0 : decode jdk_35_method_42_code 0 = .ok (.lload_n 0, 1) := by decide +kernel
theorem d15_1 : decode jdk_35_method_42_code 1 = .ok (.lload_n 2, 1) := by decide +kernel
theorem d15_2 : decode jdk_35_method_42_code 2 = .ok (.lcmp, 1) := by decide +kernel
theorem d15_3 : decode jdk_35_method_42_code 3 = .ok (.ifCond .ge 7, 3) := by decide +kernel
theorem d15_6 : decode jdk_35_method_42_code 6 = .ok (.iconst (-1), 1) := by decide +kernel
theorem d15_7 : decode jdk_35_method_42_code 7 = .ok (.goto 14, 3) := by decide +kernel
theorem d15_21 : decode jdk_35_method_42_code 21 = .ok (.ireturn, 1) := by decide +kernel
theorem d15_10 : decode jdk_35_method_42_code 10 = .ok (.lload_n 0, 1) := by decide +kernel
theorem d15_11 : decode jdk_35_method_42_code 11 = .ok (.lload_n 2, 1) := by decide +kernel
theorem d15_12 : decode jdk_35_method_42_code 12 = .ok (.lcmp, 1) := by decide +kernel
theorem d15_13 : decode jdk_35_method_42_code 13 = .ok (.ifCond .ne 7, 3) := by decide +kernel
theorem d15_16 : decode jdk_35_method_42_code 16 = .ok (.iconst 0, 1) := by decide +kernel
theorem d15_17 : decode jdk_35_method_42_code 17 = .ok (.goto 4, 3) := by decide +kernel
theorem d15_20 : decode jdk_35_method_42_code 20 = .ok (.iconst 1, 1) := by decide +kernel
theorem pn_java_lang_Long : plainName "java/lang/Long" = true := by first | (simp [plainName, overriddenIn]; done) | decide +kernel
theorem d14_0 : decode jdk_35_method_43_code 0 = .ok (.lload_n 0, 1) := by decide +kernel
theorem d14_1 : decode jdk_35_method_43_code 1 = .ok (.ldc2_w 168, 3) := by decide +kernel
theorem d14_4 : decode jdk_35_method_43_code 4 = .ok (.ladd, 1) := by decide +kernel
theorem d14_5 : decode jdk_35_method_43_code 5 = .ok (.lload_n 2, 1) := by decide +kernel
theorem d14_6 : decode jdk_35_method_43_code 6 = .ok (.ldc2_w 168, 3) := by decide +kernel
theorem d14_9 : decode jdk_35_method_43_code 9 = .ok (.ladd, 1) := by decide +kernel
theorem d14_10 : decode jdk_35_method_43_code 10 = .ok (.invokestatic 302, 3) := by decide +kernel
theorem pd__JJ_I : parseMethodDescriptor "(JJ)I" = some ⟨[.long, .long], some .int⟩ := by decide +kernel
theorem d14_13 : decode jdk_35_method_43_code 13 = .ok (.ireturn, 1) := by decide +kernel
theorem d12_0 : decode prog_102_method_25_code 0 = .ok (.aload_n 0, 1) := by decide +kernel
theorem d12_1 : decode prog_102_method_25_code 1 = .ok (.getfield 24, 3) := by decide +kernel
theorem d12_4 : decode prog_102_method_25_code 4 = .ok (.ldc2_w 173, 3) := by decide +kernel
theorem d12_7 : decode prog_102_method_25_code 7 = .ok (.invokestatic 181, 3) := by decide +kernel
theorem pd__JJ_J : parseMethodDescriptor "(JJ)J" = some ⟨[.long, .long], some .long⟩ := by decide +kernel
theorem d12_10 : decode prog_102_method_25_code 10 = .ok (.aload_n 0, 1) := by decide +kernel
theorem d12_11 : decode prog_102_method_25_code 11 = .ok (.getfield 24, 3) := by decide +kernel
theorem d12_14 : decode prog_102_method_25_code 14 = .ok (.bipush 63, 2) := by decide +kernel
theorem d12_16 : decode prog_102_method_25_code 16 = .ok (.lshr, 1) := by decide +kernel
theorem d12_17 : decode prog_102_method_25_code 17 = .ok (.ldc2_w 173, 3) := by decide +kernel
theorem d12_20 : decode prog_102_method_25_code 20 = .ok (.land, 1) := by decide +kernel
theorem d12_21 : decode prog_102_method_25_code 21 = .ok (.ladd, 1) := by decide +kernel
theorem d12_22 : decode prog_102_method_25_code 22 = .ok (.lstore_n 2, 1) := by decide +kernel
theorem d12_23 : decode prog_102_method_25_code 23 = .ok (.aload_n 0, 1) := by decide +kernel
theorem d12_24 : decode prog_102_method_25_code 24 = .ok (.getfield 24, 3) := by decide +kernel
theorem d12_27 : decode prog_102_method_25_code 27 = .ok (.ldc2_w 173, 3) := by decide +kernel
theorem d12_30 : decode prog_102_method_25_code 30 = .ok (.lmul, 1) := by decide +kernel
theorem d12_31 : decode prog_102_method_25_code 31 = .ok (.lstore 4, 2) := by decide +kernel
theorem d12_33 : decode prog_102_method_25_code 33 = .ok (.lload 4, 2) := by decide +kernel
theorem d12_35 : decode prog_102_method_25_code 35 = .ok (.iload_n 1, 1) := by decide +kernel
theorem d12_36 : decode prog_102_method_25_code 36 = .ok (.i2l, 1) := by decide +kernel
theorem d12_37 : decode prog_102_method_25_code 37 = .ok (.ladd, 1) := by decide +kernel
theorem d12_38 : decode prog_102_method_25_code 38 = .ok (.lstore 6, 2) := by decide +kernel
theorem d12_40 : decode prog_102_method_25_code 40 = .ok (.aload_n 0, 1) := by decide +kernel
theorem d12_41 : decode prog_102_method_25_code 41 = .ok (.aload_n 0, 1) := by decide +kernel
theorem d12_42 : decode prog_102_method_25_code 42 = .ok (.getfield 28, 3) := by decide +kernel
theorem d12_45 : decode prog_102_method_25_code 45 = .ok (.ldc2_w 173, 3) := by decide +kernel
theorem d12_48 : decode prog_102_method_25_code 48 = .ok (.lmul, 1) := by decide +kernel
theorem d12_49 : decode prog_102_method_25_code 49 = .ok (.lload_n 2, 1) := by decide +kernel
theorem d12_50 : decode prog_102_method_25_code 50 = .ok (.ladd, 1) := by decide +kernel
theorem d12_51 : decode prog_102_method_25_code 51 = .ok (.lload 6, 2) := by decide +kernel
theorem d12_53 : decode prog_102_method_25_code 53 = .ok (.lload 4, 2) := by decide +kernel
theorem d12_55 : decode prog_102_method_25_code 55 = .ok (.invokestatic 185, 3) := by decide +kernel
theorem d12_58 : decode prog_102_method_25_code 58 = .ok (.ifCond .ge 7, 3) := by decide +kernel
theorem d12_61 : decode prog_102_method_25_code 61 = .ok (.iconst 1, 1) := by decide +kernel
theorem d12_62 : decode prog_102_method_25_code 62 = .ok (.goto 4, 3) := by decide +kernel
theorem d12_65 : decode prog_102_method_25_code 65 = .ok (.iconst 0, 1) := by decide +kernel
theorem d12_66 : decode prog_102_method_25_code 66 = .ok (.i2l, 1) := by decide +kernel
theorem d12_67 : decode prog_102_method_25_code 67 = .ok (.ladd, 1) := by decide +kernel
theorem d12_68 : decode prog_102_method_25_code 68 = .ok (.putfield 28, 3) := by decide +kernel
theorem d12_71 : decode prog_102_method_25_code 71 = .ok (.aload_n 0, 1) := by decide +kernel
theorem d12_72 : decode prog_102_method_25_code 72 = .ok (.lload 6, 2) := by decide +kernel
theorem d12_74 : decode prog_102_method_25_code 74 = .ok (.putfield 24, 3) := by decide +kernel
theorem d12_77 : decode prog_102_method_25_code 77 = .ok (.return_, 1) := by decide +kernel
theorem d5_0 : decode prog_102_method_24_code 0 = .ok (.iload_n 2, 1) := by decide +kernel
theorem d5_1 : decode prog_102_method_24_code 1 = .ok (.iload_n 3, 1) := by decide +kernel
theorem d5_2 : decode prog_102_method_24_code 2 = .ok (.if_icmp .ge 99, 3) := by decide +kernel
theorem d5_101 : decode prog_102_method_24_code 101 = .ok (.iload_n 2, 1) := by decide +kernel
theorem d5_102 : decode prog_102_method_24_code 102 = .ok (.ireturn, 1) := by decide +kernel
theorem d5_5 : decode prog_102_method_24_code 5 = .ok (.aload_n 1, 1) := by decide +kernel
theorem d5_6 : decode prog_102_method_24_code 6 = .ok (.iload_n 2, 1) := by decide +kernel
theorem d5_7 : decode prog_102_method_24_code 7 = .ok (.caload, 1) := by decide +kernel
theorem d5_8 : decode prog_102_method_24_code 8 = .ok (.istore 4, 2) := by decide +kernel
theorem os_b_5_8 {y0 : Value} {y1 : Value} {y2 : Value} {y3 : Value} {s4 : Slot} {v : Int32} (h : One s4) : storeLocals #[.val y0, .val y1, .val y2, .val y3, s4] 4 (.int v) = some #[.val y0, .val y1, .val y2, .val y3, .val (.int v)] := by
  rcases h with rfl | ⟨w, rfl, hw⟩
  · rfl
  · cases w <;> first | rfl | (simp [Value.category] at hw)
theorem d5_10 : decode prog_102_method_24_code 10 = .ok (.iload 4, 2) := by decide +kernel
theorem d5_12 : decode prog_102_method_24_code 12 = .ok (.invokestatic 59, 3) := by decide +kernel
theorem pd__C_Z : parseMethodDescriptor "(C)Z" = some ⟨[.char], some .boolean⟩ := by decide +kernel
theorem d5_15 : decode prog_102_method_24_code 15 = .ok (.ifCond .ne 6, 3) := by decide +kernel
theorem d5_18 : decode prog_102_method_24_code 18 = .ok (.goto 83, 3) := by decide +kernel
theorem d5_21 : decode prog_102_method_24_code 21 = .ok (.aload_n 0, 1) := by decide +kernel
theorem d5_22 : decode prog_102_method_24_code 22 = .ok (.getfield 31, 3) := by decide +kernel
theorem d5_25 : decode prog_102_method_24_code 25 = .ok (.ifCond .gt 10, 3) := by decide +kernel
theorem d5_35 : decode prog_102_method_24_code 35 = .ok (.aload_n 0, 1) := by decide +kernel
theorem d5_36 : decode prog_102_method_24_code 36 = .ok (.dup, 1) := by decide +kernel
theorem d5_37 : decode prog_102_method_24_code 37 = .ok (.getfield 31, 3) := by decide +kernel
theorem d5_40 : decode prog_102_method_24_code 40 = .ok (.iconst 1, 1) := by decide +kernel
theorem d5_41 : decode prog_102_method_24_code 41 = .ok (.iadd, 1) := by decide +kernel
theorem d5_42 : decode prog_102_method_24_code 42 = .ok (.putfield 31, 3) := by decide +kernel
theorem d5_45 : decode prog_102_method_24_code 45 = .ok (.aload_n 0, 1) := by decide +kernel
theorem d5_46 : decode prog_102_method_24_code 46 = .ok (.getfield 31, 3) := by decide +kernel
theorem d5_49 : decode prog_102_method_24_code 49 = .ok (.bipush 18, 2) := by decide +kernel
theorem d5_51 : decode prog_102_method_24_code 51 = .ok (.if_icmp .gt 26, 3) := by decide +kernel
theorem d5_77 : decode prog_102_method_24_code 77 = .ok (.aload_n 0, 1) := by decide +kernel
theorem d5_78 : decode prog_102_method_24_code 78 = .ok (.getfield 31, 3) := by decide +kernel
theorem d5_81 : decode prog_102_method_24_code 81 = .ok (.bipush 38, 2) := by decide +kernel
theorem d5_83 : decode prog_102_method_24_code 83 = .ok (.if_icmp .gt 12, 3) := by decide +kernel
theorem d5_95 : decode prog_102_method_24_code 95 = .ok (.iinc 2 1, 3) := by decide +kernel
theorem d5_98 : decode prog_102_method_24_code 98 = .ok (.goto (-98), 3) := by decide +kernel
theorem d5_86 : decode prog_102_method_24_code 86 = .ok (.aload_n 0, 1) := by decide +kernel
theorem d5_87 : decode prog_102_method_24_code 87 = .ok (.iload 4, 2) := by decide +kernel
theorem d5_89 : decode prog_102_method_24_code 89 = .ok (.bipush 48, 2) := by decide +kernel
theorem d5_91 : decode prog_102_method_24_code 91 = .ok (.isub, 1) := by decide +kernel
theorem d5_92 : decode prog_102_method_24_code 92 = .ok (.invokevirtual 177, 3) := by decide +kernel
theorem pd__I_V : parseMethodDescriptor "(I)V" = some ⟨[.int], none⟩ := by decide +kernel
theorem d5_54 : decode prog_102_method_24_code 54 = .ok (.aload_n 0, 1) := by decide +kernel
theorem d5_55 : decode prog_102_method_24_code 55 = .ok (.aload_n 0, 1) := by decide +kernel
theorem d5_56 : decode prog_102_method_24_code 56 = .ok (.getfield 24, 3) := by decide +kernel
theorem d5_59 : decode prog_102_method_24_code 59 = .ok (.ldc2_w 173, 3) := by decide +kernel
theorem d5_62 : decode prog_102_method_24_code 62 = .ok (.lmul, 1) := by decide +kernel
theorem d5_63 : decode prog_102_method_24_code 63 = .ok (.iload 4, 2) := by decide +kernel
theorem d5_65 : decode prog_102_method_24_code 65 = .ok (.i2l, 1) := by decide +kernel
theorem d5_66 : decode prog_102_method_24_code 66 = .ok (.ladd, 1) := by decide +kernel
theorem d5_67 : decode prog_102_method_24_code 67 = .ok (.ldc2_w 175, 3) := by decide +kernel
theorem d5_70 : decode prog_102_method_24_code 70 = .ok (.lsub, 1) := by decide +kernel
theorem d5_71 : decode prog_102_method_24_code 71 = .ok (.putfield 24, 3) := by decide +kernel
theorem d5_74 : decode prog_102_method_24_code 74 = .ok (.goto 21, 3) := by decide +kernel
theorem d5_28 : decode prog_102_method_24_code 28 = .ok (.iload 4, 2) := by decide +kernel
theorem d5_30 : decode prog_102_method_24_code 30 = .ok (.bipush 48, 2) := by decide +kernel
theorem d5_32 : decode prog_102_method_24_code 32 = .ok (.if_icmp .eq 63, 3) := by decide +kernel
theorem d4_258 : decode prog_102_method_2_code 258 = .ok (.iload 4, 2) := by decide +kernel
theorem d4_260 : decode prog_102_method_2_code 260 = .ok (.iload_n 3, 1) := by decide +kernel
theorem d4_261 : decode prog_102_method_2_code 261 = .ok (.if_icmp .ge 43, 3) := by decide +kernel
theorem d4_304 : decode prog_102_method_2_code 304 = .ok (.aload_n 0, 1) := by decide +kernel
theorem d4_305 : decode prog_102_method_2_code 305 = .ok (.iload 4, 2) := by decide +kernel
theorem d4_307 : decode prog_102_method_2_code 307 = .ok (.iload 8, 2) := by decide +kernel
theorem d4_309 : decode prog_102_method_2_code 309 = .ok (.if_icmp .le 7, 3) := by decide +kernel
theorem d4_312 : decode prog_102_method_2_code 312 = .ok (.iconst 1, 1) := by decide +kernel
theorem d4_313 : decode prog_102_method_2_code 313 = .ok (.goto 4, 3) := by decide +kernel
theorem d4_317 : decode prog_102_method_2_code 317 = .ok (.putfield 53, 3) := by decide +kernel
theorem d4_320 : decode prog_102_method_2_code 320 = .ok (.aload_n 0, 1) := by decide +kernel
theorem d4_321 : decode prog_102_method_2_code 321 = .ok (.iload 7, 2) := by decide +kernel
theorem d4_323 : decode prog_102_method_2_code 323 = .ok (.ifCond .eq 11, 3) := by decide +kernel
theorem d4_334 : decode prog_102_method_2_code 334 = .ok (.aload_n 0, 1) := by decide +kernel
theorem d4_335 : decode prog_102_method_2_code 335 = .ok (.getfield 37, 3) := by decide +kernel
theorem d4_338 : decode prog_102_method_2_code 338 = .ok (.putfield 37, 3) := by decide +kernel
theorem d4_341 : decode prog_102_method_2_code 341 = .ok (.aload_n 0, 1) := by decide +kernel
theorem d4_342 : decode prog_102_method_2_code 342 = .ok (.iload 4, 2) := by decide +kernel
theorem d4_344 : decode prog_102_method_2_code 344 = .ok (.putfield 56, 3) := by decide +kernel
theorem d4_347 : decode prog_102_method_2_code 347 = .ok (.aload_n 0, 1) := by decide +kernel
theorem d4_348 : decode prog_102_method_2_code 348 = .ok (.areturn, 1) := by decide +kernel
theorem d4_326 : decode prog_102_method_2_code 326 = .ok (.aload_n 0, 1) := by decide +kernel
theorem d4_327 : decode prog_102_method_2_code 327 = .ok (.getfield 37, 3) := by decide +kernel
theorem d4_330 : decode prog_102_method_2_code 330 = .ok (.ineg, 1) := by decide +kernel
theorem d4_331 : decode prog_102_method_2_code 331 = .ok (.goto 7, 3) := by decide +kernel
theorem d4_316 : decode prog_102_method_2_code 316 = .ok (.iconst 0, 1) := by decide +kernel
theorem d4_264 : decode prog_102_method_2_code 264 = .ok (.aload_n 1, 1) := by decide +kernel
theorem d4_265 : decode prog_102_method_2_code 265 = .ok (.iload 4, 2) := by decide +kernel
theorem d4_267 : decode prog_102_method_2_code 267 = .ok (.caload, 1) := by decide +kernel
theorem d4_268 : decode prog_102_method_2_code 268 = .ok (.invokestatic 59, 3) := by decide +kernel
theorem d4_271 : decode prog_102_method_2_code 271 = .ok (.ifCond .eq 33, 3) := by decide +kernel
theorem d4_274 : decode prog_102_method_2_code 274 = .ok (.aload_n 0, 1) := by decide +kernel
theorem d4_275 : decode prog_102_method_2_code 275 = .ok (.aload_n 0, 1) := by decide +kernel
theorem d4_276 : decode prog_102_method_2_code 276 = .ok (.getfield 37, 3) := by decide +kernel
theorem d4_279 : decode prog_102_method_2_code 279 = .ok (.bipush 10, 2) := by decide +kernel
theorem d4_281 : decode prog_102_method_2_code 281 = .ok (.imul, 1) := by decide +kernel
theorem d4_282 : decode prog_102_method_2_code 282 = .ok (.aload_n 1, 1) := by decide +kernel
theorem d4_283 : decode prog_102_method_2_code 283 = .ok (.iload 4, 2) := by decide +kernel
theorem d4_285 : decode prog_102_method_2_code 285 = .ok (.caload, 1) := by decide +kernel
theorem d4_286 : decode prog_102_method_2_code 286 = .ok (.iadd, 1) := by decide +kernel
theorem d4_287 : decode prog_102_method_2_code 287 = .ok (.bipush 48, 2) := by decide +kernel
theorem d4_289 : decode prog_102_method_2_code 289 = .ok (.isub, 1) := by decide +kernel
theorem d4_290 : decode prog_102_method_2_code 290 = .ok (.ldc 63, 2) := by decide +kernel
theorem d4_292 : decode prog_102_method_2_code 292 = .ok (.invokestatic 64, 3) := by decide +kernel
theorem pd__II_I : parseMethodDescriptor "(II)I" = some ⟨[.int, .int], some .int⟩ := by decide +kernel
theorem d4_295 : decode prog_102_method_2_code 295 = .ok (.putfield 37, 3) := by decide +kernel
theorem d4_298 : decode prog_102_method_2_code 298 = .ok (.iinc 4 1, 3) := by decide +kernel
theorem d4_301 : decode prog_102_method_2_code 301 = .ok (.goto (-43), 3) := by decide +kernel
theorem d4_0 : decode prog_102_method_2_code 0 = .ok (.aload_n 0, 1) := by decide +kernel
theorem d4_1 : decode prog_102_method_2_code 1 = .ok (.aload_n 1, 1) := by decide +kernel
theorem d4_2 : decode prog_102_method_2_code 2 = .ok (.putfield 7, 3) := by decide +kernel
theorem d4_5 : decode prog_102_method_2_code 5 = .ok (.aload_n 0, 1) := by decide +kernel
theorem d4_6 : decode prog_102_method_2_code 6 = .ok (.iload_n 2, 1) := by decide +kernel
theorem d4_7 : decode prog_102_method_2_code 7 = .ok (.putfield 13, 3) := by decide +kernel
theorem d4_10 : decode prog_102_method_2_code 10 = .ok (.aload_n 0, 1) := by decide +kernel
theorem d4_11 : decode prog_102_method_2_code 11 = .ok (.iconst (-1), 1) := by decide +kernel
theorem d4_12 : decode prog_102_method_2_code 12 = .ok (.putfield 17, 3) := by decide +kernel
theorem d4_15 : decode prog_102_method_2_code 15 = .ok (.aload_n 0, 1) := by decide +kernel
theorem d4_16 : decode prog_102_method_2_code 16 = .ok (.iconst 0, 1) := by decide +kernel
theorem d4_17 : decode prog_102_method_2_code 17 = .ok (.putfield 20, 3) := by decide +kernel
theorem d4_20 : decode prog_102_method_2_code 20 = .ok (.aload_n 0, 1) := by decide +kernel
theorem d4_21 : decode prog_102_method_2_code 21 = .ok (.lconst 0, 1) := by decide +kernel
theorem d4_22 : decode prog_102_method_2_code 22 = .ok (.putfield 24, 3) := by decide +kernel
theorem d4_25 : decode prog_102_method_2_code 25 = .ok (.aload_n 0, 1) := by decide +kernel
theorem d4_26 : decode prog_102_method_2_code 26 = .ok (.lconst 0, 1) := by decide +kernel
theorem d4_27 : decode prog_102_method_2_code 27 = .ok (.putfield 28, 3) := by decide +kernel
theorem d4_30 : decode prog_102_method_2_code 30 = .ok (.aload_n 0, 1) := by decide +kernel
theorem d4_31 : decode prog_102_method_2_code 31 = .ok (.iconst 0, 1) := by decide +kernel
theorem d4_32 : decode prog_102_method_2_code 32 = .ok (.putfield 31, 3) := by decide +kernel
theorem d4_35 : decode prog_102_method_2_code 35 = .ok (.aload_n 0, 1) := by decide +kernel
theorem d4_36 : decode prog_102_method_2_code 36 = .ok (.iconst 0, 1) := by decide +kernel
theorem d4_37 : decode prog_102_method_2_code 37 = .ok (.putfield 34, 3) := by decide +kernel
theorem d4_40 : decode prog_102_method_2_code 40 = .ok (.aload_n 0, 1) := by decide +kernel
theorem d4_41 : decode prog_102_method_2_code 41 = .ok (.iconst 0, 1) := by decide +kernel
theorem d4_42 : decode prog_102_method_2_code 42 = .ok (.putfield 37, 3) := by decide +kernel
theorem d4_45 : decode prog_102_method_2_code 45 = .ok (.aload_n 0, 1) := by decide +kernel
theorem d4_46 : decode prog_102_method_2_code 46 = .ok (.aload_n 1, 1) := by decide +kernel
theorem d4_47 : decode prog_102_method_2_code 47 = .ok (.iload_n 2, 1) := by decide +kernel
theorem d4_48 : decode prog_102_method_2_code 48 = .ok (.iload_n 3, 1) := by decide +kernel
theorem d4_49 : decode prog_102_method_2_code 49 = .ok (.invokevirtual 40, 3) := by decide +kernel
theorem pd___CII_I : parseMethodDescriptor "([CII)I" = some ⟨[(.array .char), .int, .int], some .int⟩ := by decide +kernel
theorem d4_52 : decode prog_102_method_2_code 52 = .ok (.istore 4, 2) := by decide +kernel
theorem d4_54 : decode prog_102_method_2_code 54 = .ok (.aload_n 0, 1) := by decide +kernel
theorem d4_55 : decode prog_102_method_2_code 55 = .ok (.iload 4, 2) := by decide +kernel
theorem d4_57 : decode prog_102_method_2_code 57 = .ok (.iload_n 2, 1) := by decide +kernel
theorem d4_58 : decode prog_102_method_2_code 58 = .ok (.isub, 1) := by decide +kernel
theorem d4_59 : decode prog_102_method_2_code 59 = .ok (.putfield 44, 3) := by decide +kernel
theorem d4_62 : decode prog_102_method_2_code 62 = .ok (.aload_n 0, 1) := by decide +kernel
theorem d4_63 : decode prog_102_method_2_code 63 = .ok (.iload 4, 2) := by decide +kernel
theorem d4_65 : decode prog_102_method_2_code 65 = .ok (.iload_n 3, 1) := by decide +kernel
theorem d4_66 : decode prog_102_method_2_code 66 = .ok (.if_icmp .ge 16, 3) := by decide +kernel
theorem d4_69 : decode prog_102_method_2_code 69 = .ok (.aload_n 1, 1) := by decide +kernel
theorem d4_70 : decode prog_102_method_2_code 70 = .ok (.iload 4, 2) := by decide +kernel
theorem d4_72 : decode prog_102_method_2_code 72 = .ok (.caload, 1) := by decide +kernel
theorem d4_73 : decode prog_102_method_2_code 73 = .ok (.bipush 46, 2) := by decide +kernel
theorem d4_75 : decode prog_102_method_2_code 75 = .ok (.if_icmp .ne 7, 3) := by decide +kernel
theorem d4_78 : decode prog_102_method_2_code 78 = .ok (.iconst 1, 1) := by decide +kernel
theorem d4_79 : decode prog_102_method_2_code 79 = .ok (.goto 4, 3) := by decide +kernel
theorem d4_83 : decode prog_102_method_2_code 83 = .ok (.putfield 47, 3) := by decide +kernel
theorem d4_86 : decode prog_102_method_2_code 86 = .ok (.aload_n 0, 1) := by decide +kernel
theorem d4_87 : decode prog_102_method_2_code 87 = .ok (.getfield 47, 3) := by decide +kernel
theorem d4_90 : decode prog_102_method_2_code 90 = .ok (.ifCond .eq 41, 3) := by decide +kernel
theorem d4_93 : decode prog_102_method_2_code 93 = .ok (.iload 4, 2) := by decide +kernel
theorem d4_95 : decode prog_102_method_2_code 95 = .ok (.iconst 1, 1) := by decide +kernel
theorem d4_96 : decode prog_102_method_2_code 96 = .ok (.iadd, 1) := by decide +kernel
theorem d4_97 : decode prog_102_method_2_code 97 = .ok (.istore 5, 2) := by decide +kernel
theorem d4_99 : decode prog_102_method_2_code 99 = .ok (.aload_n 0, 1) := by decide +kernel
theorem d4_100 : decode prog_102_method_2_code 100 = .ok (.aload_n 1, 1) := by decide +kernel
theorem d4_101 : decode prog_102_method_2_code 101 = .ok (.iload 5, 2) := by decide +kernel
theorem d4_103 : decode prog_102_method_2_code 103 = .ok (.iload_n 3, 1) := by decide +kernel
theorem d4_104 : decode prog_102_method_2_code 104 = .ok (.invokevirtual 40, 3) := by decide +kernel
theorem d4_107 : decode prog_102_method_2_code 107 = .ok (.istore 4, 2) := by decide +kernel
theorem d4_109 : decode prog_102_method_2_code 109 = .ok (.aload_n 0, 1) := by decide +kernel
theorem d4_110 : decode prog_102_method_2_code 110 = .ok (.iload 4, 2) := by decide +kernel
theorem d4_112 : decode prog_102_method_2_code 112 = .ok (.iload 5, 2) := by decide +kernel
theorem d4_114 : decode prog_102_method_2_code 114 = .ok (.isub, 1) := by decide +kernel
theorem d4_115 : decode prog_102_method_2_code 115 = .ok (.putfield 34, 3) := by decide +kernel
theorem d4_118 : decode prog_102_method_2_code 118 = .ok (.aload_n 0, 1) := by decide +kernel
theorem d4_119 : decode prog_102_method_2_code 119 = .ok (.dup, 1) := by decide +kernel
theorem d4_120 : decode prog_102_method_2_code 120 = .ok (.getfield 44, 3) := by decide +kernel
theorem d4_123 : decode prog_102_method_2_code 123 = .ok (.aload_n 0, 1) := by decide +kernel
theorem d4_124 : decode prog_102_method_2_code 124 = .ok (.getfield 34, 3) := by decide +kernel
theorem d4_127 : decode prog_102_method_2_code 127 = .ok (.iadd, 1) := by decide +kernel
theorem d4_128 : decode prog_102_method_2_code 128 = .ok (.putfield 44, 3) := by decide +kernel
theorem d4_131 : decode prog_102_method_2_code 131 = .ok (.aload_n 0, 1) := by decide +kernel
theorem d4_132 : decode prog_102_method_2_code 132 = .ok (.iconst 0, 1) := by decide +kernel
theorem d4_133 : decode prog_102_method_2_code 133 = .ok (.putfield 50, 3) := by decide +kernel
theorem d4_136 : decode prog_102_method_2_code 136 = .ok (.aload_n 0, 1) := by decide +kernel
theorem d4_137 : decode prog_102_method_2_code 137 = .ok (.iconst 0, 1) := by decide +kernel
theorem d4_138 : decode prog_102_method_2_code 138 = .ok (.putfield 53, 3) := by decide +kernel
theorem d4_141 : decode prog_102_method_2_code 141 = .ok (.aload_n 0, 1) := by decide +kernel
theorem d4_142 : decode prog_102_method_2_code 142 = .ok (.getfield 44, 3) := by decide +kernel
theorem d4_145 : decode prog_102_method_2_code 145 = .ok (.ifCond .ne 15, 3) := by decide +kernel
theorem d4_148 : decode prog_102_method_2_code 148 = .ok (.aload_n 0, 1) := by decide +kernel
theorem d4_149 : decode prog_102_method_2_code 149 = .ok (.iconst 0, 1) := by decide +kernel
theorem d4_150 : decode prog_102_method_2_code 150 = .ok (.putfield 47, 3) := by decide +kernel
theorem d4_153 : decode prog_102_method_2_code 153 = .ok (.aload_n 0, 1) := by decide +kernel
theorem d4_154 : decode prog_102_method_2_code 154 = .ok (.iload_n 2, 1) := by decide +kernel
theorem d4_155 : decode prog_102_method_2_code 155 = .ok (.putfield 56, 3) := by decide +kernel
theorem d4_158 : decode prog_102_method_2_code 158 = .ok (.aload_n 0, 1) := by decide +kernel
theorem d4_159 : decode prog_102_method_2_code 159 = .ok (.areturn, 1) := by decide +kernel
theorem d4_160 : decode prog_102_method_2_code 160 = .ok (.iload 4, 2) := by decide +kernel
theorem d4_162 : decode prog_102_method_2_code 162 = .ok (.iload_n 3, 1) := by decide +kernel
theorem d4_163 : decode prog_102_method_2_code 163 = .ok (.if_icmp .ge 10, 3) := by decide +kernel
theorem d4_166 : decode prog_102_method_2_code 166 = .ok (.aload_n 1, 1) := by decide +kernel
theorem d4_167 : decode prog_102_method_2_code 167 = .ok (.iload 4, 2) := by decide +kernel
theorem d4_169 : decode prog_102_method_2_code 169 = .ok (.caload, 1) := by decide +kernel
theorem d4_170 : decode prog_102_method_2_code 170 = .ok (.goto 4, 3) := by decide +kernel
theorem d4_174 : decode prog_102_method_2_code 174 = .ok (.istore 5, 2) := by decide +kernel
theorem d4_176 : decode prog_102_method_2_code 176 = .ok (.aload_n 0, 1) := by decide +kernel
theorem d4_177 : decode prog_102_method_2_code 177 = .ok (.iload 5, 2) := by decide +kernel
theorem d4_179 : decode prog_102_method_2_code 179 = .ok (.bipush 101, 2) := by decide +kernel
theorem d4_181 : decode prog_102_method_2_code 181 = .ok (.if_icmp .eq 10, 3) := by decide +kernel
theorem d4_191 : decode prog_102_method_2_code 191 = .ok (.iconst 1, 1) := by decide +kernel
theorem d4_192 : decode prog_102_method_2_code 192 = .ok (.goto 4, 3) := by decide +kernel
theorem d4_196 : decode prog_102_method_2_code 196 = .ok (.putfield 50, 3) := by decide +kernel
theorem d4_199 : decode prog_102_method_2_code 199 = .ok (.aload_n 0, 1) := by decide +kernel
theorem d4_200 : decode prog_102_method_2_code 200 = .ok (.getfield 50, 3) := by decide +kernel
theorem d4_203 : decode prog_102_method_2_code 203 = .ok (.ifCond .eq 138, 3) := by decide +kernel
theorem d4_206 : decode prog_102_method_2_code 206 = .ok (.iinc 4 1, 3) := by decide +kernel
theorem d4_209 : decode prog_102_method_2_code 209 = .ok (.iload 4, 2) := by decide +kernel
theorem d4_211 : decode prog_102_method_2_code 211 = .ok (.iload_n 3, 1) := by decide +kernel
theorem d4_212 : decode prog_102_method_2_code 212 = .ok (.if_icmp .ge 10, 3) := by decide +kernel
theorem d4_215 : decode prog_102_method_2_code 215 = .ok (.aload_n 1, 1) := by decide +kernel
theorem d4_216 : decode prog_102_method_2_code 216 = .ok (.iload 4, 2) := by decide +kernel
theorem d4_218 : decode prog_102_method_2_code 218 = .ok (.caload, 1) := by decide +kernel
theorem d4_219 : decode prog_102_method_2_code 219 = .ok (.goto 4, 3) := by decide +kernel
theorem d4_223 : decode prog_102_method_2_code 223 = .ok (.istore 6, 2) := by decide +kernel
theorem d4_225 : decode prog_102_method_2_code 225 = .ok (.iload 6, 2) := by decide +kernel
theorem d4_227 : decode prog_102_method_2_code 227 = .ok (.bipush 45, 2) := by decide +kernel
theorem d4_229 : decode prog_102_method_2_code 229 = .ok (.if_icmp .ne 7, 3) := by decide +kernel
theorem d4_232 : decode prog_102_method_2_code 232 = .ok (.iconst 1, 1) := by decide +kernel
theorem d4_233 : decode prog_102_method_2_code 233 = .ok (.goto 4, 3) := by decide +kernel
theorem d4_237 : decode prog_102_method_2_code 237 = .ok (.istore 7, 2) := by decide +kernel
theorem d4_239 : decode prog_102_method_2_code 239 = .ok (.iload 6, 2) := by decide +kernel
theorem d4_241 : decode prog_102_method_2_code 241 = .ok (.bipush 43, 2) := by decide +kernel
theorem d4_243 : decode prog_102_method_2_code 243 = .ok (.if_icmp .eq 8, 3) := by decide +kernel
theorem d4_251 : decode prog_102_method_2_code 251 = .ok (.iinc 4 1, 3) := by decide +kernel
theorem d4_254 : decode prog_102_method_2_code 254 = .ok (.iload 4, 2) := by decide +kernel
theorem d4_256 : decode prog_102_method_2_code 256 = .ok (.istore 8, 2) := by decide +kernel
theorem d4_246 : decode prog_102_method_2_code 246 = .ok (.iload 7, 2) := by decide +kernel
theorem d4_248 : decode prog_102_method_2_code 248 = .ok (.ifCond .eq 6, 3) := by decide +kernel
theorem d4_236 : decode prog_102_method_2_code 236 = .ok (.iconst 0, 1) := by decide +kernel
theorem d4_222 : decode prog_102_method_2_code 222 = .ok (.iconst 0, 1) := by decide +kernel
theorem d4_184 : decode prog_102_method_2_code 184 = .ok (.iload 5, 2) := by decide +kernel
theorem d4_186 : decode prog_102_method_2_code 186 = .ok (.bipush 69, 2) := by decide +kernel
theorem d4_188 : decode prog_102_method_2_code 188 = .ok (.if_icmp .ne 7, 3) := by decide +kernel
theorem d4_195 : decode prog_102_method_2_code 195 = .ok (.iconst 0, 1) := by decide +kernel
theorem d4_173 : decode prog_102_method_2_code 173 = .ok (.iconst 0, 1) := by decide +kernel
theorem d4_82 : decode prog_102_method_2_code 82 = .ok (.iconst 0, 1) := by decide +kernel
theorem d7_0 : decode prog_102_method_12_code 0 = .ok (.aload_n 0, 1) := by decide +kernel
theorem d7_1 : decode prog_102_method_12_code 1 = .ok (.getfield 50, 3) := by decide +kernel
theorem d7_4 : decode prog_102_method_12_code 4 = .ok (.ifCond .ne 23, 3) := by decide +kernel
theorem d7_7 : decode prog_102_method_12_code 7 = .ok (.aload_n 0, 1) := by decide +kernel
theorem d7_8 : decode prog_102_method_12_code 8 = .ok (.getfield 44, 3) := by decide +kernel
theorem d7_11 : decode prog_102_method_12_code 11 = .ok (.ifCond .le 16, 3) := by decide +kernel
theorem d7_14 : decode prog_102_method_12_code 14 = .ok (.aload_n 0, 1) := by decide +kernel
theorem d7_15 : decode prog_102_method_12_code 15 = .ok (.getfield 31, 3) := by decide +kernel
theorem d7_18 : decode prog_102_method_12_code 18 = .ok (.bipush 38, 2) := by decide +kernel
theorem d7_20 : decode prog_102_method_12_code 20 = .ok (.if_icmp .gt 7, 3) := by decide +kernel
theorem d7_27 : decode prog_102_method_12_code 27 = .ok (.iconst 0, 1) := by decide +kernel
theorem d7_28 : decode prog_102_method_12_code 28 = .ok (.ireturn, 1) := by decide +kernel
theorem d7_23 : decode prog_102_method_12_code 23 = .ok (.iconst 1, 1) := by decide +kernel
theorem d7_24 : decode prog_102_method_12_code 24 = .ok (.goto 4, 3) := by decide +kernel
theorem d2_0 : decode prog_102_method_1_code 0 = .ok (.aload_n 0, 1) := by decide +kernel
theorem d2_1 : decode prog_102_method_1_code 1 = .ok (.invokespecial 1, 3) := by decide +kernel
theorem d2_4 : decode prog_102_method_1_code 4 = .ok (.return_, 1) := by decide +kernel
theorem d8_0 : decode method_3_code 0 = .ok (.iload_n 2, 1) := by decide +kernel
theorem d8_1 : decode method_3_code 1 = .ok (.istore 5, 2) := by decide +kernel
theorem d8_3 : decode method_3_code 3 = .ok (.iload_n 3, 1) := by decide +kernel
theorem d8_4 : decode method_3_code 4 = .ok (.iload_n 1, 1) := by decide +kernel
theorem d8_5 : decode method_3_code 5 = .ok (.if_icmp .lt 21, 3) := by decide +kernel
theorem d8_26 : decode method_3_code 26 = .ok (.iload 4, 2) := by decide +kernel
theorem d8_28 : decode method_3_code 28 = .ok (.iload_n 1, 1) := by decide +kernel
theorem d8_29 : decode method_3_code 29 = .ok (.if_icmp .lt 24, 3) := by decide +kernel
theorem d8_53 : decode method_3_code 53 = .ok (.iload 5, 2) := by decide +kernel
theorem d8_55 : decode method_3_code 55 = .ok (.ireturn, 1) := by decide +kernel
theorem d8_32 : decode method_3_code 32 = .ok (.aload_n 0, 1) := by decide +kernel
theorem d8_33 : decode method_3_code 33 = .ok (.iload 4, 2) := by decide +kernel
theorem d8_35 : decode method_3_code 35 = .ok (.caload, 1) := by decide +kernel
theorem d8_36 : decode method_3_code 36 = .ok (.invokestatic 33, 3) := by decide +kernel
theorem d8_39 : decode method_3_code 39 = .ok (.ifCond .ne 14, 3) := by decide +kernel
theorem d8_42 : decode method_3_code 42 = .ok (.iload 4, 2) := by decide +kernel
theorem d8_44 : decode method_3_code 44 = .ok (.iload 5, 2) := by decide +kernel
theorem d8_46 : decode method_3_code 46 = .ok (.if_icmp .ge 7, 3) := by decide +kernel
theorem d8_49 : decode method_3_code 49 = .ok (.iload 4, 2) := by decide +kernel
theorem d8_51 : decode method_3_code 51 = .ok (.istore 5, 2) := by decide +kernel
theorem d8_8 : decode method_3_code 8 = .ok (.aload_n 0, 1) := by decide +kernel
theorem d8_9 : decode method_3_code 9 = .ok (.iload_n 3, 1) := by decide +kernel
theorem d8_10 : decode method_3_code 10 = .ok (.caload, 1) := by decide +kernel
theorem d8_11 : decode method_3_code 11 = .ok (.invokestatic 33, 3) := by decide +kernel
theorem d8_14 : decode method_3_code 14 = .ok (.ifCond .ne 12, 3) := by decide +kernel
theorem d8_17 : decode method_3_code 17 = .ok (.iload_n 3, 1) := by decide +kernel
theorem d8_18 : decode method_3_code 18 = .ok (.iload 5, 2) := by decide +kernel
theorem d8_20 : decode method_3_code 20 = .ok (.if_icmp .ge 6, 3) := by decide +kernel
theorem d8_23 : decode method_3_code 23 = .ok (.iload_n 3, 1) := by decide +kernel
theorem d8_24 : decode method_3_code 24 = .ok (.istore 5, 2) := by decide +kernel
theorem pd__I_C : parseMethodDescriptor "(I)C" = some ⟨[.int], some .char⟩ := by decide +kernel
theorem pd___V : parseMethodDescriptor "()V" = some ⟨[], none⟩ := by decide +kernel
theorem pd___CII_Lcom_example_tally_of_atoms_tallyofatoms_Numeral_ : parseMethodDescriptor "([CII)Lcom/example/tally_of_atoms/tallyofatoms/Numeral;" = some ⟨[(.array .char), .int, .int], some (.object "com/example/tally_of_atoms/tallyofatoms/Numeral")⟩ := by decide +kernel
theorem pd___Z : parseMethodDescriptor "()Z" = some ⟨[], some .boolean⟩ := by decide +kernel
theorem pd___CIIII_I : parseMethodDescriptor "([CIIII)I" = some ⟨[(.array .char), .int, .int, .int, .int], some .int⟩ := by decide +kernel
theorem ef_rmMN (m : MethodId) (x0 : Int32) (x1 : Int32) : entryFrame m #[(.int x0), (.int x1)] 2 = mkF m 0 #[.val (.int x0), .val (.int x1)] [] := by first | (simp [entryFrame, mkF, argsToLocals, Value.category]; done) | rfl
set_option maxRecDepth 65536 in
set_option maxHeartbeats 40000000 in
theorem rmMN (l : Launch) (Z : State) (a0 : Array Value) (hw : ∀ d ∈ tables_1, d.before a0 Z = true) (ws : List Jvm.Cond) (p1 p2 : Int32) (h0 : Heap)  :
    own_Ct l Z (⟨"java/lang/Math", "min", "(II)I"⟩ : MethodName) jdk_29_method_69_code 2 (some .int) ws ({ frames := 0, cells := 0, slots := 0, locals := 0 } : Room) #[(.int p1), (.int p2)] h0 (fun v h L => v = some (.int (if p2 < p1 then p2 else p1)) ∧ L = [] ∧ h = h0) := by
  refine own_of pf_java_lang_Mathmin_II_I ?_
  intro p e s m below meth c s₁ hx hby hml hown hnm hret hlk hZ X0 e0
  rw [ef_rmMN]
  refine own_by (T' := s₁) (f' := (mkF m 1 #[.val (.int p1), .val (.int p2)] [(.int p1)])) (fun t k => XS.iloadN X0.here hx rfl (hb hby d11_0) rfl k) ?_
  refine own_by (T' := s₁) (f' := (mkF m 2 #[.val (.int p1), .val (.int p2)] [(.int p2), (.int p1)])) (fun t k => XS.iloadN X0.here hx rfl (hb hby d11_1) rfl k) ?_
  by_cases hc2_1 : p2 < p1
  · have _ := X0
    refine own_by (T' := s₁) (f' := (mkF m 9 #[.val (.int p1), .val (.int p2)] [])) (fun t k => XS.icmpYes X0.here hx rfl (pc0 := 2) (pc' := 9) rfl (hb hby d11_2) rfl (tlt hc2_1).2.2.1 (by decide) (by decide) k) ?_
    refine own_by (T' := s₁) (f' := (mkF m 10 #[.val (.int p1), .val (.int p2)] [(.int p2)])) (fun t k => XS.iloadN X0.here hx rfl (hb hby d11_9) rfl k) ?_
    refine own_retI X0 hx hret hlk (hb hby d11_10) (by decide) (by decide) ?_
    try rw [e0]
    exact ⟨by rw [if_pos hc2_1], rfl, rfl⟩
  · have _ := X0
    refine own_by (T' := s₁) (f' := (mkF m 5 #[.val (.int p1), .val (.int p2)] [])) (fun t k => XS.icmpNo X0.here hx rfl (hb hby d11_2) rfl (flt hc2_1).2.2.1 k) ?_
    refine own_by (T' := s₁) (f' := (mkF m 6 #[.val (.int p1), .val (.int p2)] [(.int p1)])) (fun t k => XS.iloadN X0.here hx rfl (hb hby d11_5) rfl k) ?_
    refine own_by (T' := s₁) (f' := (mkF m 10 #[.val (.int p1), .val (.int p2)] [(.int p1)])) (fun t k => XS.goto X0.here hx rfl (pc0 := 6) (pc' := 10) rfl (hb hby d11_6) (by decide) (by decide) k) ?_
    refine own_retI X0 hx hret hlk (hb hby d11_10) (by decide) (by decide) ?_
    try rw [e0]
    exact ⟨by rw [if_neg hc2_1], rfl, rfl⟩
theorem ef_rmDI (m : MethodId) (x0 : Int32) : entryFrame m #[(.int x0)] 1 = mkF m 0 #[.val (.int x0)] [] := by first | (simp [entryFrame, mkF, argsToLocals, Value.category]; done) | rfl
set_option maxRecDepth 65536 in
set_option maxHeartbeats 40000000 in
theorem rmDI (l : Launch) (Z : State) (a0 : Array Value) (hw : ∀ d ∈ tables_1, d.before a0 Z = true) (ws : List Jvm.Cond) (c0 : Int32) (h0 : Heap)  :
    own_Ct l Z (⟨"com/example/tally_of_atoms/tallyofatoms/Numeral", "isDigit", "(C)Z"⟩ : MethodName) prog_102_method_26_code 1 (some .boolean) ws ({ frames := 0, cells := 0, slots := 0, locals := 0 } : Room) #[(.int c0)] h0 (fun v h L => v = some (.int (own_dig c0)) ∧ L = [] ∧ h = h0) := by
  refine own_of (plainFor_of_name pn_com_example_tally_of_atoms_tallyofatoms_Numeral) ?_
  intro p e s m below meth c s₁ hx hby hml hown hnm hret hlk hZ X0 e0
  rw [ef_rmDI]
  refine own_by (T' := s₁) (f' := (mkF m 1 #[.val (.int c0)] [(.int c0)])) (fun t k => XS.iloadN X0.here hx rfl (hb hby d6_0) rfl k) ?_
  refine own_by (T' := s₁) (f' := (mkF m 3 #[.val (.int c0)] [(.int (48 : Int32)), (.int c0)])) (fun t k => XS.bipush X0.here hx rfl (hb hby d6_1) k) ?_
  have mg3 : ∀ t, Steps p.tables e below (s₁.setTop (mkF m 17 #[.val (.int c0)] [(.int (if c0 < (48 : Int32) then (0 : Int32) else (if (57 : Int32) < c0 then (0 : Int32) else (1 : Int32))))])) t → Steps p.tables e below (s₁.setTop (mkF m 3 #[.val (.int c0)] [(.int (48 : Int32)), (.int c0)])) t := by
    intro t k0
    by_cases hm1 : c0 < (48 : Int32)
    · skip
      refine XS.icmpYes X0.here hx rfl (pc0 := 3) (pc' := 16) rfl (hb hby d6_3) rfl (tlt hm1).1 (by decide) (by decide) ?_
      show Steps p.tables e below (s₁.setTop (mkF m 16 #[.val (.int c0)] [])) _
      refine XS.iconst X0.here hx rfl (hb hby d6_16) ?_
      show Steps p.tables e below (s₁.setTop (mkF m 17 #[.val (.int c0)] [(.int (0 : Int32))])) _
      try simp only [if_pos hm1] at k0
      exact k0
    · skip
      refine XS.icmpNo X0.here hx rfl (hb hby d6_3) rfl (flt hm1).1 ?_
      show Steps p.tables e below (s₁.setTop (mkF m 6 #[.val (.int c0)] [])) _
      refine XS.iloadN X0.here hx rfl (hb hby d6_6) rfl ?_
      show Steps p.tables e below (s₁.setTop (mkF m 7 #[.val (.int c0)] [(.int c0)])) _
      refine XS.bipush X0.here hx rfl (hb hby d6_7) ?_
      show Steps p.tables e below (s₁.setTop (mkF m 9 #[.val (.int c0)] [(.int (57 : Int32)), (.int c0)])) _
      by_cases hm2 : (57 : Int32) < c0
      · skip
        refine XS.icmpYes X0.here hx rfl (pc0 := 9) (pc' := 16) rfl (hb hby d6_9) rfl (tlt hm2).2.2.1 (by decide) (by decide) ?_
        show Steps p.tables e below (s₁.setTop (mkF m 16 #[.val (.int c0)] [])) _
        refine XS.iconst X0.here hx rfl (hb hby d6_16) ?_
        show Steps p.tables e below (s₁.setTop (mkF m 17 #[.val (.int c0)] [(.int (0 : Int32))])) _
        try simp only [if_neg hm1, if_pos hm2] at k0
        exact k0
      · skip
        refine XS.icmpNo X0.here hx rfl (hb hby d6_9) rfl (flt hm2).2.2.1 ?_
        show Steps p.tables e below (s₁.setTop (mkF m 12 #[.val (.int c0)] [])) _
        refine XS.iconst X0.here hx rfl (hb hby d6_12) ?_
        show Steps p.tables e below (s₁.setTop (mkF m 13 #[.val (.int c0)] [(.int (1 : Int32))])) _
        refine XS.goto X0.here hx rfl (pc0 := 13) (pc' := 17) rfl (hb hby d6_13) (by decide) (by decide) ?_
        show Steps p.tables e below (s₁.setTop (mkF m 17 #[.val (.int c0)] [(.int (1 : Int32))])) _
        try simp only [if_neg hm1, if_neg hm2] at k0
        exact k0
  refine own_by mg3 ?_
  rw [show (if c0 < (48 : Int32) then (0 : Int32) else (if (57 : Int32) < c0 then (0 : Int32) else (1 : Int32))) = own_dig c0 from rfl]
  show own_Go p e below _ s₁ (mkF m 17 #[.val (.int c0)] [(.int (own_dig c0))])
  refine own_retZ X0 hx hret hlk (hb hby d6_17) (own_dig01 c0) (by decide) (by decide) ?_
  try rw [e0]
  exact ⟨rfl, rfl, rfl⟩
theorem ef_rmDL (m : MethodId) (x0 : Int32) : entryFrame m #[(.int x0)] 1 = mkF m 0 #[.val (.int x0)] [] := by first | (simp [entryFrame, mkF, argsToLocals, Value.category]; done) | rfl
set_option maxRecDepth 65536 in
set_option maxHeartbeats 40000000 in
theorem rmDL (l : Launch) (Z : State) (a0 : Array Value) (hw : ∀ d ∈ tables_1, d.before a0 Z = true) (ws : List Jvm.Cond) (c0 : Int32) (h0 : Heap)  :
    own_Ct l Z (⟨"com/example/tally_of_atoms/tallyofatoms/NumeralFits128BitsPinLaw", "isDigit", "(C)Z"⟩ : MethodName) method_5_code 1 (some .boolean) ws ({ frames := 0, cells := 0, slots := 0, locals := 0 } : Room) #[(.int c0)] h0 (fun v h L => v = some (.int (own_dig c0)) ∧ L = [] ∧ h = h0) := by
  refine own_of (plainFor_of_name pn_com_example_tally_of_atoms_tallyofatoms_NumeralFits128BitsPinLaw) ?_
  intro p e s m below meth c s₁ hx hby hml hown hnm hret hlk hZ X0 e0
  rw [ef_rmDL]
  refine own_by (T' := s₁) (f' := (mkF m 1 #[.val (.int c0)] [(.int c0)])) (fun t k => XS.iloadN X0.here hx rfl (hb hby d9_0) rfl k) ?_
  refine own_by (T' := s₁) (f' := (mkF m 3 #[.val (.int c0)] [(.int (48 : Int32)), (.int c0)])) (fun t k => XS.bipush X0.here hx rfl (hb hby d9_1) k) ?_
  have mg3 : ∀ t, Steps p.tables e below (s₁.setTop (mkF m 17 #[.val (.int c0)] [(.int (if c0 < (48 : Int32) then (0 : Int32) else (if (57 : Int32) < c0 then (0 : Int32) else (1 : Int32))))])) t → Steps p.tables e below (s₁.setTop (mkF m 3 #[.val (.int c0)] [(.int (48 : Int32)), (.int c0)])) t := by
    intro t k0
    by_cases hm1 : c0 < (48 : Int32)
    · skip
      refine XS.icmpYes X0.here hx rfl (pc0 := 3) (pc' := 16) rfl (hb hby d9_3) rfl (tlt hm1).1 (by decide) (by decide) ?_
      show Steps p.tables e below (s₁.setTop (mkF m 16 #[.val (.int c0)] [])) _
      refine XS.iconst X0.here hx rfl (hb hby d9_16) ?_
      show Steps p.tables e below (s₁.setTop (mkF m 17 #[.val (.int c0)] [(.int (0 : Int32))])) _
      try simp only [if_pos hm1] at k0
      exact k0
    · skip
      refine XS.icmpNo X0.here hx rfl (hb hby d9_3) rfl (flt hm1).1 ?_
      show Steps p.tables e below (s₁.setTop (mkF m 6 #[.val (.int c0)] [])) _
      refine XS.iloadN X0.here hx rfl (hb hby d9_6) rfl ?_
      show Steps p.tables e below (s₁.setTop (mkF m 7 #[.val (.int c0)] [(.int c0)])) _
      refine XS.bipush X0.here hx rfl (hb hby d9_7) ?_
      show Steps p.tables e below (s₁.setTop (mkF m 9 #[.val (.int c0)] [(.int (57 : Int32)), (.int c0)])) _
      by_cases hm2 : (57 : Int32) < c0
      · skip
        refine XS.icmpYes X0.here hx rfl (pc0 := 9) (pc' := 16) rfl (hb hby d9_9) rfl (tlt hm2).2.2.1 (by decide) (by decide) ?_
        show Steps p.tables e below (s₁.setTop (mkF m 16 #[.val (.int c0)] [])) _
        refine XS.iconst X0.here hx rfl (hb hby d9_16) ?_
        show Steps p.tables e below (s₁.setTop (mkF m 17 #[.val (.int c0)] [(.int (0 : Int32))])) _
        try simp only [if_neg hm1, if_pos hm2] at k0
        exact k0
      · skip
        refine XS.icmpNo X0.here hx rfl (hb hby d9_9) rfl (flt hm2).2.2.1 ?_
        show Steps p.tables e below (s₁.setTop (mkF m 12 #[.val (.int c0)] [])) _
        refine XS.iconst X0.here hx rfl (hb hby d9_12) ?_
        show Steps p.tables e below (s₁.setTop (mkF m 13 #[.val (.int c0)] [(.int (1 : Int32))])) _
        refine XS.goto X0.here hx rfl (pc0 := 13) (pc' := 17) rfl (hb hby d9_13) (by decide) (by decide) ?_
        show Steps p.tables e below (s₁.setTop (mkF m 17 #[.val (.int c0)] [(.int (1 : Int32))])) _
        try simp only [if_neg hm1, if_neg hm2] at k0
        exact k0
  refine own_by mg3 ?_
  rw [show (if c0 < (48 : Int32) then (0 : Int32) else (if (57 : Int32) < c0 then (0 : Int32) else (1 : Int32))) = own_dig c0 from rfl]
  show own_Go p e below _ s₁ (mkF m 17 #[.val (.int c0)] [(.int (own_dig c0))])
  refine own_retZ X0 hx hret hlk (hb hby d9_17) (own_dig01 c0) (by decide) (by decide) ?_
  try rw [e0]
  exact ⟨rfl, rfl, rfl⟩
theorem ef_rmNZ (m : MethodId) (x0 : Int32) : entryFrame m #[(.int x0)] 1 = mkF m 0 #[.val (.int x0)] [] := by first | (simp [entryFrame, mkF, argsToLocals, Value.category]; done) | rfl
set_option maxRecDepth 65536 in
set_option maxHeartbeats 40000000 in
theorem rmNZ (l : Launch) (Z : State) (a0 : Array Value) (hw : ∀ d ∈ tables_1, d.before a0 Z = true) (ws : List Jvm.Cond) (c0 : Int32) (h0 : Heap)  :
    own_Ct l Z (⟨"com/example/tally_of_atoms/tallyofatoms/NumeralFits128BitsPinLaw", "nonzero", "(C)Z"⟩ : MethodName) method_6_code 1 (some .boolean) ws ({ frames := 0, cells := 0, slots := 0, locals := 0 } : Room) #[(.int c0)] h0 (fun v h L => v = some (.int (own_nzd c0)) ∧ L = [] ∧ h = h0) := by
  refine own_of (plainFor_of_name pn_com_example_tally_of_atoms_tallyofatoms_NumeralFits128BitsPinLaw) ?_
  intro p e s m below meth c s₁ hx hby hml hown hnm hret hlk hZ X0 e0
  rw [ef_rmNZ]
  refine own_by (T' := s₁) (f' := (mkF m 1 #[.val (.int c0)] [(.int c0)])) (fun t k => XS.iloadN X0.here hx rfl (hb hby d10_0) rfl k) ?_
  refine own_by (T' := s₁) (f' := (mkF m 3 #[.val (.int c0)] [(.int (49 : Int32)), (.int c0)])) (fun t k => XS.bipush X0.here hx rfl (hb hby d10_1) k) ?_
  have mg3 : ∀ t, Steps p.tables e below (s₁.setTop (mkF m 17 #[.val (.int c0)] [(.int (if c0 < (49 : Int32) then (0 : Int32) else (if (57 : Int32) < c0 then (0 : Int32) else (1 : Int32))))])) t → Steps p.tables e below (s₁.setTop (mkF m 3 #[.val (.int c0)] [(.int (49 : Int32)), (.int c0)])) t := by
    intro t k0
    by_cases hm1 : c0 < (49 : Int32)
    · skip
      refine XS.icmpYes X0.here hx rfl (pc0 := 3) (pc' := 16) rfl (hb hby d10_3) rfl (tlt hm1).1 (by decide) (by decide) ?_
      show Steps p.tables e below (s₁.setTop (mkF m 16 #[.val (.int c0)] [])) _
      refine XS.iconst X0.here hx rfl (hb hby d10_16) ?_
      show Steps p.tables e below (s₁.setTop (mkF m 17 #[.val (.int c0)] [(.int (0 : Int32))])) _
      try simp only [if_pos hm1] at k0
      exact k0
    · skip
      refine XS.icmpNo X0.here hx rfl (hb hby d10_3) rfl (flt hm1).1 ?_
      show Steps p.tables e below (s₁.setTop (mkF m 6 #[.val (.int c0)] [])) _
      refine XS.iloadN X0.here hx rfl (hb hby d10_6) rfl ?_
      show Steps p.tables e below (s₁.setTop (mkF m 7 #[.val (.int c0)] [(.int c0)])) _
      refine XS.bipush X0.here hx rfl (hb hby d10_7) ?_
      show Steps p.tables e below (s₁.setTop (mkF m 9 #[.val (.int c0)] [(.int (57 : Int32)), (.int c0)])) _
      by_cases hm2 : (57 : Int32) < c0
      · skip
        refine XS.icmpYes X0.here hx rfl (pc0 := 9) (pc' := 16) rfl (hb hby d10_9) rfl (tlt hm2).2.2.1 (by decide) (by decide) ?_
        show Steps p.tables e below (s₁.setTop (mkF m 16 #[.val (.int c0)] [])) _
        refine XS.iconst X0.here hx rfl (hb hby d10_16) ?_
        show Steps p.tables e below (s₁.setTop (mkF m 17 #[.val (.int c0)] [(.int (0 : Int32))])) _
        try simp only [if_neg hm1, if_pos hm2] at k0
        exact k0
      · skip
        refine XS.icmpNo X0.here hx rfl (hb hby d10_9) rfl (flt hm2).2.2.1 ?_
        show Steps p.tables e below (s₁.setTop (mkF m 12 #[.val (.int c0)] [])) _
        refine XS.iconst X0.here hx rfl (hb hby d10_12) ?_
        show Steps p.tables e below (s₁.setTop (mkF m 13 #[.val (.int c0)] [(.int (1 : Int32))])) _
        refine XS.goto X0.here hx rfl (pc0 := 13) (pc' := 17) rfl (hb hby d10_13) (by decide) (by decide) ?_
        show Steps p.tables e below (s₁.setTop (mkF m 17 #[.val (.int c0)] [(.int (1 : Int32))])) _
        try simp only [if_neg hm1, if_neg hm2] at k0
        exact k0
  refine own_by mg3 ?_
  rw [show (if c0 < (49 : Int32) then (0 : Int32) else (if (57 : Int32) < c0 then (0 : Int32) else (1 : Int32))) = own_nzd c0 from rfl]
  show own_Go p e below _ s₁ (mkF m 17 #[.val (.int c0)] [(.int (own_nzd c0))])
  refine own_retZ X0 hx hret hlk (hb hby d10_17) (own_nzd01 c0) (by decide) (by decide) ?_
  try rw [e0]
  exact ⟨rfl, rfl, rfl⟩
theorem ef_rmPK (m : MethodId) (x0 : Int32) : entryFrame m #[(.int x0)] 3 = mkF m 0 #[.val (.int x0), .unset, .unset] [] := by first | (simp [entryFrame, mkF, argsToLocals, Value.category]; done) | rfl
set_option maxRecDepth 65536 in
set_option maxHeartbeats 40000000 in
theorem rmPK (l : Launch) (Z : State) (a0 : Array Value) (hw : ∀ d ∈ tables_1, d.before a0 Z = true) (ws : List Jvm.Cond) (p1 : Int32) (h0 : Heap)  :
    own_Ct l Z (⟨"com/example/tally_of_atoms/tallyofatoms/NumeralFits128BitsPinLaw", "pick", "(I)C"⟩ : MethodName) method_4_code 3 (some .char) ws ({ frames := 0, cells := 0, slots := 0, locals := 0 } : Room) #[(.int p1)] h0 (fun v h L => ∃ c : Int32, v = some (.int c) ∧ (0 ≤ c.toInt ∧ c.toInt < 65536) ∧ L = [] ∧ h = h0) := by
  refine own_of (plainFor_of_name pn_com_example_tally_of_atoms_tallyofatoms_NumeralFits128BitsPinLaw) ?_
  intro p e s m below meth c s₁ hx hby hml hown hnm hret hlk hZ X0 e0
  rw [ef_rmPK]
  refine own_by (T' := s₁) (f' := (mkF m 1 #[.val (.int p1), .unset, .unset] [(.int p1)])) (fun t k => XS.iloadN X0.here hx rfl (hb hby d1_0) rfl k) ?_
  refine own_by (T' := s₁) (f' := (mkF m 4 #[.val (.int p1), .unset, .unset] [(.int (511 : Int32)), (.int p1)])) (fun t k => XS.sipush X0.here hx rfl (hb hby d1_1) k) ?_
  refine own_by (T' := s₁) (f' := (mkF m 5 #[.val (.int p1), .unset, .unset] [(.int (p1 &&& (511 : Int32)))])) (fun t k => XS.iand X0.here hx rfl (hb hby d1_4) rfl k) ?_
  refine own_by (T' := s₁) (f' := (mkF m 6 #[.val (.int p1), .val (.int (p1 &&& (511 : Int32))), .unset] [])) (fun t k => XS.istoreN X0.here hx rfl (hb hby d1_5) rfl (l' := #[.val (.int p1), .val (.int (p1 &&& (511 : Int32))), .unset]) rfl k) ?_
  refine own_by (T' := s₁) (f' := (mkF m 7 #[.val (.int p1), .val (.int (p1 &&& (511 : Int32))), .unset] [(.int (p1 &&& (511 : Int32)))])) (fun t k => XS.iloadN X0.here hx rfl (hb hby d1_6) rfl k) ?_
  refine own_by (T' := s₁) (f' := (mkF m 10 #[.val (.int p1), .val (.int (p1 &&& (511 : Int32))), .unset] [(.int (256 : Int32)), (.int (p1 &&& (511 : Int32)))])) (fun t k => XS.sipush X0.here hx rfl (hb hby d1_7) k) ?_
  by_cases hc10_1 : (p1 &&& (511 : Int32)) < (256 : Int32)
  · have _ := X0
    refine own_by (T' := s₁) (f' := (mkF m 13 #[.val (.int p1), .val (.int (p1 &&& (511 : Int32))), .unset] [])) (fun t k => XS.icmpNo X0.here hx rfl (hb hby d1_10) rfl (tlt hc10_1).2.1 k) ?_
    refine own_by (T' := s₁) (f' := (mkF m 14 #[.val (.int p1), .val (.int (p1 &&& (511 : Int32))), .unset] [(.int (p1 &&& (511 : Int32)))])) (fun t k => XS.iloadN X0.here hx rfl (hb hby d1_13) rfl k) ?_
    refine own_by (T' := s₁) (f' := (mkF m 15 #[.val (.int p1), .val (.int (p1 &&& (511 : Int32))), .unset] [(.int ((p1 &&& (511 : Int32)).toUInt32.toUInt16.toUInt32.toInt32))])) (fun t k => XS.i2c X0.here hx rfl (hb hby d1_14) rfl k) ?_
    refine own_ret X0 hx hret hlk (hb hby d1_15) (own_narC (own_chr _).1 (own_chr _).2) (Or.inl ⟨rfl, Or.inr (Or.inr (Or.inr (Or.inl rfl))), _, rfl⟩) (by decide) (by decide) ?_
    try rw [e0]
    exact ⟨_, rfl, own_chr _, rfl, rfl⟩
  · have _ := X0
    refine own_by (T' := s₁) (f' := (mkF m 16 #[.val (.int p1), .val (.int (p1 &&& (511 : Int32))), .unset] [])) (fun t k => XS.icmpYes X0.here hx rfl (pc0 := 10) (pc' := 16) rfl (hb hby d1_10) rfl (flt hc10_1).2.1 (by decide) (by decide) k) ?_
    refine own_by (T' := s₁) (f' := (mkF m 17 #[.val (.int p1), .val (.int (p1 &&& (511 : Int32))), .unset] [(.int (p1 &&& (511 : Int32)))])) (fun t k => XS.iloadN X0.here hx rfl (hb hby d1_16) rfl k) ?_
    refine own_by (T' := s₁) (f' := (mkF m 18 #[.val (.int p1), .val (.int (p1 &&& (511 : Int32))), .unset] [(.int (3 : Int32)), (.int (p1 &&& (511 : Int32)))])) (fun t k => XS.iconst X0.here hx rfl (hb hby d1_17) k) ?_
    refine own_by (T' := s₁) (f' := (mkF m 19 #[.val (.int p1), .val (.int (p1 &&& (511 : Int32))), .unset] [(.int ((p1 &&& (511 : Int32)) &&& (3 : Int32)))])) (fun t k => XS.iand X0.here hx rfl (hb hby d1_18) rfl k) ?_
    refine own_by (T' := s₁) (f' := (mkF m 20 #[.val (.int p1), .val (.int (p1 &&& (511 : Int32))), .val (.int ((p1 &&& (511 : Int32)) &&& (3 : Int32)))] [])) (fun t k => XS.istoreN X0.here hx rfl (hb hby d1_19) rfl (l' := #[.val (.int p1), .val (.int (p1 &&& (511 : Int32))), .val (.int ((p1 &&& (511 : Int32)) &&& (3 : Int32)))]) rfl k) ?_
    refine own_by (T' := s₁) (f' := (mkF m 21 #[.val (.int p1), .val (.int (p1 &&& (511 : Int32))), .val (.int ((p1 &&& (511 : Int32)) &&& (3 : Int32)))] [(.int ((p1 &&& (511 : Int32)) &&& (3 : Int32)))])) (fun t k => XS.iloadN X0.here hx rfl (hb hby d1_20) rfl k) ?_
    by_cases hc21_2 : ((p1 &&& (511 : Int32)) &&& (3 : Int32)) = (0 : Int32)
    · have _ := X0
      refine own_by (T' := s₁) (f' := (mkF m 24 #[.val (.int p1), .val (.int (p1 &&& (511 : Int32))), .val (.int ((p1 &&& (511 : Int32)) &&& (3 : Int32)))] [])) (fun t k => XS.ifNo X0.here hx rfl (hb hby d1_21) rfl ((if0 _ _).trans (teq hc21_2).2) k) ?_
      refine own_by (T' := s₁) (f' := (mkF m 26 #[.val (.int p1), .val (.int (p1 &&& (511 : Int32))), .val (.int ((p1 &&& (511 : Int32)) &&& (3 : Int32)))] [(.int (46 : Int32))])) (fun t k => XS.bipush X0.here hx rfl (hb hby d1_24) k) ?_
      refine own_ret X0 hx hret hlk (hb hby d1_26) rfl (Or.inl ⟨rfl, Or.inr (Or.inr (Or.inr (Or.inl rfl))), _, rfl⟩) (by decide) (by decide) ?_
      try rw [e0]
      exact ⟨_, rfl, by decide, rfl, rfl⟩
    · have _ := X0
      refine own_by (T' := s₁) (f' := (mkF m 27 #[.val (.int p1), .val (.int (p1 &&& (511 : Int32))), .val (.int ((p1 &&& (511 : Int32)) &&& (3 : Int32)))] [])) (fun t k => XS.ifYes X0.here hx rfl (pc0 := 21) (pc' := 27) rfl (hb hby d1_21) rfl ((if0 _ _).trans (feq hc21_2).2) (by decide) (by decide) k) ?_
      refine own_by (T' := s₁) (f' := (mkF m 28 #[.val (.int p1), .val (.int (p1 &&& (511 : Int32))), .val (.int ((p1 &&& (511 : Int32)) &&& (3 : Int32)))] [(.int ((p1 &&& (511 : Int32)) &&& (3 : Int32)))])) (fun t k => XS.iloadN X0.here hx rfl (hb hby d1_27) rfl k) ?_
      refine own_by (T' := s₁) (f' := (mkF m 29 #[.val (.int p1), .val (.int (p1 &&& (511 : Int32))), .val (.int ((p1 &&& (511 : Int32)) &&& (3 : Int32)))] [(.int (1 : Int32)), (.int ((p1 &&& (511 : Int32)) &&& (3 : Int32)))])) (fun t k => XS.iconst X0.here hx rfl (hb hby d1_28) k) ?_
      by_cases hc29_3 : ((p1 &&& (511 : Int32)) &&& (3 : Int32)) = (1 : Int32)
      · have _ := X0
        refine own_by (T' := s₁) (f' := (mkF m 32 #[.val (.int p1), .val (.int (p1 &&& (511 : Int32))), .val (.int ((p1 &&& (511 : Int32)) &&& (3 : Int32)))] [])) (fun t k => XS.icmpNo X0.here hx rfl (hb hby d1_29) rfl (teq hc29_3).2 k) ?_
        refine own_by (T' := s₁) (f' := (mkF m 34 #[.val (.int p1), .val (.int (p1 &&& (511 : Int32))), .val (.int ((p1 &&& (511 : Int32)) &&& (3 : Int32)))] [(.int (101 : Int32))])) (fun t k => XS.bipush X0.here hx rfl (hb hby d1_32) k) ?_
        refine own_ret X0 hx hret hlk (hb hby d1_34) rfl (Or.inl ⟨rfl, Or.inr (Or.inr (Or.inr (Or.inl rfl))), _, rfl⟩) (by decide) (by decide) ?_
        try rw [e0]
        exact ⟨_, rfl, by decide, rfl, rfl⟩
      · have _ := X0
        refine own_by (T' := s₁) (f' := (mkF m 35 #[.val (.int p1), .val (.int (p1 &&& (511 : Int32))), .val (.int ((p1 &&& (511 : Int32)) &&& (3 : Int32)))] [])) (fun t k => XS.icmpYes X0.here hx rfl (pc0 := 29) (pc' := 35) rfl (hb hby d1_29) rfl (feq hc29_3).2 (by decide) (by decide) k) ?_
        refine own_by (T' := s₁) (f' := (mkF m 36 #[.val (.int p1), .val (.int (p1 &&& (511 : Int32))), .val (.int ((p1 &&& (511 : Int32)) &&& (3 : Int32)))] [(.int ((p1 &&& (511 : Int32)) &&& (3 : Int32)))])) (fun t k => XS.iloadN X0.here hx rfl (hb hby d1_35) rfl k) ?_
        refine own_by (T' := s₁) (f' := (mkF m 37 #[.val (.int p1), .val (.int (p1 &&& (511 : Int32))), .val (.int ((p1 &&& (511 : Int32)) &&& (3 : Int32)))] [(.int (2 : Int32)), (.int ((p1 &&& (511 : Int32)) &&& (3 : Int32)))])) (fun t k => XS.iconst X0.here hx rfl (hb hby d1_36) k) ?_
        by_cases hc37_4 : ((p1 &&& (511 : Int32)) &&& (3 : Int32)) = (2 : Int32)
        · have _ := X0
          refine own_by (T' := s₁) (f' := (mkF m 40 #[.val (.int p1), .val (.int (p1 &&& (511 : Int32))), .val (.int ((p1 &&& (511 : Int32)) &&& (3 : Int32)))] [])) (fun t k => XS.icmpNo X0.here hx rfl (hb hby d1_37) rfl (teq hc37_4).2 k) ?_
          refine own_by (T' := s₁) (f' := (mkF m 42 #[.val (.int p1), .val (.int (p1 &&& (511 : Int32))), .val (.int ((p1 &&& (511 : Int32)) &&& (3 : Int32)))] [(.int (69 : Int32))])) (fun t k => XS.bipush X0.here hx rfl (hb hby d1_40) k) ?_
          refine own_ret X0 hx hret hlk (hb hby d1_42) rfl (Or.inl ⟨rfl, Or.inr (Or.inr (Or.inr (Or.inl rfl))), _, rfl⟩) (by decide) (by decide) ?_
          try rw [e0]
          exact ⟨_, rfl, by decide, rfl, rfl⟩
        · have _ := X0
          refine own_by (T' := s₁) (f' := (mkF m 43 #[.val (.int p1), .val (.int (p1 &&& (511 : Int32))), .val (.int ((p1 &&& (511 : Int32)) &&& (3 : Int32)))] [])) (fun t k => XS.icmpYes X0.here hx rfl (pc0 := 37) (pc' := 43) rfl (hb hby d1_37) rfl (feq hc37_4).2 (by decide) (by decide) k) ?_
          refine own_by (T' := s₁) (f' := (mkF m 45 #[.val (.int p1), .val (.int (p1 &&& (511 : Int32))), .val (.int ((p1 &&& (511 : Int32)) &&& (3 : Int32)))] [(.int (48 : Int32))])) (fun t k => XS.bipush X0.here hx rfl (hb hby d1_43) k) ?_
          refine own_ret X0 hx hret hlk (hb hby d1_45) rfl (Or.inl ⟨rfl, Or.inr (Or.inr (Or.inr (Or.inl rfl))), _, rfl⟩) (by decide) (by decide) ?_
          try rw [e0]
          exact ⟨_, rfl, by decide, rfl, rfl⟩
theorem ef_rmMH (m : MethodId) (x0 : Int64) (x1 : Int64) : entryFrame m #[(.long x0), (.long x1)] 20 = mkF m 0 #[.val (.long x0), .second, .val (.long x1), .second, .unset, .unset, .unset, .unset, .unset, .unset, .unset, .unset, .unset, .unset, .unset, .unset, .unset, .unset, .unset, .unset] [] := by first | (simp [entryFrame, mkF, argsToLocals, Value.category]; done) | rfl
set_option maxRecDepth 65536 in
set_option maxHeartbeats 40000000 in
theorem rmMH (l : Launch) (Z : State) (a0 : Array Value) (hw : ∀ d ∈ tables_1, d.before a0 Z = true) (ws : List Jvm.Cond) (p1 p2 : Int64) (h0 : Heap)  :
    own_Ct l Z (⟨"java/lang/Math", "multiplyHigh", "(JJ)J"⟩ : MethodName) jdk_29_method_45_code 20 (some .long) ws ({ frames := 0, cells := 0, slots := 0, locals := 0 } : Room) #[(.long p1), (.long p2)] h0 (fun v h L => ∃ r : Int64, v = some (.long r) ∧ L = [] ∧ h = h0) := by
  refine own_of pf_java_lang_MathmultiplyHigh_JJ_J ?_
  intro p e s m below meth c s₁ hx hby hml hown hnm hret hlk hZ X0 e0
  rw [ef_rmMH]
  refine own_by (T' := s₁) (f' := (mkF m 1 #[.val (.long p1), .second, .val (.long p2), .second, .unset, .unset, .unset, .unset, .unset, .unset, .unset, .unset, .unset, .unset, .unset, .unset, .unset, .unset, .unset, .unset] [(.long p1)])) (fun t k => XS.lloadN X0.here hx rfl (hb hby d13_0) rfl k) ?_
  refine own_by (T' := s₁) (f' := (mkF m 3 #[.val (.long p1), .second, .val (.long p2), .second, .unset, .unset, .unset, .unset, .unset, .unset, .unset, .unset, .unset, .unset, .unset, .unset, .unset, .unset, .unset, .unset] [(.int (32 : Int32)), (.long p1)])) (fun t k => XS.bipush X0.here hx rfl (hb hby d13_1) k) ?_
  refine own_by (T' := s₁) (f' := (mkF m 4 #[.val (.long p1), .second, .val (.long p2), .second, .unset, .unset, .unset, .unset, .unset, .unset, .unset, .unset, .unset, .unset, .unset, .unset, .unset, .unset, .unset, .unset] [(.long (p1 >>> ((32 : Int32) &&& 0x3f).toInt64))])) (fun t k => XS.lshr X0.here hx rfl (hb hby d13_3) rfl k) ?_
  obtain ⟨x1, hx1⟩ : ∃ z : Int64, z = (p1 >>> ((32 : Int32) &&& 0x3f).toInt64) := ⟨_, rfl⟩
  rw [← hx1]
  show own_Go p e below _ s₁ (mkF m 4 #[.val (.long p1), .second, .val (.long p2), .second, .unset, .unset, .unset, .unset, .unset, .unset, .unset, .unset, .unset, .unset, .unset, .unset, .unset, .unset, .unset, .unset] [(.long x1)])
  refine own_by (T' := s₁) (f' := (mkF m 6 #[.val (.long p1), .second, .val (.long p2), .second, .val (.long x1), .second, .unset, .unset, .unset, .unset, .unset, .unset, .unset, .unset, .unset, .unset, .unset, .unset, .unset, .unset] [])) (fun t k => XS.lstore X0.here hx rfl (hb hby d13_4) rfl (l' := #[.val (.long p1), .second, .val (.long p2), .second, .val (.long x1), .second, .unset, .unset, .unset, .unset, .unset, .unset, .unset, .unset, .unset, .unset, .unset, .unset, .unset, .unset]) rfl k) ?_
  refine own_by (T' := s₁) (f' := (mkF m 7 #[.val (.long p1), .second, .val (.long p2), .second, .val (.long x1), .second, .unset, .unset, .unset, .unset, .unset, .unset, .unset, .unset, .unset, .unset, .unset, .unset, .unset, .unset] [(.long p1)])) (fun t k => XS.lloadN X0.here hx rfl (hb hby d13_6) rfl k) ?_
  refine own_by (T' := s₁) (f' := (mkF m 10 #[.val (.long p1), .second, .val (.long p2), .second, .val (.long x1), .second, .unset, .unset, .unset, .unset, .unset, .unset, .unset, .unset, .unset, .unset, .unset, .unset, .unset, .unset] [(.long (4294967295 : Int64)), (.long p1)])) (fun t k => X0.ldc2Long hx hown (mvT hZ (own_w hw 83 rfl)) (g := (mkF m 7 #[.val (.long p1), .second, .val (.long p2), .second, .val (.long x1), .second, .unset, .unset, .unset, .unset, .unset, .unset, .unset, .unset, .unset, .unset, .unset, .unset, .unset, .unset] [(.long p1)])) rfl (hb hby d13_7) _ k) ?_
  refine own_by (T' := s₁) (f' := (mkF m 11 #[.val (.long p1), .second, .val (.long p2), .second, .val (.long x1), .second, .unset, .unset, .unset, .unset, .unset, .unset, .unset, .unset, .unset, .unset, .unset, .unset, .unset, .unset] [(.long (p1 &&& (4294967295 : Int64)))])) (fun t k => XS.land X0.here hx rfl (hb hby d13_10) rfl k) ?_
  obtain ⟨x0, hx0⟩ : ∃ z : Int64, z = (p1 &&& (4294967295 : Int64)) := ⟨_, rfl⟩
  rw [← hx0]
  show own_Go p e below _ s₁ (mkF m 11 #[.val (.long p1), .second, .val (.long p2), .second, .val (.long x1), .second, .unset, .unset, .unset, .unset, .unset, .unset, .unset, .unset, .unset, .unset, .unset, .unset, .unset, .unset] [(.long x0)])
  refine own_by (T' := s₁) (f' := (mkF m 13 #[.val (.long p1), .second, .val (.long p2), .second, .val (.long x1), .second, .val (.long x0), .second, .unset, .unset, .unset, .unset, .unset, .unset, .unset, .unset, .unset, .unset, .unset, .unset] [])) (fun t k => XS.lstore X0.here hx rfl (hb hby d13_11) rfl (l' := #[.val (.long p1), .second, .val (.long p2), .second, .val (.long x1), .second, .val (.long x0), .second, .unset, .unset, .unset, .unset, .unset, .unset, .unset, .unset, .unset, .unset, .unset, .unset]) rfl k) ?_
  refine own_by (T' := s₁) (f' := (mkF m 14 #[.val (.long p1), .second, .val (.long p2), .second, .val (.long x1), .second, .val (.long x0), .second, .unset, .unset, .unset, .unset, .unset, .unset, .unset, .unset, .unset, .unset, .unset, .unset] [(.long p2)])) (fun t k => XS.lloadN X0.here hx rfl (hb hby d13_13) rfl k) ?_
  refine own_by (T' := s₁) (f' := (mkF m 16 #[.val (.long p1), .second, .val (.long p2), .second, .val (.long x1), .second, .val (.long x0), .second, .unset, .unset, .unset, .unset, .unset, .unset, .unset, .unset, .unset, .unset, .unset, .unset] [(.int (32 : Int32)), (.long p2)])) (fun t k => XS.bipush X0.here hx rfl (hb hby d13_14) k) ?_
  refine own_by (T' := s₁) (f' := (mkF m 17 #[.val (.long p1), .second, .val (.long p2), .second, .val (.long x1), .second, .val (.long x0), .second, .unset, .unset, .unset, .unset, .unset, .unset, .unset, .unset, .unset, .unset, .unset, .unset] [(.long (p2 >>> ((32 : Int32) &&& 0x3f).toInt64))])) (fun t k => XS.lshr X0.here hx rfl (hb hby d13_16) rfl k) ?_
  obtain ⟨y1, hy1⟩ : ∃ z : Int64, z = (p2 >>> ((32 : Int32) &&& 0x3f).toInt64) := ⟨_, rfl⟩
  rw [← hy1]
  show own_Go p e below _ s₁ (mkF m 17 #[.val (.long p1), .second, .val (.long p2), .second, .val (.long x1), .second, .val (.long x0), .second, .unset, .unset, .unset, .unset, .unset, .unset, .unset, .unset, .unset, .unset, .unset, .unset] [(.long y1)])
  refine own_by (T' := s₁) (f' := (mkF m 19 #[.val (.long p1), .second, .val (.long p2), .second, .val (.long x1), .second, .val (.long x0), .second, .val (.long y1), .second, .unset, .unset, .unset, .unset, .unset, .unset, .unset, .unset, .unset, .unset] [])) (fun t k => XS.lstore X0.here hx rfl (hb hby d13_17) rfl (l' := #[.val (.long p1), .second, .val (.long p2), .second, .val (.long x1), .second, .val (.long x0), .second, .val (.long y1), .second, .unset, .unset, .unset, .unset, .unset, .unset, .unset, .unset, .unset, .unset]) rfl k) ?_
  refine own_by (T' := s₁) (f' := (mkF m 20 #[.val (.long p1), .second, .val (.long p2), .second, .val (.long x1), .second, .val (.long x0), .second, .val (.long y1), .second, .unset, .unset, .unset, .unset, .unset, .unset, .unset, .unset, .unset, .unset] [(.long p2)])) (fun t k => XS.lloadN X0.here hx rfl (hb hby d13_19) rfl k) ?_
  refine own_by (T' := s₁) (f' := (mkF m 23 #[.val (.long p1), .second, .val (.long p2), .second, .val (.long x1), .second, .val (.long x0), .second, .val (.long y1), .second, .unset, .unset, .unset, .unset, .unset, .unset, .unset, .unset, .unset, .unset] [(.long (4294967295 : Int64)), (.long p2)])) (fun t k => X0.ldc2Long hx hown (mvT hZ (own_w hw 83 rfl)) (g := (mkF m 20 #[.val (.long p1), .second, .val (.long p2), .second, .val (.long x1), .second, .val (.long x0), .second, .val (.long y1), .second, .unset, .unset, .unset, .unset, .unset, .unset, .unset, .unset, .unset, .unset] [(.long p2)])) rfl (hb hby d13_20) _ k) ?_
  refine own_by (T' := s₁) (f' := (mkF m 24 #[.val (.long p1), .second, .val (.long p2), .second, .val (.long x1), .second, .val (.long x0), .second, .val (.long y1), .second, .unset, .unset, .unset, .unset, .unset, .unset, .unset, .unset, .unset, .unset] [(.long (p2 &&& (4294967295 : Int64)))])) (fun t k => XS.land X0.here hx rfl (hb hby d13_23) rfl k) ?_
  obtain ⟨y0, hy0⟩ : ∃ z : Int64, z = (p2 &&& (4294967295 : Int64)) := ⟨_, rfl⟩
  rw [← hy0]
  show own_Go p e below _ s₁ (mkF m 24 #[.val (.long p1), .second, .val (.long p2), .second, .val (.long x1), .second, .val (.long x0), .second, .val (.long y1), .second, .unset, .unset, .unset, .unset, .unset, .unset, .unset, .unset, .unset, .unset] [(.long y0)])
  refine own_by (T' := s₁) (f' := (mkF m 26 #[.val (.long p1), .second, .val (.long p2), .second, .val (.long x1), .second, .val (.long x0), .second, .val (.long y1), .second, .val (.long y0), .second, .unset, .unset, .unset, .unset, .unset, .unset, .unset, .unset] [])) (fun t k => XS.lstore X0.here hx rfl (hb hby d13_24) rfl (l' := #[.val (.long p1), .second, .val (.long p2), .second, .val (.long x1), .second, .val (.long x0), .second, .val (.long y1), .second, .val (.long y0), .second, .unset, .unset, .unset, .unset, .unset, .unset, .unset, .unset]) rfl k) ?_
  refine own_by (T' := s₁) (f' := (mkF m 28 #[.val (.long p1), .second, .val (.long p2), .second, .val (.long x1), .second, .val (.long x0), .second, .val (.long y1), .second, .val (.long y0), .second, .unset, .unset, .unset, .unset, .unset, .unset, .unset, .unset] [(.long x0)])) (fun t k => XS.lload X0.here hx rfl (hb hby d13_26) rfl k) ?_
  refine own_by (T' := s₁) (f' := (mkF m 30 #[.val (.long p1), .second, .val (.long p2), .second, .val (.long x1), .second, .val (.long x0), .second, .val (.long y1), .second, .val (.long y0), .second, .unset, .unset, .unset, .unset, .unset, .unset, .unset, .unset] [(.long y0), (.long x0)])) (fun t k => XS.lload X0.here hx rfl (hb hby d13_28) rfl k) ?_
  refine own_by (T' := s₁) (f' := (mkF m 31 #[.val (.long p1), .second, .val (.long p2), .second, .val (.long x1), .second, .val (.long x0), .second, .val (.long y1), .second, .val (.long y0), .second, .unset, .unset, .unset, .unset, .unset, .unset, .unset, .unset] [(.long (x0 * y0))])) (fun t k => XS.lmul X0.here hx rfl (hb hby d13_30) rfl k) ?_
  obtain ⟨z0, hz0⟩ : ∃ z : Int64, z = (x0 * y0) := ⟨_, rfl⟩
  rw [← hz0]
  show own_Go p e below _ s₁ (mkF m 31 #[.val (.long p1), .second, .val (.long p2), .second, .val (.long x1), .second, .val (.long x0), .second, .val (.long y1), .second, .val (.long y0), .second, .unset, .unset, .unset, .unset, .unset, .unset, .unset, .unset] [(.long z0)])
  refine own_by (T' := s₁) (f' := (mkF m 33 #[.val (.long p1), .second, .val (.long p2), .second, .val (.long x1), .second, .val (.long x0), .second, .val (.long y1), .second, .val (.long y0), .second, .val (.long z0), .second, .unset, .unset, .unset, .unset, .unset, .unset] [])) (fun t k => XS.lstore X0.here hx rfl (hb hby d13_31) rfl (l' := #[.val (.long p1), .second, .val (.long p2), .second, .val (.long x1), .second, .val (.long x0), .second, .val (.long y1), .second, .val (.long y0), .second, .val (.long z0), .second, .unset, .unset, .unset, .unset, .unset, .unset]) rfl k) ?_
  refine own_by (T' := s₁) (f' := (mkF m 35 #[.val (.long p1), .second, .val (.long p2), .second, .val (.long x1), .second, .val (.long x0), .second, .val (.long y1), .second, .val (.long y0), .second, .val (.long z0), .second, .unset, .unset, .unset, .unset, .unset, .unset] [(.long x1)])) (fun t k => XS.lload X0.here hx rfl (hb hby d13_33) rfl k) ?_
  refine own_by (T' := s₁) (f' := (mkF m 37 #[.val (.long p1), .second, .val (.long p2), .second, .val (.long x1), .second, .val (.long x0), .second, .val (.long y1), .second, .val (.long y0), .second, .val (.long z0), .second, .unset, .unset, .unset, .unset, .unset, .unset] [(.long y0), (.long x1)])) (fun t k => XS.lload X0.here hx rfl (hb hby d13_35) rfl k) ?_
  refine own_by (T' := s₁) (f' := (mkF m 38 #[.val (.long p1), .second, .val (.long p2), .second, .val (.long x1), .second, .val (.long x0), .second, .val (.long y1), .second, .val (.long y0), .second, .val (.long z0), .second, .unset, .unset, .unset, .unset, .unset, .unset] [(.long (x1 * y0))])) (fun t k => XS.lmul X0.here hx rfl (hb hby d13_37) rfl k) ?_
  refine own_by (T' := s₁) (f' := (mkF m 40 #[.val (.long p1), .second, .val (.long p2), .second, .val (.long x1), .second, .val (.long x0), .second, .val (.long y1), .second, .val (.long y0), .second, .val (.long z0), .second, .unset, .unset, .unset, .unset, .unset, .unset] [(.long z0), (.long (x1 * y0))])) (fun t k => XS.lload X0.here hx rfl (hb hby d13_38) rfl k) ?_
  refine own_by (T' := s₁) (f' := (mkF m 42 #[.val (.long p1), .second, .val (.long p2), .second, .val (.long x1), .second, .val (.long x0), .second, .val (.long y1), .second, .val (.long y0), .second, .val (.long z0), .second, .unset, .unset, .unset, .unset, .unset, .unset] [(.int (32 : Int32)), (.long z0), (.long (x1 * y0))])) (fun t k => XS.bipush X0.here hx rfl (hb hby d13_40) k) ?_
  refine own_by (T' := s₁) (f' := (mkF m 43 #[.val (.long p1), .second, .val (.long p2), .second, .val (.long x1), .second, .val (.long x0), .second, .val (.long y1), .second, .val (.long y0), .second, .val (.long z0), .second, .unset, .unset, .unset, .unset, .unset, .unset] [(.long ((z0.toUInt64 >>> ((32 : Int32) &&& 0x3f).toInt64.toUInt64).toInt64)), (.long (x1 * y0))])) (fun t k => XS.lushr X0.here hx rfl (hb hby d13_42) rfl k) ?_
  refine own_by (T' := s₁) (f' := (mkF m 44 #[.val (.long p1), .second, .val (.long p2), .second, .val (.long x1), .second, .val (.long x0), .second, .val (.long y1), .second, .val (.long y0), .second, .val (.long z0), .second, .unset, .unset, .unset, .unset, .unset, .unset] [(.long ((x1 * y0) + ((z0.toUInt64 >>> ((32 : Int32) &&& 0x3f).toInt64.toUInt64).toInt64)))])) (fun t k => XS.ladd X0.here hx rfl (hb hby d13_43) rfl k) ?_
  obtain ⟨tt, htt⟩ : ∃ z : Int64, z = ((x1 * y0) + ((z0.toUInt64 >>> ((32 : Int32) &&& 0x3f).toInt64.toUInt64).toInt64)) := ⟨_, rfl⟩
  rw [← htt]
  show own_Go p e below _ s₁ (mkF m 44 #[.val (.long p1), .second, .val (.long p2), .second, .val (.long x1), .second, .val (.long x0), .second, .val (.long y1), .second, .val (.long y0), .second, .val (.long z0), .second, .unset, .unset, .unset, .unset, .unset, .unset] [(.long tt)])
  refine own_by (T' := s₁) (f' := (mkF m 46 #[.val (.long p1), .second, .val (.long p2), .second, .val (.long x1), .second, .val (.long x0), .second, .val (.long y1), .second, .val (.long y0), .second, .val (.long z0), .second, .val (.long tt), .second, .unset, .unset, .unset, .unset] [])) (fun t k => XS.lstore X0.here hx rfl (hb hby d13_44) rfl (l' := #[.val (.long p1), .second, .val (.long p2), .second, .val (.long x1), .second, .val (.long x0), .second, .val (.long y1), .second, .val (.long y0), .second, .val (.long z0), .second, .val (.long tt), .second, .unset, .unset, .unset, .unset]) rfl k) ?_
  refine own_by (T' := s₁) (f' := (mkF m 48 #[.val (.long p1), .second, .val (.long p2), .second, .val (.long x1), .second, .val (.long x0), .second, .val (.long y1), .second, .val (.long y0), .second, .val (.long z0), .second, .val (.long tt), .second, .unset, .unset, .unset, .unset] [(.long tt)])) (fun t k => XS.lload X0.here hx rfl (hb hby d13_46) rfl k) ?_
  refine own_by (T' := s₁) (f' := (mkF m 51 #[.val (.long p1), .second, .val (.long p2), .second, .val (.long x1), .second, .val (.long x0), .second, .val (.long y1), .second, .val (.long y0), .second, .val (.long z0), .second, .val (.long tt), .second, .unset, .unset, .unset, .unset] [(.long (4294967295 : Int64)), (.long tt)])) (fun t k => X0.ldc2Long hx hown (mvT hZ (own_w hw 83 rfl)) (g := (mkF m 48 #[.val (.long p1), .second, .val (.long p2), .second, .val (.long x1), .second, .val (.long x0), .second, .val (.long y1), .second, .val (.long y0), .second, .val (.long z0), .second, .val (.long tt), .second, .unset, .unset, .unset, .unset] [(.long tt)])) rfl (hb hby d13_48) _ k) ?_
  refine own_by (T' := s₁) (f' := (mkF m 52 #[.val (.long p1), .second, .val (.long p2), .second, .val (.long x1), .second, .val (.long x0), .second, .val (.long y1), .second, .val (.long y0), .second, .val (.long z0), .second, .val (.long tt), .second, .unset, .unset, .unset, .unset] [(.long (tt &&& (4294967295 : Int64)))])) (fun t k => XS.land X0.here hx rfl (hb hby d13_51) rfl k) ?_
  obtain ⟨z1, hz1⟩ : ∃ z : Int64, z = (tt &&& (4294967295 : Int64)) := ⟨_, rfl⟩
  rw [← hz1]
  show own_Go p e below _ s₁ (mkF m 52 #[.val (.long p1), .second, .val (.long p2), .second, .val (.long x1), .second, .val (.long x0), .second, .val (.long y1), .second, .val (.long y0), .second, .val (.long z0), .second, .val (.long tt), .second, .unset, .unset, .unset, .unset] [(.long z1)])
  refine own_by (T' := s₁) (f' := (mkF m 54 #[.val (.long p1), .second, .val (.long p2), .second, .val (.long x1), .second, .val (.long x0), .second, .val (.long y1), .second, .val (.long y0), .second, .val (.long z0), .second, .val (.long tt), .second, .val (.long z1), .second, .unset, .unset] [])) (fun t k => XS.lstore X0.here hx rfl (hb hby d13_52) rfl (l' := #[.val (.long p1), .second, .val (.long p2), .second, .val (.long x1), .second, .val (.long x0), .second, .val (.long y1), .second, .val (.long y0), .second, .val (.long z0), .second, .val (.long tt), .second, .val (.long z1), .second, .unset, .unset]) rfl k) ?_
  refine own_by (T' := s₁) (f' := (mkF m 56 #[.val (.long p1), .second, .val (.long p2), .second, .val (.long x1), .second, .val (.long x0), .second, .val (.long y1), .second, .val (.long y0), .second, .val (.long z0), .second, .val (.long tt), .second, .val (.long z1), .second, .unset, .unset] [(.long tt)])) (fun t k => XS.lload X0.here hx rfl (hb hby d13_54) rfl k) ?_
  refine own_by (T' := s₁) (f' := (mkF m 58 #[.val (.long p1), .second, .val (.long p2), .second, .val (.long x1), .second, .val (.long x0), .second, .val (.long y1), .second, .val (.long y0), .second, .val (.long z0), .second, .val (.long tt), .second, .val (.long z1), .second, .unset, .unset] [(.int (32 : Int32)), (.long tt)])) (fun t k => XS.bipush X0.here hx rfl (hb hby d13_56) k) ?_
  refine own_by (T' := s₁) (f' := (mkF m 59 #[.val (.long p1), .second, .val (.long p2), .second, .val (.long x1), .second, .val (.long x0), .second, .val (.long y1), .second, .val (.long y0), .second, .val (.long z0), .second, .val (.long tt), .second, .val (.long z1), .second, .unset, .unset] [(.long (tt >>> ((32 : Int32) &&& 0x3f).toInt64))])) (fun t k => XS.lshr X0.here hx rfl (hb hby d13_58) rfl k) ?_
  obtain ⟨z2, hz2⟩ : ∃ z : Int64, z = (tt >>> ((32 : Int32) &&& 0x3f).toInt64) := ⟨_, rfl⟩
  rw [← hz2]
  show own_Go p e below _ s₁ (mkF m 59 #[.val (.long p1), .second, .val (.long p2), .second, .val (.long x1), .second, .val (.long x0), .second, .val (.long y1), .second, .val (.long y0), .second, .val (.long z0), .second, .val (.long tt), .second, .val (.long z1), .second, .unset, .unset] [(.long z2)])
  refine own_by (T' := s₁) (f' := (mkF m 61 #[.val (.long p1), .second, .val (.long p2), .second, .val (.long x1), .second, .val (.long x0), .second, .val (.long y1), .second, .val (.long y0), .second, .val (.long z0), .second, .val (.long tt), .second, .val (.long z1), .second, .val (.long z2), .second] [])) (fun t k => XS.lstore X0.here hx rfl (hb hby d13_59) rfl (l' := #[.val (.long p1), .second, .val (.long p2), .second, .val (.long x1), .second, .val (.long x0), .second, .val (.long y1), .second, .val (.long y0), .second, .val (.long z0), .second, .val (.long tt), .second, .val (.long z1), .second, .val (.long z2), .second]) rfl k) ?_
  refine own_by (T' := s₁) (f' := (mkF m 63 #[.val (.long p1), .second, .val (.long p2), .second, .val (.long x1), .second, .val (.long x0), .second, .val (.long y1), .second, .val (.long y0), .second, .val (.long z0), .second, .val (.long tt), .second, .val (.long z1), .second, .val (.long z2), .second] [(.long z1)])) (fun t k => XS.lload X0.here hx rfl (hb hby d13_61) rfl k) ?_
  refine own_by (T' := s₁) (f' := (mkF m 65 #[.val (.long p1), .second, .val (.long p2), .second, .val (.long x1), .second, .val (.long x0), .second, .val (.long y1), .second, .val (.long y0), .second, .val (.long z0), .second, .val (.long tt), .second, .val (.long z1), .second, .val (.long z2), .second] [(.long x0), (.long z1)])) (fun t k => XS.lload X0.here hx rfl (hb hby d13_63) rfl k) ?_
  refine own_by (T' := s₁) (f' := (mkF m 67 #[.val (.long p1), .second, .val (.long p2), .second, .val (.long x1), .second, .val (.long x0), .second, .val (.long y1), .second, .val (.long y0), .second, .val (.long z0), .second, .val (.long tt), .second, .val (.long z1), .second, .val (.long z2), .second] [(.long y1), (.long x0), (.long z1)])) (fun t k => XS.lload X0.here hx rfl (hb hby d13_65) rfl k) ?_
  refine own_by (T' := s₁) (f' := (mkF m 68 #[.val (.long p1), .second, .val (.long p2), .second, .val (.long x1), .second, .val (.long x0), .second, .val (.long y1), .second, .val (.long y0), .second, .val (.long z0), .second, .val (.long tt), .second, .val (.long z1), .second, .val (.long z2), .second] [(.long (x0 * y1)), (.long z1)])) (fun t k => XS.lmul X0.here hx rfl (hb hby d13_67) rfl k) ?_
  refine own_by (T' := s₁) (f' := (mkF m 69 #[.val (.long p1), .second, .val (.long p2), .second, .val (.long x1), .second, .val (.long x0), .second, .val (.long y1), .second, .val (.long y0), .second, .val (.long z0), .second, .val (.long tt), .second, .val (.long z1), .second, .val (.long z2), .second] [(.long (z1 + (x0 * y1)))])) (fun t k => XS.ladd X0.here hx rfl (hb hby d13_68) rfl k) ?_
  obtain ⟨zz, hzz⟩ : ∃ z : Int64, z = (z1 + (x0 * y1)) := ⟨_, rfl⟩
  rw [← hzz]
  show own_Go p e below _ s₁ (mkF m 69 #[.val (.long p1), .second, .val (.long p2), .second, .val (.long x1), .second, .val (.long x0), .second, .val (.long y1), .second, .val (.long y0), .second, .val (.long z0), .second, .val (.long tt), .second, .val (.long z1), .second, .val (.long z2), .second] [(.long zz)])
  refine own_by (T' := s₁) (f' := (mkF m 71 #[.val (.long p1), .second, .val (.long p2), .second, .val (.long x1), .second, .val (.long x0), .second, .val (.long y1), .second, .val (.long y0), .second, .val (.long z0), .second, .val (.long tt), .second, .val (.long zz), .second, .val (.long z2), .second] [])) (fun t k => XS.lstore X0.here hx rfl (hb hby d13_69) rfl (l' := #[.val (.long p1), .second, .val (.long p2), .second, .val (.long x1), .second, .val (.long x0), .second, .val (.long y1), .second, .val (.long y0), .second, .val (.long z0), .second, .val (.long tt), .second, .val (.long zz), .second, .val (.long z2), .second]) rfl k) ?_
  refine own_by (T' := s₁) (f' := (mkF m 73 #[.val (.long p1), .second, .val (.long p2), .second, .val (.long x1), .second, .val (.long x0), .second, .val (.long y1), .second, .val (.long y0), .second, .val (.long z0), .second, .val (.long tt), .second, .val (.long zz), .second, .val (.long z2), .second] [(.long x1)])) (fun t k => XS.lload X0.here hx rfl (hb hby d13_71) rfl k) ?_
  refine own_by (T' := s₁) (f' := (mkF m 75 #[.val (.long p1), .second, .val (.long p2), .second, .val (.long x1), .second, .val (.long x0), .second, .val (.long y1), .second, .val (.long y0), .second, .val (.long z0), .second, .val (.long tt), .second, .val (.long zz), .second, .val (.long z2), .second] [(.long y1), (.long x1)])) (fun t k => XS.lload X0.here hx rfl (hb hby d13_73) rfl k) ?_
  refine own_by (T' := s₁) (f' := (mkF m 76 #[.val (.long p1), .second, .val (.long p2), .second, .val (.long x1), .second, .val (.long x0), .second, .val (.long y1), .second, .val (.long y0), .second, .val (.long z0), .second, .val (.long tt), .second, .val (.long zz), .second, .val (.long z2), .second] [(.long (x1 * y1))])) (fun t k => XS.lmul X0.here hx rfl (hb hby d13_75) rfl k) ?_
  refine own_by (T' := s₁) (f' := (mkF m 78 #[.val (.long p1), .second, .val (.long p2), .second, .val (.long x1), .second, .val (.long x0), .second, .val (.long y1), .second, .val (.long y0), .second, .val (.long z0), .second, .val (.long tt), .second, .val (.long zz), .second, .val (.long z2), .second] [(.long z2), (.long (x1 * y1))])) (fun t k => XS.lload X0.here hx rfl (hb hby d13_76) rfl k) ?_
  refine own_by (T' := s₁) (f' := (mkF m 79 #[.val (.long p1), .second, .val (.long p2), .second, .val (.long x1), .second, .val (.long x0), .second, .val (.long y1), .second, .val (.long y0), .second, .val (.long z0), .second, .val (.long tt), .second, .val (.long zz), .second, .val (.long z2), .second] [(.long ((x1 * y1) + z2))])) (fun t k => XS.ladd X0.here hx rfl (hb hby d13_78) rfl k) ?_
  refine own_by (T' := s₁) (f' := (mkF m 81 #[.val (.long p1), .second, .val (.long p2), .second, .val (.long x1), .second, .val (.long x0), .second, .val (.long y1), .second, .val (.long y0), .second, .val (.long z0), .second, .val (.long tt), .second, .val (.long zz), .second, .val (.long z2), .second] [(.long zz), (.long ((x1 * y1) + z2))])) (fun t k => XS.lload X0.here hx rfl (hb hby d13_79) rfl k) ?_
  refine own_by (T' := s₁) (f' := (mkF m 83 #[.val (.long p1), .second, .val (.long p2), .second, .val (.long x1), .second, .val (.long x0), .second, .val (.long y1), .second, .val (.long y0), .second, .val (.long z0), .second, .val (.long tt), .second, .val (.long zz), .second, .val (.long z2), .second] [(.int (32 : Int32)), (.long zz), (.long ((x1 * y1) + z2))])) (fun t k => XS.bipush X0.here hx rfl (hb hby d13_81) k) ?_
  refine own_by (T' := s₁) (f' := (mkF m 84 #[.val (.long p1), .second, .val (.long p2), .second, .val (.long x1), .second, .val (.long x0), .second, .val (.long y1), .second, .val (.long y0), .second, .val (.long z0), .second, .val (.long tt), .second, .val (.long zz), .second, .val (.long z2), .second] [(.long (zz >>> ((32 : Int32) &&& 0x3f).toInt64)), (.long ((x1 * y1) + z2))])) (fun t k => XS.lshr X0.here hx rfl (hb hby d13_83) rfl k) ?_
  refine own_by (T' := s₁) (f' := (mkF m 85 #[.val (.long p1), .second, .val (.long p2), .second, .val (.long x1), .second, .val (.long x0), .second, .val (.long y1), .second, .val (.long y0), .second, .val (.long z0), .second, .val (.long tt), .second, .val (.long zz), .second, .val (.long z2), .second] [(.long (((x1 * y1) + z2) + (zz >>> ((32 : Int32) &&& 0x3f).toInt64)))])) (fun t k => XS.ladd X0.here hx rfl (hb hby d13_84) rfl k) ?_
  refine own_retJ X0 hx hret hlk (hb hby d13_85) (by decide) (by decide) ?_
  try rw [e0]
  exact ⟨_, rfl, rfl, rfl⟩
theorem ef_rmCM (m : MethodId) (x0 : Int64) (x1 : Int64) : entryFrame m #[(.long x0), (.long x1)] 4 = mkF m 0 #[.val (.long x0), .second, .val (.long x1), .second] [] := by first | (simp [entryFrame, mkF, argsToLocals, Value.category]; done) | rfl
set_option maxRecDepth 65536 in
set_option maxHeartbeats 40000000 in
theorem rmCM (l : Launch) (Z : State) (a0 : Array Value) (hw : ∀ d ∈ tables_1, d.before a0 Z = true) (ws : List Jvm.Cond) (p1 p2 : Int64) (h0 : Heap)  :
    own_Ct l Z (⟨"java/lang/Long", "compare", "(JJ)I"⟩ : MethodName) jdk_35_method_42_code 4 (some .int) ws ({ frames := 0, cells := 0, slots := 0, locals := 0 } : Room) #[(.long p1), (.long p2)] h0 (fun v h L => ∃ r : Int32, v = some (.int r) ∧ L = [] ∧ h = h0) := by
  refine own_of (plainFor_of_name pn_java_lang_Long) ?_
  intro p e s m below meth c s₁ hx hby hml hown hnm hret hlk hZ X0 e0
  rw [ef_rmCM]
  refine own_by (T' := s₁) (f' := (mkF m 1 #[.val (.long p1), .second, .val (.long p2), .second] [(.long p1)])) (fun t k => XS.lloadN X0.here hx rfl (hb hby d15_0) rfl k) ?_
  refine own_by (T' := s₁) (f' := (mkF m 2 #[.val (.long p1), .second, .val (.long p2), .second] [(.long p2), (.long p1)])) (fun t k => XS.lloadN X0.here hx rfl (hb hby d15_1) rfl k) ?_
  refine own_by (T' := s₁) (f' := (mkF m 3 #[.val (.long p1), .second, .val (.long p2), .second] [(.int (lcmpW p1 p2))])) (fun t k => XS.lcmp X0.here hx rfl (hb hby d15_2) rfl k) ?_
  by_cases hc3_1 : p1 < p2
  · have _ := X0
    refine own_by (T' := s₁) (f' := (mkF m 6 #[.val (.long p1), .second, .val (.long p2), .second] [])) (fun t k => XS.ifNo X0.here hx rfl (hb hby d15_3) rfl ((if0 _ _).trans (tlt ((lw_lt _ _).mpr hc3_1)).2.1) k) ?_
    refine own_by (T' := s₁) (f' := (mkF m 7 #[.val (.long p1), .second, .val (.long p2), .second] [(.int (-1 : Int32))])) (fun t k => XS.iconst X0.here hx rfl (hb hby d15_6) k) ?_
    refine own_by (T' := s₁) (f' := (mkF m 21 #[.val (.long p1), .second, .val (.long p2), .second] [(.int (-1 : Int32))])) (fun t k => XS.goto X0.here hx rfl (pc0 := 7) (pc' := 21) rfl (hb hby d15_7) (by decide) (by decide) k) ?_
    refine own_retI X0 hx hret hlk (hb hby d15_21) (by decide) (by decide) ?_
    try rw [e0]
    exact ⟨_, rfl, rfl, rfl⟩
  · have _ := X0
    refine own_by (T' := s₁) (f' := (mkF m 10 #[.val (.long p1), .second, .val (.long p2), .second] [])) (fun t k => XS.ifYes X0.here hx rfl (pc0 := 3) (pc' := 10) rfl (hb hby d15_3) rfl ((if0 _ _).trans (flt (mt (lw_lt _ _).mp hc3_1)).2.1) (by decide) (by decide) k) ?_
    refine own_by (T' := s₁) (f' := (mkF m 11 #[.val (.long p1), .second, .val (.long p2), .second] [(.long p1)])) (fun t k => XS.lloadN X0.here hx rfl (hb hby d15_10) rfl k) ?_
    refine own_by (T' := s₁) (f' := (mkF m 12 #[.val (.long p1), .second, .val (.long p2), .second] [(.long p2), (.long p1)])) (fun t k => XS.lloadN X0.here hx rfl (hb hby d15_11) rfl k) ?_
    refine own_by (T' := s₁) (f' := (mkF m 13 #[.val (.long p1), .second, .val (.long p2), .second] [(.int (lcmpW p1 p2))])) (fun t k => XS.lcmp X0.here hx rfl (hb hby d15_12) rfl k) ?_
    by_cases hc13_2 : p1 = p2
    · have _ := X0
      refine own_by (T' := s₁) (f' := (mkF m 16 #[.val (.long p1), .second, .val (.long p2), .second] [])) (fun t k => XS.ifNo X0.here hx rfl (hb hby d15_13) rfl ((if0 _ _).trans (teq ((lw_eq _ _).mpr hc13_2)).2) k) ?_
      refine own_by (T' := s₁) (f' := (mkF m 17 #[.val (.long p1), .second, .val (.long p2), .second] [(.int (0 : Int32))])) (fun t k => XS.iconst X0.here hx rfl (hb hby d15_16) k) ?_
      refine own_by (T' := s₁) (f' := (mkF m 21 #[.val (.long p1), .second, .val (.long p2), .second] [(.int (0 : Int32))])) (fun t k => XS.goto X0.here hx rfl (pc0 := 17) (pc' := 21) rfl (hb hby d15_17) (by decide) (by decide) k) ?_
      refine own_retI X0 hx hret hlk (hb hby d15_21) (by decide) (by decide) ?_
      try rw [e0]
      exact ⟨_, rfl, rfl, rfl⟩
    · have _ := X0
      refine own_by (T' := s₁) (f' := (mkF m 20 #[.val (.long p1), .second, .val (.long p2), .second] [])) (fun t k => XS.ifYes X0.here hx rfl (pc0 := 13) (pc' := 20) rfl (hb hby d15_13) rfl ((if0 _ _).trans (feq (mt (lw_eq _ _).mp hc13_2)).2) (by decide) (by decide) k) ?_
      refine own_by (T' := s₁) (f' := (mkF m 21 #[.val (.long p1), .second, .val (.long p2), .second] [(.int (1 : Int32))])) (fun t k => XS.iconst X0.here hx rfl (hb hby d15_20) k) ?_
      refine own_retI X0 hx hret hlk (hb hby d15_21) (by decide) (by decide) ?_
      try rw [e0]
      exact ⟨_, rfl, rfl, rfl⟩
theorem ef_rmCU (m : MethodId) (x0 : Int64) (x1 : Int64) : entryFrame m #[(.long x0), (.long x1)] 4 = mkF m 0 #[.val (.long x0), .second, .val (.long x1), .second] [] := by first | (simp [entryFrame, mkF, argsToLocals, Value.category]; done) | rfl
set_option maxRecDepth 65536 in
set_option maxHeartbeats 40000000 in
theorem rmCU (l : Launch) (Z : State) (a0 : Array Value) (hw : ∀ d ∈ tables_1, d.before a0 Z = true) (ws : List Jvm.Cond) (p1 p2 : Int64) (h0 : Heap)  :
    own_Ct l Z (⟨"java/lang/Long", "compareUnsigned", "(JJ)I"⟩ : MethodName) jdk_35_method_43_code 4 (some .int) ws ({ frames := 1, cells := 0, slots := 0, locals := 15 } : Room) #[(.long p1), (.long p2)] h0 (fun v h L => ∃ r : Int32, v = some (.int r) ∧ L = [] ∧ h = h0) := by
  refine own_of (plainFor_of_name pn_java_lang_Long) ?_
  intro p e s m below meth c s₁ hx hby hml hown hnm hret hlk hZ X0 e0
  rw [ef_rmCU]
  refine own_by (T' := s₁) (f' := (mkF m 1 #[.val (.long p1), .second, .val (.long p2), .second] [(.long p1)])) (fun t k => XS.lloadN X0.here hx rfl (hb hby d14_0) rfl k) ?_
  refine own_by (T' := s₁) (f' := (mkF m 4 #[.val (.long p1), .second, .val (.long p2), .second] [(.long (-9223372036854775808 : Int64)), (.long p1)])) (fun t k => X0.ldc2Long hx hown (mvT hZ (own_w hw 88 rfl)) (g := (mkF m 1 #[.val (.long p1), .second, .val (.long p2), .second] [(.long p1)])) rfl (hb hby d14_1) _ k) ?_
  refine own_by (T' := s₁) (f' := (mkF m 5 #[.val (.long p1), .second, .val (.long p2), .second] [(.long (p1 + (-9223372036854775808 : Int64)))])) (fun t k => XS.ladd X0.here hx rfl (hb hby d14_4) rfl k) ?_
  refine own_by (T' := s₁) (f' := (mkF m 6 #[.val (.long p1), .second, .val (.long p2), .second] [(.long p2), (.long (p1 + (-9223372036854775808 : Int64)))])) (fun t k => XS.lloadN X0.here hx rfl (hb hby d14_5) rfl k) ?_
  refine own_by (T' := s₁) (f' := (mkF m 9 #[.val (.long p1), .second, .val (.long p2), .second] [(.long (-9223372036854775808 : Int64)), (.long p2), (.long (p1 + (-9223372036854775808 : Int64)))])) (fun t k => X0.ldc2Long hx hown (mvT hZ (own_w hw 88 rfl)) (g := (mkF m 6 #[.val (.long p1), .second, .val (.long p2), .second] [(.long p2), (.long (p1 + (-9223372036854775808 : Int64)))])) rfl (hb hby d14_6) _ k) ?_
  refine own_by (T' := s₁) (f' := (mkF m 10 #[.val (.long p1), .second, .val (.long p2), .second] [(.long (p2 + (-9223372036854775808 : Int64))), (.long (p1 + (-9223372036854775808 : Int64)))])) (fun t k => XS.ladd X0.here hx rfl (hb hby d14_9) rfl k) ?_
  refine own_callS X0 hx hZ hown e0 (hb hby d14_10) [(.long (p1 + (-9223372036854775808 : Int64))), (.long (p2 + (-9223372036854775808 : Int64)))] [] 0 (rmCM l Z a0 hw [] (p1 + (-9223372036854775808 : Int64)) (p2 + (-9223372036854775808 : Int64)) h0) (own_w hw 89 rfl) (own_w hw 90 rfl) (own_w hw 86 rfl) (own_w hw 91 rfl) (by decide) pd__JJ_I (by rw [hml]; rfl) rfl rfl (Nat.le_of_eq rfl) (by decide) (by decide) (by decide) (by decide) ?_
  rintro T11 _ L11 X11 ⟨r11, rfl, rfl, e11⟩
  rw [List.append_nil] at X11
  show own_Go p e below _ T11 (mkF m 13 #[.val (.long p1), .second, .val (.long p2), .second] [(.int r11)])
  refine own_retI X11 hx hret hlk (hb hby d14_13) (by decide) (by decide) ?_
  try rw [e11]
  exact ⟨_, rfl, rfl, rfl⟩
theorem ef_rmAP (m : MethodId) (x0 : Addr) (x1 : Int32) : entryFrame m #[(.ref x0), (.int x1)] 8 = mkF m 0 #[.val (.ref x0), .val (.int x1), .unset, .unset, .unset, .unset, .unset, .unset] [] := by first | (simp [entryFrame, mkF, argsToLocals, Value.category]; done) | rfl
set_option maxRecDepth 65536 in
set_option maxHeartbeats 40000000 in
theorem rmAP (l : Launch) (Z : State) (a0 : Array Value) (hw : ∀ d ∈ tables_1, d.before a0 Z = true) (ws : List Jvm.Cond) (o : Addr) (g0 : Int32) (v9 v10 : Int64) (u0 u1 u2 u3 u4 u5 u6 u7 u8 u11 u12 u13 : Value) (h0 : Heap) (n0 : Nat) (Z0 : n0 ≤ h0.size) (go : n0 ≤ o) (EO : Exa Z h0 o "com/example/tally_of_atoms/tallyofatoms/Numeral") (F0 : Fld Z h0 o "com/example/tally_of_atoms/tallyofatoms/Numeral" "characters" "[C" u0) (F1 : Fld Z h0 o "com/example/tally_of_atoms/tallyofatoms/Numeral" "start" "I" u1) (F2 : Fld Z h0 o "com/example/tally_of_atoms/tallyofatoms/Numeral" "end" "I" u2) (F3 : Fld Z h0 o "com/example/tally_of_atoms/tallyofatoms/Numeral" "digits" "I" u3) (F4 : Fld Z h0 o "com/example/tally_of_atoms/tallyofatoms/Numeral" "point" "Z" u4) (F5 : Fld Z h0 o "com/example/tally_of_atoms/tallyofatoms/Numeral" "exponent" "Z" u5) (F6 : Fld Z h0 o "com/example/tally_of_atoms/tallyofatoms/Numeral" "exponentDigits" "Z" u6) (F7 : Fld Z h0 o "com/example/tally_of_atoms/tallyofatoms/Numeral" "special" "I" u7) (F8 : Fld Z h0 o "com/example/tally_of_atoms/tallyofatoms/Numeral" "negative" "Z" u8) (F9 : Fld Z h0 o "com/example/tally_of_atoms/tallyofatoms/Numeral" "significand" "J" (.long v9)) (F10 : Fld Z h0 o "com/example/tally_of_atoms/tallyofatoms/Numeral" "significandHigh" "J" (.long v10)) (F11 : Fld Z h0 o "com/example/tally_of_atoms/tallyofatoms/Numeral" "significantDigits" "I" u11) (F12 : Fld Z h0 o "com/example/tally_of_atoms/tallyofatoms/Numeral" "scale" "I" u12) (F13 : Fld Z h0 o "com/example/tally_of_atoms/tallyofatoms/Numeral" "exponentValue" "I" u13) :
    own_Ct l Z (⟨"com/example/tally_of_atoms/tallyofatoms/Numeral", "appendTo128Bits", "(I)V"⟩ : MethodName) prog_102_method_25_code 8 none ws ({ frames := 2, cells := 0, slots := 0, locals := 40 } : Room) #[(.ref o), (.int g0)] h0 (fun v h L => v = none ∧ Fr n0 L ∧ Keep h0 h [o] ∧ ∃ v9 v10 : Int64, Fld Z h o "com/example/tally_of_atoms/tallyofatoms/Numeral" "characters" "[C" u0 ∧ Fld Z h o "com/example/tally_of_atoms/tallyofatoms/Numeral" "start" "I" u1 ∧ Fld Z h o "com/example/tally_of_atoms/tallyofatoms/Numeral" "end" "I" u2 ∧ Fld Z h o "com/example/tally_of_atoms/tallyofatoms/Numeral" "digits" "I" u3 ∧ Fld Z h o "com/example/tally_of_atoms/tallyofatoms/Numeral" "point" "Z" u4 ∧ Fld Z h o "com/example/tally_of_atoms/tallyofatoms/Numeral" "exponent" "Z" u5 ∧ Fld Z h o "com/example/tally_of_atoms/tallyofatoms/Numeral" "exponentDigits" "Z" u6 ∧ Fld Z h o "com/example/tally_of_atoms/tallyofatoms/Numeral" "special" "I" u7 ∧ Fld Z h o "com/example/tally_of_atoms/tallyofatoms/Numeral" "negative" "Z" u8 ∧ Fld Z h o "com/example/tally_of_atoms/tallyofatoms/Numeral" "significand" "J" (.long v9) ∧ Fld Z h o "com/example/tally_of_atoms/tallyofatoms/Numeral" "significandHigh" "J" (.long v10) ∧ Fld Z h o "com/example/tally_of_atoms/tallyofatoms/Numeral" "significantDigits" "I" u11 ∧ Fld Z h o "com/example/tally_of_atoms/tallyofatoms/Numeral" "scale" "I" u12 ∧ Fld Z h o "com/example/tally_of_atoms/tallyofatoms/Numeral" "exponentValue" "I" u13) := by
  refine own_of (plainFor_of_name pn_com_example_tally_of_atoms_tallyofatoms_Numeral) ?_
  intro p e s m below meth c s₁ hx hby hml hown hnm hret hlk hZ X0 e0
  have N0 := Fr.nil n0
  have K0 := Keep.refl h0 [o]
  rw [ef_rmAP]
  refine own_by (T' := s₁) (f' := (mkF m 1 #[.val (.ref o), .val (.int g0), .unset, .unset, .unset, .unset, .unset, .unset] [(.ref o)])) (fun t k => XS.aloadN X0.here hx rfl (hb hby d12_0) rfl rfl k) ?_
  refine own_getF (host := "") X0 hx hZ hown e0 (hb hby d12_1) (Or.inl (own_w hw 28 rfl)) Via.refl F9 ?_
  intro T11 X11 e11
  show own_Go p e below _ T11 (mkF m 4 #[.val (.ref o), .val (.int g0), .unset, .unset, .unset, .unset, .unset, .unset] [(.long v9)])
  refine own_by (T' := T11) (f' := (mkF m 7 #[.val (.ref o), .val (.int g0), .unset, .unset, .unset, .unset, .unset, .unset] [(.long (10 : Int64)), (.long v9)])) (fun t k => X11.ldc2Long hx hown (mvT hZ (own_w hw 69 rfl)) (g := (mkF m 4 #[.val (.ref o), .val (.int g0), .unset, .unset, .unset, .unset, .unset, .unset] [(.long v9)])) rfl (hb hby d12_4) _ k) ?_
  refine own_callS X11 hx hZ hown e11 (hb hby d12_7) [(.long v9), (.long (10 : Int64))] [] 0 (rmMH l Z a0 hw [] v9 (10 : Int64) h0) (own_w hw 80 rfl) (own_w hw 81 rfl) (own_w hw 74 rfl) (own_w hw 82 rfl) (by decide) pd__JJ_J (by rw [hml]; rfl) rfl rfl (Nat.le_of_eq rfl) (by decide) (by decide) (by decide) (by decide) ?_
  rintro T12 _ L12 X12 ⟨r12, rfl, rfl, e12⟩
  rw [List.append_nil] at X12
  show own_Go p e below _ T12 (mkF m 10 #[.val (.ref o), .val (.int g0), .unset, .unset, .unset, .unset, .unset, .unset] [(.long r12)])
  refine own_by (T' := T12) (f' := (mkF m 11 #[.val (.ref o), .val (.int g0), .unset, .unset, .unset, .unset, .unset, .unset] [(.ref o), (.long r12)])) (fun t k => XS.aloadN X12.here hx rfl (hb hby d12_10) rfl rfl k) ?_
  refine own_getF (host := "") X12 hx hZ hown e12 (hb hby d12_11) (Or.inl (own_w hw 28 rfl)) Via.refl F9 ?_
  intro T13 X13 e13
  show own_Go p e below _ T13 (mkF m 14 #[.val (.ref o), .val (.int g0), .unset, .unset, .unset, .unset, .unset, .unset] [(.long v9), (.long r12)])
  refine own_by (T' := T13) (f' := (mkF m 16 #[.val (.ref o), .val (.int g0), .unset, .unset, .unset, .unset, .unset, .unset] [(.int (63 : Int32)), (.long v9), (.long r12)])) (fun t k => XS.bipush X13.here hx rfl (hb hby d12_14) k) ?_
  refine own_by (T' := T13) (f' := (mkF m 17 #[.val (.ref o), .val (.int g0), .unset, .unset, .unset, .unset, .unset, .unset] [(.long (v9 >>> ((63 : Int32) &&& 0x3f).toInt64)), (.long r12)])) (fun t k => XS.lshr X13.here hx rfl (hb hby d12_16) rfl k) ?_
  refine own_by (T' := T13) (f' := (mkF m 20 #[.val (.ref o), .val (.int g0), .unset, .unset, .unset, .unset, .unset, .unset] [(.long (10 : Int64)), (.long (v9 >>> ((63 : Int32) &&& 0x3f).toInt64)), (.long r12)])) (fun t k => X13.ldc2Long hx hown (mvT hZ (own_w hw 69 rfl)) (g := (mkF m 17 #[.val (.ref o), .val (.int g0), .unset, .unset, .unset, .unset, .unset, .unset] [(.long (v9 >>> ((63 : Int32) &&& 0x3f).toInt64)), (.long r12)])) rfl (hb hby d12_17) _ k) ?_
  refine own_by (T' := T13) (f' := (mkF m 21 #[.val (.ref o), .val (.int g0), .unset, .unset, .unset, .unset, .unset, .unset] [(.long ((v9 >>> ((63 : Int32) &&& 0x3f).toInt64) &&& (10 : Int64))), (.long r12)])) (fun t k => XS.land X13.here hx rfl (hb hby d12_20) rfl k) ?_
  refine own_by (T' := T13) (f' := (mkF m 22 #[.val (.ref o), .val (.int g0), .unset, .unset, .unset, .unset, .unset, .unset] [(.long (r12 + ((v9 >>> ((63 : Int32) &&& 0x3f).toInt64) &&& (10 : Int64))))])) (fun t k => XS.ladd X13.here hx rfl (hb hby d12_21) rfl k) ?_
  refine own_by (T' := T13) (f' := (mkF m 23 #[.val (.ref o), .val (.int g0), .val (.long (r12 + ((v9 >>> ((63 : Int32) &&& 0x3f).toInt64) &&& (10 : Int64)))), .second, .unset, .unset, .unset, .unset] [])) (fun t k => XS.lstoreN X13.here hx rfl (hb hby d12_22) rfl (l' := #[.val (.ref o), .val (.int g0), .val (.long (r12 + ((v9 >>> ((63 : Int32) &&& 0x3f).toInt64) &&& (10 : Int64)))), .second, .unset, .unset, .unset, .unset]) rfl k) ?_
  refine own_by (T' := T13) (f' := (mkF m 24 #[.val (.ref o), .val (.int g0), .val (.long (r12 + ((v9 >>> ((63 : Int32) &&& 0x3f).toInt64) &&& (10 : Int64)))), .second, .unset, .unset, .unset, .unset] [(.ref o)])) (fun t k => XS.aloadN X13.here hx rfl (hb hby d12_23) rfl rfl k) ?_
  refine own_getF (host := "") X13 hx hZ hown e13 (hb hby d12_24) (Or.inl (own_w hw 28 rfl)) Via.refl F9 ?_
  intro T14 X14 e14
  show own_Go p e below _ T14 (mkF m 27 #[.val (.ref o), .val (.int g0), .val (.long (r12 + ((v9 >>> ((63 : Int32) &&& 0x3f).toInt64) &&& (10 : Int64)))), .second, .unset, .unset, .unset, .unset] [(.long v9)])
  refine own_by (T' := T14) (f' := (mkF m 30 #[.val (.ref o), .val (.int g0), .val (.long (r12 + ((v9 >>> ((63 : Int32) &&& 0x3f).toInt64) &&& (10 : Int64)))), .second, .unset, .unset, .unset, .unset] [(.long (10 : Int64)), (.long v9)])) (fun t k => X14.ldc2Long hx hown (mvT hZ (own_w hw 69 rfl)) (g := (mkF m 27 #[.val (.ref o), .val (.int g0), .val (.long (r12 + ((v9 >>> ((63 : Int32) &&& 0x3f).toInt64) &&& (10 : Int64)))), .second, .unset, .unset, .unset, .unset] [(.long v9)])) rfl (hb hby d12_27) _ k) ?_
  refine own_by (T' := T14) (f' := (mkF m 31 #[.val (.ref o), .val (.int g0), .val (.long (r12 + ((v9 >>> ((63 : Int32) &&& 0x3f).toInt64) &&& (10 : Int64)))), .second, .unset, .unset, .unset, .unset] [(.long (v9 * (10 : Int64)))])) (fun t k => XS.lmul X14.here hx rfl (hb hby d12_30) rfl k) ?_
  refine own_by (T' := T14) (f' := (mkF m 33 #[.val (.ref o), .val (.int g0), .val (.long (r12 + ((v9 >>> ((63 : Int32) &&& 0x3f).toInt64) &&& (10 : Int64)))), .second, .val (.long (v9 * (10 : Int64))), .second, .unset, .unset] [])) (fun t k => XS.lstore X14.here hx rfl (hb hby d12_31) rfl (l' := #[.val (.ref o), .val (.int g0), .val (.long (r12 + ((v9 >>> ((63 : Int32) &&& 0x3f).toInt64) &&& (10 : Int64)))), .second, .val (.long (v9 * (10 : Int64))), .second, .unset, .unset]) rfl k) ?_
  refine own_by (T' := T14) (f' := (mkF m 35 #[.val (.ref o), .val (.int g0), .val (.long (r12 + ((v9 >>> ((63 : Int32) &&& 0x3f).toInt64) &&& (10 : Int64)))), .second, .val (.long (v9 * (10 : Int64))), .second, .unset, .unset] [(.long (v9 * (10 : Int64)))])) (fun t k => XS.lload X14.here hx rfl (hb hby d12_33) rfl k) ?_
  refine own_by (T' := T14) (f' := (mkF m 36 #[.val (.ref o), .val (.int g0), .val (.long (r12 + ((v9 >>> ((63 : Int32) &&& 0x3f).toInt64) &&& (10 : Int64)))), .second, .val (.long (v9 * (10 : Int64))), .second, .unset, .unset] [(.int g0), (.long (v9 * (10 : Int64)))])) (fun t k => XS.iloadN X14.here hx rfl (hb hby d12_35) rfl k) ?_
  refine own_by (T' := T14) (f' := (mkF m 37 #[.val (.ref o), .val (.int g0), .val (.long (r12 + ((v9 >>> ((63 : Int32) &&& 0x3f).toInt64) &&& (10 : Int64)))), .second, .val (.long (v9 * (10 : Int64))), .second, .unset, .unset] [(.long (g0.toInt64)), (.long (v9 * (10 : Int64)))])) (fun t k => XS.i2l X14.here hx rfl (hb hby d12_36) rfl k) ?_
  refine own_by (T' := T14) (f' := (mkF m 38 #[.val (.ref o), .val (.int g0), .val (.long (r12 + ((v9 >>> ((63 : Int32) &&& 0x3f).toInt64) &&& (10 : Int64)))), .second, .val (.long (v9 * (10 : Int64))), .second, .unset, .unset] [(.long ((v9 * (10 : Int64)) + (g0.toInt64)))])) (fun t k => XS.ladd X14.here hx rfl (hb hby d12_37) rfl k) ?_
  refine own_by (T' := T14) (f' := (mkF m 40 #[.val (.ref o), .val (.int g0), .val (.long (r12 + ((v9 >>> ((63 : Int32) &&& 0x3f).toInt64) &&& (10 : Int64)))), .second, .val (.long (v9 * (10 : Int64))), .second, .val (.long ((v9 * (10 : Int64)) + (g0.toInt64))), .second] [])) (fun t k => XS.lstore X14.here hx rfl (hb hby d12_38) rfl (l' := #[.val (.ref o), .val (.int g0), .val (.long (r12 + ((v9 >>> ((63 : Int32) &&& 0x3f).toInt64) &&& (10 : Int64)))), .second, .val (.long (v9 * (10 : Int64))), .second, .val (.long ((v9 * (10 : Int64)) + (g0.toInt64))), .second]) rfl k) ?_
  refine own_by (T' := T14) (f' := (mkF m 41 #[.val (.ref o), .val (.int g0), .val (.long (r12 + ((v9 >>> ((63 : Int32) &&& 0x3f).toInt64) &&& (10 : Int64)))), .second, .val (.long (v9 * (10 : Int64))), .second, .val (.long ((v9 * (10 : Int64)) + (g0.toInt64))), .second] [(.ref o)])) (fun t k => XS.aloadN X14.here hx rfl (hb hby d12_40) rfl rfl k) ?_
  refine own_by (T' := T14) (f' := (mkF m 42 #[.val (.ref o), .val (.int g0), .val (.long (r12 + ((v9 >>> ((63 : Int32) &&& 0x3f).toInt64) &&& (10 : Int64)))), .second, .val (.long (v9 * (10 : Int64))), .second, .val (.long ((v9 * (10 : Int64)) + (g0.toInt64))), .second] [(.ref o), (.ref o)])) (fun t k => XS.aloadN X14.here hx rfl (hb hby d12_41) rfl rfl k) ?_
  refine own_getF (host := "") X14 hx hZ hown e14 (hb hby d12_42) (Or.inl (own_w hw 30 rfl)) Via.refl F10 ?_
  intro T15 X15 e15
  show own_Go p e below _ T15 (mkF m 45 #[.val (.ref o), .val (.int g0), .val (.long (r12 + ((v9 >>> ((63 : Int32) &&& 0x3f).toInt64) &&& (10 : Int64)))), .second, .val (.long (v9 * (10 : Int64))), .second, .val (.long ((v9 * (10 : Int64)) + (g0.toInt64))), .second] [(.long v10), (.ref o)])
  refine own_by (T' := T15) (f' := (mkF m 48 #[.val (.ref o), .val (.int g0), .val (.long (r12 + ((v9 >>> ((63 : Int32) &&& 0x3f).toInt64) &&& (10 : Int64)))), .second, .val (.long (v9 * (10 : Int64))), .second, .val (.long ((v9 * (10 : Int64)) + (g0.toInt64))), .second] [(.long (10 : Int64)), (.long v10), (.ref o)])) (fun t k => X15.ldc2Long hx hown (mvT hZ (own_w hw 69 rfl)) (g := (mkF m 45 #[.val (.ref o), .val (.int g0), .val (.long (r12 + ((v9 >>> ((63 : Int32) &&& 0x3f).toInt64) &&& (10 : Int64)))), .second, .val (.long (v9 * (10 : Int64))), .second, .val (.long ((v9 * (10 : Int64)) + (g0.toInt64))), .second] [(.long v10), (.ref o)])) rfl (hb hby d12_45) _ k) ?_
  refine own_by (T' := T15) (f' := (mkF m 49 #[.val (.ref o), .val (.int g0), .val (.long (r12 + ((v9 >>> ((63 : Int32) &&& 0x3f).toInt64) &&& (10 : Int64)))), .second, .val (.long (v9 * (10 : Int64))), .second, .val (.long ((v9 * (10 : Int64)) + (g0.toInt64))), .second] [(.long (v10 * (10 : Int64))), (.ref o)])) (fun t k => XS.lmul X15.here hx rfl (hb hby d12_48) rfl k) ?_
  refine own_by (T' := T15) (f' := (mkF m 50 #[.val (.ref o), .val (.int g0), .val (.long (r12 + ((v9 >>> ((63 : Int32) &&& 0x3f).toInt64) &&& (10 : Int64)))), .second, .val (.long (v9 * (10 : Int64))), .second, .val (.long ((v9 * (10 : Int64)) + (g0.toInt64))), .second] [(.long (r12 + ((v9 >>> ((63 : Int32) &&& 0x3f).toInt64) &&& (10 : Int64)))), (.long (v10 * (10 : Int64))), (.ref o)])) (fun t k => XS.lloadN X15.here hx rfl (hb hby d12_49) rfl k) ?_
  refine own_by (T' := T15) (f' := (mkF m 51 #[.val (.ref o), .val (.int g0), .val (.long (r12 + ((v9 >>> ((63 : Int32) &&& 0x3f).toInt64) &&& (10 : Int64)))), .second, .val (.long (v9 * (10 : Int64))), .second, .val (.long ((v9 * (10 : Int64)) + (g0.toInt64))), .second] [(.long ((v10 * (10 : Int64)) + (r12 + ((v9 >>> ((63 : Int32) &&& 0x3f).toInt64) &&& (10 : Int64))))), (.ref o)])) (fun t k => XS.ladd X15.here hx rfl (hb hby d12_50) rfl k) ?_
  refine own_by (T' := T15) (f' := (mkF m 53 #[.val (.ref o), .val (.int g0), .val (.long (r12 + ((v9 >>> ((63 : Int32) &&& 0x3f).toInt64) &&& (10 : Int64)))), .second, .val (.long (v9 * (10 : Int64))), .second, .val (.long ((v9 * (10 : Int64)) + (g0.toInt64))), .second] [(.long ((v9 * (10 : Int64)) + (g0.toInt64))), (.long ((v10 * (10 : Int64)) + (r12 + ((v9 >>> ((63 : Int32) &&& 0x3f).toInt64) &&& (10 : Int64))))), (.ref o)])) (fun t k => XS.lload X15.here hx rfl (hb hby d12_51) rfl k) ?_
  refine own_by (T' := T15) (f' := (mkF m 55 #[.val (.ref o), .val (.int g0), .val (.long (r12 + ((v9 >>> ((63 : Int32) &&& 0x3f).toInt64) &&& (10 : Int64)))), .second, .val (.long (v9 * (10 : Int64))), .second, .val (.long ((v9 * (10 : Int64)) + (g0.toInt64))), .second] [(.long (v9 * (10 : Int64))), (.long ((v9 * (10 : Int64)) + (g0.toInt64))), (.long ((v10 * (10 : Int64)) + (r12 + ((v9 >>> ((63 : Int32) &&& 0x3f).toInt64) &&& (10 : Int64))))), (.ref o)])) (fun t k => XS.lload X15.here hx rfl (hb hby d12_53) rfl k) ?_
  refine own_callS X15 hx hZ hown e15 (hb hby d12_55) [(.long ((v9 * (10 : Int64)) + (g0.toInt64))), (.long (v9 * (10 : Int64)))] [(.long ((v10 * (10 : Int64)) + (r12 + ((v9 >>> ((63 : Int32) &&& 0x3f).toInt64) &&& (10 : Int64))))), (.ref o)] 3 (rmCU l Z a0 hw [] ((v9 * (10 : Int64)) + (g0.toInt64)) (v9 * (10 : Int64)) h0) (own_w hw 84 rfl) (own_w hw 85 rfl) (own_w hw 86 rfl) (own_w hw 87 rfl) (by decide) pd__JJ_I (by rw [hml]; rfl) rfl rfl (Nat.le_of_eq rfl) (by decide) (by decide) (by decide) (by decide) ?_
  rintro T16 _ L16 X16 ⟨r16, rfl, rfl, e16⟩
  rw [List.append_nil] at X16
  show own_Go p e below _ T16 (mkF m 58 #[.val (.ref o), .val (.int g0), .val (.long (r12 + ((v9 >>> ((63 : Int32) &&& 0x3f).toInt64) &&& (10 : Int64)))), .second, .val (.long (v9 * (10 : Int64))), .second, .val (.long ((v9 * (10 : Int64)) + (g0.toInt64))), .second] [(.int r16), (.long ((v10 * (10 : Int64)) + (r12 + ((v9 >>> ((63 : Int32) &&& 0x3f).toInt64) &&& (10 : Int64))))), (.ref o)])
  have mg18 : ∀ t, Steps p.tables e below (T16.setTop (mkF m 66 #[.val (.ref o), .val (.int g0), .val (.long (r12 + ((v9 >>> ((63 : Int32) &&& 0x3f).toInt64) &&& (10 : Int64)))), .second, .val (.long (v9 * (10 : Int64))), .second, .val (.long ((v9 * (10 : Int64)) + (g0.toInt64))), .second] [(.int (if r16 < (0 : Int32) then (1 : Int32) else (0 : Int32))), (.long ((v10 * (10 : Int64)) + (r12 + ((v9 >>> ((63 : Int32) &&& 0x3f).toInt64) &&& (10 : Int64))))), (.ref o)])) t → Steps p.tables e below (T16.setTop (mkF m 58 #[.val (.ref o), .val (.int g0), .val (.long (r12 + ((v9 >>> ((63 : Int32) &&& 0x3f).toInt64) &&& (10 : Int64)))), .second, .val (.long (v9 * (10 : Int64))), .second, .val (.long ((v9 * (10 : Int64)) + (g0.toInt64))), .second] [(.int r16), (.long ((v10 * (10 : Int64)) + (r12 + ((v9 >>> ((63 : Int32) &&& 0x3f).toInt64) &&& (10 : Int64))))), (.ref o)])) t := by
    intro t k0
    by_cases hm17 : r16 < (0 : Int32)
    · skip
      refine XS.ifNo X16.here hx rfl (hb hby d12_58) rfl ((if0 _ _).trans (tlt hm17).2.1) ?_
      show Steps p.tables e below (T16.setTop (mkF m 61 #[.val (.ref o), .val (.int g0), .val (.long (r12 + ((v9 >>> ((63 : Int32) &&& 0x3f).toInt64) &&& (10 : Int64)))), .second, .val (.long (v9 * (10 : Int64))), .second, .val (.long ((v9 * (10 : Int64)) + (g0.toInt64))), .second] [(.long ((v10 * (10 : Int64)) + (r12 + ((v9 >>> ((63 : Int32) &&& 0x3f).toInt64) &&& (10 : Int64))))), (.ref o)])) _
      refine XS.iconst X16.here hx rfl (hb hby d12_61) ?_
      show Steps p.tables e below (T16.setTop (mkF m 62 #[.val (.ref o), .val (.int g0), .val (.long (r12 + ((v9 >>> ((63 : Int32) &&& 0x3f).toInt64) &&& (10 : Int64)))), .second, .val (.long (v9 * (10 : Int64))), .second, .val (.long ((v9 * (10 : Int64)) + (g0.toInt64))), .second] [(.int (1 : Int32)), (.long ((v10 * (10 : Int64)) + (r12 + ((v9 >>> ((63 : Int32) &&& 0x3f).toInt64) &&& (10 : Int64))))), (.ref o)])) _
      refine XS.goto X16.here hx rfl (pc0 := 62) (pc' := 66) rfl (hb hby d12_62) (by decide) (by decide) ?_
      show Steps p.tables e below (T16.setTop (mkF m 66 #[.val (.ref o), .val (.int g0), .val (.long (r12 + ((v9 >>> ((63 : Int32) &&& 0x3f).toInt64) &&& (10 : Int64)))), .second, .val (.long (v9 * (10 : Int64))), .second, .val (.long ((v9 * (10 : Int64)) + (g0.toInt64))), .second] [(.int (1 : Int32)), (.long ((v10 * (10 : Int64)) + (r12 + ((v9 >>> ((63 : Int32) &&& 0x3f).toInt64) &&& (10 : Int64))))), (.ref o)])) _
      try simp only [if_pos hm17] at k0
      exact k0
    · skip
      refine XS.ifYes X16.here hx rfl (pc0 := 58) (pc' := 65) rfl (hb hby d12_58) rfl ((if0 _ _).trans (flt hm17).2.1) (by decide) (by decide) ?_
      show Steps p.tables e below (T16.setTop (mkF m 65 #[.val (.ref o), .val (.int g0), .val (.long (r12 + ((v9 >>> ((63 : Int32) &&& 0x3f).toInt64) &&& (10 : Int64)))), .second, .val (.long (v9 * (10 : Int64))), .second, .val (.long ((v9 * (10 : Int64)) + (g0.toInt64))), .second] [(.long ((v10 * (10 : Int64)) + (r12 + ((v9 >>> ((63 : Int32) &&& 0x3f).toInt64) &&& (10 : Int64))))), (.ref o)])) _
      refine XS.iconst X16.here hx rfl (hb hby d12_65) ?_
      show Steps p.tables e below (T16.setTop (mkF m 66 #[.val (.ref o), .val (.int g0), .val (.long (r12 + ((v9 >>> ((63 : Int32) &&& 0x3f).toInt64) &&& (10 : Int64)))), .second, .val (.long (v9 * (10 : Int64))), .second, .val (.long ((v9 * (10 : Int64)) + (g0.toInt64))), .second] [(.int (0 : Int32)), (.long ((v10 * (10 : Int64)) + (r12 + ((v9 >>> ((63 : Int32) &&& 0x3f).toInt64) &&& (10 : Int64))))), (.ref o)])) _
      try simp only [if_neg hm17] at k0
      exact k0
  refine own_by mg18 ?_
  refine own_by (T' := T16) (f' := (mkF m 67 #[.val (.ref o), .val (.int g0), .val (.long (r12 + ((v9 >>> ((63 : Int32) &&& 0x3f).toInt64) &&& (10 : Int64)))), .second, .val (.long (v9 * (10 : Int64))), .second, .val (.long ((v9 * (10 : Int64)) + (g0.toInt64))), .second] [(.long ((if r16 < (0 : Int32) then (1 : Int32) else (0 : Int32)).toInt64)), (.long ((v10 * (10 : Int64)) + (r12 + ((v9 >>> ((63 : Int32) &&& 0x3f).toInt64) &&& (10 : Int64))))), (.ref o)])) (fun t k => XS.i2l X16.here hx rfl (hb hby d12_66) rfl k) ?_
  refine own_by (T' := T16) (f' := (mkF m 68 #[.val (.ref o), .val (.int g0), .val (.long (r12 + ((v9 >>> ((63 : Int32) &&& 0x3f).toInt64) &&& (10 : Int64)))), .second, .val (.long (v9 * (10 : Int64))), .second, .val (.long ((v9 * (10 : Int64)) + (g0.toInt64))), .second] [(.long (((v10 * (10 : Int64)) + (r12 + ((v9 >>> ((63 : Int32) &&& 0x3f).toInt64) &&& (10 : Int64)))) + ((if r16 < (0 : Int32) then (1 : Int32) else (0 : Int32)).toInt64))), (.ref o)])) (fun t k => XS.ladd X16.here hx rfl (hb hby d12_67) rfl k) ?_
  obtain ⟨vh, hvh⟩ : ∃ z : Int64, z = (((v10 * (10 : Int64)) + (r12 + ((v9 >>> ((63 : Int32) &&& 0x3f).toInt64) &&& (10 : Int64)))) + ((if r16 < (0 : Int32) then (1 : Int32) else (0 : Int32)).toInt64)) := ⟨_, rfl⟩
  rw [← hvh]
  show own_Go p e below _ T16 (mkF m 68 #[.val (.ref o), .val (.int g0), .val (.long (r12 + ((v9 >>> ((63 : Int32) &&& 0x3f).toInt64) &&& (10 : Int64)))), .second, .val (.long (v9 * (10 : Int64))), .second, .val (.long ((v9 * (10 : Int64)) + (g0.toInt64))), .second] [(.long vh), (.ref o)])
  refine own_putF (host := "") X16 hx hZ hown e16 (hb hby d12_68) (Or.inl (own_w hw 30 rfl)) Via.refl F10 EO (Or.inl (own_w hw 31 rfl)) (own_w hw 7 rfl) (ty := .long) (by decide) rfl rfl ?_
  intro T19 h19 X19 e19 W19
  show own_Go p e below _ T19 (mkF m 71 #[.val (.ref o), .val (.int g0), .val (.long (r12 + ((v9 >>> ((63 : Int32) &&& 0x3f).toInt64) &&& (10 : Int64)))), .second, .val (.long (v9 * (10 : Int64))), .second, .val (.long ((v9 * (10 : Int64)) + (g0.toInt64))), .second] [])
  have F19 := F10.same W19
  have sz20 : n0 ≤ h19.size := by rw [W19.size]; exact Z0
  have K21 := K0.wr W19 (Or.inl (List.mem_of_getElem? (i := 0) rfl))
  have N19 := Fr.snoc X19 N0 go
  refine own_by (T' := T19) (f' := (mkF m 72 #[.val (.ref o), .val (.int g0), .val (.long (r12 + ((v9 >>> ((63 : Int32) &&& 0x3f).toInt64) &&& (10 : Int64)))), .second, .val (.long (v9 * (10 : Int64))), .second, .val (.long ((v9 * (10 : Int64)) + (g0.toInt64))), .second] [(.ref o)])) (fun t k => XS.aloadN X19.here hx rfl (hb hby d12_71) rfl rfl k) ?_
  refine own_by (T' := T19) (f' := (mkF m 74 #[.val (.ref o), .val (.int g0), .val (.long (r12 + ((v9 >>> ((63 : Int32) &&& 0x3f).toInt64) &&& (10 : Int64)))), .second, .val (.long (v9 * (10 : Int64))), .second, .val (.long ((v9 * (10 : Int64)) + (g0.toInt64))), .second] [(.long ((v9 * (10 : Int64)) + (g0.toInt64))), (.ref o)])) (fun t k => XS.lload X19.here hx rfl (hb hby d12_72) rfl k) ?_
  have f22 := (F9.other W19 (Or.inr (sn_0 hw)))
  have f23 := (EO.wr W19)
  refine own_putF (host := "") X19 hx hZ hown e19 (hb hby d12_74) (Or.inl (own_w hw 28 rfl)) Via.refl f22 f23 (Or.inl (own_w hw 29 rfl)) (own_w hw 7 rfl) (ty := .long) (by decide) rfl rfl ?_
  intro T24 h24 X24 e24 W24
  show own_Go p e below _ T24 (mkF m 77 #[.val (.ref o), .val (.int g0), .val (.long (r12 + ((v9 >>> ((63 : Int32) &&& 0x3f).toInt64) &&& (10 : Int64)))), .second, .val (.long (v9 * (10 : Int64))), .second, .val (.long ((v9 * (10 : Int64)) + (g0.toInt64))), .second] [])
  have F24 := f22.same W24
  have sz25 : n0 ≤ h24.size := by rw [W24.size]; exact sz20
  have K26 := K21.wr W24 (Or.inl (List.mem_of_getElem? (i := 0) rfl))
  have N24 := Fr.snoc X24 N19 go
  have f27 := ((F0.other W19 (Or.inr (sn_1 hw))).other W24 (Or.inr (sn_2 hw)))
  have f28 := ((F1.other W19 (Or.inr (sn_3 hw))).other W24 (Or.inr (sn_4 hw)))
  have f29 := ((F2.other W19 (Or.inr (sn_5 hw))).other W24 (Or.inr (sn_6 hw)))
  have f30 := ((F3.other W19 (Or.inr (sn_7 hw))).other W24 (Or.inr (sn_8 hw)))
  have f31 := ((F4.other W19 (Or.inr (sn_9 hw))).other W24 (Or.inr (sn_10 hw)))
  have f32 := ((F5.other W19 (Or.inr (sn_11 hw))).other W24 (Or.inr (sn_12 hw)))
  have f33 := ((F6.other W19 (Or.inr (sn_13 hw))).other W24 (Or.inr (sn_14 hw)))
  have f34 := ((F7.other W19 (Or.inr (sn_15 hw))).other W24 (Or.inr (sn_16 hw)))
  have f35 := ((F8.other W19 (Or.inr (sn_17 hw))).other W24 (Or.inr (sn_18 hw)))
  have f36 := (F19.other W24 (Or.inr (sn_19 hw)))
  have f37 := ((F11.other W19 (Or.inr (sn_20 hw))).other W24 (Or.inr (sn_21 hw)))
  have f38 := ((F12.other W19 (Or.inr (sn_22 hw))).other W24 (Or.inr (sn_23 hw)))
  have f39 := ((F13.other W19 (Or.inr (sn_24 hw))).other W24 (Or.inr (sn_25 hw)))
  refine own_retV X24 hx hret hlk (hb hby d12_77) (by decide) (by decide) ?_
  try rw [e24]
  exact ⟨rfl, N24, K26, _, _, f27, f28, f29, f30, f31, f32, f33, f34, f35, F24, f36, f37, f38, f39⟩
theorem ef_rmRD (m : MethodId) (x0 : Addr) (x1 : Addr) (x2 : Int32) (x3 : Int32) : entryFrame m #[(.ref x0), (.ref x1), (.int x2), (.int x3)] 5 = mkF m 0 #[.val (.ref x0), .val (.ref x1), .val (.int x2), .val (.int x3), .unset] [] := by first | (simp [entryFrame, mkF, argsToLocals, Value.category]; done) | rfl
set_option maxRecDepth 65536 in
set_option maxHeartbeats 40000000 in
theorem rmRD (l : Launch) (Z : State) (a0 : Array Value) (hw : ∀ d ∈ tables_1, d.before a0 Z = true) (ws : List Jvm.Cond) (o ca : Addr) (iv0 lv sv : Int32) (j0 lim sd0 : Nat) (f : Nat → Int32) (v9 v10 : Int64) (u0 u1 u2 u3 u4 u5 u6 u7 u8 u12 u13 : Value) (h0 : Heap) (n0 : Nat) (Z0 : n0 ≤ h0.size) (go : n0 ≤ o) (nco : ca ≠ o) (hj : iv0.toInt = (j0 : Nat)) (hl : lv.toInt = (lim : Nat)) (hjl : j0 ≤ lim) (hlim : lim ≤ 48) (hsd : sv.toInt = (sd0 : Nat)) (hsb : sd0 ≤ 100) (A1 : own_A Z h0 ca .char 48 f) (EO : Exa Z h0 o "com/example/tally_of_atoms/tallyofatoms/Numeral") (F0 : Fld Z h0 o "com/example/tally_of_atoms/tallyofatoms/Numeral" "characters" "[C" u0) (F1 : Fld Z h0 o "com/example/tally_of_atoms/tallyofatoms/Numeral" "start" "I" u1) (F2 : Fld Z h0 o "com/example/tally_of_atoms/tallyofatoms/Numeral" "end" "I" u2) (F3 : Fld Z h0 o "com/example/tally_of_atoms/tallyofatoms/Numeral" "digits" "I" u3) (F4 : Fld Z h0 o "com/example/tally_of_atoms/tallyofatoms/Numeral" "point" "Z" u4) (F5 : Fld Z h0 o "com/example/tally_of_atoms/tallyofatoms/Numeral" "exponent" "Z" u5) (F6 : Fld Z h0 o "com/example/tally_of_atoms/tallyofatoms/Numeral" "exponentDigits" "Z" u6) (F7 : Fld Z h0 o "com/example/tally_of_atoms/tallyofatoms/Numeral" "special" "I" u7) (F8 : Fld Z h0 o "com/example/tally_of_atoms/tallyofatoms/Numeral" "negative" "Z" u8) (F9 : Fld Z h0 o "com/example/tally_of_atoms/tallyofatoms/Numeral" "significand" "J" (.long v9)) (F10 : Fld Z h0 o "com/example/tally_of_atoms/tallyofatoms/Numeral" "significandHigh" "J" (.long v10)) (F11 : Fld Z h0 o "com/example/tally_of_atoms/tallyofatoms/Numeral" "significantDigits" "I" (.int sv)) (F12 : Fld Z h0 o "com/example/tally_of_atoms/tallyofatoms/Numeral" "scale" "I" u12) (F13 : Fld Z h0 o "com/example/tally_of_atoms/tallyofatoms/Numeral" "exponentValue" "I" u13) :
    own_Ct l Z (⟨"com/example/tally_of_atoms/tallyofatoms/Numeral", "readDigits", "([CII)I"⟩ : MethodName) prog_102_method_24_code 5 (some .int) ws ({ frames := 3, cells := 0, slots := 0, locals := 60 } : Room) #[(.ref o), (.ref ca), (.int iv0), (.int lv)] h0 (fun v h L => ∃ r : Int32, v = some (.int r) ∧ r.toInt = ((own_rp f (lim - j0) j0 : Nat) : Int) ∧ Fr n0 L ∧ Keep h0 h [o] ∧ ∃ (v9 v10 : Int64) (sv : Int32), sv.toInt = ((own_rs f (lim - j0) j0 sd0 : Nat) : Int) ∧ Fld Z h o "com/example/tally_of_atoms/tallyofatoms/Numeral" "characters" "[C" u0 ∧ Fld Z h o "com/example/tally_of_atoms/tallyofatoms/Numeral" "start" "I" u1 ∧ Fld Z h o "com/example/tally_of_atoms/tallyofatoms/Numeral" "end" "I" u2 ∧ Fld Z h o "com/example/tally_of_atoms/tallyofatoms/Numeral" "digits" "I" u3 ∧ Fld Z h o "com/example/tally_of_atoms/tallyofatoms/Numeral" "point" "Z" u4 ∧ Fld Z h o "com/example/tally_of_atoms/tallyofatoms/Numeral" "exponent" "Z" u5 ∧ Fld Z h o "com/example/tally_of_atoms/tallyofatoms/Numeral" "exponentDigits" "Z" u6 ∧ Fld Z h o "com/example/tally_of_atoms/tallyofatoms/Numeral" "special" "I" u7 ∧ Fld Z h o "com/example/tally_of_atoms/tallyofatoms/Numeral" "negative" "Z" u8 ∧ Fld Z h o "com/example/tally_of_atoms/tallyofatoms/Numeral" "significand" "J" (.long v9) ∧ Fld Z h o "com/example/tally_of_atoms/tallyofatoms/Numeral" "significandHigh" "J" (.long v10) ∧ Fld Z h o "com/example/tally_of_atoms/tallyofatoms/Numeral" "significantDigits" "I" (.int sv) ∧ Fld Z h o "com/example/tally_of_atoms/tallyofatoms/Numeral" "scale" "I" u12 ∧ Fld Z h o "com/example/tally_of_atoms/tallyofatoms/Numeral" "exponentValue" "I" u13) := by
  refine own_of (plainFor_of_name pn_com_example_tally_of_atoms_tallyofatoms_Numeral) ?_
  intro p e s m below meth c s₁ hx hby hml hown hnm hret hlk hZ X0 e0
  have loop : ∀ (k j sd : Nat) (iv sv : Int32) (v9 v10 : Int64) (s4 : Slot) (TL : State) (hL : Heap) (LL : List Loc), One s4 → j + k = lim → iv.toInt = (j : Nat) → sv.toInt = (sd : Nat) → sd + k < 1000 → own_rp f (lim - j0) j0 = own_rp f k j → own_rs f (lim - j0) j0 sd0 = own_rs f k j sd → Stand p l e ({ frames := 3, cells := 0, slots := 0, locals := 60 } : Room) s m #[(.ref o), (.ref ca), (.int iv0), (.int lv)] below meth c TL LL 0 0 → TL.heap = hL → own_A Z hL ca .char 48 f → Exa Z hL o "com/example/tally_of_atoms/tallyofatoms/Numeral" → Fld Z hL o "com/example/tally_of_atoms/tallyofatoms/Numeral" "characters" "[C" u0 → Fld Z hL o "com/example/tally_of_atoms/tallyofatoms/Numeral" "start" "I" u1 → Fld Z hL o "com/example/tally_of_atoms/tallyofatoms/Numeral" "end" "I" u2 → Fld Z hL o "com/example/tally_of_atoms/tallyofatoms/Numeral" "digits" "I" u3 → Fld Z hL o "com/example/tally_of_atoms/tallyofatoms/Numeral" "point" "Z" u4 → Fld Z hL o "com/example/tally_of_atoms/tallyofatoms/Numeral" "exponent" "Z" u5 → Fld Z hL o "com/example/tally_of_atoms/tallyofatoms/Numeral" "exponentDigits" "Z" u6 → Fld Z hL o "com/example/tally_of_atoms/tallyofatoms/Numeral" "special" "I" u7 → Fld Z hL o "com/example/tally_of_atoms/tallyofatoms/Numeral" "negative" "Z" u8 → Fld Z hL o "com/example/tally_of_atoms/tallyofatoms/Numeral" "significand" "J" (.long v9) → Fld Z hL o "com/example/tally_of_atoms/tallyofatoms/Numeral" "significandHigh" "J" (.long v10) → Fld Z hL o "com/example/tally_of_atoms/tallyofatoms/Numeral" "significantDigits" "I" (.int sv) → Fld Z hL o "com/example/tally_of_atoms/tallyofatoms/Numeral" "scale" "I" u12 → Fld Z hL o "com/example/tally_of_atoms/tallyofatoms/Numeral" "exponentValue" "I" u13 → Keep h0 hL [o] → Fr n0 LL → n0 ≤ hL.size → own_Go p e below (own_Ends s ({ frames := 3, cells := 0, slots := 0, locals := 60 } : Room) (fun v h L => ∃ r : Int32, v = some (.int r) ∧ r.toInt = ((own_rp f (lim - j0) j0 : Nat) : Int) ∧ Fr n0 L ∧ Keep h0 h [o] ∧ ∃ (v9 v10 : Int64) (sv : Int32), sv.toInt = ((own_rs f (lim - j0) j0 sd0 : Nat) : Int) ∧ Fld Z h o "com/example/tally_of_atoms/tallyofatoms/Numeral" "characters" "[C" u0 ∧ Fld Z h o "com/example/tally_of_atoms/tallyofatoms/Numeral" "start" "I" u1 ∧ Fld Z h o "com/example/tally_of_atoms/tallyofatoms/Numeral" "end" "I" u2 ∧ Fld Z h o "com/example/tally_of_atoms/tallyofatoms/Numeral" "digits" "I" u3 ∧ Fld Z h o "com/example/tally_of_atoms/tallyofatoms/Numeral" "point" "Z" u4 ∧ Fld Z h o "com/example/tally_of_atoms/tallyofatoms/Numeral" "exponent" "Z" u5 ∧ Fld Z h o "com/example/tally_of_atoms/tallyofatoms/Numeral" "exponentDigits" "Z" u6 ∧ Fld Z h o "com/example/tally_of_atoms/tallyofatoms/Numeral" "special" "I" u7 ∧ Fld Z h o "com/example/tally_of_atoms/tallyofatoms/Numeral" "negative" "Z" u8 ∧ Fld Z h o "com/example/tally_of_atoms/tallyofatoms/Numeral" "significand" "J" (.long v9) ∧ Fld Z h o "com/example/tally_of_atoms/tallyofatoms/Numeral" "significandHigh" "J" (.long v10) ∧ Fld Z h o "com/example/tally_of_atoms/tallyofatoms/Numeral" "significantDigits" "I" (.int sv) ∧ Fld Z h o "com/example/tally_of_atoms/tallyofatoms/Numeral" "scale" "I" u12 ∧ Fld Z h o "com/example/tally_of_atoms/tallyofatoms/Numeral" "exponentValue" "I" u13)) TL (mkF m 0 #[.val (.ref o), .val (.ref ca), .val (.int iv), .val (.int lv), s4] []) := by
    intro k
    induction k with
    | zero =>
      intro j sd iv sv v9 v10 s4 TL hL LL hs4 hjk hiv hsv hbd hP hS XL eL AL EL G0 G1 G2 G3 G4 G5 G6 G7 G8 G9 G10 G11 G12 G13 KL NL ZL
      refine own_by (T' := TL) (f' := (mkF m 1 #[.val (.ref o), .val (.ref ca), .val (.int iv), .val (.int lv), s4] [(.int iv)])) (fun t k => XS.iloadN XL.here hx rfl (hb hby d5_0) rfl k) ?_
      refine own_by (T' := TL) (f' := (mkF m 2 #[.val (.ref o), .val (.ref ca), .val (.int iv), .val (.int lv), s4] [(.int lv), (.int iv)])) (fun t k => XS.iloadN XL.here hx rfl (hb hby d5_1) rfl k) ?_
      have hc2_51 : ¬ (iv < lv) := (by rw [Int32.lt_iff_toInt_lt]; omega)
      refine own_by (T' := TL) (f' := (mkF m 101 #[.val (.ref o), .val (.ref ca), .val (.int iv), .val (.int lv), s4] [])) (fun t k => XS.icmpYes XL.here hx rfl (pc0 := 2) (pc' := 101) rfl (hb hby d5_2) rfl (flt hc2_51).2.1 (by decide) (by decide) k) ?_
      refine own_by (T' := TL) (f' := (mkF m 102 #[.val (.ref o), .val (.ref ca), .val (.int iv), .val (.int lv), s4] [(.int iv)])) (fun t k => XS.iloadN XL.here hx rfl (hb hby d5_101) rfl k) ?_
      refine own_retI XL hx hret hlk (hb hby d5_102) (by decide) (by decide) ?_
      try rw [eL]
      exact ⟨_, rfl, by rw [hP]; exact hiv, NL, KL, _, _, _, by rw [hS]; exact hsv, G0, G1, G2, G3, G4, G5, G6, G7, G8, G9, G10, G11, G12, G13⟩
    | succ k ih =>
      intro j sd iv sv v9 v10 s4 TL hL LL hs4 hjk hiv hsv hbd hP hS XL eL AL EL G0 G1 G2 G3 G4 G5 G6 G7 G8 G9 G10 G11 G12 G13 KL NL ZL
      refine own_by (T' := TL) (f' := (mkF m 1 #[.val (.ref o), .val (.ref ca), .val (.int iv), .val (.int lv), s4] [(.int iv)])) (fun t k => XS.iloadN XL.here hx rfl (hb hby d5_0) rfl k) ?_
      refine own_by (T' := TL) (f' := (mkF m 2 #[.val (.ref o), .val (.ref ca), .val (.int iv), .val (.int lv), s4] [(.int lv), (.int iv)])) (fun t k => XS.iloadN XL.here hx rfl (hb hby d5_1) rfl k) ?_
      have hc2_51 : iv < lv := (by rw [Int32.lt_iff_toInt_lt]; omega)
      refine own_by (T' := TL) (f' := (mkF m 5 #[.val (.ref o), .val (.ref ca), .val (.int iv), .val (.int lv), s4] [])) (fun t k => XS.icmpNo XL.here hx rfl (hb hby d5_2) rfl (tlt hc2_51).2.1 k) ?_
      refine own_by (T' := TL) (f' := (mkF m 6 #[.val (.ref o), .val (.ref ca), .val (.int iv), .val (.int lv), s4] [(.ref ca)])) (fun t k => XS.aloadN XL.here hx rfl (hb hby d5_5) rfl rfl k) ?_
      refine own_by (T' := TL) (f' := (mkF m 7 #[.val (.ref o), .val (.ref ca), .val (.int iv), .val (.int lv), s4] [(.int iv), (.ref ca)])) (fun t k => XS.iloadN XL.here hx rfl (hb hby d5_6) rfl k) ?_
      refine own_ldC XL hx hZ eL (hb hby d5_7) AL (by omega) (by omega) ?_
      rw [show iv.toInt.toNat = j from by omega]
      show own_Go p e below _ TL (mkF m 8 #[.val (.ref o), .val (.ref ca), .val (.int iv), .val (.int lv), s4] [(.int (f j))])
      refine own_by (T' := TL) (f' := (mkF m 10 #[.val (.ref o), .val (.ref ca), .val (.int iv), .val (.int lv), .val (.int (f j))] [])) (fun t k => XS.istore XL.here hx rfl (hb hby d5_8) rfl (l' := #[.val (.ref o), .val (.ref ca), .val (.int iv), .val (.int lv), .val (.int (f j))]) (os_b_5_8 hs4) k) ?_
      refine own_by (T' := TL) (f' := (mkF m 12 #[.val (.ref o), .val (.ref ca), .val (.int iv), .val (.int lv), .val (.int (f j))] [(.int (f j))])) (fun t k => XS.iload XL.here hx rfl (hb hby d5_10) rfl k) ?_
      refine own_callS XL hx hZ hown eL (hb hby d5_12) [(.int (f j))] [] 0 (rmDI l Z a0 hw [] (f j) hL) (own_w hw 42 rfl) (own_w hw 43 rfl) (own_w hw 8 rfl) (own_w hw 44 rfl) (by decide) pd__C_Z (by rw [hml]; rfl) rfl rfl (Nat.le_of_eq rfl) (by decide) (by decide) (by decide) (by decide) ?_
      rintro T52 _ L52 X52 ⟨rfl, rfl, e52⟩
      show own_Go p e below _ T52 (mkF m 15 #[.val (.ref o), .val (.ref ca), .val (.int iv), .val (.int lv), .val (.int (f j))] [(.int (own_dig (f j)))])
      rw [List.append_nil] at X52
      by_cases hc15_53 : (own_dig (f j)) = (0 : Int32)
      · have _ := X52
        refine own_by (T' := T52) (f' := (mkF m 18 #[.val (.ref o), .val (.ref ca), .val (.int iv), .val (.int lv), .val (.int (f j))] [])) (fun t k => XS.ifNo X52.here hx rfl (hb hby d5_15) rfl ((if0 _ _).trans (teq hc15_53).2) k) ?_
        refine own_by (T' := T52) (f' := (mkF m 101 #[.val (.ref o), .val (.ref ca), .val (.int iv), .val (.int lv), .val (.int (f j))] [])) (fun t k => XS.goto X52.here hx rfl (pc0 := 18) (pc' := 101) rfl (hb hby d5_18) (by decide) (by decide) k) ?_
        refine own_by (T' := T52) (f' := (mkF m 102 #[.val (.ref o), .val (.ref ca), .val (.int iv), .val (.int lv), .val (.int (f j))] [(.int iv)])) (fun t k => XS.iloadN X52.here hx rfl (hb hby d5_101) rfl k) ?_
        refine own_retI X52 hx hret hlk (hb hby d5_102) (by decide) (by decide) ?_
        try rw [e52]
        exact ⟨_, rfl, by rw [hP, own_rp, if_pos hc15_53]; exact hiv, NL, KL, _, _, _, by rw [hS, own_rs, if_pos hc15_53]; exact hsv, G0, G1, G2, G3, G4, G5, G6, G7, G8, G9, G10, G11, G12, G13⟩
      · have _ := X52
        refine own_by (T' := T52) (f' := (mkF m 21 #[.val (.ref o), .val (.ref ca), .val (.int iv), .val (.int lv), .val (.int (f j))] [])) (fun t k => XS.ifYes X52.here hx rfl (pc0 := 15) (pc' := 21) rfl (hb hby d5_15) rfl ((if0 _ _).trans (feq hc15_53).2) (by decide) (by decide) k) ?_
        refine own_by (T' := T52) (f' := (mkF m 22 #[.val (.ref o), .val (.ref ca), .val (.int iv), .val (.int lv), .val (.int (f j))] [(.ref o)])) (fun t k => XS.aloadN X52.here hx rfl (hb hby d5_21) rfl rfl k) ?_
        refine own_getF (host := "") X52 hx hZ hown e52 (hb hby d5_22) (Or.inl (own_w hw 32 rfl)) Via.refl G11 ?_
        intro T54 X54 e54
        show own_Go p e below _ T54 (mkF m 25 #[.val (.ref o), .val (.ref ca), .val (.int iv), .val (.int lv), .val (.int (f j))] [(.int sv)])
        by_cases hc25_55 : (0 : Int32) < sv
        · have _ := X54
          refine own_by (T' := T54) (f' := (mkF m 35 #[.val (.ref o), .val (.ref ca), .val (.int iv), .val (.int lv), .val (.int (f j))] [])) (fun t k => XS.ifYes X54.here hx rfl (pc0 := 25) (pc' := 35) rfl (hb hby d5_25) rfl ((if0 _ _).trans (tlt hc25_55).2.2.1) (by decide) (by decide) k) ?_
          refine own_by (T' := T54) (f' := (mkF m 36 #[.val (.ref o), .val (.ref ca), .val (.int iv), .val (.int lv), .val (.int (f j))] [(.ref o)])) (fun t k => XS.aloadN X54.here hx rfl (hb hby d5_35) rfl rfl k) ?_
          refine own_by (T' := T54) (f' := (mkF m 37 #[.val (.ref o), .val (.ref ca), .val (.int iv), .val (.int lv), .val (.int (f j))] [(.ref o), (.ref o)])) (fun t k => XS.dup X54.here hx rfl (hb hby d5_36) rfl rfl k) ?_
          refine own_getF (host := "") X54 hx hZ hown e54 (hb hby d5_37) (Or.inl (own_w hw 32 rfl)) Via.refl G11 ?_
          intro T56 X56 e56
          show own_Go p e below _ T56 (mkF m 40 #[.val (.ref o), .val (.ref ca), .val (.int iv), .val (.int lv), .val (.int (f j))] [(.int sv), (.ref o)])
          refine own_by (T' := T56) (f' := (mkF m 41 #[.val (.ref o), .val (.ref ca), .val (.int iv), .val (.int lv), .val (.int (f j))] [(.int (1 : Int32)), (.int sv), (.ref o)])) (fun t k => XS.iconst X56.here hx rfl (hb hby d5_40) k) ?_
          refine own_by (T' := T56) (f' := (mkF m 42 #[.val (.ref o), .val (.ref ca), .val (.int iv), .val (.int lv), .val (.int (f j))] [(.int (sv + (1 : Int32))), (.ref o)])) (fun t k => XS.iadd X56.here hx rfl (hb hby d5_41) rfl k) ?_
          refine own_putF (host := "") X56 hx hZ hown e56 (hb hby d5_42) (Or.inl (own_w hw 32 rfl)) Via.refl G11 EL (Or.inl (own_w hw 33 rfl)) (own_w hw 7 rfl) (ty := .int) (by decide) rfl rfl ?_
          intro T57 h57 X57 e57 W57
          show own_Go p e below _ T57 (mkF m 45 #[.val (.ref o), .val (.ref ca), .val (.int iv), .val (.int lv), .val (.int (f j))] [])
          have F57 := G11.same W57
          have sz58 : n0 ≤ h57.size := by rw [W57.size]; exact ZL
          have K59 := KL.wr W57 (Or.inl (List.mem_of_getElem? (i := 0) rfl))
          have N57 := Fr.snoc X57 NL go
          refine own_by (T' := T57) (f' := (mkF m 46 #[.val (.ref o), .val (.ref ca), .val (.int iv), .val (.int lv), .val (.int (f j))] [(.ref o)])) (fun t k => XS.aloadN X57.here hx rfl (hb hby d5_45) rfl rfl k) ?_
          refine own_getF (host := "") X57 hx hZ hown e57 (hb hby d5_46) (Or.inl (own_w hw 32 rfl)) Via.refl F57 ?_
          intro T60 X60 e60
          show own_Go p e below _ T60 (mkF m 49 #[.val (.ref o), .val (.ref ca), .val (.int iv), .val (.int lv), .val (.int (f j))] [(.int (sv + (1 : Int32)))])
          refine own_by (T' := T60) (f' := (mkF m 51 #[.val (.ref o), .val (.ref ca), .val (.int iv), .val (.int lv), .val (.int (f j))] [(.int (18 : Int32)), (.int (sv + (1 : Int32)))])) (fun t k => XS.bipush X60.here hx rfl (hb hby d5_49) k) ?_
          by_cases hc51_61 : (18 : Int32) < (sv + (1 : Int32))
          · have _ := X60
            refine own_by (T' := T60) (f' := (mkF m 77 #[.val (.ref o), .val (.ref ca), .val (.int iv), .val (.int lv), .val (.int (f j))] [])) (fun t k => XS.icmpYes X60.here hx rfl (pc0 := 51) (pc' := 77) rfl (hb hby d5_51) rfl (tlt hc51_61).2.2.1 (by decide) (by decide) k) ?_
            refine own_by (T' := T60) (f' := (mkF m 78 #[.val (.ref o), .val (.ref ca), .val (.int iv), .val (.int lv), .val (.int (f j))] [(.ref o)])) (fun t k => XS.aloadN X60.here hx rfl (hb hby d5_77) rfl rfl k) ?_
            refine own_getF (host := "") X60 hx hZ hown e60 (hb hby d5_78) (Or.inl (own_w hw 32 rfl)) Via.refl F57 ?_
            intro T62 X62 e62
            show own_Go p e below _ T62 (mkF m 81 #[.val (.ref o), .val (.ref ca), .val (.int iv), .val (.int lv), .val (.int (f j))] [(.int (sv + (1 : Int32)))])
            refine own_by (T' := T62) (f' := (mkF m 83 #[.val (.ref o), .val (.ref ca), .val (.int iv), .val (.int lv), .val (.int (f j))] [(.int (38 : Int32)), (.int (sv + (1 : Int32)))])) (fun t k => XS.bipush X62.here hx rfl (hb hby d5_81) k) ?_
            by_cases hc83_63 : (38 : Int32) < (sv + (1 : Int32))
            · have _ := X62
              refine own_by (T' := T62) (f' := (mkF m 95 #[.val (.ref o), .val (.ref ca), .val (.int iv), .val (.int lv), .val (.int (f j))] [])) (fun t k => XS.icmpYes X62.here hx rfl (pc0 := 83) (pc' := 95) rfl (hb hby d5_83) rfl (tlt hc83_63).2.2.1 (by decide) (by decide) k) ?_
              refine own_by (T' := T62) (f' := (mkF m 98 #[.val (.ref o), .val (.ref ca), .val (.int (iv + (1 : Int32))), .val (.int lv), .val (.int (f j))] [])) (fun t k => XS.iinc X62.here hx rfl (hb hby d5_95) rfl (l' := #[.val (.ref o), .val (.ref ca), .val (.int (iv + (1 : Int32))), .val (.int lv), .val (.int (f j))]) rfl k) ?_
              refine own_by (T' := T62) (f' := (mkF m 0 #[.val (.ref o), .val (.ref ca), .val (.int (iv + (1 : Int32))), .val (.int lv), .val (.int (f j))] [])) (fun t k => XS.goto X62.here hx rfl (pc0 := 98) (pc' := 0) rfl (hb hby d5_98) (by decide) (by decide) k) ?_
              have z0 : (0 : Int32).toInt = ((0 : Nat) : Int) := by decide
              have cnd : 0 < sd ∨ ¬ f j = (48 : Int32) := Or.inl (own_ltn z0 hsv hc25_55)
              have f64 := (AL.other W57 nco)
              have f65 := (EL.wr W57)
              have f66 := (G0.other W57 (Or.inr (sn_26 hw)))
              have f67 := (G1.other W57 (Or.inr (sn_27 hw)))
              have f68 := (G2.other W57 (Or.inr (sn_28 hw)))
              have f69 := (G3.other W57 (Or.inr (sn_29 hw)))
              have f70 := (G4.other W57 (Or.inr (sn_30 hw)))
              have f71 := (G5.other W57 (Or.inr (sn_31 hw)))
              have f72 := (G6.other W57 (Or.inr (sn_32 hw)))
              have f73 := (G7.other W57 (Or.inr (sn_33 hw)))
              have f74 := (G8.other W57 (Or.inr (sn_34 hw)))
              have f75 := (G9.other W57 (Or.inr (sn_35 hw)))
              have f76 := (G10.other W57 (Or.inr (sn_36 hw)))
              have f77 := (G12.other W57 (Or.inr (sn_37 hw)))
              have f78 := (G13.other W57 (Or.inr (sn_38 hw)))
              exact ih (j + 1) (sd + 1) (iv + (1 : Int32)) (sv + (1 : Int32)) v9 v10 (.val (.int (f j))) T62 h57 _ (Or.inr ⟨_, rfl, rfl⟩) (by omega) (own_inc hiv (by omega : j < 1000) (by omega)) (own_inc hsv (by omega : sd < 1000) (by omega)) (by omega) (by rw [hP, own_rp, if_neg hc15_53]) (by rw [hS, own_rs, if_neg hc15_53, if_pos cnd]) X62 e62 f64 f65 f66 f67 f68 f69 f70 f71 f72 f73 f74 f75 f76 F57 f77 f78 K59 N57 sz58
            · have _ := X62
              refine own_by (T' := T62) (f' := (mkF m 86 #[.val (.ref o), .val (.ref ca), .val (.int iv), .val (.int lv), .val (.int (f j))] [])) (fun t k => XS.icmpNo X62.here hx rfl (hb hby d5_83) rfl (flt hc83_63).2.2.1 k) ?_
              refine own_by (T' := T62) (f' := (mkF m 87 #[.val (.ref o), .val (.ref ca), .val (.int iv), .val (.int lv), .val (.int (f j))] [(.ref o)])) (fun t k => XS.aloadN X62.here hx rfl (hb hby d5_86) rfl rfl k) ?_
              refine own_by (T' := T62) (f' := (mkF m 89 #[.val (.ref o), .val (.ref ca), .val (.int iv), .val (.int lv), .val (.int (f j))] [(.int (f j)), (.ref o)])) (fun t k => XS.iload X62.here hx rfl (hb hby d5_87) rfl k) ?_
              refine own_by (T' := T62) (f' := (mkF m 91 #[.val (.ref o), .val (.ref ca), .val (.int iv), .val (.int lv), .val (.int (f j))] [(.int (48 : Int32)), (.int (f j)), (.ref o)])) (fun t k => XS.bipush X62.here hx rfl (hb hby d5_89) k) ?_
              refine own_by (T' := T62) (f' := (mkF m 92 #[.val (.ref o), .val (.ref ca), .val (.int iv), .val (.int lv), .val (.int (f j))] [(.int ((f j) - (48 : Int32))), (.ref o)])) (fun t k => XS.isub X62.here hx rfl (hb hby d5_91) rfl k) ?_
              have f79 := (EL.wr W57)
              have q80 : ∀ x ∈ [o], ∃ c : Cell, h57[x]? = some c ∧ c.vm.isStatics = false := (allS (own_ns f79) all0)
              have f81 := (G0.other W57 (Or.inr (sn_26 hw)))
              have f82 := (G1.other W57 (Or.inr (sn_27 hw)))
              have f83 := (G2.other W57 (Or.inr (sn_28 hw)))
              have f84 := (G3.other W57 (Or.inr (sn_29 hw)))
              have f85 := (G4.other W57 (Or.inr (sn_30 hw)))
              have f86 := (G5.other W57 (Or.inr (sn_31 hw)))
              have f87 := (G6.other W57 (Or.inr (sn_32 hw)))
              have f88 := (G7.other W57 (Or.inr (sn_33 hw)))
              have f89 := (G8.other W57 (Or.inr (sn_34 hw)))
              have f90 := (G9.other W57 (Or.inr (sn_35 hw)))
              have f91 := (G10.other W57 (Or.inr (sn_36 hw)))
              have f92 := (G12.other W57 (Or.inr (sn_37 hw)))
              have f93 := (G13.other W57 (Or.inr (sn_38 hw)))
              refine own_callP X62 hx hZ hown e62 (hb hby d5_92) [(.int ((f j) - (48 : Int32)))] [] 0 (rmAP l Z a0 hw [] o ((f j) - (48 : Int32)) v9 v10 u0 u1 u2 u3 u4 u5 u6 u7 u8 (.int (sv + (1 : Int32))) u12 u13 h57 n0 sz58 go f79 f81 f82 f83 f84 f85 f86 f87 f88 f89 f90 f91 F57 f92 f93) f79 (own_w hw 76 rfl) (own_w hw 77 rfl) (own_selP (y := (⟨"com/example/tally_of_atoms/tallyofatoms/Numeral", "appendTo128Bits", "(I)V"⟩ : MethodName)) (own_w hw 7 rfl) (own_w hw 77 rfl) (own_w hw 78 rfl) (by decide)) (own_w hw 78 rfl) (own_w hw 8 rfl) (own_w hw 79 rfl) (by decide) pd__I_V (by rw [hml]; rfl) rfl rfl (Nat.le_of_eq rfl) (by decide) (by decide) (by decide) (by decide) ?_
              rintro T94 _ L94 X94 ⟨rfl, N94q, K94, x9, x10, P0, P1, P2, P3, P4, P5, P6, P7, P8, P9, P10, P11, P12, P13⟩
              show own_Go p e below _ T94 (mkF m 95 #[.val (.ref o), .val (.ref ca), .val (.int iv), .val (.int lv), .val (.int (f j))] [])
              have N94 := Fr.app N57 N94q
              have sz95 : n0 ≤ T94.heap.size := Nat.le_trans sz58 K94.1
              have K96 := K59.trans K94 (allS (Or.inl (List.mem_of_getElem? (i := 0) rfl)) all0)
              refine own_by (T' := T94) (f' := (mkF m 98 #[.val (.ref o), .val (.ref ca), .val (.int (iv + (1 : Int32))), .val (.int lv), .val (.int (f j))] [])) (fun t k => XS.iinc X94.here hx rfl (hb hby d5_95) rfl (l' := #[.val (.ref o), .val (.ref ca), .val (.int (iv + (1 : Int32))), .val (.int lv), .val (.int (f j))]) rfl k) ?_
              refine own_by (T' := T94) (f' := (mkF m 0 #[.val (.ref o), .val (.ref ca), .val (.int (iv + (1 : Int32))), .val (.int lv), .val (.int (f j))] [])) (fun t k => XS.goto X94.here hx rfl (pc0 := 98) (pc' := 0) rfl (hb hby d5_98) (by decide) (by decide) k) ?_
              have z0 : (0 : Int32).toInt = ((0 : Nat) : Int) := by decide
              have cnd : 0 < sd ∨ ¬ f j = (48 : Int32) := Or.inl (own_ltn z0 hsv hc25_55)
              have f97 := ((AL.other W57 nco).keep K94 (ninS nco nin0))
              have f98 := (f79.keep K94)
              exact ih (j + 1) (sd + 1) (iv + (1 : Int32)) (sv + (1 : Int32)) x9 x10 (.val (.int (f j))) T94 T94.heap _ (Or.inr ⟨_, rfl, rfl⟩) (by omega) (own_inc hiv (by omega : j < 1000) (by omega)) (own_inc hsv (by omega : sd < 1000) (by omega)) (by omega) (by rw [hP, own_rp, if_neg hc15_53]) (by rw [hS, own_rs, if_neg hc15_53, if_pos cnd]) X94 rfl f97 f98 P0 P1 P2 P3 P4 P5 P6 P7 P8 P9 P10 P11 P12 P13 K96 N94 sz95
          · have _ := X60
            refine own_by (T' := T60) (f' := (mkF m 54 #[.val (.ref o), .val (.ref ca), .val (.int iv), .val (.int lv), .val (.int (f j))] [])) (fun t k => XS.icmpNo X60.here hx rfl (hb hby d5_51) rfl (flt hc51_61).2.2.1 k) ?_
            refine own_by (T' := T60) (f' := (mkF m 55 #[.val (.ref o), .val (.ref ca), .val (.int iv), .val (.int lv), .val (.int (f j))] [(.ref o)])) (fun t k => XS.aloadN X60.here hx rfl (hb hby d5_54) rfl rfl k) ?_
            refine own_by (T' := T60) (f' := (mkF m 56 #[.val (.ref o), .val (.ref ca), .val (.int iv), .val (.int lv), .val (.int (f j))] [(.ref o), (.ref o)])) (fun t k => XS.aloadN X60.here hx rfl (hb hby d5_55) rfl rfl k) ?_
            have f99 := (G9.other W57 (Or.inr (sn_35 hw)))
            refine own_getF (host := "") X60 hx hZ hown e60 (hb hby d5_56) (Or.inl (own_w hw 28 rfl)) Via.refl f99 ?_
            intro T100 X100 e100
            show own_Go p e below _ T100 (mkF m 59 #[.val (.ref o), .val (.ref ca), .val (.int iv), .val (.int lv), .val (.int (f j))] [(.long v9), (.ref o)])
            refine own_by (T' := T100) (f' := (mkF m 62 #[.val (.ref o), .val (.ref ca), .val (.int iv), .val (.int lv), .val (.int (f j))] [(.long (10 : Int64)), (.long v9), (.ref o)])) (fun t k => X100.ldc2Long hx hown (mvT hZ (own_w hw 69 rfl)) (g := (mkF m 59 #[.val (.ref o), .val (.ref ca), .val (.int iv), .val (.int lv), .val (.int (f j))] [(.long v9), (.ref o)])) rfl (hb hby d5_59) _ k) ?_
            refine own_by (T' := T100) (f' := (mkF m 63 #[.val (.ref o), .val (.ref ca), .val (.int iv), .val (.int lv), .val (.int (f j))] [(.long (v9 * (10 : Int64))), (.ref o)])) (fun t k => XS.lmul X100.here hx rfl (hb hby d5_62) rfl k) ?_
            refine own_by (T' := T100) (f' := (mkF m 65 #[.val (.ref o), .val (.ref ca), .val (.int iv), .val (.int lv), .val (.int (f j))] [(.int (f j)), (.long (v9 * (10 : Int64))), (.ref o)])) (fun t k => XS.iload X100.here hx rfl (hb hby d5_63) rfl k) ?_
            refine own_by (T' := T100) (f' := (mkF m 66 #[.val (.ref o), .val (.ref ca), .val (.int iv), .val (.int lv), .val (.int (f j))] [(.long ((f j).toInt64)), (.long (v9 * (10 : Int64))), (.ref o)])) (fun t k => XS.i2l X100.here hx rfl (hb hby d5_65) rfl k) ?_
            refine own_by (T' := T100) (f' := (mkF m 67 #[.val (.ref o), .val (.ref ca), .val (.int iv), .val (.int lv), .val (.int (f j))] [(.long ((v9 * (10 : Int64)) + ((f j).toInt64))), (.ref o)])) (fun t k => XS.ladd X100.here hx rfl (hb hby d5_66) rfl k) ?_
            refine own_by (T' := T100) (f' := (mkF m 70 #[.val (.ref o), .val (.ref ca), .val (.int iv), .val (.int lv), .val (.int (f j))] [(.long (48 : Int64)), (.long ((v9 * (10 : Int64)) + ((f j).toInt64))), (.ref o)])) (fun t k => X100.ldc2Long hx hown (mvT hZ (own_w hw 70 rfl)) (g := (mkF m 67 #[.val (.ref o), .val (.ref ca), .val (.int iv), .val (.int lv), .val (.int (f j))] [(.long ((v9 * (10 : Int64)) + ((f j).toInt64))), (.ref o)])) rfl (hb hby d5_67) _ k) ?_
            refine own_by (T' := T100) (f' := (mkF m 71 #[.val (.ref o), .val (.ref ca), .val (.int iv), .val (.int lv), .val (.int (f j))] [(.long (((v9 * (10 : Int64)) + ((f j).toInt64)) - (48 : Int64))), (.ref o)])) (fun t k => XS.lsub X100.here hx rfl (hb hby d5_70) rfl k) ?_
            obtain ⟨vs, hvs⟩ : ∃ z : Int64, z = (((v9 * (10 : Int64)) + ((f j).toInt64)) - (48 : Int64)) := ⟨_, rfl⟩
            rw [← hvs]
            show own_Go p e below _ T100 (mkF m 71 #[.val (.ref o), .val (.ref ca), .val (.int iv), .val (.int lv), .val (.int (f j))] [(.long vs), (.ref o)])
            have f101 := (EL.wr W57)
            refine own_putF (host := "") X100 hx hZ hown e100 (hb hby d5_71) (Or.inl (own_w hw 28 rfl)) Via.refl f99 f101 (Or.inl (own_w hw 29 rfl)) (own_w hw 7 rfl) (ty := .long) (by decide) rfl rfl ?_
            intro T102 h102 X102 e102 W102
            show own_Go p e below _ T102 (mkF m 74 #[.val (.ref o), .val (.ref ca), .val (.int iv), .val (.int lv), .val (.int (f j))] [])
            have F102 := f99.same W102
            have sz103 : n0 ≤ h102.size := by rw [W102.size]; exact sz58
            have K104 := K59.wr W102 (Or.inl (List.mem_of_getElem? (i := 0) rfl))
            have N102 := Fr.snoc X102 N57 go
            refine own_by (T' := T102) (f' := (mkF m 95 #[.val (.ref o), .val (.ref ca), .val (.int iv), .val (.int lv), .val (.int (f j))] [])) (fun t k => XS.goto X102.here hx rfl (pc0 := 74) (pc' := 95) rfl (hb hby d5_74) (by decide) (by decide) k) ?_
            refine own_by (T' := T102) (f' := (mkF m 98 #[.val (.ref o), .val (.ref ca), .val (.int (iv + (1 : Int32))), .val (.int lv), .val (.int (f j))] [])) (fun t k => XS.iinc X102.here hx rfl (hb hby d5_95) rfl (l' := #[.val (.ref o), .val (.ref ca), .val (.int (iv + (1 : Int32))), .val (.int lv), .val (.int (f j))]) rfl k) ?_
            refine own_by (T' := T102) (f' := (mkF m 0 #[.val (.ref o), .val (.ref ca), .val (.int (iv + (1 : Int32))), .val (.int lv), .val (.int (f j))] [])) (fun t k => XS.goto X102.here hx rfl (pc0 := 98) (pc' := 0) rfl (hb hby d5_98) (by decide) (by decide) k) ?_
            have z0 : (0 : Int32).toInt = ((0 : Nat) : Int) := by decide
            have cnd : 0 < sd ∨ ¬ f j = (48 : Int32) := Or.inl (own_ltn z0 hsv hc25_55)
            have f105 := ((AL.other W57 nco).other W102 nco)
            have f106 := (f101.wr W102)
            have f107 := ((G0.other W57 (Or.inr (sn_26 hw))).other W102 (Or.inr (sn_2 hw)))
            have f108 := ((G1.other W57 (Or.inr (sn_27 hw))).other W102 (Or.inr (sn_4 hw)))
            have f109 := ((G2.other W57 (Or.inr (sn_28 hw))).other W102 (Or.inr (sn_6 hw)))
            have f110 := ((G3.other W57 (Or.inr (sn_29 hw))).other W102 (Or.inr (sn_8 hw)))
            have f111 := ((G4.other W57 (Or.inr (sn_30 hw))).other W102 (Or.inr (sn_10 hw)))
            have f112 := ((G5.other W57 (Or.inr (sn_31 hw))).other W102 (Or.inr (sn_12 hw)))
            have f113 := ((G6.other W57 (Or.inr (sn_32 hw))).other W102 (Or.inr (sn_14 hw)))
            have f114 := ((G7.other W57 (Or.inr (sn_33 hw))).other W102 (Or.inr (sn_16 hw)))
            have f115 := ((G8.other W57 (Or.inr (sn_34 hw))).other W102 (Or.inr (sn_18 hw)))
            have f116 := ((G10.other W57 (Or.inr (sn_36 hw))).other W102 (Or.inr (sn_19 hw)))
            have f117 := (F57.other W102 (Or.inr (sn_21 hw)))
            have f118 := ((G12.other W57 (Or.inr (sn_37 hw))).other W102 (Or.inr (sn_23 hw)))
            have f119 := ((G13.other W57 (Or.inr (sn_38 hw))).other W102 (Or.inr (sn_25 hw)))
            exact ih (j + 1) (sd + 1) (iv + (1 : Int32)) (sv + (1 : Int32)) vs v10 (.val (.int (f j))) T102 h102 _ (Or.inr ⟨_, rfl, rfl⟩) (by omega) (own_inc hiv (by omega : j < 1000) (by omega)) (own_inc hsv (by omega : sd < 1000) (by omega)) (by omega) (by rw [hP, own_rp, if_neg hc15_53]) (by rw [hS, own_rs, if_neg hc15_53, if_pos cnd]) X102 e102 f105 f106 f107 f108 f109 f110 f111 f112 f113 f114 f115 F102 f116 f117 f118 f119 K104 N102 sz103
        · have _ := X54
          refine own_by (T' := T54) (f' := (mkF m 28 #[.val (.ref o), .val (.ref ca), .val (.int iv), .val (.int lv), .val (.int (f j))] [])) (fun t k => XS.ifNo X54.here hx rfl (hb hby d5_25) rfl ((if0 _ _).trans (flt hc25_55).2.2.1) k) ?_
          refine own_by (T' := T54) (f' := (mkF m 30 #[.val (.ref o), .val (.ref ca), .val (.int iv), .val (.int lv), .val (.int (f j))] [(.int (f j))])) (fun t k => XS.iload X54.here hx rfl (hb hby d5_28) rfl k) ?_
          refine own_by (T' := T54) (f' := (mkF m 32 #[.val (.ref o), .val (.ref ca), .val (.int iv), .val (.int lv), .val (.int (f j))] [(.int (48 : Int32)), (.int (f j))])) (fun t k => XS.bipush X54.here hx rfl (hb hby d5_30) k) ?_
          by_cases hc32_120 : (f j) = (48 : Int32)
          · have _ := X54
            refine own_by (T' := T54) (f' := (mkF m 95 #[.val (.ref o), .val (.ref ca), .val (.int iv), .val (.int lv), .val (.int (f j))] [])) (fun t k => XS.icmpYes X54.here hx rfl (pc0 := 32) (pc' := 95) rfl (hb hby d5_32) rfl (teq hc32_120).1 (by decide) (by decide) k) ?_
            refine own_by (T' := T54) (f' := (mkF m 98 #[.val (.ref o), .val (.ref ca), .val (.int (iv + (1 : Int32))), .val (.int lv), .val (.int (f j))] [])) (fun t k => XS.iinc X54.here hx rfl (hb hby d5_95) rfl (l' := #[.val (.ref o), .val (.ref ca), .val (.int (iv + (1 : Int32))), .val (.int lv), .val (.int (f j))]) rfl k) ?_
            refine own_by (T' := T54) (f' := (mkF m 0 #[.val (.ref o), .val (.ref ca), .val (.int (iv + (1 : Int32))), .val (.int lv), .val (.int (f j))] [])) (fun t k => XS.goto X54.here hx rfl (pc0 := 98) (pc' := 0) rfl (hb hby d5_98) (by decide) (by decide) k) ?_
            have z0 : (0 : Int32).toInt = ((0 : Nat) : Int) := by decide
            have cnd : ¬ (0 < sd ∨ ¬ f j = (48 : Int32)) := fun q => q.elim (own_nltn z0 hsv hc25_55) (fun q => q hc32_120)
            exact ih (j + 1) sd (iv + (1 : Int32)) sv v9 v10 (.val (.int (f j))) T54 hL _ (Or.inr ⟨_, rfl, rfl⟩) (by omega) (own_inc hiv (by omega : j < 1000) (by omega)) hsv (by omega) (by rw [hP, own_rp, if_neg hc15_53]) (by rw [hS, own_rs, if_neg hc15_53, if_neg cnd]) X54 e54 AL EL G0 G1 G2 G3 G4 G5 G6 G7 G8 G9 G10 G11 G12 G13 KL NL ZL
          · have _ := X54
            refine own_by (T' := T54) (f' := (mkF m 35 #[.val (.ref o), .val (.ref ca), .val (.int iv), .val (.int lv), .val (.int (f j))] [])) (fun t k => XS.icmpNo X54.here hx rfl (hb hby d5_32) rfl (feq hc32_120).1 k) ?_
            refine own_by (T' := T54) (f' := (mkF m 36 #[.val (.ref o), .val (.ref ca), .val (.int iv), .val (.int lv), .val (.int (f j))] [(.ref o)])) (fun t k => XS.aloadN X54.here hx rfl (hb hby d5_35) rfl rfl k) ?_
            refine own_by (T' := T54) (f' := (mkF m 37 #[.val (.ref o), .val (.ref ca), .val (.int iv), .val (.int lv), .val (.int (f j))] [(.ref o), (.ref o)])) (fun t k => XS.dup X54.here hx rfl (hb hby d5_36) rfl rfl k) ?_
            refine own_getF (host := "") X54 hx hZ hown e54 (hb hby d5_37) (Or.inl (own_w hw 32 rfl)) Via.refl G11 ?_
            intro T121 X121 e121
            show own_Go p e below _ T121 (mkF m 40 #[.val (.ref o), .val (.ref ca), .val (.int iv), .val (.int lv), .val (.int (f j))] [(.int sv), (.ref o)])
            refine own_by (T' := T121) (f' := (mkF m 41 #[.val (.ref o), .val (.ref ca), .val (.int iv), .val (.int lv), .val (.int (f j))] [(.int (1 : Int32)), (.int sv), (.ref o)])) (fun t k => XS.iconst X121.here hx rfl (hb hby d5_40) k) ?_
            refine own_by (T' := T121) (f' := (mkF m 42 #[.val (.ref o), .val (.ref ca), .val (.int iv), .val (.int lv), .val (.int (f j))] [(.int (sv + (1 : Int32))), (.ref o)])) (fun t k => XS.iadd X121.here hx rfl (hb hby d5_41) rfl k) ?_
            refine own_putF (host := "") X121 hx hZ hown e121 (hb hby d5_42) (Or.inl (own_w hw 32 rfl)) Via.refl G11 EL (Or.inl (own_w hw 33 rfl)) (own_w hw 7 rfl) (ty := .int) (by decide) rfl rfl ?_
            intro T122 h122 X122 e122 W122
            show own_Go p e below _ T122 (mkF m 45 #[.val (.ref o), .val (.ref ca), .val (.int iv), .val (.int lv), .val (.int (f j))] [])
            have F122 := G11.same W122
            have sz123 : n0 ≤ h122.size := by rw [W122.size]; exact ZL
            have K124 := KL.wr W122 (Or.inl (List.mem_of_getElem? (i := 0) rfl))
            have N122 := Fr.snoc X122 NL go
            refine own_by (T' := T122) (f' := (mkF m 46 #[.val (.ref o), .val (.ref ca), .val (.int iv), .val (.int lv), .val (.int (f j))] [(.ref o)])) (fun t k => XS.aloadN X122.here hx rfl (hb hby d5_45) rfl rfl k) ?_
            refine own_getF (host := "") X122 hx hZ hown e122 (hb hby d5_46) (Or.inl (own_w hw 32 rfl)) Via.refl F122 ?_
            intro T125 X125 e125
            show own_Go p e below _ T125 (mkF m 49 #[.val (.ref o), .val (.ref ca), .val (.int iv), .val (.int lv), .val (.int (f j))] [(.int (sv + (1 : Int32)))])
            refine own_by (T' := T125) (f' := (mkF m 51 #[.val (.ref o), .val (.ref ca), .val (.int iv), .val (.int lv), .val (.int (f j))] [(.int (18 : Int32)), (.int (sv + (1 : Int32)))])) (fun t k => XS.bipush X125.here hx rfl (hb hby d5_49) k) ?_
            by_cases hc51_126 : (18 : Int32) < (sv + (1 : Int32))
            · have _ := X125
              refine own_by (T' := T125) (f' := (mkF m 77 #[.val (.ref o), .val (.ref ca), .val (.int iv), .val (.int lv), .val (.int (f j))] [])) (fun t k => XS.icmpYes X125.here hx rfl (pc0 := 51) (pc' := 77) rfl (hb hby d5_51) rfl (tlt hc51_126).2.2.1 (by decide) (by decide) k) ?_
              refine own_by (T' := T125) (f' := (mkF m 78 #[.val (.ref o), .val (.ref ca), .val (.int iv), .val (.int lv), .val (.int (f j))] [(.ref o)])) (fun t k => XS.aloadN X125.here hx rfl (hb hby d5_77) rfl rfl k) ?_
              refine own_getF (host := "") X125 hx hZ hown e125 (hb hby d5_78) (Or.inl (own_w hw 32 rfl)) Via.refl F122 ?_
              intro T127 X127 e127
              show own_Go p e below _ T127 (mkF m 81 #[.val (.ref o), .val (.ref ca), .val (.int iv), .val (.int lv), .val (.int (f j))] [(.int (sv + (1 : Int32)))])
              refine own_by (T' := T127) (f' := (mkF m 83 #[.val (.ref o), .val (.ref ca), .val (.int iv), .val (.int lv), .val (.int (f j))] [(.int (38 : Int32)), (.int (sv + (1 : Int32)))])) (fun t k => XS.bipush X127.here hx rfl (hb hby d5_81) k) ?_
              by_cases hc83_128 : (38 : Int32) < (sv + (1 : Int32))
              · have _ := X127
                refine own_by (T' := T127) (f' := (mkF m 95 #[.val (.ref o), .val (.ref ca), .val (.int iv), .val (.int lv), .val (.int (f j))] [])) (fun t k => XS.icmpYes X127.here hx rfl (pc0 := 83) (pc' := 95) rfl (hb hby d5_83) rfl (tlt hc83_128).2.2.1 (by decide) (by decide) k) ?_
                refine own_by (T' := T127) (f' := (mkF m 98 #[.val (.ref o), .val (.ref ca), .val (.int (iv + (1 : Int32))), .val (.int lv), .val (.int (f j))] [])) (fun t k => XS.iinc X127.here hx rfl (hb hby d5_95) rfl (l' := #[.val (.ref o), .val (.ref ca), .val (.int (iv + (1 : Int32))), .val (.int lv), .val (.int (f j))]) rfl k) ?_
                refine own_by (T' := T127) (f' := (mkF m 0 #[.val (.ref o), .val (.ref ca), .val (.int (iv + (1 : Int32))), .val (.int lv), .val (.int (f j))] [])) (fun t k => XS.goto X127.here hx rfl (pc0 := 98) (pc' := 0) rfl (hb hby d5_98) (by decide) (by decide) k) ?_
                have z0 : (0 : Int32).toInt = ((0 : Nat) : Int) := by decide
                have cnd : 0 < sd ∨ ¬ f j = (48 : Int32) := Or.inr hc32_120
                have f129 := (AL.other W122 nco)
                have f130 := (EL.wr W122)
                have f131 := (G0.other W122 (Or.inr (sn_26 hw)))
                have f132 := (G1.other W122 (Or.inr (sn_27 hw)))
                have f133 := (G2.other W122 (Or.inr (sn_28 hw)))
                have f134 := (G3.other W122 (Or.inr (sn_29 hw)))
                have f135 := (G4.other W122 (Or.inr (sn_30 hw)))
                have f136 := (G5.other W122 (Or.inr (sn_31 hw)))
                have f137 := (G6.other W122 (Or.inr (sn_32 hw)))
                have f138 := (G7.other W122 (Or.inr (sn_33 hw)))
                have f139 := (G8.other W122 (Or.inr (sn_34 hw)))
                have f140 := (G9.other W122 (Or.inr (sn_35 hw)))
                have f141 := (G10.other W122 (Or.inr (sn_36 hw)))
                have f142 := (G12.other W122 (Or.inr (sn_37 hw)))
                have f143 := (G13.other W122 (Or.inr (sn_38 hw)))
                exact ih (j + 1) (sd + 1) (iv + (1 : Int32)) (sv + (1 : Int32)) v9 v10 (.val (.int (f j))) T127 h122 _ (Or.inr ⟨_, rfl, rfl⟩) (by omega) (own_inc hiv (by omega : j < 1000) (by omega)) (own_inc hsv (by omega : sd < 1000) (by omega)) (by omega) (by rw [hP, own_rp, if_neg hc15_53]) (by rw [hS, own_rs, if_neg hc15_53, if_pos cnd]) X127 e127 f129 f130 f131 f132 f133 f134 f135 f136 f137 f138 f139 f140 f141 F122 f142 f143 K124 N122 sz123
              · have _ := X127
                refine own_by (T' := T127) (f' := (mkF m 86 #[.val (.ref o), .val (.ref ca), .val (.int iv), .val (.int lv), .val (.int (f j))] [])) (fun t k => XS.icmpNo X127.here hx rfl (hb hby d5_83) rfl (flt hc83_128).2.2.1 k) ?_
                refine own_by (T' := T127) (f' := (mkF m 87 #[.val (.ref o), .val (.ref ca), .val (.int iv), .val (.int lv), .val (.int (f j))] [(.ref o)])) (fun t k => XS.aloadN X127.here hx rfl (hb hby d5_86) rfl rfl k) ?_
                refine own_by (T' := T127) (f' := (mkF m 89 #[.val (.ref o), .val (.ref ca), .val (.int iv), .val (.int lv), .val (.int (f j))] [(.int (f j)), (.ref o)])) (fun t k => XS.iload X127.here hx rfl (hb hby d5_87) rfl k) ?_
                refine own_by (T' := T127) (f' := (mkF m 91 #[.val (.ref o), .val (.ref ca), .val (.int iv), .val (.int lv), .val (.int (f j))] [(.int (48 : Int32)), (.int (f j)), (.ref o)])) (fun t k => XS.bipush X127.here hx rfl (hb hby d5_89) k) ?_
                refine own_by (T' := T127) (f' := (mkF m 92 #[.val (.ref o), .val (.ref ca), .val (.int iv), .val (.int lv), .val (.int (f j))] [(.int ((f j) - (48 : Int32))), (.ref o)])) (fun t k => XS.isub X127.here hx rfl (hb hby d5_91) rfl k) ?_
                have f144 := (EL.wr W122)
                have q145 : ∀ x ∈ [o], ∃ c : Cell, h122[x]? = some c ∧ c.vm.isStatics = false := (allS (own_ns f144) all0)
                have f146 := (G0.other W122 (Or.inr (sn_26 hw)))
                have f147 := (G1.other W122 (Or.inr (sn_27 hw)))
                have f148 := (G2.other W122 (Or.inr (sn_28 hw)))
                have f149 := (G3.other W122 (Or.inr (sn_29 hw)))
                have f150 := (G4.other W122 (Or.inr (sn_30 hw)))
                have f151 := (G5.other W122 (Or.inr (sn_31 hw)))
                have f152 := (G6.other W122 (Or.inr (sn_32 hw)))
                have f153 := (G7.other W122 (Or.inr (sn_33 hw)))
                have f154 := (G8.other W122 (Or.inr (sn_34 hw)))
                have f155 := (G9.other W122 (Or.inr (sn_35 hw)))
                have f156 := (G10.other W122 (Or.inr (sn_36 hw)))
                have f157 := (G12.other W122 (Or.inr (sn_37 hw)))
                have f158 := (G13.other W122 (Or.inr (sn_38 hw)))
                refine own_callP X127 hx hZ hown e127 (hb hby d5_92) [(.int ((f j) - (48 : Int32)))] [] 0 (rmAP l Z a0 hw [] o ((f j) - (48 : Int32)) v9 v10 u0 u1 u2 u3 u4 u5 u6 u7 u8 (.int (sv + (1 : Int32))) u12 u13 h122 n0 sz123 go f144 f146 f147 f148 f149 f150 f151 f152 f153 f154 f155 f156 F122 f157 f158) f144 (own_w hw 76 rfl) (own_w hw 77 rfl) (own_selP (y := (⟨"com/example/tally_of_atoms/tallyofatoms/Numeral", "appendTo128Bits", "(I)V"⟩ : MethodName)) (own_w hw 7 rfl) (own_w hw 77 rfl) (own_w hw 78 rfl) (by decide)) (own_w hw 78 rfl) (own_w hw 8 rfl) (own_w hw 79 rfl) (by decide) pd__I_V (by rw [hml]; rfl) rfl rfl (Nat.le_of_eq rfl) (by decide) (by decide) (by decide) (by decide) ?_
                rintro T159 _ L159 X159 ⟨rfl, N159q, K159, x9, x10, P0, P1, P2, P3, P4, P5, P6, P7, P8, P9, P10, P11, P12, P13⟩
                show own_Go p e below _ T159 (mkF m 95 #[.val (.ref o), .val (.ref ca), .val (.int iv), .val (.int lv), .val (.int (f j))] [])
                have N159 := Fr.app N122 N159q
                have sz160 : n0 ≤ T159.heap.size := Nat.le_trans sz123 K159.1
                have K161 := K124.trans K159 (allS (Or.inl (List.mem_of_getElem? (i := 0) rfl)) all0)
                refine own_by (T' := T159) (f' := (mkF m 98 #[.val (.ref o), .val (.ref ca), .val (.int (iv + (1 : Int32))), .val (.int lv), .val (.int (f j))] [])) (fun t k => XS.iinc X159.here hx rfl (hb hby d5_95) rfl (l' := #[.val (.ref o), .val (.ref ca), .val (.int (iv + (1 : Int32))), .val (.int lv), .val (.int (f j))]) rfl k) ?_
                refine own_by (T' := T159) (f' := (mkF m 0 #[.val (.ref o), .val (.ref ca), .val (.int (iv + (1 : Int32))), .val (.int lv), .val (.int (f j))] [])) (fun t k => XS.goto X159.here hx rfl (pc0 := 98) (pc' := 0) rfl (hb hby d5_98) (by decide) (by decide) k) ?_
                have z0 : (0 : Int32).toInt = ((0 : Nat) : Int) := by decide
                have cnd : 0 < sd ∨ ¬ f j = (48 : Int32) := Or.inr hc32_120
                have f162 := ((AL.other W122 nco).keep K159 (ninS nco nin0))
                have f163 := (f144.keep K159)
                exact ih (j + 1) (sd + 1) (iv + (1 : Int32)) (sv + (1 : Int32)) x9 x10 (.val (.int (f j))) T159 T159.heap _ (Or.inr ⟨_, rfl, rfl⟩) (by omega) (own_inc hiv (by omega : j < 1000) (by omega)) (own_inc hsv (by omega : sd < 1000) (by omega)) (by omega) (by rw [hP, own_rp, if_neg hc15_53]) (by rw [hS, own_rs, if_neg hc15_53, if_pos cnd]) X159 rfl f162 f163 P0 P1 P2 P3 P4 P5 P6 P7 P8 P9 P10 P11 P12 P13 K161 N159 sz160
            · have _ := X125
              refine own_by (T' := T125) (f' := (mkF m 54 #[.val (.ref o), .val (.ref ca), .val (.int iv), .val (.int lv), .val (.int (f j))] [])) (fun t k => XS.icmpNo X125.here hx rfl (hb hby d5_51) rfl (flt hc51_126).2.2.1 k) ?_
              refine own_by (T' := T125) (f' := (mkF m 55 #[.val (.ref o), .val (.ref ca), .val (.int iv), .val (.int lv), .val (.int (f j))] [(.ref o)])) (fun t k => XS.aloadN X125.here hx rfl (hb hby d5_54) rfl rfl k) ?_
              refine own_by (T' := T125) (f' := (mkF m 56 #[.val (.ref o), .val (.ref ca), .val (.int iv), .val (.int lv), .val (.int (f j))] [(.ref o), (.ref o)])) (fun t k => XS.aloadN X125.here hx rfl (hb hby d5_55) rfl rfl k) ?_
              have f164 := (G9.other W122 (Or.inr (sn_35 hw)))
              refine own_getF (host := "") X125 hx hZ hown e125 (hb hby d5_56) (Or.inl (own_w hw 28 rfl)) Via.refl f164 ?_
              intro T165 X165 e165
              show own_Go p e below _ T165 (mkF m 59 #[.val (.ref o), .val (.ref ca), .val (.int iv), .val (.int lv), .val (.int (f j))] [(.long v9), (.ref o)])
              refine own_by (T' := T165) (f' := (mkF m 62 #[.val (.ref o), .val (.ref ca), .val (.int iv), .val (.int lv), .val (.int (f j))] [(.long (10 : Int64)), (.long v9), (.ref o)])) (fun t k => X165.ldc2Long hx hown (mvT hZ (own_w hw 69 rfl)) (g := (mkF m 59 #[.val (.ref o), .val (.ref ca), .val (.int iv), .val (.int lv), .val (.int (f j))] [(.long v9), (.ref o)])) rfl (hb hby d5_59) _ k) ?_
              refine own_by (T' := T165) (f' := (mkF m 63 #[.val (.ref o), .val (.ref ca), .val (.int iv), .val (.int lv), .val (.int (f j))] [(.long (v9 * (10 : Int64))), (.ref o)])) (fun t k => XS.lmul X165.here hx rfl (hb hby d5_62) rfl k) ?_
              refine own_by (T' := T165) (f' := (mkF m 65 #[.val (.ref o), .val (.ref ca), .val (.int iv), .val (.int lv), .val (.int (f j))] [(.int (f j)), (.long (v9 * (10 : Int64))), (.ref o)])) (fun t k => XS.iload X165.here hx rfl (hb hby d5_63) rfl k) ?_
              refine own_by (T' := T165) (f' := (mkF m 66 #[.val (.ref o), .val (.ref ca), .val (.int iv), .val (.int lv), .val (.int (f j))] [(.long ((f j).toInt64)), (.long (v9 * (10 : Int64))), (.ref o)])) (fun t k => XS.i2l X165.here hx rfl (hb hby d5_65) rfl k) ?_
              refine own_by (T' := T165) (f' := (mkF m 67 #[.val (.ref o), .val (.ref ca), .val (.int iv), .val (.int lv), .val (.int (f j))] [(.long ((v9 * (10 : Int64)) + ((f j).toInt64))), (.ref o)])) (fun t k => XS.ladd X165.here hx rfl (hb hby d5_66) rfl k) ?_
              refine own_by (T' := T165) (f' := (mkF m 70 #[.val (.ref o), .val (.ref ca), .val (.int iv), .val (.int lv), .val (.int (f j))] [(.long (48 : Int64)), (.long ((v9 * (10 : Int64)) + ((f j).toInt64))), (.ref o)])) (fun t k => X165.ldc2Long hx hown (mvT hZ (own_w hw 70 rfl)) (g := (mkF m 67 #[.val (.ref o), .val (.ref ca), .val (.int iv), .val (.int lv), .val (.int (f j))] [(.long ((v9 * (10 : Int64)) + ((f j).toInt64))), (.ref o)])) rfl (hb hby d5_67) _ k) ?_
              refine own_by (T' := T165) (f' := (mkF m 71 #[.val (.ref o), .val (.ref ca), .val (.int iv), .val (.int lv), .val (.int (f j))] [(.long (((v9 * (10 : Int64)) + ((f j).toInt64)) - (48 : Int64))), (.ref o)])) (fun t k => XS.lsub X165.here hx rfl (hb hby d5_70) rfl k) ?_
              obtain ⟨vs, hvs⟩ : ∃ z : Int64, z = (((v9 * (10 : Int64)) + ((f j).toInt64)) - (48 : Int64)) := ⟨_, rfl⟩
              rw [← hvs]
              show own_Go p e below _ T165 (mkF m 71 #[.val (.ref o), .val (.ref ca), .val (.int iv), .val (.int lv), .val (.int (f j))] [(.long vs), (.ref o)])
              have f166 := (EL.wr W122)
              refine own_putF (host := "") X165 hx hZ hown e165 (hb hby d5_71) (Or.inl (own_w hw 28 rfl)) Via.refl f164 f166 (Or.inl (own_w hw 29 rfl)) (own_w hw 7 rfl) (ty := .long) (by decide) rfl rfl ?_
              intro T167 h167 X167 e167 W167
              show own_Go p e below _ T167 (mkF m 74 #[.val (.ref o), .val (.ref ca), .val (.int iv), .val (.int lv), .val (.int (f j))] [])
              have F167 := f164.same W167
              have sz168 : n0 ≤ h167.size := by rw [W167.size]; exact sz123
              have K169 := K124.wr W167 (Or.inl (List.mem_of_getElem? (i := 0) rfl))
              have N167 := Fr.snoc X167 N122 go
              refine own_by (T' := T167) (f' := (mkF m 95 #[.val (.ref o), .val (.ref ca), .val (.int iv), .val (.int lv), .val (.int (f j))] [])) (fun t k => XS.goto X167.here hx rfl (pc0 := 74) (pc' := 95) rfl (hb hby d5_74) (by decide) (by decide) k) ?_
              refine own_by (T' := T167) (f' := (mkF m 98 #[.val (.ref o), .val (.ref ca), .val (.int (iv + (1 : Int32))), .val (.int lv), .val (.int (f j))] [])) (fun t k => XS.iinc X167.here hx rfl (hb hby d5_95) rfl (l' := #[.val (.ref o), .val (.ref ca), .val (.int (iv + (1 : Int32))), .val (.int lv), .val (.int (f j))]) rfl k) ?_
              refine own_by (T' := T167) (f' := (mkF m 0 #[.val (.ref o), .val (.ref ca), .val (.int (iv + (1 : Int32))), .val (.int lv), .val (.int (f j))] [])) (fun t k => XS.goto X167.here hx rfl (pc0 := 98) (pc' := 0) rfl (hb hby d5_98) (by decide) (by decide) k) ?_
              have z0 : (0 : Int32).toInt = ((0 : Nat) : Int) := by decide
              have cnd : 0 < sd ∨ ¬ f j = (48 : Int32) := Or.inr hc32_120
              have f170 := ((AL.other W122 nco).other W167 nco)
              have f171 := (f166.wr W167)
              have f172 := ((G0.other W122 (Or.inr (sn_26 hw))).other W167 (Or.inr (sn_2 hw)))
              have f173 := ((G1.other W122 (Or.inr (sn_27 hw))).other W167 (Or.inr (sn_4 hw)))
              have f174 := ((G2.other W122 (Or.inr (sn_28 hw))).other W167 (Or.inr (sn_6 hw)))
              have f175 := ((G3.other W122 (Or.inr (sn_29 hw))).other W167 (Or.inr (sn_8 hw)))
              have f176 := ((G4.other W122 (Or.inr (sn_30 hw))).other W167 (Or.inr (sn_10 hw)))
              have f177 := ((G5.other W122 (Or.inr (sn_31 hw))).other W167 (Or.inr (sn_12 hw)))
              have f178 := ((G6.other W122 (Or.inr (sn_32 hw))).other W167 (Or.inr (sn_14 hw)))
              have f179 := ((G7.other W122 (Or.inr (sn_33 hw))).other W167 (Or.inr (sn_16 hw)))
              have f180 := ((G8.other W122 (Or.inr (sn_34 hw))).other W167 (Or.inr (sn_18 hw)))
              have f181 := ((G10.other W122 (Or.inr (sn_36 hw))).other W167 (Or.inr (sn_19 hw)))
              have f182 := (F122.other W167 (Or.inr (sn_21 hw)))
              have f183 := ((G12.other W122 (Or.inr (sn_37 hw))).other W167 (Or.inr (sn_23 hw)))
              have f184 := ((G13.other W122 (Or.inr (sn_38 hw))).other W167 (Or.inr (sn_25 hw)))
              exact ih (j + 1) (sd + 1) (iv + (1 : Int32)) (sv + (1 : Int32)) vs v10 (.val (.int (f j))) T167 h167 _ (Or.inr ⟨_, rfl, rfl⟩) (by omega) (own_inc hiv (by omega : j < 1000) (by omega)) (own_inc hsv (by omega : sd < 1000) (by omega)) (by omega) (by rw [hP, own_rp, if_neg hc15_53]) (by rw [hS, own_rs, if_neg hc15_53, if_pos cnd]) X167 e167 f170 f171 f172 f173 f174 f175 f176 f177 f178 f179 f180 F167 f181 f182 f183 f184 K169 N167 sz168
  rw [ef_rmRD]
  exact loop (lim - j0) j0 sd0 iv0 sv v9 v10 .unset s₁ h0 _ (Or.inl rfl) (by omega) hj hsd (by omega) rfl rfl X0 e0 A1 EO F0 F1 F2 F3 F4 F5 F6 F7 F8 F9 F10 F11 F12 F13 (Keep.refl h0 [o]) (Fr.nil n0) Z0
theorem ef_rmSC (m : MethodId) (x0 : Addr) (x1 : Addr) (x2 : Int32) (x3 : Int32) : entryFrame m #[(.ref x0), (.ref x1), (.int x2), (.int x3)] 9 = mkF m 0 #[.val (.ref x0), .val (.ref x1), .val (.int x2), .val (.int x3), .unset, .unset, .unset, .unset, .unset] [] := by first | (simp [entryFrame, mkF, argsToLocals, Value.category]; done) | rfl
set_option maxRecDepth 65536 in
set_option maxHeartbeats 40000000 in
theorem rmSC (l : Launch) (Z : State) (a0 : Array Value) (hw : ∀ d ∈ tables_1, d.before a0 Z = true) (ws : List Jvm.Cond) (o ca : Addr) (iv0 lv : Int32) (j0 lim : Nat) (f : Nat → Int32) (u0 u1 u2 u3 u4 u5 u6 u7 u8 u9 u10 u11 u12 u13 : Value) (h0 : Heap) (n0 : Nat) (Z0 : n0 ≤ h0.size) (go : n0 ≤ o) (nco : ca ≠ o) (hj : iv0.toInt = (j0 : Nat)) (hl : lv.toInt = (lim : Nat)) (hjl : j0 ≤ lim) (hlim : lim ≤ 48) (A1 : own_A Z h0 ca .char 48 f) (EO : Exa Z h0 o "com/example/tally_of_atoms/tallyofatoms/Numeral") (F0 : Fld Z h0 o "com/example/tally_of_atoms/tallyofatoms/Numeral" "characters" "[C" u0) (F1 : Fld Z h0 o "com/example/tally_of_atoms/tallyofatoms/Numeral" "start" "I" u1) (F2 : Fld Z h0 o "com/example/tally_of_atoms/tallyofatoms/Numeral" "end" "I" u2) (F3 : Fld Z h0 o "com/example/tally_of_atoms/tallyofatoms/Numeral" "digits" "I" u3) (F4 : Fld Z h0 o "com/example/tally_of_atoms/tallyofatoms/Numeral" "point" "Z" u4) (F5 : Fld Z h0 o "com/example/tally_of_atoms/tallyofatoms/Numeral" "exponent" "Z" u5) (F6 : Fld Z h0 o "com/example/tally_of_atoms/tallyofatoms/Numeral" "exponentDigits" "Z" u6) (F7 : Fld Z h0 o "com/example/tally_of_atoms/tallyofatoms/Numeral" "special" "I" u7) (F8 : Fld Z h0 o "com/example/tally_of_atoms/tallyofatoms/Numeral" "negative" "Z" u8) (F9 : Fld Z h0 o "com/example/tally_of_atoms/tallyofatoms/Numeral" "significand" "J" u9) (F10 : Fld Z h0 o "com/example/tally_of_atoms/tallyofatoms/Numeral" "significandHigh" "J" u10) (F11 : Fld Z h0 o "com/example/tally_of_atoms/tallyofatoms/Numeral" "significantDigits" "I" u11) (F12 : Fld Z h0 o "com/example/tally_of_atoms/tallyofatoms/Numeral" "scale" "I" u12) (F13 : Fld Z h0 o "com/example/tally_of_atoms/tallyofatoms/Numeral" "exponentValue" "I" u13) :
    own_Ct l Z (⟨"com/example/tally_of_atoms/tallyofatoms/Numeral", "scan", "([CII)Lcom/example/tally_of_atoms/tallyofatoms/Numeral;"⟩ : MethodName) prog_102_method_2_code 9 (some (.object "com/example/tally_of_atoms/tallyofatoms/Numeral")) ws ({ frames := 4, cells := 0, slots := 0, locals := 90 } : Room) #[(.ref o), (.ref ca), (.int iv0), (.int lv)] h0 (fun v h L => v = some (.ref o) ∧ Fr n0 L ∧ Keep h0 h [o] ∧ ∃ (xv dv sv : Int32), xv = (if own_exq f j0 lim then 1 else 0) ∧ dv.toInt = ((own_dgs f j0 lim : Nat) : Int) ∧ sv.toInt = ((own_s2 f j0 lim : Nat) : Int) ∧ ∃ u0 u1 u2 u4 u6 u7 u8 u9 u10 u12 u13 : Value, Fld Z h o "com/example/tally_of_atoms/tallyofatoms/Numeral" "characters" "[C" u0 ∧ Fld Z h o "com/example/tally_of_atoms/tallyofatoms/Numeral" "start" "I" u1 ∧ Fld Z h o "com/example/tally_of_atoms/tallyofatoms/Numeral" "end" "I" u2 ∧ Fld Z h o "com/example/tally_of_atoms/tallyofatoms/Numeral" "digits" "I" (.int dv) ∧ Fld Z h o "com/example/tally_of_atoms/tallyofatoms/Numeral" "point" "Z" u4 ∧ Fld Z h o "com/example/tally_of_atoms/tallyofatoms/Numeral" "exponent" "Z" (.int xv) ∧ Fld Z h o "com/example/tally_of_atoms/tallyofatoms/Numeral" "exponentDigits" "Z" u6 ∧ Fld Z h o "com/example/tally_of_atoms/tallyofatoms/Numeral" "special" "I" u7 ∧ Fld Z h o "com/example/tally_of_atoms/tallyofatoms/Numeral" "negative" "Z" u8 ∧ Fld Z h o "com/example/tally_of_atoms/tallyofatoms/Numeral" "significand" "J" u9 ∧ Fld Z h o "com/example/tally_of_atoms/tallyofatoms/Numeral" "significandHigh" "J" u10 ∧ Fld Z h o "com/example/tally_of_atoms/tallyofatoms/Numeral" "significantDigits" "I" (.int sv) ∧ Fld Z h o "com/example/tally_of_atoms/tallyofatoms/Numeral" "scale" "I" u12 ∧ Fld Z h o "com/example/tally_of_atoms/tallyofatoms/Numeral" "exponentValue" "I" u13) := by
  refine own_of (plainFor_of_name pn_com_example_tally_of_atoms_tallyofatoms_Numeral) ?_
  intro p e s m below meth c s₁ hx hby hml hown hnm hret hlk hZ X0 e0
  have N0 := Fr.nil n0
  have K0 := Keep.refl h0 [o]
  have eloop : ∀ (dv sv : Int32), (1 : Int32) = (if own_exq f j0 lim then 1 else 0) → dv.toInt = ((own_dgs f j0 lim : Nat) : Int) → sv.toInt = ((own_s2 f j0 lim : Nat) : Int) → ∀ (k j : Nat) (iv xe w5 w6 w7 w8 : Int32) (u0 u1 u2 u4 u6 u7 u8 u9 u10 u12 : Value) (TL : State) (hL : Heap) (LL : List Loc), j + k = lim → iv.toInt = (j : Nat) → Stand p l e ({ frames := 4, cells := 0, slots := 0, locals := 90 } : Room) s m #[(.ref o), (.ref ca), (.int iv0), (.int lv)] below meth c TL LL 0 0 → TL.heap = hL → own_A Z hL ca .char 48 f → Exa Z hL o "com/example/tally_of_atoms/tallyofatoms/Numeral" → Fld Z hL o "com/example/tally_of_atoms/tallyofatoms/Numeral" "characters" "[C" u0 → Fld Z hL o "com/example/tally_of_atoms/tallyofatoms/Numeral" "start" "I" u1 → Fld Z hL o "com/example/tally_of_atoms/tallyofatoms/Numeral" "end" "I" u2 → Fld Z hL o "com/example/tally_of_atoms/tallyofatoms/Numeral" "digits" "I" (.int dv) → Fld Z hL o "com/example/tally_of_atoms/tallyofatoms/Numeral" "point" "Z" u4 → Fld Z hL o "com/example/tally_of_atoms/tallyofatoms/Numeral" "exponent" "Z" (.int 1) → Fld Z hL o "com/example/tally_of_atoms/tallyofatoms/Numeral" "exponentDigits" "Z" u6 → Fld Z hL o "com/example/tally_of_atoms/tallyofatoms/Numeral" "special" "I" u7 → Fld Z hL o "com/example/tally_of_atoms/tallyofatoms/Numeral" "negative" "Z" u8 → Fld Z hL o "com/example/tally_of_atoms/tallyofatoms/Numeral" "significand" "J" u9 → Fld Z hL o "com/example/tally_of_atoms/tallyofatoms/Numeral" "significandHigh" "J" u10 → Fld Z hL o "com/example/tally_of_atoms/tallyofatoms/Numeral" "significantDigits" "I" (.int sv) → Fld Z hL o "com/example/tally_of_atoms/tallyofatoms/Numeral" "scale" "I" u12 → Fld Z hL o "com/example/tally_of_atoms/tallyofatoms/Numeral" "exponentValue" "I" (.int xe) → Keep h0 hL [o] → Fr n0 LL → n0 ≤ hL.size → own_Go p e below (own_Ends s ({ frames := 4, cells := 0, slots := 0, locals := 90 } : Room) (fun v h L => v = some (.ref o) ∧ Fr n0 L ∧ Keep h0 h [o] ∧ ∃ (xv dv sv : Int32), xv = (if own_exq f j0 lim then 1 else 0) ∧ dv.toInt = ((own_dgs f j0 lim : Nat) : Int) ∧ sv.toInt = ((own_s2 f j0 lim : Nat) : Int) ∧ ∃ u0 u1 u2 u4 u6 u7 u8 u9 u10 u12 u13 : Value, Fld Z h o "com/example/tally_of_atoms/tallyofatoms/Numeral" "characters" "[C" u0 ∧ Fld Z h o "com/example/tally_of_atoms/tallyofatoms/Numeral" "start" "I" u1 ∧ Fld Z h o "com/example/tally_of_atoms/tallyofatoms/Numeral" "end" "I" u2 ∧ Fld Z h o "com/example/tally_of_atoms/tallyofatoms/Numeral" "digits" "I" (.int dv) ∧ Fld Z h o "com/example/tally_of_atoms/tallyofatoms/Numeral" "point" "Z" u4 ∧ Fld Z h o "com/example/tally_of_atoms/tallyofatoms/Numeral" "exponent" "Z" (.int xv) ∧ Fld Z h o "com/example/tally_of_atoms/tallyofatoms/Numeral" "exponentDigits" "Z" u6 ∧ Fld Z h o "com/example/tally_of_atoms/tallyofatoms/Numeral" "special" "I" u7 ∧ Fld Z h o "com/example/tally_of_atoms/tallyofatoms/Numeral" "negative" "Z" u8 ∧ Fld Z h o "com/example/tally_of_atoms/tallyofatoms/Numeral" "significand" "J" u9 ∧ Fld Z h o "com/example/tally_of_atoms/tallyofatoms/Numeral" "significandHigh" "J" u10 ∧ Fld Z h o "com/example/tally_of_atoms/tallyofatoms/Numeral" "significantDigits" "I" (.int sv) ∧ Fld Z h o "com/example/tally_of_atoms/tallyofatoms/Numeral" "scale" "I" u12 ∧ Fld Z h o "com/example/tally_of_atoms/tallyofatoms/Numeral" "exponentValue" "I" u13)) TL (mkF m 258 #[.val (.ref o), .val (.ref ca), .val (.int iv0), .val (.int lv), .val (.int iv), .val (.int w5), .val (.int w6), .val (.int w7), .val (.int w8)] []) := by
    intro dv sv hX hD hV k
    induction k with
    | zero =>
      intro j iv xe w5 w6 w7 w8 u0 u1 u2 u4 u6 u7 u8 u9 u10 u12 TL hL LL hjk hiv XL eL AL EL G0 G1 G2 G3 G4 G5 G6 G7 G8 G9 G10 G11 G12 G13 KL NL ZL
      refine own_by (T' := TL) (f' := (mkF m 260 #[.val (.ref o), .val (.ref ca), .val (.int iv0), .val (.int lv), .val (.int iv), .val (.int w5), .val (.int w6), .val (.int w7), .val (.int w8)] [(.int iv)])) (fun t k => XS.iload XL.here hx rfl (hb hby d4_258) rfl k) ?_
      refine own_by (T' := TL) (f' := (mkF m 261 #[.val (.ref o), .val (.ref ca), .val (.int iv0), .val (.int lv), .val (.int iv), .val (.int w5), .val (.int w6), .val (.int w7), .val (.int w8)] [(.int lv), (.int iv)])) (fun t k => XS.iloadN XL.here hx rfl (hb hby d4_260) rfl k) ?_
      have hc261_51 : ¬ (iv < lv) := (by rw [Int32.lt_iff_toInt_lt]; omega)
      refine own_by (T' := TL) (f' := (mkF m 304 #[.val (.ref o), .val (.ref ca), .val (.int iv0), .val (.int lv), .val (.int iv), .val (.int w5), .val (.int w6), .val (.int w7), .val (.int w8)] [])) (fun t k => XS.icmpYes XL.here hx rfl (pc0 := 261) (pc' := 304) rfl (hb hby d4_261) rfl (flt hc261_51).2.1 (by decide) (by decide) k) ?_
      refine own_by (T' := TL) (f' := (mkF m 305 #[.val (.ref o), .val (.ref ca), .val (.int iv0), .val (.int lv), .val (.int iv), .val (.int w5), .val (.int w6), .val (.int w7), .val (.int w8)] [(.ref o)])) (fun t k => XS.aloadN XL.here hx rfl (hb hby d4_304) rfl rfl k) ?_
      refine own_by (T' := TL) (f' := (mkF m 307 #[.val (.ref o), .val (.ref ca), .val (.int iv0), .val (.int lv), .val (.int iv), .val (.int w5), .val (.int w6), .val (.int w7), .val (.int w8)] [(.int iv), (.ref o)])) (fun t k => XS.iload XL.here hx rfl (hb hby d4_305) rfl k) ?_
      refine own_by (T' := TL) (f' := (mkF m 309 #[.val (.ref o), .val (.ref ca), .val (.int iv0), .val (.int lv), .val (.int iv), .val (.int w5), .val (.int w6), .val (.int w7), .val (.int w8)] [(.int w8), (.int iv), (.ref o)])) (fun t k => XS.iload XL.here hx rfl (hb hby d4_307) rfl k) ?_
      by_cases hc309_52 : w8 < iv
      · have _ := XL
        refine own_by (T' := TL) (f' := (mkF m 312 #[.val (.ref o), .val (.ref ca), .val (.int iv0), .val (.int lv), .val (.int iv), .val (.int w5), .val (.int w6), .val (.int w7), .val (.int w8)] [(.ref o)])) (fun t k => XS.icmpNo XL.here hx rfl (hb hby d4_309) rfl (tlt hc309_52).2.2.2 k) ?_
        refine own_by (T' := TL) (f' := (mkF m 313 #[.val (.ref o), .val (.ref ca), .val (.int iv0), .val (.int lv), .val (.int iv), .val (.int w5), .val (.int w6), .val (.int w7), .val (.int w8)] [(.int (1 : Int32)), (.ref o)])) (fun t k => XS.iconst XL.here hx rfl (hb hby d4_312) k) ?_
        refine own_by (T' := TL) (f' := (mkF m 317 #[.val (.ref o), .val (.ref ca), .val (.int iv0), .val (.int lv), .val (.int iv), .val (.int w5), .val (.int w6), .val (.int w7), .val (.int w8)] [(.int (1 : Int32)), (.ref o)])) (fun t k => XS.goto XL.here hx rfl (pc0 := 313) (pc' := 317) rfl (hb hby d4_313) (by decide) (by decide) k) ?_
        refine own_putF (host := "") XL hx hZ hown eL (hb hby d4_317) (Or.inl (own_w hw 51 rfl)) Via.refl G6 EL (Or.inl (own_w hw 52 rfl)) (own_w hw 7 rfl) (ty := .boolean) (by decide) rfl rfl ?_
        intro T53 h53 X53 e53 W53
        show own_Go p e below _ T53 (mkF m 320 #[.val (.ref o), .val (.ref ca), .val (.int iv0), .val (.int lv), .val (.int iv), .val (.int w5), .val (.int w6), .val (.int w7), .val (.int w8)] [])
        have F53 := G6.same W53
        have sz54 : n0 ≤ h53.size := by rw [W53.size]; exact ZL
        have K55 := KL.wr W53 (Or.inl (List.mem_of_getElem? (i := 0) rfl))
        have N53 := Fr.snoc X53 NL go
        refine own_by (T' := T53) (f' := (mkF m 321 #[.val (.ref o), .val (.ref ca), .val (.int iv0), .val (.int lv), .val (.int iv), .val (.int w5), .val (.int w6), .val (.int w7), .val (.int w8)] [(.ref o)])) (fun t k => XS.aloadN X53.here hx rfl (hb hby d4_320) rfl rfl k) ?_
        refine own_by (T' := T53) (f' := (mkF m 323 #[.val (.ref o), .val (.ref ca), .val (.int iv0), .val (.int lv), .val (.int iv), .val (.int w5), .val (.int w6), .val (.int w7), .val (.int w8)] [(.int w7), (.ref o)])) (fun t k => XS.iload X53.here hx rfl (hb hby d4_321) rfl k) ?_
        by_cases hc323_56 : w7 = (0 : Int32)
        · have _ := X53
          refine own_by (T' := T53) (f' := (mkF m 334 #[.val (.ref o), .val (.ref ca), .val (.int iv0), .val (.int lv), .val (.int iv), .val (.int w5), .val (.int w6), .val (.int w7), .val (.int w8)] [(.ref o)])) (fun t k => XS.ifYes X53.here hx rfl (pc0 := 323) (pc' := 334) rfl (hb hby d4_323) rfl ((if0 _ _).trans (teq hc323_56).1) (by decide) (by decide) k) ?_
          refine own_by (T' := T53) (f' := (mkF m 335 #[.val (.ref o), .val (.ref ca), .val (.int iv0), .val (.int lv), .val (.int iv), .val (.int w5), .val (.int w6), .val (.int w7), .val (.int w8)] [(.ref o), (.ref o)])) (fun t k => XS.aloadN X53.here hx rfl (hb hby d4_334) rfl rfl k) ?_
          have f57 := (G13.other W53 (Or.inr (sn_39 hw)))
          refine own_getF (host := "") X53 hx hZ hown e53 (hb hby d4_335) (Or.inl (own_w hw 36 rfl)) Via.refl f57 ?_
          intro T58 X58 e58
          show own_Go p e below _ T58 (mkF m 338 #[.val (.ref o), .val (.ref ca), .val (.int iv0), .val (.int lv), .val (.int iv), .val (.int w5), .val (.int w6), .val (.int w7), .val (.int w8)] [(.int xe), (.ref o)])
          have f59 := (EL.wr W53)
          refine own_putF (host := "") X58 hx hZ hown e58 (hb hby d4_338) (Or.inl (own_w hw 36 rfl)) Via.refl f57 f59 (Or.inl (own_w hw 37 rfl)) (own_w hw 7 rfl) (ty := .int) (by decide) rfl rfl ?_
          intro T60 h60 X60 e60 W60
          show own_Go p e below _ T60 (mkF m 341 #[.val (.ref o), .val (.ref ca), .val (.int iv0), .val (.int lv), .val (.int iv), .val (.int w5), .val (.int w6), .val (.int w7), .val (.int w8)] [])
          have F60 := f57.same W60
          have sz61 : n0 ≤ h60.size := by rw [W60.size]; exact sz54
          have K62 := K55.wr W60 (Or.inl (List.mem_of_getElem? (i := 0) rfl))
          have N60 := Fr.snoc X60 N53 go
          refine own_by (T' := T60) (f' := (mkF m 342 #[.val (.ref o), .val (.ref ca), .val (.int iv0), .val (.int lv), .val (.int iv), .val (.int w5), .val (.int w6), .val (.int w7), .val (.int w8)] [(.ref o)])) (fun t k => XS.aloadN X60.here hx rfl (hb hby d4_341) rfl rfl k) ?_
          refine own_by (T' := T60) (f' := (mkF m 344 #[.val (.ref o), .val (.ref ca), .val (.int iv0), .val (.int lv), .val (.int iv), .val (.int w5), .val (.int w6), .val (.int w7), .val (.int w8)] [(.int iv), (.ref o)])) (fun t k => XS.iload X60.here hx rfl (hb hby d4_342) rfl k) ?_
          have f63 := ((G2.other W53 (Or.inr (sn_40 hw))).other W60 (Or.inr (sn_41 hw)))
          have f64 := (f59.wr W60)
          refine own_putF (host := "") X60 hx hZ hown e60 (hb hby d4_344) (Or.inl (own_w hw 53 rfl)) Via.refl f63 f64 (Or.inl (own_w hw 54 rfl)) (own_w hw 7 rfl) (ty := .int) (by decide) rfl rfl ?_
          intro T65 h65 X65 e65 W65
          show own_Go p e below _ T65 (mkF m 347 #[.val (.ref o), .val (.ref ca), .val (.int iv0), .val (.int lv), .val (.int iv), .val (.int w5), .val (.int w6), .val (.int w7), .val (.int w8)] [])
          have F65 := f63.same W65
          have sz66 : n0 ≤ h65.size := by rw [W65.size]; exact sz61
          have K67 := K62.wr W65 (Or.inl (List.mem_of_getElem? (i := 0) rfl))
          have N65 := Fr.snoc X65 N60 go
          refine own_by (T' := T65) (f' := (mkF m 348 #[.val (.ref o), .val (.ref ca), .val (.int iv0), .val (.int lv), .val (.int iv), .val (.int w5), .val (.int w6), .val (.int w7), .val (.int w8)] [(.ref o)])) (fun t k => XS.aloadN X65.here hx rfl (hb hby d4_347) rfl rfl k) ?_
          have f68 := (((G0.other W53 (Or.inr (sn_42 hw))).other W60 (Or.inr (sn_43 hw))).other W65 (Or.inr (sn_44 hw)))
          have f69 := (((G1.other W53 (Or.inr (sn_45 hw))).other W60 (Or.inr (sn_46 hw))).other W65 (Or.inr (sn_47 hw)))
          have f70 := (((G3.other W53 (Or.inr (sn_48 hw))).other W60 (Or.inr (sn_49 hw))).other W65 (Or.inr (sn_50 hw)))
          have f71 := (((G4.other W53 (Or.inr (sn_51 hw))).other W60 (Or.inr (sn_52 hw))).other W65 (Or.inr (sn_53 hw)))
          have f72 := (((G5.other W53 (Or.inr (sn_54 hw))).other W60 (Or.inr (sn_55 hw))).other W65 (Or.inr (sn_56 hw)))
          have f73 := ((F53.other W60 (Or.inr (sn_57 hw))).other W65 (Or.inr (sn_58 hw)))
          have f74 := (((G7.other W53 (Or.inr (sn_59 hw))).other W60 (Or.inr (sn_60 hw))).other W65 (Or.inr (sn_61 hw)))
          have f75 := (((G8.other W53 (Or.inr (sn_62 hw))).other W60 (Or.inr (sn_63 hw))).other W65 (Or.inr (sn_64 hw)))
          have f76 := (((G9.other W53 (Or.inr (sn_65 hw))).other W60 (Or.inr (sn_66 hw))).other W65 (Or.inr (sn_67 hw)))
          have f77 := (((G10.other W53 (Or.inr (sn_68 hw))).other W60 (Or.inr (sn_69 hw))).other W65 (Or.inr (sn_70 hw)))
          have f78 := (((G11.other W53 (Or.inr (sn_71 hw))).other W60 (Or.inr (sn_72 hw))).other W65 (Or.inr (sn_73 hw)))
          have f79 := (((G12.other W53 (Or.inr (sn_74 hw))).other W60 (Or.inr (sn_75 hw))).other W65 (Or.inr (sn_76 hw)))
          have f80 := (F60.other W65 (Or.inr (sn_77 hw)))
          refine own_retA X65 hx hret hlk (hb hby d4_348) rfl rfl rfl (by decide) (by decide) ?_
          try rw [e65]
          exact ⟨rfl, N65, K67, _, _, _, hX, hD, hV, _, _, _, _, _, _, _, _, _, _, _, f68, f69, F65, f70, f71, f72, f73, f74, f75, f76, f77, f78, f79, f80⟩
        · have _ := X53
          refine own_by (T' := T53) (f' := (mkF m 326 #[.val (.ref o), .val (.ref ca), .val (.int iv0), .val (.int lv), .val (.int iv), .val (.int w5), .val (.int w6), .val (.int w7), .val (.int w8)] [(.ref o)])) (fun t k => XS.ifNo X53.here hx rfl (hb hby d4_323) rfl ((if0 _ _).trans (feq hc323_56).1) k) ?_
          refine own_by (T' := T53) (f' := (mkF m 327 #[.val (.ref o), .val (.ref ca), .val (.int iv0), .val (.int lv), .val (.int iv), .val (.int w5), .val (.int w6), .val (.int w7), .val (.int w8)] [(.ref o), (.ref o)])) (fun t k => XS.aloadN X53.here hx rfl (hb hby d4_326) rfl rfl k) ?_
          have f81 := (G13.other W53 (Or.inr (sn_39 hw)))
          refine own_getF (host := "") X53 hx hZ hown e53 (hb hby d4_327) (Or.inl (own_w hw 36 rfl)) Via.refl f81 ?_
          intro T82 X82 e82
          show own_Go p e below _ T82 (mkF m 330 #[.val (.ref o), .val (.ref ca), .val (.int iv0), .val (.int lv), .val (.int iv), .val (.int w5), .val (.int w6), .val (.int w7), .val (.int w8)] [(.int xe), (.ref o)])
          refine own_by (T' := T82) (f' := (mkF m 331 #[.val (.ref o), .val (.ref ca), .val (.int iv0), .val (.int lv), .val (.int iv), .val (.int w5), .val (.int w6), .val (.int w7), .val (.int w8)] [(.int (-xe)), (.ref o)])) (fun t k => XS.ineg X82.here hx rfl (hb hby d4_330) rfl k) ?_
          refine own_by (T' := T82) (f' := (mkF m 338 #[.val (.ref o), .val (.ref ca), .val (.int iv0), .val (.int lv), .val (.int iv), .val (.int w5), .val (.int w6), .val (.int w7), .val (.int w8)] [(.int (-xe)), (.ref o)])) (fun t k => XS.goto X82.here hx rfl (pc0 := 331) (pc' := 338) rfl (hb hby d4_331) (by decide) (by decide) k) ?_
          have f83 := (EL.wr W53)
          refine own_putF (host := "") X82 hx hZ hown e82 (hb hby d4_338) (Or.inl (own_w hw 36 rfl)) Via.refl f81 f83 (Or.inl (own_w hw 37 rfl)) (own_w hw 7 rfl) (ty := .int) (by decide) rfl rfl ?_
          intro T84 h84 X84 e84 W84
          show own_Go p e below _ T84 (mkF m 341 #[.val (.ref o), .val (.ref ca), .val (.int iv0), .val (.int lv), .val (.int iv), .val (.int w5), .val (.int w6), .val (.int w7), .val (.int w8)] [])
          have F84 := f81.same W84
          have sz85 : n0 ≤ h84.size := by rw [W84.size]; exact sz54
          have K86 := K55.wr W84 (Or.inl (List.mem_of_getElem? (i := 0) rfl))
          have N84 := Fr.snoc X84 N53 go
          refine own_by (T' := T84) (f' := (mkF m 342 #[.val (.ref o), .val (.ref ca), .val (.int iv0), .val (.int lv), .val (.int iv), .val (.int w5), .val (.int w6), .val (.int w7), .val (.int w8)] [(.ref o)])) (fun t k => XS.aloadN X84.here hx rfl (hb hby d4_341) rfl rfl k) ?_
          refine own_by (T' := T84) (f' := (mkF m 344 #[.val (.ref o), .val (.ref ca), .val (.int iv0), .val (.int lv), .val (.int iv), .val (.int w5), .val (.int w6), .val (.int w7), .val (.int w8)] [(.int iv), (.ref o)])) (fun t k => XS.iload X84.here hx rfl (hb hby d4_342) rfl k) ?_
          have f87 := ((G2.other W53 (Or.inr (sn_40 hw))).other W84 (Or.inr (sn_41 hw)))
          have f88 := (f83.wr W84)
          refine own_putF (host := "") X84 hx hZ hown e84 (hb hby d4_344) (Or.inl (own_w hw 53 rfl)) Via.refl f87 f88 (Or.inl (own_w hw 54 rfl)) (own_w hw 7 rfl) (ty := .int) (by decide) rfl rfl ?_
          intro T89 h89 X89 e89 W89
          show own_Go p e below _ T89 (mkF m 347 #[.val (.ref o), .val (.ref ca), .val (.int iv0), .val (.int lv), .val (.int iv), .val (.int w5), .val (.int w6), .val (.int w7), .val (.int w8)] [])
          have F89 := f87.same W89
          have sz90 : n0 ≤ h89.size := by rw [W89.size]; exact sz85
          have K91 := K86.wr W89 (Or.inl (List.mem_of_getElem? (i := 0) rfl))
          have N89 := Fr.snoc X89 N84 go
          refine own_by (T' := T89) (f' := (mkF m 348 #[.val (.ref o), .val (.ref ca), .val (.int iv0), .val (.int lv), .val (.int iv), .val (.int w5), .val (.int w6), .val (.int w7), .val (.int w8)] [(.ref o)])) (fun t k => XS.aloadN X89.here hx rfl (hb hby d4_347) rfl rfl k) ?_
          have f92 := (((G0.other W53 (Or.inr (sn_42 hw))).other W84 (Or.inr (sn_43 hw))).other W89 (Or.inr (sn_44 hw)))
          have f93 := (((G1.other W53 (Or.inr (sn_45 hw))).other W84 (Or.inr (sn_46 hw))).other W89 (Or.inr (sn_47 hw)))
          have f94 := (((G3.other W53 (Or.inr (sn_48 hw))).other W84 (Or.inr (sn_49 hw))).other W89 (Or.inr (sn_50 hw)))
          have f95 := (((G4.other W53 (Or.inr (sn_51 hw))).other W84 (Or.inr (sn_52 hw))).other W89 (Or.inr (sn_53 hw)))
          have f96 := (((G5.other W53 (Or.inr (sn_54 hw))).other W84 (Or.inr (sn_55 hw))).other W89 (Or.inr (sn_56 hw)))
          have f97 := ((F53.other W84 (Or.inr (sn_57 hw))).other W89 (Or.inr (sn_58 hw)))
          have f98 := (((G7.other W53 (Or.inr (sn_59 hw))).other W84 (Or.inr (sn_60 hw))).other W89 (Or.inr (sn_61 hw)))
          have f99 := (((G8.other W53 (Or.inr (sn_62 hw))).other W84 (Or.inr (sn_63 hw))).other W89 (Or.inr (sn_64 hw)))
          have f100 := (((G9.other W53 (Or.inr (sn_65 hw))).other W84 (Or.inr (sn_66 hw))).other W89 (Or.inr (sn_67 hw)))
          have f101 := (((G10.other W53 (Or.inr (sn_68 hw))).other W84 (Or.inr (sn_69 hw))).other W89 (Or.inr (sn_70 hw)))
          have f102 := (((G11.other W53 (Or.inr (sn_71 hw))).other W84 (Or.inr (sn_72 hw))).other W89 (Or.inr (sn_73 hw)))
          have f103 := (((G12.other W53 (Or.inr (sn_74 hw))).other W84 (Or.inr (sn_75 hw))).other W89 (Or.inr (sn_76 hw)))
          have f104 := (F84.other W89 (Or.inr (sn_77 hw)))
          refine own_retA X89 hx hret hlk (hb hby d4_348) rfl rfl rfl (by decide) (by decide) ?_
          try rw [e89]
          exact ⟨rfl, N89, K91, _, _, _, hX, hD, hV, _, _, _, _, _, _, _, _, _, _, _, f92, f93, F89, f94, f95, f96, f97, f98, f99, f100, f101, f102, f103, f104⟩
      · have _ := XL
        refine own_by (T' := TL) (f' := (mkF m 316 #[.val (.ref o), .val (.ref ca), .val (.int iv0), .val (.int lv), .val (.int iv), .val (.int w5), .val (.int w6), .val (.int w7), .val (.int w8)] [(.ref o)])) (fun t k => XS.icmpYes XL.here hx rfl (pc0 := 309) (pc' := 316) rfl (hb hby d4_309) rfl (flt hc309_52).2.2.2 (by decide) (by decide) k) ?_
        refine own_by (T' := TL) (f' := (mkF m 317 #[.val (.ref o), .val (.ref ca), .val (.int iv0), .val (.int lv), .val (.int iv), .val (.int w5), .val (.int w6), .val (.int w7), .val (.int w8)] [(.int (0 : Int32)), (.ref o)])) (fun t k => XS.iconst XL.here hx rfl (hb hby d4_316) k) ?_
        refine own_putF (host := "") XL hx hZ hown eL (hb hby d4_317) (Or.inl (own_w hw 51 rfl)) Via.refl G6 EL (Or.inl (own_w hw 52 rfl)) (own_w hw 7 rfl) (ty := .boolean) (by decide) rfl rfl ?_
        intro T105 h105 X105 e105 W105
        show own_Go p e below _ T105 (mkF m 320 #[.val (.ref o), .val (.ref ca), .val (.int iv0), .val (.int lv), .val (.int iv), .val (.int w5), .val (.int w6), .val (.int w7), .val (.int w8)] [])
        have F105 := G6.same W105
        have sz106 : n0 ≤ h105.size := by rw [W105.size]; exact ZL
        have K107 := KL.wr W105 (Or.inl (List.mem_of_getElem? (i := 0) rfl))
        have N105 := Fr.snoc X105 NL go
        refine own_by (T' := T105) (f' := (mkF m 321 #[.val (.ref o), .val (.ref ca), .val (.int iv0), .val (.int lv), .val (.int iv), .val (.int w5), .val (.int w6), .val (.int w7), .val (.int w8)] [(.ref o)])) (fun t k => XS.aloadN X105.here hx rfl (hb hby d4_320) rfl rfl k) ?_
        refine own_by (T' := T105) (f' := (mkF m 323 #[.val (.ref o), .val (.ref ca), .val (.int iv0), .val (.int lv), .val (.int iv), .val (.int w5), .val (.int w6), .val (.int w7), .val (.int w8)] [(.int w7), (.ref o)])) (fun t k => XS.iload X105.here hx rfl (hb hby d4_321) rfl k) ?_
        by_cases hc323_108 : w7 = (0 : Int32)
        · have _ := X105
          refine own_by (T' := T105) (f' := (mkF m 334 #[.val (.ref o), .val (.ref ca), .val (.int iv0), .val (.int lv), .val (.int iv), .val (.int w5), .val (.int w6), .val (.int w7), .val (.int w8)] [(.ref o)])) (fun t k => XS.ifYes X105.here hx rfl (pc0 := 323) (pc' := 334) rfl (hb hby d4_323) rfl ((if0 _ _).trans (teq hc323_108).1) (by decide) (by decide) k) ?_
          refine own_by (T' := T105) (f' := (mkF m 335 #[.val (.ref o), .val (.ref ca), .val (.int iv0), .val (.int lv), .val (.int iv), .val (.int w5), .val (.int w6), .val (.int w7), .val (.int w8)] [(.ref o), (.ref o)])) (fun t k => XS.aloadN X105.here hx rfl (hb hby d4_334) rfl rfl k) ?_
          have f109 := (G13.other W105 (Or.inr (sn_39 hw)))
          refine own_getF (host := "") X105 hx hZ hown e105 (hb hby d4_335) (Or.inl (own_w hw 36 rfl)) Via.refl f109 ?_
          intro T110 X110 e110
          show own_Go p e below _ T110 (mkF m 338 #[.val (.ref o), .val (.ref ca), .val (.int iv0), .val (.int lv), .val (.int iv), .val (.int w5), .val (.int w6), .val (.int w7), .val (.int w8)] [(.int xe), (.ref o)])
          have f111 := (EL.wr W105)
          refine own_putF (host := "") X110 hx hZ hown e110 (hb hby d4_338) (Or.inl (own_w hw 36 rfl)) Via.refl f109 f111 (Or.inl (own_w hw 37 rfl)) (own_w hw 7 rfl) (ty := .int) (by decide) rfl rfl ?_
          intro T112 h112 X112 e112 W112
          show own_Go p e below _ T112 (mkF m 341 #[.val (.ref o), .val (.ref ca), .val (.int iv0), .val (.int lv), .val (.int iv), .val (.int w5), .val (.int w6), .val (.int w7), .val (.int w8)] [])
          have F112 := f109.same W112
          have sz113 : n0 ≤ h112.size := by rw [W112.size]; exact sz106
          have K114 := K107.wr W112 (Or.inl (List.mem_of_getElem? (i := 0) rfl))
          have N112 := Fr.snoc X112 N105 go
          refine own_by (T' := T112) (f' := (mkF m 342 #[.val (.ref o), .val (.ref ca), .val (.int iv0), .val (.int lv), .val (.int iv), .val (.int w5), .val (.int w6), .val (.int w7), .val (.int w8)] [(.ref o)])) (fun t k => XS.aloadN X112.here hx rfl (hb hby d4_341) rfl rfl k) ?_
          refine own_by (T' := T112) (f' := (mkF m 344 #[.val (.ref o), .val (.ref ca), .val (.int iv0), .val (.int lv), .val (.int iv), .val (.int w5), .val (.int w6), .val (.int w7), .val (.int w8)] [(.int iv), (.ref o)])) (fun t k => XS.iload X112.here hx rfl (hb hby d4_342) rfl k) ?_
          have f115 := ((G2.other W105 (Or.inr (sn_40 hw))).other W112 (Or.inr (sn_41 hw)))
          have f116 := (f111.wr W112)
          refine own_putF (host := "") X112 hx hZ hown e112 (hb hby d4_344) (Or.inl (own_w hw 53 rfl)) Via.refl f115 f116 (Or.inl (own_w hw 54 rfl)) (own_w hw 7 rfl) (ty := .int) (by decide) rfl rfl ?_
          intro T117 h117 X117 e117 W117
          show own_Go p e below _ T117 (mkF m 347 #[.val (.ref o), .val (.ref ca), .val (.int iv0), .val (.int lv), .val (.int iv), .val (.int w5), .val (.int w6), .val (.int w7), .val (.int w8)] [])
          have F117 := f115.same W117
          have sz118 : n0 ≤ h117.size := by rw [W117.size]; exact sz113
          have K119 := K114.wr W117 (Or.inl (List.mem_of_getElem? (i := 0) rfl))
          have N117 := Fr.snoc X117 N112 go
          refine own_by (T' := T117) (f' := (mkF m 348 #[.val (.ref o), .val (.ref ca), .val (.int iv0), .val (.int lv), .val (.int iv), .val (.int w5), .val (.int w6), .val (.int w7), .val (.int w8)] [(.ref o)])) (fun t k => XS.aloadN X117.here hx rfl (hb hby d4_347) rfl rfl k) ?_
          have f120 := (((G0.other W105 (Or.inr (sn_42 hw))).other W112 (Or.inr (sn_43 hw))).other W117 (Or.inr (sn_44 hw)))
          have f121 := (((G1.other W105 (Or.inr (sn_45 hw))).other W112 (Or.inr (sn_46 hw))).other W117 (Or.inr (sn_47 hw)))
          have f122 := (((G3.other W105 (Or.inr (sn_48 hw))).other W112 (Or.inr (sn_49 hw))).other W117 (Or.inr (sn_50 hw)))
          have f123 := (((G4.other W105 (Or.inr (sn_51 hw))).other W112 (Or.inr (sn_52 hw))).other W117 (Or.inr (sn_53 hw)))
          have f124 := (((G5.other W105 (Or.inr (sn_54 hw))).other W112 (Or.inr (sn_55 hw))).other W117 (Or.inr (sn_56 hw)))
          have f125 := ((F105.other W112 (Or.inr (sn_57 hw))).other W117 (Or.inr (sn_58 hw)))
          have f126 := (((G7.other W105 (Or.inr (sn_59 hw))).other W112 (Or.inr (sn_60 hw))).other W117 (Or.inr (sn_61 hw)))
          have f127 := (((G8.other W105 (Or.inr (sn_62 hw))).other W112 (Or.inr (sn_63 hw))).other W117 (Or.inr (sn_64 hw)))
          have f128 := (((G9.other W105 (Or.inr (sn_65 hw))).other W112 (Or.inr (sn_66 hw))).other W117 (Or.inr (sn_67 hw)))
          have f129 := (((G10.other W105 (Or.inr (sn_68 hw))).other W112 (Or.inr (sn_69 hw))).other W117 (Or.inr (sn_70 hw)))
          have f130 := (((G11.other W105 (Or.inr (sn_71 hw))).other W112 (Or.inr (sn_72 hw))).other W117 (Or.inr (sn_73 hw)))
          have f131 := (((G12.other W105 (Or.inr (sn_74 hw))).other W112 (Or.inr (sn_75 hw))).other W117 (Or.inr (sn_76 hw)))
          have f132 := (F112.other W117 (Or.inr (sn_77 hw)))
          refine own_retA X117 hx hret hlk (hb hby d4_348) rfl rfl rfl (by decide) (by decide) ?_
          try rw [e117]
          exact ⟨rfl, N117, K119, _, _, _, hX, hD, hV, _, _, _, _, _, _, _, _, _, _, _, f120, f121, F117, f122, f123, f124, f125, f126, f127, f128, f129, f130, f131, f132⟩
        · have _ := X105
          refine own_by (T' := T105) (f' := (mkF m 326 #[.val (.ref o), .val (.ref ca), .val (.int iv0), .val (.int lv), .val (.int iv), .val (.int w5), .val (.int w6), .val (.int w7), .val (.int w8)] [(.ref o)])) (fun t k => XS.ifNo X105.here hx rfl (hb hby d4_323) rfl ((if0 _ _).trans (feq hc323_108).1) k) ?_
          refine own_by (T' := T105) (f' := (mkF m 327 #[.val (.ref o), .val (.ref ca), .val (.int iv0), .val (.int lv), .val (.int iv), .val (.int w5), .val (.int w6), .val (.int w7), .val (.int w8)] [(.ref o), (.ref o)])) (fun t k => XS.aloadN X105.here hx rfl (hb hby d4_326) rfl rfl k) ?_
          have f133 := (G13.other W105 (Or.inr (sn_39 hw)))
          refine own_getF (host := "") X105 hx hZ hown e105 (hb hby d4_327) (Or.inl (own_w hw 36 rfl)) Via.refl f133 ?_
          intro T134 X134 e134
          show own_Go p e below _ T134 (mkF m 330 #[.val (.ref o), .val (.ref ca), .val (.int iv0), .val (.int lv), .val (.int iv), .val (.int w5), .val (.int w6), .val (.int w7), .val (.int w8)] [(.int xe), (.ref o)])
          refine own_by (T' := T134) (f' := (mkF m 331 #[.val (.ref o), .val (.ref ca), .val (.int iv0), .val (.int lv), .val (.int iv), .val (.int w5), .val (.int w6), .val (.int w7), .val (.int w8)] [(.int (-xe)), (.ref o)])) (fun t k => XS.ineg X134.here hx rfl (hb hby d4_330) rfl k) ?_
          refine own_by (T' := T134) (f' := (mkF m 338 #[.val (.ref o), .val (.ref ca), .val (.int iv0), .val (.int lv), .val (.int iv), .val (.int w5), .val (.int w6), .val (.int w7), .val (.int w8)] [(.int (-xe)), (.ref o)])) (fun t k => XS.goto X134.here hx rfl (pc0 := 331) (pc' := 338) rfl (hb hby d4_331) (by decide) (by decide) k) ?_
          have f135 := (EL.wr W105)
          refine own_putF (host := "") X134 hx hZ hown e134 (hb hby d4_338) (Or.inl (own_w hw 36 rfl)) Via.refl f133 f135 (Or.inl (own_w hw 37 rfl)) (own_w hw 7 rfl) (ty := .int) (by decide) rfl rfl ?_
          intro T136 h136 X136 e136 W136
          show own_Go p e below _ T136 (mkF m 341 #[.val (.ref o), .val (.ref ca), .val (.int iv0), .val (.int lv), .val (.int iv), .val (.int w5), .val (.int w6), .val (.int w7), .val (.int w8)] [])
          have F136 := f133.same W136
          have sz137 : n0 ≤ h136.size := by rw [W136.size]; exact sz106
          have K138 := K107.wr W136 (Or.inl (List.mem_of_getElem? (i := 0) rfl))
          have N136 := Fr.snoc X136 N105 go
          refine own_by (T' := T136) (f' := (mkF m 342 #[.val (.ref o), .val (.ref ca), .val (.int iv0), .val (.int lv), .val (.int iv), .val (.int w5), .val (.int w6), .val (.int w7), .val (.int w8)] [(.ref o)])) (fun t k => XS.aloadN X136.here hx rfl (hb hby d4_341) rfl rfl k) ?_
          refine own_by (T' := T136) (f' := (mkF m 344 #[.val (.ref o), .val (.ref ca), .val (.int iv0), .val (.int lv), .val (.int iv), .val (.int w5), .val (.int w6), .val (.int w7), .val (.int w8)] [(.int iv), (.ref o)])) (fun t k => XS.iload X136.here hx rfl (hb hby d4_342) rfl k) ?_
          have f139 := ((G2.other W105 (Or.inr (sn_40 hw))).other W136 (Or.inr (sn_41 hw)))
          have f140 := (f135.wr W136)
          refine own_putF (host := "") X136 hx hZ hown e136 (hb hby d4_344) (Or.inl (own_w hw 53 rfl)) Via.refl f139 f140 (Or.inl (own_w hw 54 rfl)) (own_w hw 7 rfl) (ty := .int) (by decide) rfl rfl ?_
          intro T141 h141 X141 e141 W141
          show own_Go p e below _ T141 (mkF m 347 #[.val (.ref o), .val (.ref ca), .val (.int iv0), .val (.int lv), .val (.int iv), .val (.int w5), .val (.int w6), .val (.int w7), .val (.int w8)] [])
          have F141 := f139.same W141
          have sz142 : n0 ≤ h141.size := by rw [W141.size]; exact sz137
          have K143 := K138.wr W141 (Or.inl (List.mem_of_getElem? (i := 0) rfl))
          have N141 := Fr.snoc X141 N136 go
          refine own_by (T' := T141) (f' := (mkF m 348 #[.val (.ref o), .val (.ref ca), .val (.int iv0), .val (.int lv), .val (.int iv), .val (.int w5), .val (.int w6), .val (.int w7), .val (.int w8)] [(.ref o)])) (fun t k => XS.aloadN X141.here hx rfl (hb hby d4_347) rfl rfl k) ?_
          have f144 := (((G0.other W105 (Or.inr (sn_42 hw))).other W136 (Or.inr (sn_43 hw))).other W141 (Or.inr (sn_44 hw)))
          have f145 := (((G1.other W105 (Or.inr (sn_45 hw))).other W136 (Or.inr (sn_46 hw))).other W141 (Or.inr (sn_47 hw)))
          have f146 := (((G3.other W105 (Or.inr (sn_48 hw))).other W136 (Or.inr (sn_49 hw))).other W141 (Or.inr (sn_50 hw)))
          have f147 := (((G4.other W105 (Or.inr (sn_51 hw))).other W136 (Or.inr (sn_52 hw))).other W141 (Or.inr (sn_53 hw)))
          have f148 := (((G5.other W105 (Or.inr (sn_54 hw))).other W136 (Or.inr (sn_55 hw))).other W141 (Or.inr (sn_56 hw)))
          have f149 := ((F105.other W136 (Or.inr (sn_57 hw))).other W141 (Or.inr (sn_58 hw)))
          have f150 := (((G7.other W105 (Or.inr (sn_59 hw))).other W136 (Or.inr (sn_60 hw))).other W141 (Or.inr (sn_61 hw)))
          have f151 := (((G8.other W105 (Or.inr (sn_62 hw))).other W136 (Or.inr (sn_63 hw))).other W141 (Or.inr (sn_64 hw)))
          have f152 := (((G9.other W105 (Or.inr (sn_65 hw))).other W136 (Or.inr (sn_66 hw))).other W141 (Or.inr (sn_67 hw)))
          have f153 := (((G10.other W105 (Or.inr (sn_68 hw))).other W136 (Or.inr (sn_69 hw))).other W141 (Or.inr (sn_70 hw)))
          have f154 := (((G11.other W105 (Or.inr (sn_71 hw))).other W136 (Or.inr (sn_72 hw))).other W141 (Or.inr (sn_73 hw)))
          have f155 := (((G12.other W105 (Or.inr (sn_74 hw))).other W136 (Or.inr (sn_75 hw))).other W141 (Or.inr (sn_76 hw)))
          have f156 := (F136.other W141 (Or.inr (sn_77 hw)))
          refine own_retA X141 hx hret hlk (hb hby d4_348) rfl rfl rfl (by decide) (by decide) ?_
          try rw [e141]
          exact ⟨rfl, N141, K143, _, _, _, hX, hD, hV, _, _, _, _, _, _, _, _, _, _, _, f144, f145, F141, f146, f147, f148, f149, f150, f151, f152, f153, f154, f155, f156⟩
    | succ k ih =>
      intro j iv xe w5 w6 w7 w8 u0 u1 u2 u4 u6 u7 u8 u9 u10 u12 TL hL LL hjk hiv XL eL AL EL G0 G1 G2 G3 G4 G5 G6 G7 G8 G9 G10 G11 G12 G13 KL NL ZL
      refine own_by (T' := TL) (f' := (mkF m 260 #[.val (.ref o), .val (.ref ca), .val (.int iv0), .val (.int lv), .val (.int iv), .val (.int w5), .val (.int w6), .val (.int w7), .val (.int w8)] [(.int iv)])) (fun t k => XS.iload XL.here hx rfl (hb hby d4_258) rfl k) ?_
      refine own_by (T' := TL) (f' := (mkF m 261 #[.val (.ref o), .val (.ref ca), .val (.int iv0), .val (.int lv), .val (.int iv), .val (.int w5), .val (.int w6), .val (.int w7), .val (.int w8)] [(.int lv), (.int iv)])) (fun t k => XS.iloadN XL.here hx rfl (hb hby d4_260) rfl k) ?_
      have hc261_51 : iv < lv := (by rw [Int32.lt_iff_toInt_lt]; omega)
      refine own_by (T' := TL) (f' := (mkF m 264 #[.val (.ref o), .val (.ref ca), .val (.int iv0), .val (.int lv), .val (.int iv), .val (.int w5), .val (.int w6), .val (.int w7), .val (.int w8)] [])) (fun t k => XS.icmpNo XL.here hx rfl (hb hby d4_261) rfl (tlt hc261_51).2.1 k) ?_
      refine own_by (T' := TL) (f' := (mkF m 265 #[.val (.ref o), .val (.ref ca), .val (.int iv0), .val (.int lv), .val (.int iv), .val (.int w5), .val (.int w6), .val (.int w7), .val (.int w8)] [(.ref ca)])) (fun t k => XS.aloadN XL.here hx rfl (hb hby d4_264) rfl rfl k) ?_
      refine own_by (T' := TL) (f' := (mkF m 267 #[.val (.ref o), .val (.ref ca), .val (.int iv0), .val (.int lv), .val (.int iv), .val (.int w5), .val (.int w6), .val (.int w7), .val (.int w8)] [(.int iv), (.ref ca)])) (fun t k => XS.iload XL.here hx rfl (hb hby d4_265) rfl k) ?_
      refine own_ldC XL hx hZ eL (hb hby d4_267) AL (by omega) (by omega) ?_
      rw [show iv.toInt.toNat = j from by omega]
      show own_Go p e below _ TL (mkF m 268 #[.val (.ref o), .val (.ref ca), .val (.int iv0), .val (.int lv), .val (.int iv), .val (.int w5), .val (.int w6), .val (.int w7), .val (.int w8)] [(.int (f j))])
      refine own_callS XL hx hZ hown eL (hb hby d4_268) [(.int (f j))] [] 0 (rmDI l Z a0 hw [] (f j) hL) (own_w hw 42 rfl) (own_w hw 43 rfl) (own_w hw 8 rfl) (own_w hw 44 rfl) (by decide) pd__C_Z (by rw [hml]; rfl) rfl rfl (Nat.le_of_eq rfl) (by decide) (by decide) (by decide) (by decide) ?_
      rintro T52 _ L52 X52 ⟨rfl, rfl, e52⟩
      show own_Go p e below _ T52 (mkF m 271 #[.val (.ref o), .val (.ref ca), .val (.int iv0), .val (.int lv), .val (.int iv), .val (.int w5), .val (.int w6), .val (.int w7), .val (.int w8)] [(.int (own_dig (f j)))])
      rw [List.append_nil] at X52
      by_cases hc271_53 : (own_dig (f j)) = (0 : Int32)
      · have _ := X52
        refine own_by (T' := T52) (f' := (mkF m 304 #[.val (.ref o), .val (.ref ca), .val (.int iv0), .val (.int lv), .val (.int iv), .val (.int w5), .val (.int w6), .val (.int w7), .val (.int w8)] [])) (fun t k => XS.ifYes X52.here hx rfl (pc0 := 271) (pc' := 304) rfl (hb hby d4_271) rfl ((if0 _ _).trans (teq hc271_53).1) (by decide) (by decide) k) ?_
        refine own_by (T' := T52) (f' := (mkF m 305 #[.val (.ref o), .val (.ref ca), .val (.int iv0), .val (.int lv), .val (.int iv), .val (.int w5), .val (.int w6), .val (.int w7), .val (.int w8)] [(.ref o)])) (fun t k => XS.aloadN X52.here hx rfl (hb hby d4_304) rfl rfl k) ?_
        refine own_by (T' := T52) (f' := (mkF m 307 #[.val (.ref o), .val (.ref ca), .val (.int iv0), .val (.int lv), .val (.int iv), .val (.int w5), .val (.int w6), .val (.int w7), .val (.int w8)] [(.int iv), (.ref o)])) (fun t k => XS.iload X52.here hx rfl (hb hby d4_305) rfl k) ?_
        refine own_by (T' := T52) (f' := (mkF m 309 #[.val (.ref o), .val (.ref ca), .val (.int iv0), .val (.int lv), .val (.int iv), .val (.int w5), .val (.int w6), .val (.int w7), .val (.int w8)] [(.int w8), (.int iv), (.ref o)])) (fun t k => XS.iload X52.here hx rfl (hb hby d4_307) rfl k) ?_
        by_cases hc309_54 : w8 < iv
        · have _ := X52
          refine own_by (T' := T52) (f' := (mkF m 312 #[.val (.ref o), .val (.ref ca), .val (.int iv0), .val (.int lv), .val (.int iv), .val (.int w5), .val (.int w6), .val (.int w7), .val (.int w8)] [(.ref o)])) (fun t k => XS.icmpNo X52.here hx rfl (hb hby d4_309) rfl (tlt hc309_54).2.2.2 k) ?_
          refine own_by (T' := T52) (f' := (mkF m 313 #[.val (.ref o), .val (.ref ca), .val (.int iv0), .val (.int lv), .val (.int iv), .val (.int w5), .val (.int w6), .val (.int w7), .val (.int w8)] [(.int (1 : Int32)), (.ref o)])) (fun t k => XS.iconst X52.here hx rfl (hb hby d4_312) k) ?_
          refine own_by (T' := T52) (f' := (mkF m 317 #[.val (.ref o), .val (.ref ca), .val (.int iv0), .val (.int lv), .val (.int iv), .val (.int w5), .val (.int w6), .val (.int w7), .val (.int w8)] [(.int (1 : Int32)), (.ref o)])) (fun t k => XS.goto X52.here hx rfl (pc0 := 313) (pc' := 317) rfl (hb hby d4_313) (by decide) (by decide) k) ?_
          refine own_putF (host := "") X52 hx hZ hown e52 (hb hby d4_317) (Or.inl (own_w hw 51 rfl)) Via.refl G6 EL (Or.inl (own_w hw 52 rfl)) (own_w hw 7 rfl) (ty := .boolean) (by decide) rfl rfl ?_
          intro T55 h55 X55 e55 W55
          show own_Go p e below _ T55 (mkF m 320 #[.val (.ref o), .val (.ref ca), .val (.int iv0), .val (.int lv), .val (.int iv), .val (.int w5), .val (.int w6), .val (.int w7), .val (.int w8)] [])
          have F55 := G6.same W55
          have sz56 : n0 ≤ h55.size := by rw [W55.size]; exact ZL
          have K57 := KL.wr W55 (Or.inl (List.mem_of_getElem? (i := 0) rfl))
          have N55 := Fr.snoc X55 NL go
          refine own_by (T' := T55) (f' := (mkF m 321 #[.val (.ref o), .val (.ref ca), .val (.int iv0), .val (.int lv), .val (.int iv), .val (.int w5), .val (.int w6), .val (.int w7), .val (.int w8)] [(.ref o)])) (fun t k => XS.aloadN X55.here hx rfl (hb hby d4_320) rfl rfl k) ?_
          refine own_by (T' := T55) (f' := (mkF m 323 #[.val (.ref o), .val (.ref ca), .val (.int iv0), .val (.int lv), .val (.int iv), .val (.int w5), .val (.int w6), .val (.int w7), .val (.int w8)] [(.int w7), (.ref o)])) (fun t k => XS.iload X55.here hx rfl (hb hby d4_321) rfl k) ?_
          by_cases hc323_58 : w7 = (0 : Int32)
          · have _ := X55
            refine own_by (T' := T55) (f' := (mkF m 334 #[.val (.ref o), .val (.ref ca), .val (.int iv0), .val (.int lv), .val (.int iv), .val (.int w5), .val (.int w6), .val (.int w7), .val (.int w8)] [(.ref o)])) (fun t k => XS.ifYes X55.here hx rfl (pc0 := 323) (pc' := 334) rfl (hb hby d4_323) rfl ((if0 _ _).trans (teq hc323_58).1) (by decide) (by decide) k) ?_
            refine own_by (T' := T55) (f' := (mkF m 335 #[.val (.ref o), .val (.ref ca), .val (.int iv0), .val (.int lv), .val (.int iv), .val (.int w5), .val (.int w6), .val (.int w7), .val (.int w8)] [(.ref o), (.ref o)])) (fun t k => XS.aloadN X55.here hx rfl (hb hby d4_334) rfl rfl k) ?_
            have f59 := (G13.other W55 (Or.inr (sn_39 hw)))
            refine own_getF (host := "") X55 hx hZ hown e55 (hb hby d4_335) (Or.inl (own_w hw 36 rfl)) Via.refl f59 ?_
            intro T60 X60 e60
            show own_Go p e below _ T60 (mkF m 338 #[.val (.ref o), .val (.ref ca), .val (.int iv0), .val (.int lv), .val (.int iv), .val (.int w5), .val (.int w6), .val (.int w7), .val (.int w8)] [(.int xe), (.ref o)])
            have f61 := (EL.wr W55)
            refine own_putF (host := "") X60 hx hZ hown e60 (hb hby d4_338) (Or.inl (own_w hw 36 rfl)) Via.refl f59 f61 (Or.inl (own_w hw 37 rfl)) (own_w hw 7 rfl) (ty := .int) (by decide) rfl rfl ?_
            intro T62 h62 X62 e62 W62
            show own_Go p e below _ T62 (mkF m 341 #[.val (.ref o), .val (.ref ca), .val (.int iv0), .val (.int lv), .val (.int iv), .val (.int w5), .val (.int w6), .val (.int w7), .val (.int w8)] [])
            have F62 := f59.same W62
            have sz63 : n0 ≤ h62.size := by rw [W62.size]; exact sz56
            have K64 := K57.wr W62 (Or.inl (List.mem_of_getElem? (i := 0) rfl))
            have N62 := Fr.snoc X62 N55 go
            refine own_by (T' := T62) (f' := (mkF m 342 #[.val (.ref o), .val (.ref ca), .val (.int iv0), .val (.int lv), .val (.int iv), .val (.int w5), .val (.int w6), .val (.int w7), .val (.int w8)] [(.ref o)])) (fun t k => XS.aloadN X62.here hx rfl (hb hby d4_341) rfl rfl k) ?_
            refine own_by (T' := T62) (f' := (mkF m 344 #[.val (.ref o), .val (.ref ca), .val (.int iv0), .val (.int lv), .val (.int iv), .val (.int w5), .val (.int w6), .val (.int w7), .val (.int w8)] [(.int iv), (.ref o)])) (fun t k => XS.iload X62.here hx rfl (hb hby d4_342) rfl k) ?_
            have f65 := ((G2.other W55 (Or.inr (sn_40 hw))).other W62 (Or.inr (sn_41 hw)))
            have f66 := (f61.wr W62)
            refine own_putF (host := "") X62 hx hZ hown e62 (hb hby d4_344) (Or.inl (own_w hw 53 rfl)) Via.refl f65 f66 (Or.inl (own_w hw 54 rfl)) (own_w hw 7 rfl) (ty := .int) (by decide) rfl rfl ?_
            intro T67 h67 X67 e67 W67
            show own_Go p e below _ T67 (mkF m 347 #[.val (.ref o), .val (.ref ca), .val (.int iv0), .val (.int lv), .val (.int iv), .val (.int w5), .val (.int w6), .val (.int w7), .val (.int w8)] [])
            have F67 := f65.same W67
            have sz68 : n0 ≤ h67.size := by rw [W67.size]; exact sz63
            have K69 := K64.wr W67 (Or.inl (List.mem_of_getElem? (i := 0) rfl))
            have N67 := Fr.snoc X67 N62 go
            refine own_by (T' := T67) (f' := (mkF m 348 #[.val (.ref o), .val (.ref ca), .val (.int iv0), .val (.int lv), .val (.int iv), .val (.int w5), .val (.int w6), .val (.int w7), .val (.int w8)] [(.ref o)])) (fun t k => XS.aloadN X67.here hx rfl (hb hby d4_347) rfl rfl k) ?_
            have f70 := (((G0.other W55 (Or.inr (sn_42 hw))).other W62 (Or.inr (sn_43 hw))).other W67 (Or.inr (sn_44 hw)))
            have f71 := (((G1.other W55 (Or.inr (sn_45 hw))).other W62 (Or.inr (sn_46 hw))).other W67 (Or.inr (sn_47 hw)))
            have f72 := (((G3.other W55 (Or.inr (sn_48 hw))).other W62 (Or.inr (sn_49 hw))).other W67 (Or.inr (sn_50 hw)))
            have f73 := (((G4.other W55 (Or.inr (sn_51 hw))).other W62 (Or.inr (sn_52 hw))).other W67 (Or.inr (sn_53 hw)))
            have f74 := (((G5.other W55 (Or.inr (sn_54 hw))).other W62 (Or.inr (sn_55 hw))).other W67 (Or.inr (sn_56 hw)))
            have f75 := ((F55.other W62 (Or.inr (sn_57 hw))).other W67 (Or.inr (sn_58 hw)))
            have f76 := (((G7.other W55 (Or.inr (sn_59 hw))).other W62 (Or.inr (sn_60 hw))).other W67 (Or.inr (sn_61 hw)))
            have f77 := (((G8.other W55 (Or.inr (sn_62 hw))).other W62 (Or.inr (sn_63 hw))).other W67 (Or.inr (sn_64 hw)))
            have f78 := (((G9.other W55 (Or.inr (sn_65 hw))).other W62 (Or.inr (sn_66 hw))).other W67 (Or.inr (sn_67 hw)))
            have f79 := (((G10.other W55 (Or.inr (sn_68 hw))).other W62 (Or.inr (sn_69 hw))).other W67 (Or.inr (sn_70 hw)))
            have f80 := (((G11.other W55 (Or.inr (sn_71 hw))).other W62 (Or.inr (sn_72 hw))).other W67 (Or.inr (sn_73 hw)))
            have f81 := (((G12.other W55 (Or.inr (sn_74 hw))).other W62 (Or.inr (sn_75 hw))).other W67 (Or.inr (sn_76 hw)))
            have f82 := (F62.other W67 (Or.inr (sn_77 hw)))
            refine own_retA X67 hx hret hlk (hb hby d4_348) rfl rfl rfl (by decide) (by decide) ?_
            try rw [e67]
            exact ⟨rfl, N67, K69, _, _, _, hX, hD, hV, _, _, _, _, _, _, _, _, _, _, _, f70, f71, F67, f72, f73, f74, f75, f76, f77, f78, f79, f80, f81, f82⟩
          · have _ := X55
            refine own_by (T' := T55) (f' := (mkF m 326 #[.val (.ref o), .val (.ref ca), .val (.int iv0), .val (.int lv), .val (.int iv), .val (.int w5), .val (.int w6), .val (.int w7), .val (.int w8)] [(.ref o)])) (fun t k => XS.ifNo X55.here hx rfl (hb hby d4_323) rfl ((if0 _ _).trans (feq hc323_58).1) k) ?_
            refine own_by (T' := T55) (f' := (mkF m 327 #[.val (.ref o), .val (.ref ca), .val (.int iv0), .val (.int lv), .val (.int iv), .val (.int w5), .val (.int w6), .val (.int w7), .val (.int w8)] [(.ref o), (.ref o)])) (fun t k => XS.aloadN X55.here hx rfl (hb hby d4_326) rfl rfl k) ?_
            have f83 := (G13.other W55 (Or.inr (sn_39 hw)))
            refine own_getF (host := "") X55 hx hZ hown e55 (hb hby d4_327) (Or.inl (own_w hw 36 rfl)) Via.refl f83 ?_
            intro T84 X84 e84
            show own_Go p e below _ T84 (mkF m 330 #[.val (.ref o), .val (.ref ca), .val (.int iv0), .val (.int lv), .val (.int iv), .val (.int w5), .val (.int w6), .val (.int w7), .val (.int w8)] [(.int xe), (.ref o)])
            refine own_by (T' := T84) (f' := (mkF m 331 #[.val (.ref o), .val (.ref ca), .val (.int iv0), .val (.int lv), .val (.int iv), .val (.int w5), .val (.int w6), .val (.int w7), .val (.int w8)] [(.int (-xe)), (.ref o)])) (fun t k => XS.ineg X84.here hx rfl (hb hby d4_330) rfl k) ?_
            refine own_by (T' := T84) (f' := (mkF m 338 #[.val (.ref o), .val (.ref ca), .val (.int iv0), .val (.int lv), .val (.int iv), .val (.int w5), .val (.int w6), .val (.int w7), .val (.int w8)] [(.int (-xe)), (.ref o)])) (fun t k => XS.goto X84.here hx rfl (pc0 := 331) (pc' := 338) rfl (hb hby d4_331) (by decide) (by decide) k) ?_
            have f85 := (EL.wr W55)
            refine own_putF (host := "") X84 hx hZ hown e84 (hb hby d4_338) (Or.inl (own_w hw 36 rfl)) Via.refl f83 f85 (Or.inl (own_w hw 37 rfl)) (own_w hw 7 rfl) (ty := .int) (by decide) rfl rfl ?_
            intro T86 h86 X86 e86 W86
            show own_Go p e below _ T86 (mkF m 341 #[.val (.ref o), .val (.ref ca), .val (.int iv0), .val (.int lv), .val (.int iv), .val (.int w5), .val (.int w6), .val (.int w7), .val (.int w8)] [])
            have F86 := f83.same W86
            have sz87 : n0 ≤ h86.size := by rw [W86.size]; exact sz56
            have K88 := K57.wr W86 (Or.inl (List.mem_of_getElem? (i := 0) rfl))
            have N86 := Fr.snoc X86 N55 go
            refine own_by (T' := T86) (f' := (mkF m 342 #[.val (.ref o), .val (.ref ca), .val (.int iv0), .val (.int lv), .val (.int iv), .val (.int w5), .val (.int w6), .val (.int w7), .val (.int w8)] [(.ref o)])) (fun t k => XS.aloadN X86.here hx rfl (hb hby d4_341) rfl rfl k) ?_
            refine own_by (T' := T86) (f' := (mkF m 344 #[.val (.ref o), .val (.ref ca), .val (.int iv0), .val (.int lv), .val (.int iv), .val (.int w5), .val (.int w6), .val (.int w7), .val (.int w8)] [(.int iv), (.ref o)])) (fun t k => XS.iload X86.here hx rfl (hb hby d4_342) rfl k) ?_
            have f89 := ((G2.other W55 (Or.inr (sn_40 hw))).other W86 (Or.inr (sn_41 hw)))
            have f90 := (f85.wr W86)
            refine own_putF (host := "") X86 hx hZ hown e86 (hb hby d4_344) (Or.inl (own_w hw 53 rfl)) Via.refl f89 f90 (Or.inl (own_w hw 54 rfl)) (own_w hw 7 rfl) (ty := .int) (by decide) rfl rfl ?_
            intro T91 h91 X91 e91 W91
            show own_Go p e below _ T91 (mkF m 347 #[.val (.ref o), .val (.ref ca), .val (.int iv0), .val (.int lv), .val (.int iv), .val (.int w5), .val (.int w6), .val (.int w7), .val (.int w8)] [])
            have F91 := f89.same W91
            have sz92 : n0 ≤ h91.size := by rw [W91.size]; exact sz87
            have K93 := K88.wr W91 (Or.inl (List.mem_of_getElem? (i := 0) rfl))
            have N91 := Fr.snoc X91 N86 go
            refine own_by (T' := T91) (f' := (mkF m 348 #[.val (.ref o), .val (.ref ca), .val (.int iv0), .val (.int lv), .val (.int iv), .val (.int w5), .val (.int w6), .val (.int w7), .val (.int w8)] [(.ref o)])) (fun t k => XS.aloadN X91.here hx rfl (hb hby d4_347) rfl rfl k) ?_
            have f94 := (((G0.other W55 (Or.inr (sn_42 hw))).other W86 (Or.inr (sn_43 hw))).other W91 (Or.inr (sn_44 hw)))
            have f95 := (((G1.other W55 (Or.inr (sn_45 hw))).other W86 (Or.inr (sn_46 hw))).other W91 (Or.inr (sn_47 hw)))
            have f96 := (((G3.other W55 (Or.inr (sn_48 hw))).other W86 (Or.inr (sn_49 hw))).other W91 (Or.inr (sn_50 hw)))
            have f97 := (((G4.other W55 (Or.inr (sn_51 hw))).other W86 (Or.inr (sn_52 hw))).other W91 (Or.inr (sn_53 hw)))
            have f98 := (((G5.other W55 (Or.inr (sn_54 hw))).other W86 (Or.inr (sn_55 hw))).other W91 (Or.inr (sn_56 hw)))
            have f99 := ((F55.other W86 (Or.inr (sn_57 hw))).other W91 (Or.inr (sn_58 hw)))
            have f100 := (((G7.other W55 (Or.inr (sn_59 hw))).other W86 (Or.inr (sn_60 hw))).other W91 (Or.inr (sn_61 hw)))
            have f101 := (((G8.other W55 (Or.inr (sn_62 hw))).other W86 (Or.inr (sn_63 hw))).other W91 (Or.inr (sn_64 hw)))
            have f102 := (((G9.other W55 (Or.inr (sn_65 hw))).other W86 (Or.inr (sn_66 hw))).other W91 (Or.inr (sn_67 hw)))
            have f103 := (((G10.other W55 (Or.inr (sn_68 hw))).other W86 (Or.inr (sn_69 hw))).other W91 (Or.inr (sn_70 hw)))
            have f104 := (((G11.other W55 (Or.inr (sn_71 hw))).other W86 (Or.inr (sn_72 hw))).other W91 (Or.inr (sn_73 hw)))
            have f105 := (((G12.other W55 (Or.inr (sn_74 hw))).other W86 (Or.inr (sn_75 hw))).other W91 (Or.inr (sn_76 hw)))
            have f106 := (F86.other W91 (Or.inr (sn_77 hw)))
            refine own_retA X91 hx hret hlk (hb hby d4_348) rfl rfl rfl (by decide) (by decide) ?_
            try rw [e91]
            exact ⟨rfl, N91, K93, _, _, _, hX, hD, hV, _, _, _, _, _, _, _, _, _, _, _, f94, f95, F91, f96, f97, f98, f99, f100, f101, f102, f103, f104, f105, f106⟩
        · have _ := X52
          refine own_by (T' := T52) (f' := (mkF m 316 #[.val (.ref o), .val (.ref ca), .val (.int iv0), .val (.int lv), .val (.int iv), .val (.int w5), .val (.int w6), .val (.int w7), .val (.int w8)] [(.ref o)])) (fun t k => XS.icmpYes X52.here hx rfl (pc0 := 309) (pc' := 316) rfl (hb hby d4_309) rfl (flt hc309_54).2.2.2 (by decide) (by decide) k) ?_
          refine own_by (T' := T52) (f' := (mkF m 317 #[.val (.ref o), .val (.ref ca), .val (.int iv0), .val (.int lv), .val (.int iv), .val (.int w5), .val (.int w6), .val (.int w7), .val (.int w8)] [(.int (0 : Int32)), (.ref o)])) (fun t k => XS.iconst X52.here hx rfl (hb hby d4_316) k) ?_
          refine own_putF (host := "") X52 hx hZ hown e52 (hb hby d4_317) (Or.inl (own_w hw 51 rfl)) Via.refl G6 EL (Or.inl (own_w hw 52 rfl)) (own_w hw 7 rfl) (ty := .boolean) (by decide) rfl rfl ?_
          intro T107 h107 X107 e107 W107
          show own_Go p e below _ T107 (mkF m 320 #[.val (.ref o), .val (.ref ca), .val (.int iv0), .val (.int lv), .val (.int iv), .val (.int w5), .val (.int w6), .val (.int w7), .val (.int w8)] [])
          have F107 := G6.same W107
          have sz108 : n0 ≤ h107.size := by rw [W107.size]; exact ZL
          have K109 := KL.wr W107 (Or.inl (List.mem_of_getElem? (i := 0) rfl))
          have N107 := Fr.snoc X107 NL go
          refine own_by (T' := T107) (f' := (mkF m 321 #[.val (.ref o), .val (.ref ca), .val (.int iv0), .val (.int lv), .val (.int iv), .val (.int w5), .val (.int w6), .val (.int w7), .val (.int w8)] [(.ref o)])) (fun t k => XS.aloadN X107.here hx rfl (hb hby d4_320) rfl rfl k) ?_
          refine own_by (T' := T107) (f' := (mkF m 323 #[.val (.ref o), .val (.ref ca), .val (.int iv0), .val (.int lv), .val (.int iv), .val (.int w5), .val (.int w6), .val (.int w7), .val (.int w8)] [(.int w7), (.ref o)])) (fun t k => XS.iload X107.here hx rfl (hb hby d4_321) rfl k) ?_
          by_cases hc323_110 : w7 = (0 : Int32)
          · have _ := X107
            refine own_by (T' := T107) (f' := (mkF m 334 #[.val (.ref o), .val (.ref ca), .val (.int iv0), .val (.int lv), .val (.int iv), .val (.int w5), .val (.int w6), .val (.int w7), .val (.int w8)] [(.ref o)])) (fun t k => XS.ifYes X107.here hx rfl (pc0 := 323) (pc' := 334) rfl (hb hby d4_323) rfl ((if0 _ _).trans (teq hc323_110).1) (by decide) (by decide) k) ?_
            refine own_by (T' := T107) (f' := (mkF m 335 #[.val (.ref o), .val (.ref ca), .val (.int iv0), .val (.int lv), .val (.int iv), .val (.int w5), .val (.int w6), .val (.int w7), .val (.int w8)] [(.ref o), (.ref o)])) (fun t k => XS.aloadN X107.here hx rfl (hb hby d4_334) rfl rfl k) ?_
            have f111 := (G13.other W107 (Or.inr (sn_39 hw)))
            refine own_getF (host := "") X107 hx hZ hown e107 (hb hby d4_335) (Or.inl (own_w hw 36 rfl)) Via.refl f111 ?_
            intro T112 X112 e112
            show own_Go p e below _ T112 (mkF m 338 #[.val (.ref o), .val (.ref ca), .val (.int iv0), .val (.int lv), .val (.int iv), .val (.int w5), .val (.int w6), .val (.int w7), .val (.int w8)] [(.int xe), (.ref o)])
            have f113 := (EL.wr W107)
            refine own_putF (host := "") X112 hx hZ hown e112 (hb hby d4_338) (Or.inl (own_w hw 36 rfl)) Via.refl f111 f113 (Or.inl (own_w hw 37 rfl)) (own_w hw 7 rfl) (ty := .int) (by decide) rfl rfl ?_
            intro T114 h114 X114 e114 W114
            show own_Go p e below _ T114 (mkF m 341 #[.val (.ref o), .val (.ref ca), .val (.int iv0), .val (.int lv), .val (.int iv), .val (.int w5), .val (.int w6), .val (.int w7), .val (.int w8)] [])
            have F114 := f111.same W114
            have sz115 : n0 ≤ h114.size := by rw [W114.size]; exact sz108
            have K116 := K109.wr W114 (Or.inl (List.mem_of_getElem? (i := 0) rfl))
            have N114 := Fr.snoc X114 N107 go
            refine own_by (T' := T114) (f' := (mkF m 342 #[.val (.ref o), .val (.ref ca), .val (.int iv0), .val (.int lv), .val (.int iv), .val (.int w5), .val (.int w6), .val (.int w7), .val (.int w8)] [(.ref o)])) (fun t k => XS.aloadN X114.here hx rfl (hb hby d4_341) rfl rfl k) ?_
            refine own_by (T' := T114) (f' := (mkF m 344 #[.val (.ref o), .val (.ref ca), .val (.int iv0), .val (.int lv), .val (.int iv), .val (.int w5), .val (.int w6), .val (.int w7), .val (.int w8)] [(.int iv), (.ref o)])) (fun t k => XS.iload X114.here hx rfl (hb hby d4_342) rfl k) ?_
            have f117 := ((G2.other W107 (Or.inr (sn_40 hw))).other W114 (Or.inr (sn_41 hw)))
            have f118 := (f113.wr W114)
            refine own_putF (host := "") X114 hx hZ hown e114 (hb hby d4_344) (Or.inl (own_w hw 53 rfl)) Via.refl f117 f118 (Or.inl (own_w hw 54 rfl)) (own_w hw 7 rfl) (ty := .int) (by decide) rfl rfl ?_
            intro T119 h119 X119 e119 W119
            show own_Go p e below _ T119 (mkF m 347 #[.val (.ref o), .val (.ref ca), .val (.int iv0), .val (.int lv), .val (.int iv), .val (.int w5), .val (.int w6), .val (.int w7), .val (.int w8)] [])
            have F119 := f117.same W119
            have sz120 : n0 ≤ h119.size := by rw [W119.size]; exact sz115
            have K121 := K116.wr W119 (Or.inl (List.mem_of_getElem? (i := 0) rfl))
            have N119 := Fr.snoc X119 N114 go
            refine own_by (T' := T119) (f' := (mkF m 348 #[.val (.ref o), .val (.ref ca), .val (.int iv0), .val (.int lv), .val (.int iv), .val (.int w5), .val (.int w6), .val (.int w7), .val (.int w8)] [(.ref o)])) (fun t k => XS.aloadN X119.here hx rfl (hb hby d4_347) rfl rfl k) ?_
            have f122 := (((G0.other W107 (Or.inr (sn_42 hw))).other W114 (Or.inr (sn_43 hw))).other W119 (Or.inr (sn_44 hw)))
            have f123 := (((G1.other W107 (Or.inr (sn_45 hw))).other W114 (Or.inr (sn_46 hw))).other W119 (Or.inr (sn_47 hw)))
            have f124 := (((G3.other W107 (Or.inr (sn_48 hw))).other W114 (Or.inr (sn_49 hw))).other W119 (Or.inr (sn_50 hw)))
            have f125 := (((G4.other W107 (Or.inr (sn_51 hw))).other W114 (Or.inr (sn_52 hw))).other W119 (Or.inr (sn_53 hw)))
            have f126 := (((G5.other W107 (Or.inr (sn_54 hw))).other W114 (Or.inr (sn_55 hw))).other W119 (Or.inr (sn_56 hw)))
            have f127 := ((F107.other W114 (Or.inr (sn_57 hw))).other W119 (Or.inr (sn_58 hw)))
            have f128 := (((G7.other W107 (Or.inr (sn_59 hw))).other W114 (Or.inr (sn_60 hw))).other W119 (Or.inr (sn_61 hw)))
            have f129 := (((G8.other W107 (Or.inr (sn_62 hw))).other W114 (Or.inr (sn_63 hw))).other W119 (Or.inr (sn_64 hw)))
            have f130 := (((G9.other W107 (Or.inr (sn_65 hw))).other W114 (Or.inr (sn_66 hw))).other W119 (Or.inr (sn_67 hw)))
            have f131 := (((G10.other W107 (Or.inr (sn_68 hw))).other W114 (Or.inr (sn_69 hw))).other W119 (Or.inr (sn_70 hw)))
            have f132 := (((G11.other W107 (Or.inr (sn_71 hw))).other W114 (Or.inr (sn_72 hw))).other W119 (Or.inr (sn_73 hw)))
            have f133 := (((G12.other W107 (Or.inr (sn_74 hw))).other W114 (Or.inr (sn_75 hw))).other W119 (Or.inr (sn_76 hw)))
            have f134 := (F114.other W119 (Or.inr (sn_77 hw)))
            refine own_retA X119 hx hret hlk (hb hby d4_348) rfl rfl rfl (by decide) (by decide) ?_
            try rw [e119]
            exact ⟨rfl, N119, K121, _, _, _, hX, hD, hV, _, _, _, _, _, _, _, _, _, _, _, f122, f123, F119, f124, f125, f126, f127, f128, f129, f130, f131, f132, f133, f134⟩
          · have _ := X107
            refine own_by (T' := T107) (f' := (mkF m 326 #[.val (.ref o), .val (.ref ca), .val (.int iv0), .val (.int lv), .val (.int iv), .val (.int w5), .val (.int w6), .val (.int w7), .val (.int w8)] [(.ref o)])) (fun t k => XS.ifNo X107.here hx rfl (hb hby d4_323) rfl ((if0 _ _).trans (feq hc323_110).1) k) ?_
            refine own_by (T' := T107) (f' := (mkF m 327 #[.val (.ref o), .val (.ref ca), .val (.int iv0), .val (.int lv), .val (.int iv), .val (.int w5), .val (.int w6), .val (.int w7), .val (.int w8)] [(.ref o), (.ref o)])) (fun t k => XS.aloadN X107.here hx rfl (hb hby d4_326) rfl rfl k) ?_
            have f135 := (G13.other W107 (Or.inr (sn_39 hw)))
            refine own_getF (host := "") X107 hx hZ hown e107 (hb hby d4_327) (Or.inl (own_w hw 36 rfl)) Via.refl f135 ?_
            intro T136 X136 e136
            show own_Go p e below _ T136 (mkF m 330 #[.val (.ref o), .val (.ref ca), .val (.int iv0), .val (.int lv), .val (.int iv), .val (.int w5), .val (.int w6), .val (.int w7), .val (.int w8)] [(.int xe), (.ref o)])
            refine own_by (T' := T136) (f' := (mkF m 331 #[.val (.ref o), .val (.ref ca), .val (.int iv0), .val (.int lv), .val (.int iv), .val (.int w5), .val (.int w6), .val (.int w7), .val (.int w8)] [(.int (-xe)), (.ref o)])) (fun t k => XS.ineg X136.here hx rfl (hb hby d4_330) rfl k) ?_
            refine own_by (T' := T136) (f' := (mkF m 338 #[.val (.ref o), .val (.ref ca), .val (.int iv0), .val (.int lv), .val (.int iv), .val (.int w5), .val (.int w6), .val (.int w7), .val (.int w8)] [(.int (-xe)), (.ref o)])) (fun t k => XS.goto X136.here hx rfl (pc0 := 331) (pc' := 338) rfl (hb hby d4_331) (by decide) (by decide) k) ?_
            have f137 := (EL.wr W107)
            refine own_putF (host := "") X136 hx hZ hown e136 (hb hby d4_338) (Or.inl (own_w hw 36 rfl)) Via.refl f135 f137 (Or.inl (own_w hw 37 rfl)) (own_w hw 7 rfl) (ty := .int) (by decide) rfl rfl ?_
            intro T138 h138 X138 e138 W138
            show own_Go p e below _ T138 (mkF m 341 #[.val (.ref o), .val (.ref ca), .val (.int iv0), .val (.int lv), .val (.int iv), .val (.int w5), .val (.int w6), .val (.int w7), .val (.int w8)] [])
            have F138 := f135.same W138
            have sz139 : n0 ≤ h138.size := by rw [W138.size]; exact sz108
            have K140 := K109.wr W138 (Or.inl (List.mem_of_getElem? (i := 0) rfl))
            have N138 := Fr.snoc X138 N107 go
            refine own_by (T' := T138) (f' := (mkF m 342 #[.val (.ref o), .val (.ref ca), .val (.int iv0), .val (.int lv), .val (.int iv), .val (.int w5), .val (.int w6), .val (.int w7), .val (.int w8)] [(.ref o)])) (fun t k => XS.aloadN X138.here hx rfl (hb hby d4_341) rfl rfl k) ?_
            refine own_by (T' := T138) (f' := (mkF m 344 #[.val (.ref o), .val (.ref ca), .val (.int iv0), .val (.int lv), .val (.int iv), .val (.int w5), .val (.int w6), .val (.int w7), .val (.int w8)] [(.int iv), (.ref o)])) (fun t k => XS.iload X138.here hx rfl (hb hby d4_342) rfl k) ?_
            have f141 := ((G2.other W107 (Or.inr (sn_40 hw))).other W138 (Or.inr (sn_41 hw)))
            have f142 := (f137.wr W138)
            refine own_putF (host := "") X138 hx hZ hown e138 (hb hby d4_344) (Or.inl (own_w hw 53 rfl)) Via.refl f141 f142 (Or.inl (own_w hw 54 rfl)) (own_w hw 7 rfl) (ty := .int) (by decide) rfl rfl ?_
            intro T143 h143 X143 e143 W143
            show own_Go p e below _ T143 (mkF m 347 #[.val (.ref o), .val (.ref ca), .val (.int iv0), .val (.int lv), .val (.int iv), .val (.int w5), .val (.int w6), .val (.int w7), .val (.int w8)] [])
            have F143 := f141.same W143
            have sz144 : n0 ≤ h143.size := by rw [W143.size]; exact sz139
            have K145 := K140.wr W143 (Or.inl (List.mem_of_getElem? (i := 0) rfl))
            have N143 := Fr.snoc X143 N138 go
            refine own_by (T' := T143) (f' := (mkF m 348 #[.val (.ref o), .val (.ref ca), .val (.int iv0), .val (.int lv), .val (.int iv), .val (.int w5), .val (.int w6), .val (.int w7), .val (.int w8)] [(.ref o)])) (fun t k => XS.aloadN X143.here hx rfl (hb hby d4_347) rfl rfl k) ?_
            have f146 := (((G0.other W107 (Or.inr (sn_42 hw))).other W138 (Or.inr (sn_43 hw))).other W143 (Or.inr (sn_44 hw)))
            have f147 := (((G1.other W107 (Or.inr (sn_45 hw))).other W138 (Or.inr (sn_46 hw))).other W143 (Or.inr (sn_47 hw)))
            have f148 := (((G3.other W107 (Or.inr (sn_48 hw))).other W138 (Or.inr (sn_49 hw))).other W143 (Or.inr (sn_50 hw)))
            have f149 := (((G4.other W107 (Or.inr (sn_51 hw))).other W138 (Or.inr (sn_52 hw))).other W143 (Or.inr (sn_53 hw)))
            have f150 := (((G5.other W107 (Or.inr (sn_54 hw))).other W138 (Or.inr (sn_55 hw))).other W143 (Or.inr (sn_56 hw)))
            have f151 := ((F107.other W138 (Or.inr (sn_57 hw))).other W143 (Or.inr (sn_58 hw)))
            have f152 := (((G7.other W107 (Or.inr (sn_59 hw))).other W138 (Or.inr (sn_60 hw))).other W143 (Or.inr (sn_61 hw)))
            have f153 := (((G8.other W107 (Or.inr (sn_62 hw))).other W138 (Or.inr (sn_63 hw))).other W143 (Or.inr (sn_64 hw)))
            have f154 := (((G9.other W107 (Or.inr (sn_65 hw))).other W138 (Or.inr (sn_66 hw))).other W143 (Or.inr (sn_67 hw)))
            have f155 := (((G10.other W107 (Or.inr (sn_68 hw))).other W138 (Or.inr (sn_69 hw))).other W143 (Or.inr (sn_70 hw)))
            have f156 := (((G11.other W107 (Or.inr (sn_71 hw))).other W138 (Or.inr (sn_72 hw))).other W143 (Or.inr (sn_73 hw)))
            have f157 := (((G12.other W107 (Or.inr (sn_74 hw))).other W138 (Or.inr (sn_75 hw))).other W143 (Or.inr (sn_76 hw)))
            have f158 := (F138.other W143 (Or.inr (sn_77 hw)))
            refine own_retA X143 hx hret hlk (hb hby d4_348) rfl rfl rfl (by decide) (by decide) ?_
            try rw [e143]
            exact ⟨rfl, N143, K145, _, _, _, hX, hD, hV, _, _, _, _, _, _, _, _, _, _, _, f146, f147, F143, f148, f149, f150, f151, f152, f153, f154, f155, f156, f157, f158⟩
      · have _ := X52
        refine own_by (T' := T52) (f' := (mkF m 274 #[.val (.ref o), .val (.ref ca), .val (.int iv0), .val (.int lv), .val (.int iv), .val (.int w5), .val (.int w6), .val (.int w7), .val (.int w8)] [])) (fun t k => XS.ifNo X52.here hx rfl (hb hby d4_271) rfl ((if0 _ _).trans (feq hc271_53).1) k) ?_
        refine own_by (T' := T52) (f' := (mkF m 275 #[.val (.ref o), .val (.ref ca), .val (.int iv0), .val (.int lv), .val (.int iv), .val (.int w5), .val (.int w6), .val (.int w7), .val (.int w8)] [(.ref o)])) (fun t k => XS.aloadN X52.here hx rfl (hb hby d4_274) rfl rfl k) ?_
        refine own_by (T' := T52) (f' := (mkF m 276 #[.val (.ref o), .val (.ref ca), .val (.int iv0), .val (.int lv), .val (.int iv), .val (.int w5), .val (.int w6), .val (.int w7), .val (.int w8)] [(.ref o), (.ref o)])) (fun t k => XS.aloadN X52.here hx rfl (hb hby d4_275) rfl rfl k) ?_
        refine own_getF (host := "") X52 hx hZ hown e52 (hb hby d4_276) (Or.inl (own_w hw 36 rfl)) Via.refl G13 ?_
        intro T159 X159 e159
        show own_Go p e below _ T159 (mkF m 279 #[.val (.ref o), .val (.ref ca), .val (.int iv0), .val (.int lv), .val (.int iv), .val (.int w5), .val (.int w6), .val (.int w7), .val (.int w8)] [(.int xe), (.ref o)])
        refine own_by (T' := T159) (f' := (mkF m 281 #[.val (.ref o), .val (.ref ca), .val (.int iv0), .val (.int lv), .val (.int iv), .val (.int w5), .val (.int w6), .val (.int w7), .val (.int w8)] [(.int (10 : Int32)), (.int xe), (.ref o)])) (fun t k => XS.bipush X159.here hx rfl (hb hby d4_279) k) ?_
        refine own_by (T' := T159) (f' := (mkF m 282 #[.val (.ref o), .val (.ref ca), .val (.int iv0), .val (.int lv), .val (.int iv), .val (.int w5), .val (.int w6), .val (.int w7), .val (.int w8)] [(.int (xe * (10 : Int32))), (.ref o)])) (fun t k => XS.imul X159.here hx rfl (hb hby d4_281) rfl k) ?_
        refine own_by (T' := T159) (f' := (mkF m 283 #[.val (.ref o), .val (.ref ca), .val (.int iv0), .val (.int lv), .val (.int iv), .val (.int w5), .val (.int w6), .val (.int w7), .val (.int w8)] [(.ref ca), (.int (xe * (10 : Int32))), (.ref o)])) (fun t k => XS.aloadN X159.here hx rfl (hb hby d4_282) rfl rfl k) ?_
        refine own_by (T' := T159) (f' := (mkF m 285 #[.val (.ref o), .val (.ref ca), .val (.int iv0), .val (.int lv), .val (.int iv), .val (.int w5), .val (.int w6), .val (.int w7), .val (.int w8)] [(.int iv), (.ref ca), (.int (xe * (10 : Int32))), (.ref o)])) (fun t k => XS.iload X159.here hx rfl (hb hby d4_283) rfl k) ?_
        refine own_ldC X159 hx hZ e159 (hb hby d4_285) AL (by omega) (by omega) ?_
        rw [show iv.toInt.toNat = j from by omega]
        show own_Go p e below _ T159 (mkF m 286 #[.val (.ref o), .val (.ref ca), .val (.int iv0), .val (.int lv), .val (.int iv), .val (.int w5), .val (.int w6), .val (.int w7), .val (.int w8)] [(.int (f j)), (.int (xe * (10 : Int32))), (.ref o)])
        refine own_by (T' := T159) (f' := (mkF m 287 #[.val (.ref o), .val (.ref ca), .val (.int iv0), .val (.int lv), .val (.int iv), .val (.int w5), .val (.int w6), .val (.int w7), .val (.int w8)] [(.int ((xe * (10 : Int32)) + (f j))), (.ref o)])) (fun t k => XS.iadd X159.here hx rfl (hb hby d4_286) rfl k) ?_
        refine own_by (T' := T159) (f' := (mkF m 289 #[.val (.ref o), .val (.ref ca), .val (.int iv0), .val (.int lv), .val (.int iv), .val (.int w5), .val (.int w6), .val (.int w7), .val (.int w8)] [(.int (48 : Int32)), (.int ((xe * (10 : Int32)) + (f j))), (.ref o)])) (fun t k => XS.bipush X159.here hx rfl (hb hby d4_287) k) ?_
        refine own_by (T' := T159) (f' := (mkF m 290 #[.val (.ref o), .val (.ref ca), .val (.int iv0), .val (.int lv), .val (.int iv), .val (.int w5), .val (.int w6), .val (.int w7), .val (.int w8)] [(.int (((xe * (10 : Int32)) + (f j)) - (48 : Int32))), (.ref o)])) (fun t k => XS.isub X159.here hx rfl (hb hby d4_289) rfl k) ?_
        refine own_by (T' := T159) (f' := (mkF m 292 #[.val (.ref o), .val (.ref ca), .val (.int iv0), .val (.int lv), .val (.int iv), .val (.int w5), .val (.int w6), .val (.int w7), .val (.int w8)] [(.int (1000000 : Int32)), (.int (((xe * (10 : Int32)) + (f j)) - (48 : Int32))), (.ref o)])) (fun t k => X159.ldcInt hx hown (mvT hZ (own_w hw 71 rfl)) (g := (mkF m 290 #[.val (.ref o), .val (.ref ca), .val (.int iv0), .val (.int lv), .val (.int iv), .val (.int w5), .val (.int w6), .val (.int w7), .val (.int w8)] [(.int (((xe * (10 : Int32)) + (f j)) - (48 : Int32))), (.ref o)])) rfl (hb hby d4_290) _ k) ?_
        refine own_callS X159 hx hZ hown e159 (hb hby d4_292) [(.int (((xe * (10 : Int32)) + (f j)) - (48 : Int32))), (.int (1000000 : Int32))] [(.ref o)] 1 (rmMN l Z a0 hw [] (((xe * (10 : Int32)) + (f j)) - (48 : Int32)) (1000000 : Int32) hL) (own_w hw 72 rfl) (own_w hw 73 rfl) (own_w hw 74 rfl) (own_w hw 75 rfl) (by decide) pd__II_I (by rw [hml]; rfl) rfl rfl (Nat.le_of_eq rfl) (by decide) (by decide) (by decide) (by decide) ?_
        rintro T160 _ L160 X160 ⟨rfl, rfl, e160⟩
        show own_Go p e below _ T160 (mkF m 295 #[.val (.ref o), .val (.ref ca), .val (.int iv0), .val (.int lv), .val (.int iv), .val (.int w5), .val (.int w6), .val (.int w7), .val (.int w8)] [(.int (if (1000000 : Int32) < (((xe * (10 : Int32)) + (f j)) - (48 : Int32)) then (1000000 : Int32) else (((xe * (10 : Int32)) + (f j)) - (48 : Int32)))), (.ref o)])
        rw [List.append_nil] at X160
        obtain ⟨xm, hxm⟩ : ∃ z : Int32, z = (if (1000000 : Int32) < (((xe * (10 : Int32)) + (f j)) - (48 : Int32)) then (1000000 : Int32) else (((xe * (10 : Int32)) + (f j)) - (48 : Int32))) := ⟨_, rfl⟩
        rw [← hxm]
        show own_Go p e below _ T160 (mkF m 295 #[.val (.ref o), .val (.ref ca), .val (.int iv0), .val (.int lv), .val (.int iv), .val (.int w5), .val (.int w6), .val (.int w7), .val (.int w8)] [(.int xm), (.ref o)])
        refine own_putF (host := "") X160 hx hZ hown e160 (hb hby d4_295) (Or.inl (own_w hw 36 rfl)) Via.refl G13 EL (Or.inl (own_w hw 37 rfl)) (own_w hw 7 rfl) (ty := .int) (by decide) rfl rfl ?_
        intro T161 h161 X161 e161 W161
        show own_Go p e below _ T161 (mkF m 298 #[.val (.ref o), .val (.ref ca), .val (.int iv0), .val (.int lv), .val (.int iv), .val (.int w5), .val (.int w6), .val (.int w7), .val (.int w8)] [])
        have F161 := G13.same W161
        have sz162 : n0 ≤ h161.size := by rw [W161.size]; exact ZL
        have K163 := KL.wr W161 (Or.inl (List.mem_of_getElem? (i := 0) rfl))
        have N161 := Fr.snoc X161 NL go
        refine own_by (T' := T161) (f' := (mkF m 301 #[.val (.ref o), .val (.ref ca), .val (.int iv0), .val (.int lv), .val (.int (iv + (1 : Int32))), .val (.int w5), .val (.int w6), .val (.int w7), .val (.int w8)] [])) (fun t k => XS.iinc X161.here hx rfl (hb hby d4_298) rfl (l' := #[.val (.ref o), .val (.ref ca), .val (.int iv0), .val (.int lv), .val (.int (iv + (1 : Int32))), .val (.int w5), .val (.int w6), .val (.int w7), .val (.int w8)]) rfl k) ?_
        refine own_by (T' := T161) (f' := (mkF m 258 #[.val (.ref o), .val (.ref ca), .val (.int iv0), .val (.int lv), .val (.int (iv + (1 : Int32))), .val (.int w5), .val (.int w6), .val (.int w7), .val (.int w8)] [])) (fun t k => XS.goto X161.here hx rfl (pc0 := 301) (pc' := 258) rfl (hb hby d4_301) (by decide) (by decide) k) ?_
        have f164 := (AL.other W161 nco)
        have f165 := (EL.wr W161)
        have f166 := (G0.other W161 (Or.inr (sn_43 hw)))
        have f167 := (G1.other W161 (Or.inr (sn_46 hw)))
        have f168 := (G2.other W161 (Or.inr (sn_41 hw)))
        have f169 := (G3.other W161 (Or.inr (sn_49 hw)))
        have f170 := (G4.other W161 (Or.inr (sn_52 hw)))
        have f171 := (G5.other W161 (Or.inr (sn_55 hw)))
        have f172 := (G6.other W161 (Or.inr (sn_57 hw)))
        have f173 := (G7.other W161 (Or.inr (sn_60 hw)))
        have f174 := (G8.other W161 (Or.inr (sn_63 hw)))
        have f175 := (G9.other W161 (Or.inr (sn_66 hw)))
        have f176 := (G10.other W161 (Or.inr (sn_69 hw)))
        have f177 := (G11.other W161 (Or.inr (sn_72 hw)))
        have f178 := (G12.other W161 (Or.inr (sn_75 hw)))
        exact ih (j + 1) (iv + (1 : Int32)) xm w5 w6 w7 w8 u0 u1 u2 u4 u6 u7 u8 u9 u10 u12 T161 h161 _ (by omega) (own_inc hiv (by omega : j < 1000) (by omega)) X161 e161 f164 f165 f166 f167 f168 f169 f170 f171 f172 f173 f174 f175 f176 f177 f178 F161 K163 N161 sz162
  rw [ef_rmSC]
  refine own_by (T' := s₁) (f' := (mkF m 1 #[.val (.ref o), .val (.ref ca), .val (.int iv0), .val (.int lv), .unset, .unset, .unset, .unset, .unset] [(.ref o)])) (fun t k => XS.aloadN X0.here hx rfl (hb hby d4_0) rfl rfl k) ?_
  refine own_by (T' := s₁) (f' := (mkF m 2 #[.val (.ref o), .val (.ref ca), .val (.int iv0), .val (.int lv), .unset, .unset, .unset, .unset, .unset] [(.ref ca), (.ref o)])) (fun t k => XS.aloadN X0.here hx rfl (hb hby d4_1) rfl rfl k) ?_
  refine own_putF (host := "") X0 hx hZ hown e0 (hb hby d4_2) (Or.inl (own_w hw 20 rfl)) Via.refl F0 EO (Or.inl (own_w hw 21 rfl)) (own_w hw 7 rfl) (ty := (.array .char)) (by decide) rfl rfl ?_
  intro T101 h101 X101 e101 W101
  show own_Go p e below _ T101 (mkF m 5 #[.val (.ref o), .val (.ref ca), .val (.int iv0), .val (.int lv), .unset, .unset, .unset, .unset, .unset] [])
  have F101 := F0.same W101
  have sz102 : n0 ≤ h101.size := by rw [W101.size]; exact Z0
  have K103 := K0.wr W101 (Or.inl (List.mem_of_getElem? (i := 0) rfl))
  have N101 := Fr.snoc X101 N0 go
  refine own_by (T' := T101) (f' := (mkF m 6 #[.val (.ref o), .val (.ref ca), .val (.int iv0), .val (.int lv), .unset, .unset, .unset, .unset, .unset] [(.ref o)])) (fun t k => XS.aloadN X101.here hx rfl (hb hby d4_5) rfl rfl k) ?_
  refine own_by (T' := T101) (f' := (mkF m 7 #[.val (.ref o), .val (.ref ca), .val (.int iv0), .val (.int lv), .unset, .unset, .unset, .unset, .unset] [(.int iv0), (.ref o)])) (fun t k => XS.iloadN X101.here hx rfl (hb hby d4_6) rfl k) ?_
  have f104 := (F1.other W101 (Or.inr (sn_78 hw)))
  have f105 := (EO.wr W101)
  refine own_putF (host := "") X101 hx hZ hown e101 (hb hby d4_7) (Or.inl (own_w hw 22 rfl)) Via.refl f104 f105 (Or.inl (own_w hw 23 rfl)) (own_w hw 7 rfl) (ty := .int) (by decide) rfl rfl ?_
  intro T106 h106 X106 e106 W106
  show own_Go p e below _ T106 (mkF m 10 #[.val (.ref o), .val (.ref ca), .val (.int iv0), .val (.int lv), .unset, .unset, .unset, .unset, .unset] [])
  have F106 := f104.same W106
  have sz107 : n0 ≤ h106.size := by rw [W106.size]; exact sz102
  have K108 := K103.wr W106 (Or.inl (List.mem_of_getElem? (i := 0) rfl))
  have N106 := Fr.snoc X106 N101 go
  refine own_by (T' := T106) (f' := (mkF m 11 #[.val (.ref o), .val (.ref ca), .val (.int iv0), .val (.int lv), .unset, .unset, .unset, .unset, .unset] [(.ref o)])) (fun t k => XS.aloadN X106.here hx rfl (hb hby d4_10) rfl rfl k) ?_
  refine own_by (T' := T106) (f' := (mkF m 12 #[.val (.ref o), .val (.ref ca), .val (.int iv0), .val (.int lv), .unset, .unset, .unset, .unset, .unset] [(.int (-1 : Int32)), (.ref o)])) (fun t k => XS.iconst X106.here hx rfl (hb hby d4_11) k) ?_
  have f109 := ((F7.other W101 (Or.inr (sn_79 hw))).other W106 (Or.inr (sn_80 hw)))
  have f110 := (f105.wr W106)
  refine own_putF (host := "") X106 hx hZ hown e106 (hb hby d4_12) (Or.inl (own_w hw 24 rfl)) Via.refl f109 f110 (Or.inl (own_w hw 25 rfl)) (own_w hw 7 rfl) (ty := .int) (by decide) rfl rfl ?_
  intro T111 h111 X111 e111 W111
  show own_Go p e below _ T111 (mkF m 15 #[.val (.ref o), .val (.ref ca), .val (.int iv0), .val (.int lv), .unset, .unset, .unset, .unset, .unset] [])
  have F111 := f109.same W111
  have sz112 : n0 ≤ h111.size := by rw [W111.size]; exact sz107
  have K113 := K108.wr W111 (Or.inl (List.mem_of_getElem? (i := 0) rfl))
  have N111 := Fr.snoc X111 N106 go
  refine own_by (T' := T111) (f' := (mkF m 16 #[.val (.ref o), .val (.ref ca), .val (.int iv0), .val (.int lv), .unset, .unset, .unset, .unset, .unset] [(.ref o)])) (fun t k => XS.aloadN X111.here hx rfl (hb hby d4_15) rfl rfl k) ?_
  refine own_by (T' := T111) (f' := (mkF m 17 #[.val (.ref o), .val (.ref ca), .val (.int iv0), .val (.int lv), .unset, .unset, .unset, .unset, .unset] [(.int (0 : Int32)), (.ref o)])) (fun t k => XS.iconst X111.here hx rfl (hb hby d4_16) k) ?_
  have f114 := (((F8.other W101 (Or.inr (sn_81 hw))).other W106 (Or.inr (sn_82 hw))).other W111 (Or.inr (sn_83 hw)))
  have f115 := (f110.wr W111)
  refine own_putF (host := "") X111 hx hZ hown e111 (hb hby d4_17) (Or.inl (own_w hw 26 rfl)) Via.refl f114 f115 (Or.inl (own_w hw 27 rfl)) (own_w hw 7 rfl) (ty := .boolean) (by decide) rfl rfl ?_
  intro T116 h116 X116 e116 W116
  show own_Go p e below _ T116 (mkF m 20 #[.val (.ref o), .val (.ref ca), .val (.int iv0), .val (.int lv), .unset, .unset, .unset, .unset, .unset] [])
  have F116 := f114.same W116
  have sz117 : n0 ≤ h116.size := by rw [W116.size]; exact sz112
  have K118 := K113.wr W116 (Or.inl (List.mem_of_getElem? (i := 0) rfl))
  have N116 := Fr.snoc X116 N111 go
  refine own_by (T' := T116) (f' := (mkF m 21 #[.val (.ref o), .val (.ref ca), .val (.int iv0), .val (.int lv), .unset, .unset, .unset, .unset, .unset] [(.ref o)])) (fun t k => XS.aloadN X116.here hx rfl (hb hby d4_20) rfl rfl k) ?_
  refine own_by (T' := T116) (f' := (mkF m 22 #[.val (.ref o), .val (.ref ca), .val (.int iv0), .val (.int lv), .unset, .unset, .unset, .unset, .unset] [(.long (0 : Int64)), (.ref o)])) (fun t k => XS.lconst X116.here hx rfl (hb hby d4_21) k) ?_
  have f119 := ((((F9.other W101 (Or.inr (sn_84 hw))).other W106 (Or.inr (sn_85 hw))).other W111 (Or.inr (sn_86 hw))).other W116 (Or.inr (sn_87 hw)))
  have f120 := (f115.wr W116)
  refine own_putF (host := "") X116 hx hZ hown e116 (hb hby d4_22) (Or.inl (own_w hw 28 rfl)) Via.refl f119 f120 (Or.inl (own_w hw 29 rfl)) (own_w hw 7 rfl) (ty := .long) (by decide) rfl rfl ?_
  intro T121 h121 X121 e121 W121
  show own_Go p e below _ T121 (mkF m 25 #[.val (.ref o), .val (.ref ca), .val (.int iv0), .val (.int lv), .unset, .unset, .unset, .unset, .unset] [])
  have F121 := f119.same W121
  have sz122 : n0 ≤ h121.size := by rw [W121.size]; exact sz117
  have K123 := K118.wr W121 (Or.inl (List.mem_of_getElem? (i := 0) rfl))
  have N121 := Fr.snoc X121 N116 go
  refine own_by (T' := T121) (f' := (mkF m 26 #[.val (.ref o), .val (.ref ca), .val (.int iv0), .val (.int lv), .unset, .unset, .unset, .unset, .unset] [(.ref o)])) (fun t k => XS.aloadN X121.here hx rfl (hb hby d4_25) rfl rfl k) ?_
  refine own_by (T' := T121) (f' := (mkF m 27 #[.val (.ref o), .val (.ref ca), .val (.int iv0), .val (.int lv), .unset, .unset, .unset, .unset, .unset] [(.long (0 : Int64)), (.ref o)])) (fun t k => XS.lconst X121.here hx rfl (hb hby d4_26) k) ?_
  have f124 := (((((F10.other W101 (Or.inr (sn_88 hw))).other W106 (Or.inr (sn_89 hw))).other W111 (Or.inr (sn_90 hw))).other W116 (Or.inr (sn_91 hw))).other W121 (Or.inr (sn_19 hw)))
  have f125 := (f120.wr W121)
  refine own_putF (host := "") X121 hx hZ hown e121 (hb hby d4_27) (Or.inl (own_w hw 30 rfl)) Via.refl f124 f125 (Or.inl (own_w hw 31 rfl)) (own_w hw 7 rfl) (ty := .long) (by decide) rfl rfl ?_
  intro T126 h126 X126 e126 W126
  show own_Go p e below _ T126 (mkF m 30 #[.val (.ref o), .val (.ref ca), .val (.int iv0), .val (.int lv), .unset, .unset, .unset, .unset, .unset] [])
  have F126 := f124.same W126
  have sz127 : n0 ≤ h126.size := by rw [W126.size]; exact sz122
  have K128 := K123.wr W126 (Or.inl (List.mem_of_getElem? (i := 0) rfl))
  have N126 := Fr.snoc X126 N121 go
  refine own_by (T' := T126) (f' := (mkF m 31 #[.val (.ref o), .val (.ref ca), .val (.int iv0), .val (.int lv), .unset, .unset, .unset, .unset, .unset] [(.ref o)])) (fun t k => XS.aloadN X126.here hx rfl (hb hby d4_30) rfl rfl k) ?_
  refine own_by (T' := T126) (f' := (mkF m 32 #[.val (.ref o), .val (.ref ca), .val (.int iv0), .val (.int lv), .unset, .unset, .unset, .unset, .unset] [(.int (0 : Int32)), (.ref o)])) (fun t k => XS.iconst X126.here hx rfl (hb hby d4_31) k) ?_
  have f129 := ((((((F11.other W101 (Or.inr (sn_92 hw))).other W106 (Or.inr (sn_93 hw))).other W111 (Or.inr (sn_94 hw))).other W116 (Or.inr (sn_95 hw))).other W121 (Or.inr (sn_21 hw))).other W126 (Or.inr (sn_20 hw)))
  have f130 := (f125.wr W126)
  refine own_putF (host := "") X126 hx hZ hown e126 (hb hby d4_32) (Or.inl (own_w hw 32 rfl)) Via.refl f129 f130 (Or.inl (own_w hw 33 rfl)) (own_w hw 7 rfl) (ty := .int) (by decide) rfl rfl ?_
  intro T131 h131 X131 e131 W131
  show own_Go p e below _ T131 (mkF m 35 #[.val (.ref o), .val (.ref ca), .val (.int iv0), .val (.int lv), .unset, .unset, .unset, .unset, .unset] [])
  have F131 := f129.same W131
  have sz132 : n0 ≤ h131.size := by rw [W131.size]; exact sz127
  have K133 := K128.wr W131 (Or.inl (List.mem_of_getElem? (i := 0) rfl))
  have N131 := Fr.snoc X131 N126 go
  refine own_by (T' := T131) (f' := (mkF m 36 #[.val (.ref o), .val (.ref ca), .val (.int iv0), .val (.int lv), .unset, .unset, .unset, .unset, .unset] [(.ref o)])) (fun t k => XS.aloadN X131.here hx rfl (hb hby d4_35) rfl rfl k) ?_
  refine own_by (T' := T131) (f' := (mkF m 37 #[.val (.ref o), .val (.ref ca), .val (.int iv0), .val (.int lv), .unset, .unset, .unset, .unset, .unset] [(.int (0 : Int32)), (.ref o)])) (fun t k => XS.iconst X131.here hx rfl (hb hby d4_36) k) ?_
  have f134 := (((((((F12.other W101 (Or.inr (sn_96 hw))).other W106 (Or.inr (sn_97 hw))).other W111 (Or.inr (sn_98 hw))).other W116 (Or.inr (sn_99 hw))).other W121 (Or.inr (sn_23 hw))).other W126 (Or.inr (sn_22 hw))).other W131 (Or.inr (sn_37 hw)))
  have f135 := (f130.wr W131)
  refine own_putF (host := "") X131 hx hZ hown e131 (hb hby d4_37) (Or.inl (own_w hw 34 rfl)) Via.refl f134 f135 (Or.inl (own_w hw 35 rfl)) (own_w hw 7 rfl) (ty := .int) (by decide) rfl rfl ?_
  intro T136 h136 X136 e136 W136
  show own_Go p e below _ T136 (mkF m 40 #[.val (.ref o), .val (.ref ca), .val (.int iv0), .val (.int lv), .unset, .unset, .unset, .unset, .unset] [])
  have F136 := f134.same W136
  have sz137 : n0 ≤ h136.size := by rw [W136.size]; exact sz132
  have K138 := K133.wr W136 (Or.inl (List.mem_of_getElem? (i := 0) rfl))
  have N136 := Fr.snoc X136 N131 go
  refine own_by (T' := T136) (f' := (mkF m 41 #[.val (.ref o), .val (.ref ca), .val (.int iv0), .val (.int lv), .unset, .unset, .unset, .unset, .unset] [(.ref o)])) (fun t k => XS.aloadN X136.here hx rfl (hb hby d4_40) rfl rfl k) ?_
  refine own_by (T' := T136) (f' := (mkF m 42 #[.val (.ref o), .val (.ref ca), .val (.int iv0), .val (.int lv), .unset, .unset, .unset, .unset, .unset] [(.int (0 : Int32)), (.ref o)])) (fun t k => XS.iconst X136.here hx rfl (hb hby d4_41) k) ?_
  have f139 := ((((((((F13.other W101 (Or.inr (sn_100 hw))).other W106 (Or.inr (sn_101 hw))).other W111 (Or.inr (sn_102 hw))).other W116 (Or.inr (sn_103 hw))).other W121 (Or.inr (sn_25 hw))).other W126 (Or.inr (sn_24 hw))).other W131 (Or.inr (sn_38 hw))).other W136 (Or.inr (sn_104 hw)))
  have f140 := (f135.wr W136)
  refine own_putF (host := "") X136 hx hZ hown e136 (hb hby d4_42) (Or.inl (own_w hw 36 rfl)) Via.refl f139 f140 (Or.inl (own_w hw 37 rfl)) (own_w hw 7 rfl) (ty := .int) (by decide) rfl rfl ?_
  intro T141 h141 X141 e141 W141
  show own_Go p e below _ T141 (mkF m 45 #[.val (.ref o), .val (.ref ca), .val (.int iv0), .val (.int lv), .unset, .unset, .unset, .unset, .unset] [])
  have F141 := f139.same W141
  have sz142 : n0 ≤ h141.size := by rw [W141.size]; exact sz137
  have K143 := K138.wr W141 (Or.inl (List.mem_of_getElem? (i := 0) rfl))
  have N141 := Fr.snoc X141 N136 go
  refine own_by (T' := T141) (f' := (mkF m 46 #[.val (.ref o), .val (.ref ca), .val (.int iv0), .val (.int lv), .unset, .unset, .unset, .unset, .unset] [(.ref o)])) (fun t k => XS.aloadN X141.here hx rfl (hb hby d4_45) rfl rfl k) ?_
  refine own_by (T' := T141) (f' := (mkF m 47 #[.val (.ref o), .val (.ref ca), .val (.int iv0), .val (.int lv), .unset, .unset, .unset, .unset, .unset] [(.ref ca), (.ref o)])) (fun t k => XS.aloadN X141.here hx rfl (hb hby d4_46) rfl rfl k) ?_
  refine own_by (T' := T141) (f' := (mkF m 48 #[.val (.ref o), .val (.ref ca), .val (.int iv0), .val (.int lv), .unset, .unset, .unset, .unset, .unset] [(.int iv0), (.ref ca), (.ref o)])) (fun t k => XS.iloadN X141.here hx rfl (hb hby d4_47) rfl k) ?_
  refine own_by (T' := T141) (f' := (mkF m 49 #[.val (.ref o), .val (.ref ca), .val (.int iv0), .val (.int lv), .unset, .unset, .unset, .unset, .unset] [(.int lv), (.int iv0), (.ref ca), (.ref o)])) (fun t k => XS.iloadN X141.here hx rfl (hb hby d4_48) rfl k) ?_
  have f144 := (f140.wr W141)
  have q145 : ∀ x ∈ [o], ∃ c : Cell, h141[x]? = some c ∧ c.vm.isStatics = false := (allS (own_ns f144) all0)
  have f146 := (((((((((A1.other W101 nco).other W106 nco).other W111 nco).other W116 nco).other W121 nco).other W126 nco).other W131 nco).other W136 nco).other W141 nco)
  have f147 := ((((((((F101.other W106 (Or.inr (sn_105 hw))).other W111 (Or.inr (sn_106 hw))).other W116 (Or.inr (sn_107 hw))).other W121 (Or.inr (sn_2 hw))).other W126 (Or.inr (sn_1 hw))).other W131 (Or.inr (sn_26 hw))).other W136 (Or.inr (sn_108 hw))).other W141 (Or.inr (sn_43 hw)))
  have f148 := (((((((F106.other W111 (Or.inr (sn_109 hw))).other W116 (Or.inr (sn_110 hw))).other W121 (Or.inr (sn_4 hw))).other W126 (Or.inr (sn_3 hw))).other W131 (Or.inr (sn_27 hw))).other W136 (Or.inr (sn_111 hw))).other W141 (Or.inr (sn_46 hw)))
  have f149 := (((((((((F2.other W101 (Or.inr (sn_112 hw))).other W106 (Or.inr (sn_113 hw))).other W111 (Or.inr (sn_114 hw))).other W116 (Or.inr (sn_115 hw))).other W121 (Or.inr (sn_6 hw))).other W126 (Or.inr (sn_5 hw))).other W131 (Or.inr (sn_28 hw))).other W136 (Or.inr (sn_116 hw))).other W141 (Or.inr (sn_41 hw)))
  have f150 := (((((((((F3.other W101 (Or.inr (sn_117 hw))).other W106 (Or.inr (sn_118 hw))).other W111 (Or.inr (sn_119 hw))).other W116 (Or.inr (sn_120 hw))).other W121 (Or.inr (sn_8 hw))).other W126 (Or.inr (sn_7 hw))).other W131 (Or.inr (sn_29 hw))).other W136 (Or.inr (sn_121 hw))).other W141 (Or.inr (sn_49 hw)))
  have f151 := (((((((((F4.other W101 (Or.inr (sn_122 hw))).other W106 (Or.inr (sn_123 hw))).other W111 (Or.inr (sn_124 hw))).other W116 (Or.inr (sn_125 hw))).other W121 (Or.inr (sn_10 hw))).other W126 (Or.inr (sn_9 hw))).other W131 (Or.inr (sn_30 hw))).other W136 (Or.inr (sn_126 hw))).other W141 (Or.inr (sn_52 hw)))
  have f152 := (((((((((F5.other W101 (Or.inr (sn_127 hw))).other W106 (Or.inr (sn_128 hw))).other W111 (Or.inr (sn_129 hw))).other W116 (Or.inr (sn_130 hw))).other W121 (Or.inr (sn_12 hw))).other W126 (Or.inr (sn_11 hw))).other W131 (Or.inr (sn_31 hw))).other W136 (Or.inr (sn_131 hw))).other W141 (Or.inr (sn_55 hw)))
  have f153 := (((((((((F6.other W101 (Or.inr (sn_132 hw))).other W106 (Or.inr (sn_133 hw))).other W111 (Or.inr (sn_134 hw))).other W116 (Or.inr (sn_135 hw))).other W121 (Or.inr (sn_14 hw))).other W126 (Or.inr (sn_13 hw))).other W131 (Or.inr (sn_32 hw))).other W136 (Or.inr (sn_136 hw))).other W141 (Or.inr (sn_57 hw)))
  have f154 := ((((((F111.other W116 (Or.inr (sn_137 hw))).other W121 (Or.inr (sn_16 hw))).other W126 (Or.inr (sn_15 hw))).other W131 (Or.inr (sn_33 hw))).other W136 (Or.inr (sn_138 hw))).other W141 (Or.inr (sn_60 hw)))
  have f155 := (((((F116.other W121 (Or.inr (sn_18 hw))).other W126 (Or.inr (sn_17 hw))).other W131 (Or.inr (sn_34 hw))).other W136 (Or.inr (sn_139 hw))).other W141 (Or.inr (sn_63 hw)))
  have f156 := ((((F121.other W126 (Or.inr (sn_0 hw))).other W131 (Or.inr (sn_35 hw))).other W136 (Or.inr (sn_140 hw))).other W141 (Or.inr (sn_66 hw)))
  have f157 := (((F126.other W131 (Or.inr (sn_36 hw))).other W136 (Or.inr (sn_141 hw))).other W141 (Or.inr (sn_69 hw)))
  have f158 := ((F131.other W136 (Or.inr (sn_142 hw))).other W141 (Or.inr (sn_72 hw)))
  have f159 := (F136.other W141 (Or.inr (sn_75 hw)))
  refine own_callP X141 hx hZ hown e141 (hb hby d4_49) [(.ref ca), (.int iv0), (.int lv)] [] 0 (rmRD l Z a0 hw [] o ca iv0 lv (0 : Int32) j0 lim 0 f (0 : Int64) (0 : Int64) (.ref ca) (.int iv0) u2 u3 u4 u5 u6 (.int (-1 : Int32)) (.int (0 : Int32)) (.int (0 : Int32)) (.int (0 : Int32)) h141 n0 sz142 go nco hj hl hjl hlim (by decide) (by decide) f146 f144 f147 f148 f149 f150 f151 f152 f153 f154 f155 f156 f157 f158 f159 F141) f144 (own_w hw 38 rfl) (own_w hw 39 rfl) (own_selP (y := (⟨"com/example/tally_of_atoms/tallyofatoms/Numeral", "readDigits", "([CII)I"⟩ : MethodName)) (own_w hw 7 rfl) (own_w hw 39 rfl) (own_w hw 40 rfl) (by decide)) (own_w hw 40 rfl) (own_w hw 8 rfl) (own_w hw 41 rfl) (by decide) pd___CII_I (by rw [hml]; rfl) rfl rfl (Nat.le_of_eq rfl) (by decide) (by decide) (by decide) (by decide) ?_
  rintro T160 _ L160 X160 ⟨r1, rfl, hr1, N160q, K160, y9_1, y10_1, sv1, hsv1, P1_0, P1_1, P1_2, P1_3, P1_4, P1_5, P1_6, P1_7, P1_8, P1_9, P1_10, P1_11, P1_12, P1_13⟩
  show own_Go p e below _ T160 (mkF m 52 #[.val (.ref o), .val (.ref ca), .val (.int iv0), .val (.int lv), .unset, .unset, .unset, .unset, .unset] [(.int r1)])
  have N160 := Fr.app N141 N160q
  have sz161 : n0 ≤ T160.heap.size := Nat.le_trans sz142 K160.1
  have K162 := K143.trans K160 (allS (Or.inl (List.mem_of_getElem? (i := 0) rfl)) all0)
  have pl1 := own_rp_le f (lim - j0) j0
  have sl1 := own_rs_le f (lim - j0) j0 0
  change r1.toInt = ((own_p1 f j0 lim : Nat) : Int) at hr1
  change sv1.toInt = ((own_s1 f j0 lim : Nat) : Int) at hsv1
  change j0 ≤ own_p1 f j0 lim ∧ own_p1 f j0 lim ≤ j0 + (lim - j0) at pl1
  change own_s1 f j0 lim ≤ 0 + (lim - j0) at sl1
  refine own_by (T' := T160) (f' := (mkF m 54 #[.val (.ref o), .val (.ref ca), .val (.int iv0), .val (.int lv), .val (.int r1), .unset, .unset, .unset, .unset] [])) (fun t k => XS.istore X160.here hx rfl (hb hby d4_52) rfl (l' := #[.val (.ref o), .val (.ref ca), .val (.int iv0), .val (.int lv), .val (.int r1), .unset, .unset, .unset, .unset]) rfl k) ?_
  refine own_by (T' := T160) (f' := (mkF m 55 #[.val (.ref o), .val (.ref ca), .val (.int iv0), .val (.int lv), .val (.int r1), .unset, .unset, .unset, .unset] [(.ref o)])) (fun t k => XS.aloadN X160.here hx rfl (hb hby d4_54) rfl rfl k) ?_
  refine own_by (T' := T160) (f' := (mkF m 57 #[.val (.ref o), .val (.ref ca), .val (.int iv0), .val (.int lv), .val (.int r1), .unset, .unset, .unset, .unset] [(.int r1), (.ref o)])) (fun t k => XS.iload X160.here hx rfl (hb hby d4_55) rfl k) ?_
  refine own_by (T' := T160) (f' := (mkF m 58 #[.val (.ref o), .val (.ref ca), .val (.int iv0), .val (.int lv), .val (.int r1), .unset, .unset, .unset, .unset] [(.int iv0), (.int r1), (.ref o)])) (fun t k => XS.iloadN X160.here hx rfl (hb hby d4_57) rfl k) ?_
  refine own_by (T' := T160) (f' := (mkF m 59 #[.val (.ref o), .val (.ref ca), .val (.int iv0), .val (.int lv), .val (.int r1), .unset, .unset, .unset, .unset] [(.int (r1 - iv0)), (.ref o)])) (fun t k => XS.isub X160.here hx rfl (hb hby d4_58) rfl k) ?_
  have hd1 := own_sub hr1 hj pl1.1
  obtain ⟨dv1, hdv1⟩ : ∃ z : Int32, z = (r1 - iv0) := ⟨_, rfl⟩
  rw [← hdv1]
  show own_Go p e below _ T160 (mkF m 59 #[.val (.ref o), .val (.ref ca), .val (.int iv0), .val (.int lv), .val (.int r1), .unset, .unset, .unset, .unset] [(.int dv1), (.ref o)])
  rw [← hdv1] at hd1
  have f163 := (f144.keep K160)
  refine own_putF (host := "") X160 hx hZ hown rfl (hb hby d4_59) (Or.inl (own_w hw 45 rfl)) Via.refl P1_3 f163 (Or.inl (own_w hw 46 rfl)) (own_w hw 7 rfl) (ty := .int) (by decide) rfl rfl ?_
  intro T164 h164 X164 e164 W164
  show own_Go p e below _ T164 (mkF m 62 #[.val (.ref o), .val (.ref ca), .val (.int iv0), .val (.int lv), .val (.int r1), .unset, .unset, .unset, .unset] [])
  have F164 := P1_3.same W164
  have sz165 : n0 ≤ h164.size := by rw [W164.size]; exact sz161
  have K166 := K162.wr W164 (Or.inl (List.mem_of_getElem? (i := 0) rfl))
  have N164 := Fr.snoc X164 N160 go
  refine own_by (T' := T164) (f' := (mkF m 63 #[.val (.ref o), .val (.ref ca), .val (.int iv0), .val (.int lv), .val (.int r1), .unset, .unset, .unset, .unset] [(.ref o)])) (fun t k => XS.aloadN X164.here hx rfl (hb hby d4_62) rfl rfl k) ?_
  refine own_by (T' := T164) (f' := (mkF m 65 #[.val (.ref o), .val (.ref ca), .val (.int iv0), .val (.int lv), .val (.int r1), .unset, .unset, .unset, .unset] [(.int r1), (.ref o)])) (fun t k => XS.iload X164.here hx rfl (hb hby d4_63) rfl k) ?_
  refine own_by (T' := T164) (f' := (mkF m 66 #[.val (.ref o), .val (.ref ca), .val (.int iv0), .val (.int lv), .val (.int r1), .unset, .unset, .unset, .unset] [(.int lv), (.int r1), (.ref o)])) (fun t k => XS.iloadN X164.here hx rfl (hb hby d4_65) rfl k) ?_
  by_cases hc66_167 : r1 < lv
  · have _ := X164
    refine own_by (T' := T164) (f' := (mkF m 69 #[.val (.ref o), .val (.ref ca), .val (.int iv0), .val (.int lv), .val (.int r1), .unset, .unset, .unset, .unset] [(.ref o)])) (fun t k => XS.icmpNo X164.here hx rfl (hb hby d4_66) rfl (tlt hc66_167).2.1 k) ?_
    refine own_by (T' := T164) (f' := (mkF m 70 #[.val (.ref o), .val (.ref ca), .val (.int iv0), .val (.int lv), .val (.int r1), .unset, .unset, .unset, .unset] [(.ref ca), (.ref o)])) (fun t k => XS.aloadN X164.here hx rfl (hb hby d4_69) rfl rfl k) ?_
    refine own_by (T' := T164) (f' := (mkF m 72 #[.val (.ref o), .val (.ref ca), .val (.int iv0), .val (.int lv), .val (.int r1), .unset, .unset, .unset, .unset] [(.int r1), (.ref ca), (.ref o)])) (fun t k => XS.iload X164.here hx rfl (hb hby d4_70) rfl k) ?_
    have lq72 := own_ltn hr1 hl hc66_167
    have f168 := ((f146.keep K160 (ninS nco nin0)).other W164 nco)
    refine own_ldC X164 hx hZ e164 (hb hby d4_72) f168 (by omega) (by omega) ?_
    rw [show r1.toInt.toNat = (own_p1 f j0 lim) from by omega]
    show own_Go p e below _ T164 (mkF m 73 #[.val (.ref o), .val (.ref ca), .val (.int iv0), .val (.int lv), .val (.int r1), .unset, .unset, .unset, .unset] [(.int (f (own_p1 f j0 lim))), (.ref o)])
    refine own_by (T' := T164) (f' := (mkF m 75 #[.val (.ref o), .val (.ref ca), .val (.int iv0), .val (.int lv), .val (.int r1), .unset, .unset, .unset, .unset] [(.int (46 : Int32)), (.int (f (own_p1 f j0 lim))), (.ref o)])) (fun t k => XS.bipush X164.here hx rfl (hb hby d4_73) k) ?_
    by_cases hc75_169 : (f (own_p1 f j0 lim)) = (46 : Int32)
    · have _ := X164
      refine own_by (T' := T164) (f' := (mkF m 78 #[.val (.ref o), .val (.ref ca), .val (.int iv0), .val (.int lv), .val (.int r1), .unset, .unset, .unset, .unset] [(.ref o)])) (fun t k => XS.icmpNo X164.here hx rfl (hb hby d4_75) rfl (teq hc75_169).2 k) ?_
      refine own_by (T' := T164) (f' := (mkF m 79 #[.val (.ref o), .val (.ref ca), .val (.int iv0), .val (.int lv), .val (.int r1), .unset, .unset, .unset, .unset] [(.int (1 : Int32)), (.ref o)])) (fun t k => XS.iconst X164.here hx rfl (hb hby d4_78) k) ?_
      refine own_by (T' := T164) (f' := (mkF m 83 #[.val (.ref o), .val (.ref ca), .val (.int iv0), .val (.int lv), .val (.int r1), .unset, .unset, .unset, .unset] [(.int (1 : Int32)), (.ref o)])) (fun t k => XS.goto X164.here hx rfl (pc0 := 79) (pc' := 83) rfl (hb hby d4_79) (by decide) (by decide) k) ?_
      have f170 := (P1_4.other W164 (Or.inr (sn_143 hw)))
      have f171 := (f163.wr W164)
      refine own_putF (host := "") X164 hx hZ hown e164 (hb hby d4_83) (Or.inl (own_w hw 47 rfl)) Via.refl f170 f171 (Or.inl (own_w hw 48 rfl)) (own_w hw 7 rfl) (ty := .boolean) (by decide) rfl rfl ?_
      intro T172 h172 X172 e172 W172
      show own_Go p e below _ T172 (mkF m 86 #[.val (.ref o), .val (.ref ca), .val (.int iv0), .val (.int lv), .val (.int r1), .unset, .unset, .unset, .unset] [])
      have F172 := f170.same W172
      have sz173 : n0 ≤ h172.size := by rw [W172.size]; exact sz165
      have K174 := K166.wr W172 (Or.inl (List.mem_of_getElem? (i := 0) rfl))
      have N172 := Fr.snoc X172 N164 go
      refine own_by (T' := T172) (f' := (mkF m 87 #[.val (.ref o), .val (.ref ca), .val (.int iv0), .val (.int lv), .val (.int r1), .unset, .unset, .unset, .unset] [(.ref o)])) (fun t k => XS.aloadN X172.here hx rfl (hb hby d4_86) rfl rfl k) ?_
      refine own_getF (host := "") X172 hx hZ hown e172 (hb hby d4_87) (Or.inl (own_w hw 47 rfl)) Via.refl F172 ?_
      intro T175 X175 e175
      show own_Go p e below _ T175 (mkF m 90 #[.val (.ref o), .val (.ref ca), .val (.int iv0), .val (.int lv), .val (.int r1), .unset, .unset, .unset, .unset] [(.int (1 : Int32))])
      refine own_by (T' := T175) (f' := (mkF m 93 #[.val (.ref o), .val (.ref ca), .val (.int iv0), .val (.int lv), .val (.int r1), .unset, .unset, .unset, .unset] [])) (fun t k => XS.ifNo X175.here hx rfl (hb hby d4_90) rfl ((if0 _ _).trans (feq (by decide)).1) k) ?_
      refine own_by (T' := T175) (f' := (mkF m 95 #[.val (.ref o), .val (.ref ca), .val (.int iv0), .val (.int lv), .val (.int r1), .unset, .unset, .unset, .unset] [(.int r1)])) (fun t k => XS.iload X175.here hx rfl (hb hby d4_93) rfl k) ?_
      refine own_by (T' := T175) (f' := (mkF m 96 #[.val (.ref o), .val (.ref ca), .val (.int iv0), .val (.int lv), .val (.int r1), .unset, .unset, .unset, .unset] [(.int (1 : Int32)), (.int r1)])) (fun t k => XS.iconst X175.here hx rfl (hb hby d4_95) k) ?_
      refine own_by (T' := T175) (f' := (mkF m 97 #[.val (.ref o), .val (.ref ca), .val (.int iv0), .val (.int lv), .val (.int r1), .unset, .unset, .unset, .unset] [(.int (r1 + (1 : Int32)))])) (fun t k => XS.iadd X175.here hx rfl (hb hby d4_96) rfl k) ?_
      refine own_by (T' := T175) (f' := (mkF m 99 #[.val (.ref o), .val (.ref ca), .val (.int iv0), .val (.int lv), .val (.int r1), .val (.int (r1 + (1 : Int32))), .unset, .unset, .unset] [])) (fun t k => XS.istore X175.here hx rfl (hb hby d4_97) rfl (l' := #[.val (.ref o), .val (.ref ca), .val (.int iv0), .val (.int lv), .val (.int r1), .val (.int (r1 + (1 : Int32))), .unset, .unset, .unset]) rfl k) ?_
      refine own_by (T' := T175) (f' := (mkF m 100 #[.val (.ref o), .val (.ref ca), .val (.int iv0), .val (.int lv), .val (.int r1), .val (.int (r1 + (1 : Int32))), .unset, .unset, .unset] [(.ref o)])) (fun t k => XS.aloadN X175.here hx rfl (hb hby d4_99) rfl rfl k) ?_
      refine own_by (T' := T175) (f' := (mkF m 101 #[.val (.ref o), .val (.ref ca), .val (.int iv0), .val (.int lv), .val (.int r1), .val (.int (r1 + (1 : Int32))), .unset, .unset, .unset] [(.ref ca), (.ref o)])) (fun t k => XS.aloadN X175.here hx rfl (hb hby d4_100) rfl rfl k) ?_
      refine own_by (T' := T175) (f' := (mkF m 103 #[.val (.ref o), .val (.ref ca), .val (.int iv0), .val (.int lv), .val (.int r1), .val (.int (r1 + (1 : Int32))), .unset, .unset, .unset] [(.int (r1 + (1 : Int32))), (.ref ca), (.ref o)])) (fun t k => XS.iload X175.here hx rfl (hb hby d4_101) rfl k) ?_
      refine own_by (T' := T175) (f' := (mkF m 104 #[.val (.ref o), .val (.ref ca), .val (.int iv0), .val (.int lv), .val (.int r1), .val (.int (r1 + (1 : Int32))), .unset, .unset, .unset] [(.int lv), (.int (r1 + (1 : Int32))), (.ref ca), (.ref o)])) (fun t k => XS.iloadN X175.here hx rfl (hb hby d4_103) rfl k) ?_
      have lt176 := own_ltn hr1 hl hc66_167
      have hi176 := own_inc hr1 lt176 (by omega)
      have le176 : (own_p1 f j0 lim) + 1 ≤ lim := lt176
      have f177 := (f171.wr W172)
      have q178 : ∀ x ∈ [o], ∃ c : Cell, h172[x]? = some c ∧ c.vm.isStatics = false := (allS (own_ns f177) all0)
      have f179 := (f168.other W172 nco)
      have f180 := ((P1_0.other W164 (Or.inr (sn_144 hw))).other W172 (Or.inr (sn_145 hw)))
      have f181 := ((P1_1.other W164 (Or.inr (sn_146 hw))).other W172 (Or.inr (sn_147 hw)))
      have f182 := ((P1_2.other W164 (Or.inr (sn_148 hw))).other W172 (Or.inr (sn_149 hw)))
      have f183 := (F164.other W172 (Or.inr (sn_150 hw)))
      have f184 := ((P1_5.other W164 (Or.inr (sn_151 hw))).other W172 (Or.inr (sn_152 hw)))
      have f185 := ((P1_6.other W164 (Or.inr (sn_153 hw))).other W172 (Or.inr (sn_154 hw)))
      have f186 := ((P1_7.other W164 (Or.inr (sn_155 hw))).other W172 (Or.inr (sn_156 hw)))
      have f187 := ((P1_8.other W164 (Or.inr (sn_157 hw))).other W172 (Or.inr (sn_158 hw)))
      have f188 := ((P1_9.other W164 (Or.inr (sn_159 hw))).other W172 (Or.inr (sn_160 hw)))
      have f189 := ((P1_10.other W164 (Or.inr (sn_161 hw))).other W172 (Or.inr (sn_162 hw)))
      have f190 := ((P1_11.other W164 (Or.inr (sn_163 hw))).other W172 (Or.inr (sn_164 hw)))
      have f191 := ((P1_12.other W164 (Or.inr (sn_165 hw))).other W172 (Or.inr (sn_166 hw)))
      have f192 := ((P1_13.other W164 (Or.inr (sn_167 hw))).other W172 (Or.inr (sn_168 hw)))
      refine own_callP X175 hx hZ hown e175 (hb hby d4_104) [(.ref ca), (.int (r1 + (1 : Int32))), (.int lv)] [] 0 (rmRD l Z a0 hw [] o ca (r1 + (1 : Int32)) lv sv1 ((own_p1 f j0 lim) + 1) lim (own_s1 f j0 lim) f y9_1 y10_1 (.ref ca) (.int iv0) u2 (.int dv1) (.int (1 : Int32)) u5 u6 (.int (-1 : Int32)) (.int (0 : Int32)) (.int (0 : Int32)) (.int (0 : Int32)) h172 n0 sz173 go nco hi176 hl le176 hlim hsv1 (by omega) f179 f177 f180 f181 f182 f183 F172 f184 f185 f186 f187 f188 f189 f190 f191 f192) f177 (own_w hw 38 rfl) (own_w hw 39 rfl) (own_selP (y := (⟨"com/example/tally_of_atoms/tallyofatoms/Numeral", "readDigits", "([CII)I"⟩ : MethodName)) (own_w hw 7 rfl) (own_w hw 39 rfl) (own_w hw 40 rfl) (by decide)) (own_w hw 40 rfl) (own_w hw 8 rfl) (own_w hw 41 rfl) (by decide) pd___CII_I (by rw [hml]; rfl) rfl rfl (Nat.le_of_eq rfl) (by decide) (by decide) (by decide) (by decide) ?_
      rintro T193 _ L193 X193 ⟨r2, rfl, hr2, N193q, K193, y9_2, y10_2, sv2, hsv2, P2_0, P2_1, P2_2, P2_3, P2_4, P2_5, P2_6, P2_7, P2_8, P2_9, P2_10, P2_11, P2_12, P2_13⟩
      show own_Go p e below _ T193 (mkF m 107 #[.val (.ref o), .val (.ref ca), .val (.int iv0), .val (.int lv), .val (.int r1), .val (.int (r1 + (1 : Int32))), .unset, .unset, .unset] [(.int r2)])
      have N193 := Fr.app N172 N193q
      have sz194 : n0 ≤ T193.heap.size := Nat.le_trans sz173 K193.1
      have K195 := K174.trans K193 (allS (Or.inl (List.mem_of_getElem? (i := 0) rfl)) all0)
      have pl2 := own_rp_le f (lim - ((own_p1 f j0 lim) + 1)) ((own_p1 f j0 lim) + 1)
      have sl2 := own_rs_le f (lim - ((own_p1 f j0 lim) + 1)) ((own_p1 f j0 lim) + 1) (own_s1 f j0 lim)
      refine own_by (T' := T193) (f' := (mkF m 109 #[.val (.ref o), .val (.ref ca), .val (.int iv0), .val (.int lv), .val (.int r2), .val (.int (r1 + (1 : Int32))), .unset, .unset, .unset] [])) (fun t k => XS.istore X193.here hx rfl (hb hby d4_107) rfl (l' := #[.val (.ref o), .val (.ref ca), .val (.int iv0), .val (.int lv), .val (.int r2), .val (.int (r1 + (1 : Int32))), .unset, .unset, .unset]) rfl k) ?_
      refine own_by (T' := T193) (f' := (mkF m 110 #[.val (.ref o), .val (.ref ca), .val (.int iv0), .val (.int lv), .val (.int r2), .val (.int (r1 + (1 : Int32))), .unset, .unset, .unset] [(.ref o)])) (fun t k => XS.aloadN X193.here hx rfl (hb hby d4_109) rfl rfl k) ?_
      refine own_by (T' := T193) (f' := (mkF m 112 #[.val (.ref o), .val (.ref ca), .val (.int iv0), .val (.int lv), .val (.int r2), .val (.int (r1 + (1 : Int32))), .unset, .unset, .unset] [(.int r2), (.ref o)])) (fun t k => XS.iload X193.here hx rfl (hb hby d4_110) rfl k) ?_
      refine own_by (T' := T193) (f' := (mkF m 114 #[.val (.ref o), .val (.ref ca), .val (.int iv0), .val (.int lv), .val (.int r2), .val (.int (r1 + (1 : Int32))), .unset, .unset, .unset] [(.int (r1 + (1 : Int32))), (.int r2), (.ref o)])) (fun t k => XS.iload X193.here hx rfl (hb hby d4_112) rfl k) ?_
      refine own_by (T' := T193) (f' := (mkF m 115 #[.val (.ref o), .val (.ref ca), .val (.int iv0), .val (.int lv), .val (.int r2), .val (.int (r1 + (1 : Int32))), .unset, .unset, .unset] [(.int (r2 - (r1 + (1 : Int32)))), (.ref o)])) (fun t k => XS.isub X193.here hx rfl (hb hby d4_114) rfl k) ?_
      have f196 := (f177.keep K193)
      refine own_putF (host := "") X193 hx hZ hown rfl (hb hby d4_115) (Or.inl (own_w hw 34 rfl)) Via.refl P2_12 f196 (Or.inl (own_w hw 35 rfl)) (own_w hw 7 rfl) (ty := .int) (by decide) rfl rfl ?_
      intro T197 h197 X197 e197 W197
      show own_Go p e below _ T197 (mkF m 118 #[.val (.ref o), .val (.ref ca), .val (.int iv0), .val (.int lv), .val (.int r2), .val (.int (r1 + (1 : Int32))), .unset, .unset, .unset] [])
      have F197 := P2_12.same W197
      have sz198 : n0 ≤ h197.size := by rw [W197.size]; exact sz194
      have K199 := K195.wr W197 (Or.inl (List.mem_of_getElem? (i := 0) rfl))
      have N197 := Fr.snoc X197 N193 go
      refine own_by (T' := T197) (f' := (mkF m 119 #[.val (.ref o), .val (.ref ca), .val (.int iv0), .val (.int lv), .val (.int r2), .val (.int (r1 + (1 : Int32))), .unset, .unset, .unset] [(.ref o)])) (fun t k => XS.aloadN X197.here hx rfl (hb hby d4_118) rfl rfl k) ?_
      refine own_by (T' := T197) (f' := (mkF m 120 #[.val (.ref o), .val (.ref ca), .val (.int iv0), .val (.int lv), .val (.int r2), .val (.int (r1 + (1 : Int32))), .unset, .unset, .unset] [(.ref o), (.ref o)])) (fun t k => XS.dup X197.here hx rfl (hb hby d4_119) rfl rfl k) ?_
      have f200 := (P2_3.other W197 (Or.inr (sn_121 hw)))
      refine own_getF (host := "") X197 hx hZ hown e197 (hb hby d4_120) (Or.inl (own_w hw 45 rfl)) Via.refl f200 ?_
      intro T201 X201 e201
      show own_Go p e below _ T201 (mkF m 123 #[.val (.ref o), .val (.ref ca), .val (.int iv0), .val (.int lv), .val (.int r2), .val (.int (r1 + (1 : Int32))), .unset, .unset, .unset] [(.int dv1), (.ref o)])
      refine own_by (T' := T201) (f' := (mkF m 124 #[.val (.ref o), .val (.ref ca), .val (.int iv0), .val (.int lv), .val (.int r2), .val (.int (r1 + (1 : Int32))), .unset, .unset, .unset] [(.ref o), (.int dv1), (.ref o)])) (fun t k => XS.aloadN X201.here hx rfl (hb hby d4_123) rfl rfl k) ?_
      refine own_getF (host := "") X201 hx hZ hown e201 (hb hby d4_124) (Or.inl (own_w hw 34 rfl)) Via.refl F197 ?_
      intro T202 X202 e202
      show own_Go p e below _ T202 (mkF m 127 #[.val (.ref o), .val (.ref ca), .val (.int iv0), .val (.int lv), .val (.int r2), .val (.int (r1 + (1 : Int32))), .unset, .unset, .unset] [(.int (r2 - (r1 + (1 : Int32)))), (.int dv1), (.ref o)])
      refine own_by (T' := T202) (f' := (mkF m 128 #[.val (.ref o), .val (.ref ca), .val (.int iv0), .val (.int lv), .val (.int r2), .val (.int (r1 + (1 : Int32))), .unset, .unset, .unset] [(.int (dv1 + (r2 - (r1 + (1 : Int32))))), (.ref o)])) (fun t k => XS.iadd X202.here hx rfl (hb hby d4_127) rfl k) ?_
      have hd2 := own_add hd1 (own_sub hr2 hi176 pl2.1) (by omega)
      obtain ⟨dv2, hdv2⟩ : ∃ z : Int32, z = (dv1 + (r2 - (r1 + (1 : Int32)))) := ⟨_, rfl⟩
      rw [← hdv2]
      show own_Go p e below _ T202 (mkF m 128 #[.val (.ref o), .val (.ref ca), .val (.int iv0), .val (.int lv), .val (.int r2), .val (.int (r1 + (1 : Int32))), .unset, .unset, .unset] [(.int dv2), (.ref o)])
      rw [← hdv2] at hd2
      have f203 := (f196.wr W197)
      refine own_putF (host := "") X202 hx hZ hown e202 (hb hby d4_128) (Or.inl (own_w hw 45 rfl)) Via.refl f200 f203 (Or.inl (own_w hw 46 rfl)) (own_w hw 7 rfl) (ty := .int) (by decide) rfl rfl ?_
      intro T204 h204 X204 e204 W204
      show own_Go p e below _ T204 (mkF m 131 #[.val (.ref o), .val (.ref ca), .val (.int iv0), .val (.int lv), .val (.int r2), .val (.int (r1 + (1 : Int32))), .unset, .unset, .unset] [])
      have F204 := f200.same W204
      have sz205 : n0 ≤ h204.size := by rw [W204.size]; exact sz198
      have K206 := K199.wr W204 (Or.inl (List.mem_of_getElem? (i := 0) rfl))
      have N204 := Fr.snoc X204 N197 go
      refine own_by (T' := T204) (f' := (mkF m 132 #[.val (.ref o), .val (.ref ca), .val (.int iv0), .val (.int lv), .val (.int r2), .val (.int (r1 + (1 : Int32))), .unset, .unset, .unset] [(.ref o)])) (fun t k => XS.aloadN X204.here hx rfl (hb hby d4_131) rfl rfl k) ?_
      refine own_by (T' := T204) (f' := (mkF m 133 #[.val (.ref o), .val (.ref ca), .val (.int iv0), .val (.int lv), .val (.int r2), .val (.int (r1 + (1 : Int32))), .unset, .unset, .unset] [(.int (0 : Int32)), (.ref o)])) (fun t k => XS.iconst X204.here hx rfl (hb hby d4_132) k) ?_
      have f207 := ((P2_5.other W197 (Or.inr (sn_131 hw))).other W204 (Or.inr (sn_151 hw)))
      have f208 := (f203.wr W204)
      refine own_putF (host := "") X204 hx hZ hown e204 (hb hby d4_133) (Or.inl (own_w hw 49 rfl)) Via.refl f207 f208 (Or.inl (own_w hw 50 rfl)) (own_w hw 7 rfl) (ty := .boolean) (by decide) rfl rfl ?_
      intro T209 h209 X209 e209 W209
      show own_Go p e below _ T209 (mkF m 136 #[.val (.ref o), .val (.ref ca), .val (.int iv0), .val (.int lv), .val (.int r2), .val (.int (r1 + (1 : Int32))), .unset, .unset, .unset] [])
      have F209 := f207.same W209
      have sz210 : n0 ≤ h209.size := by rw [W209.size]; exact sz205
      have K211 := K206.wr W209 (Or.inl (List.mem_of_getElem? (i := 0) rfl))
      have N209 := Fr.snoc X209 N204 go
      refine own_by (T' := T209) (f' := (mkF m 137 #[.val (.ref o), .val (.ref ca), .val (.int iv0), .val (.int lv), .val (.int r2), .val (.int (r1 + (1 : Int32))), .unset, .unset, .unset] [(.ref o)])) (fun t k => XS.aloadN X209.here hx rfl (hb hby d4_136) rfl rfl k) ?_
      refine own_by (T' := T209) (f' := (mkF m 138 #[.val (.ref o), .val (.ref ca), .val (.int iv0), .val (.int lv), .val (.int r2), .val (.int (r1 + (1 : Int32))), .unset, .unset, .unset] [(.int (0 : Int32)), (.ref o)])) (fun t k => XS.iconst X209.here hx rfl (hb hby d4_137) k) ?_
      have f212 := (((P2_6.other W197 (Or.inr (sn_136 hw))).other W204 (Or.inr (sn_153 hw))).other W209 (Or.inr (sn_169 hw)))
      have f213 := (f208.wr W209)
      refine own_putF (host := "") X209 hx hZ hown e209 (hb hby d4_138) (Or.inl (own_w hw 51 rfl)) Via.refl f212 f213 (Or.inl (own_w hw 52 rfl)) (own_w hw 7 rfl) (ty := .boolean) (by decide) rfl rfl ?_
      intro T214 h214 X214 e214 W214
      show own_Go p e below _ T214 (mkF m 141 #[.val (.ref o), .val (.ref ca), .val (.int iv0), .val (.int lv), .val (.int r2), .val (.int (r1 + (1 : Int32))), .unset, .unset, .unset] [])
      have F214 := f212.same W214
      have sz215 : n0 ≤ h214.size := by rw [W214.size]; exact sz210
      have K216 := K211.wr W214 (Or.inl (List.mem_of_getElem? (i := 0) rfl))
      have N214 := Fr.snoc X214 N209 go
      refine own_by (T' := T214) (f' := (mkF m 142 #[.val (.ref o), .val (.ref ca), .val (.int iv0), .val (.int lv), .val (.int r2), .val (.int (r1 + (1 : Int32))), .unset, .unset, .unset] [(.ref o)])) (fun t k => XS.aloadN X214.here hx rfl (hb hby d4_141) rfl rfl k) ?_
      have f217 := ((F204.other W209 (Or.inr (sn_170 hw))).other W214 (Or.inr (sn_48 hw)))
      refine own_getF (host := "") X214 hx hZ hown e214 (hb hby d4_142) (Or.inl (own_w hw 45 rfl)) Via.refl f217 ?_
      intro T218 X218 e218
      show own_Go p e below _ T218 (mkF m 145 #[.val (.ref o), .val (.ref ca), .val (.int iv0), .val (.int lv), .val (.int r2), .val (.int (r1 + (1 : Int32))), .unset, .unset, .unset] [(.int dv2)])
      by_cases hc145_219 : dv2 = (0 : Int32)
      · have _ := X218
        refine own_by (T' := T218) (f' := (mkF m 148 #[.val (.ref o), .val (.ref ca), .val (.int iv0), .val (.int lv), .val (.int r2), .val (.int (r1 + (1 : Int32))), .unset, .unset, .unset] [])) (fun t k => XS.ifNo X218.here hx rfl (hb hby d4_145) rfl ((if0 _ _).trans (teq hc145_219).2) k) ?_
        refine own_by (T' := T218) (f' := (mkF m 149 #[.val (.ref o), .val (.ref ca), .val (.int iv0), .val (.int lv), .val (.int r2), .val (.int (r1 + (1 : Int32))), .unset, .unset, .unset] [(.ref o)])) (fun t k => XS.aloadN X218.here hx rfl (hb hby d4_148) rfl rfl k) ?_
        refine own_by (T' := T218) (f' := (mkF m 150 #[.val (.ref o), .val (.ref ca), .val (.int iv0), .val (.int lv), .val (.int r2), .val (.int (r1 + (1 : Int32))), .unset, .unset, .unset] [(.int (0 : Int32)), (.ref o)])) (fun t k => XS.iconst X218.here hx rfl (hb hby d4_149) k) ?_
        have f220 := ((((P2_4.other W197 (Or.inr (sn_126 hw))).other W204 (Or.inr (sn_143 hw))).other W209 (Or.inr (sn_171 hw))).other W214 (Or.inr (sn_51 hw)))
        have f221 := (f213.wr W214)
        refine own_putF (host := "") X218 hx hZ hown e218 (hb hby d4_150) (Or.inl (own_w hw 47 rfl)) Via.refl f220 f221 (Or.inl (own_w hw 48 rfl)) (own_w hw 7 rfl) (ty := .boolean) (by decide) rfl rfl ?_
        intro T222 h222 X222 e222 W222
        show own_Go p e below _ T222 (mkF m 153 #[.val (.ref o), .val (.ref ca), .val (.int iv0), .val (.int lv), .val (.int r2), .val (.int (r1 + (1 : Int32))), .unset, .unset, .unset] [])
        have F222 := f220.same W222
        have sz223 : n0 ≤ h222.size := by rw [W222.size]; exact sz215
        have K224 := K216.wr W222 (Or.inl (List.mem_of_getElem? (i := 0) rfl))
        have N222 := Fr.snoc X222 N214 go
        refine own_by (T' := T222) (f' := (mkF m 154 #[.val (.ref o), .val (.ref ca), .val (.int iv0), .val (.int lv), .val (.int r2), .val (.int (r1 + (1 : Int32))), .unset, .unset, .unset] [(.ref o)])) (fun t k => XS.aloadN X222.here hx rfl (hb hby d4_153) rfl rfl k) ?_
        refine own_by (T' := T222) (f' := (mkF m 155 #[.val (.ref o), .val (.ref ca), .val (.int iv0), .val (.int lv), .val (.int r2), .val (.int (r1 + (1 : Int32))), .unset, .unset, .unset] [(.int iv0), (.ref o)])) (fun t k => XS.iloadN X222.here hx rfl (hb hby d4_154) rfl k) ?_
        have f225 := (((((P2_2.other W197 (Or.inr (sn_116 hw))).other W204 (Or.inr (sn_148 hw))).other W209 (Or.inr (sn_172 hw))).other W214 (Or.inr (sn_40 hw))).other W222 (Or.inr (sn_149 hw)))
        have f226 := (f221.wr W222)
        refine own_putF (host := "") X222 hx hZ hown e222 (hb hby d4_155) (Or.inl (own_w hw 53 rfl)) Via.refl f225 f226 (Or.inl (own_w hw 54 rfl)) (own_w hw 7 rfl) (ty := .int) (by decide) rfl rfl ?_
        intro T227 h227 X227 e227 W227
        show own_Go p e below _ T227 (mkF m 158 #[.val (.ref o), .val (.ref ca), .val (.int iv0), .val (.int lv), .val (.int r2), .val (.int (r1 + (1 : Int32))), .unset, .unset, .unset] [])
        have F227 := f225.same W227
        have sz228 : n0 ≤ h227.size := by rw [W227.size]; exact sz223
        have K229 := K224.wr W227 (Or.inl (List.mem_of_getElem? (i := 0) rfl))
        have N227 := Fr.snoc X227 N222 go
        refine own_by (T' := T227) (f' := (mkF m 159 #[.val (.ref o), .val (.ref ca), .val (.int iv0), .val (.int lv), .val (.int r2), .val (.int (r1 + (1 : Int32))), .unset, .unset, .unset] [(.ref o)])) (fun t k => XS.aloadN X227.here hx rfl (hb hby d4_158) rfl rfl k) ?_
        have hpt : own_pnt f j0 lim := ⟨own_ltn hr1 hl hc66_167, hc75_169⟩
        have ep2 : own_p2 f j0 lim = (own_rp f (lim - (own_p1 f j0 lim + 1)) (own_p1 f j0 lim + 1)) := if_pos hpt
        have es2 : own_s2 f j0 lim = (own_rs f (lim - (own_p1 f j0 lim + 1)) (own_p1 f j0 lim + 1) (own_s1 f j0 lim)) := if_pos hpt
        have hV : sv2.toInt = ((own_s2 f j0 lim : Nat) : Int) := by rw [es2]; exact hsv2
        have hD : dv2.toInt = ((own_dgs f j0 lim : Nat) : Int) := by rw [own_dgs, if_pos hpt, ep2]; exact hd2
        have z0 : (0 : Int32).toInt = ((0 : Nat) : Int) := by decide
        have f230 := ((((((P2_0.other W197 (Or.inr (sn_108 hw))).other W204 (Or.inr (sn_144 hw))).other W209 (Or.inr (sn_173 hw))).other W214 (Or.inr (sn_42 hw))).other W222 (Or.inr (sn_145 hw))).other W227 (Or.inr (sn_44 hw)))
        have f231 := ((((((P2_1.other W197 (Or.inr (sn_111 hw))).other W204 (Or.inr (sn_146 hw))).other W209 (Or.inr (sn_174 hw))).other W214 (Or.inr (sn_45 hw))).other W222 (Or.inr (sn_147 hw))).other W227 (Or.inr (sn_47 hw)))
        have f232 := ((f217.other W222 (Or.inr (sn_150 hw))).other W227 (Or.inr (sn_50 hw)))
        have f233 := (F222.other W227 (Or.inr (sn_53 hw)))
        have f234 := (((F209.other W214 (Or.inr (sn_54 hw))).other W222 (Or.inr (sn_152 hw))).other W227 (Or.inr (sn_56 hw)))
        have f235 := ((F214.other W222 (Or.inr (sn_154 hw))).other W227 (Or.inr (sn_58 hw)))
        have f236 := ((((((P2_7.other W197 (Or.inr (sn_138 hw))).other W204 (Or.inr (sn_155 hw))).other W209 (Or.inr (sn_175 hw))).other W214 (Or.inr (sn_59 hw))).other W222 (Or.inr (sn_156 hw))).other W227 (Or.inr (sn_61 hw)))
        have f237 := ((((((P2_8.other W197 (Or.inr (sn_139 hw))).other W204 (Or.inr (sn_157 hw))).other W209 (Or.inr (sn_176 hw))).other W214 (Or.inr (sn_62 hw))).other W222 (Or.inr (sn_158 hw))).other W227 (Or.inr (sn_64 hw)))
        have f238 := ((((((P2_9.other W197 (Or.inr (sn_140 hw))).other W204 (Or.inr (sn_159 hw))).other W209 (Or.inr (sn_177 hw))).other W214 (Or.inr (sn_65 hw))).other W222 (Or.inr (sn_160 hw))).other W227 (Or.inr (sn_67 hw)))
        have f239 := ((((((P2_10.other W197 (Or.inr (sn_141 hw))).other W204 (Or.inr (sn_161 hw))).other W209 (Or.inr (sn_178 hw))).other W214 (Or.inr (sn_68 hw))).other W222 (Or.inr (sn_162 hw))).other W227 (Or.inr (sn_70 hw)))
        have f240 := ((((((P2_11.other W197 (Or.inr (sn_142 hw))).other W204 (Or.inr (sn_163 hw))).other W209 (Or.inr (sn_179 hw))).other W214 (Or.inr (sn_71 hw))).other W222 (Or.inr (sn_164 hw))).other W227 (Or.inr (sn_73 hw)))
        have f241 := (((((F197.other W204 (Or.inr (sn_165 hw))).other W209 (Or.inr (sn_180 hw))).other W214 (Or.inr (sn_74 hw))).other W222 (Or.inr (sn_166 hw))).other W227 (Or.inr (sn_76 hw)))
        have f242 := ((((((P2_13.other W197 (Or.inr (sn_104 hw))).other W204 (Or.inr (sn_167 hw))).other W209 (Or.inr (sn_181 hw))).other W214 (Or.inr (sn_39 hw))).other W222 (Or.inr (sn_168 hw))).other W227 (Or.inr (sn_77 hw)))
        refine own_retA X227 hx hret hlk (hb hby d4_159) rfl rfl rfl (by decide) (by decide) ?_
        try rw [e227]
        exact ⟨rfl, N227, K229, _, _, _, (if_neg (fun q => q.1 (own_eqn hD z0 hc145_219))).symm, hD, hV, _, _, _, _, _, _, _, _, _, _, _, f230, f231, F227, f232, f233, f234, f235, f236, f237, f238, f239, f240, f241, f242⟩
      · have _ := X218
        refine own_by (T' := T218) (f' := (mkF m 160 #[.val (.ref o), .val (.ref ca), .val (.int iv0), .val (.int lv), .val (.int r2), .val (.int (r1 + (1 : Int32))), .unset, .unset, .unset] [])) (fun t k => XS.ifYes X218.here hx rfl (pc0 := 145) (pc' := 160) rfl (hb hby d4_145) rfl ((if0 _ _).trans (feq hc145_219).2) (by decide) (by decide) k) ?_
        refine own_by (T' := T218) (f' := (mkF m 162 #[.val (.ref o), .val (.ref ca), .val (.int iv0), .val (.int lv), .val (.int r2), .val (.int (r1 + (1 : Int32))), .unset, .unset, .unset] [(.int r2)])) (fun t k => XS.iload X218.here hx rfl (hb hby d4_160) rfl k) ?_
        refine own_by (T' := T218) (f' := (mkF m 163 #[.val (.ref o), .val (.ref ca), .val (.int iv0), .val (.int lv), .val (.int r2), .val (.int (r1 + (1 : Int32))), .unset, .unset, .unset] [(.int lv), (.int r2)])) (fun t k => XS.iloadN X218.here hx rfl (hb hby d4_162) rfl k) ?_
        by_cases hc163_243 : r2 < lv
        · have _ := X218
          refine own_by (T' := T218) (f' := (mkF m 166 #[.val (.ref o), .val (.ref ca), .val (.int iv0), .val (.int lv), .val (.int r2), .val (.int (r1 + (1 : Int32))), .unset, .unset, .unset] [])) (fun t k => XS.icmpNo X218.here hx rfl (hb hby d4_163) rfl (tlt hc163_243).2.1 k) ?_
          refine own_by (T' := T218) (f' := (mkF m 167 #[.val (.ref o), .val (.ref ca), .val (.int iv0), .val (.int lv), .val (.int r2), .val (.int (r1 + (1 : Int32))), .unset, .unset, .unset] [(.ref ca)])) (fun t k => XS.aloadN X218.here hx rfl (hb hby d4_166) rfl rfl k) ?_
          refine own_by (T' := T218) (f' := (mkF m 169 #[.val (.ref o), .val (.ref ca), .val (.int iv0), .val (.int lv), .val (.int r2), .val (.int (r1 + (1 : Int32))), .unset, .unset, .unset] [(.int r2), (.ref ca)])) (fun t k => XS.iload X218.here hx rfl (hb hby d4_167) rfl k) ?_
          have lq169 := own_ltn hr2 hl hc163_243
          have f244 := (((((f179.keep K193 (ninS nco nin0)).other W197 nco).other W204 nco).other W209 nco).other W214 nco)
          refine own_ldC X218 hx hZ e218 (hb hby d4_169) f244 (by omega) (by omega) ?_
          rw [show r2.toInt.toNat = (own_rp f (lim - (own_p1 f j0 lim + 1)) (own_p1 f j0 lim + 1)) from by omega]
          show own_Go p e below _ T218 (mkF m 170 #[.val (.ref o), .val (.ref ca), .val (.int iv0), .val (.int lv), .val (.int r2), .val (.int (r1 + (1 : Int32))), .unset, .unset, .unset] [(.int (f (own_rp f (lim - (own_p1 f j0 lim + 1)) (own_p1 f j0 lim + 1))))])
          refine own_by (T' := T218) (f' := (mkF m 174 #[.val (.ref o), .val (.ref ca), .val (.int iv0), .val (.int lv), .val (.int r2), .val (.int (r1 + (1 : Int32))), .unset, .unset, .unset] [(.int (f (own_rp f (lim - (own_p1 f j0 lim + 1)) (own_p1 f j0 lim + 1))))])) (fun t k => XS.goto X218.here hx rfl (pc0 := 170) (pc' := 174) rfl (hb hby d4_170) (by decide) (by decide) k) ?_
          refine own_by (T' := T218) (f' := (mkF m 176 #[.val (.ref o), .val (.ref ca), .val (.int iv0), .val (.int lv), .val (.int r2), .val (.int (f (own_rp f (lim - (own_p1 f j0 lim + 1)) (own_p1 f j0 lim + 1)))), .unset, .unset, .unset] [])) (fun t k => XS.istore X218.here hx rfl (hb hby d4_174) rfl (l' := #[.val (.ref o), .val (.ref ca), .val (.int iv0), .val (.int lv), .val (.int r2), .val (.int (f (own_rp f (lim - (own_p1 f j0 lim + 1)) (own_p1 f j0 lim + 1)))), .unset, .unset, .unset]) rfl k) ?_
          refine own_by (T' := T218) (f' := (mkF m 177 #[.val (.ref o), .val (.ref ca), .val (.int iv0), .val (.int lv), .val (.int r2), .val (.int (f (own_rp f (lim - (own_p1 f j0 lim + 1)) (own_p1 f j0 lim + 1)))), .unset, .unset, .unset] [(.ref o)])) (fun t k => XS.aloadN X218.here hx rfl (hb hby d4_176) rfl rfl k) ?_
          refine own_by (T' := T218) (f' := (mkF m 179 #[.val (.ref o), .val (.ref ca), .val (.int iv0), .val (.int lv), .val (.int r2), .val (.int (f (own_rp f (lim - (own_p1 f j0 lim + 1)) (own_p1 f j0 lim + 1)))), .unset, .unset, .unset] [(.int (f (own_rp f (lim - (own_p1 f j0 lim + 1)) (own_p1 f j0 lim + 1)))), (.ref o)])) (fun t k => XS.iload X218.here hx rfl (hb hby d4_177) rfl k) ?_
          refine own_by (T' := T218) (f' := (mkF m 181 #[.val (.ref o), .val (.ref ca), .val (.int iv0), .val (.int lv), .val (.int r2), .val (.int (f (own_rp f (lim - (own_p1 f j0 lim + 1)) (own_p1 f j0 lim + 1)))), .unset, .unset, .unset] [(.int (101 : Int32)), (.int (f (own_rp f (lim - (own_p1 f j0 lim + 1)) (own_p1 f j0 lim + 1)))), (.ref o)])) (fun t k => XS.bipush X218.here hx rfl (hb hby d4_179) k) ?_
          by_cases hc181_245 : (f (own_rp f (lim - (own_p1 f j0 lim + 1)) (own_p1 f j0 lim + 1))) = (101 : Int32)
          · have _ := X218
            refine own_by (T' := T218) (f' := (mkF m 191 #[.val (.ref o), .val (.ref ca), .val (.int iv0), .val (.int lv), .val (.int r2), .val (.int (f (own_rp f (lim - (own_p1 f j0 lim + 1)) (own_p1 f j0 lim + 1)))), .unset, .unset, .unset] [(.ref o)])) (fun t k => XS.icmpYes X218.here hx rfl (pc0 := 181) (pc' := 191) rfl (hb hby d4_181) rfl (teq hc181_245).1 (by decide) (by decide) k) ?_
            refine own_by (T' := T218) (f' := (mkF m 192 #[.val (.ref o), .val (.ref ca), .val (.int iv0), .val (.int lv), .val (.int r2), .val (.int (f (own_rp f (lim - (own_p1 f j0 lim + 1)) (own_p1 f j0 lim + 1)))), .unset, .unset, .unset] [(.int (1 : Int32)), (.ref o)])) (fun t k => XS.iconst X218.here hx rfl (hb hby d4_191) k) ?_
            refine own_by (T' := T218) (f' := (mkF m 196 #[.val (.ref o), .val (.ref ca), .val (.int iv0), .val (.int lv), .val (.int r2), .val (.int (f (own_rp f (lim - (own_p1 f j0 lim + 1)) (own_p1 f j0 lim + 1)))), .unset, .unset, .unset] [(.int (1 : Int32)), (.ref o)])) (fun t k => XS.goto X218.here hx rfl (pc0 := 192) (pc' := 196) rfl (hb hby d4_192) (by decide) (by decide) k) ?_
            have f246 := (F209.other W214 (Or.inr (sn_54 hw)))
            have f247 := (f213.wr W214)
            refine own_putF (host := "") X218 hx hZ hown e218 (hb hby d4_196) (Or.inl (own_w hw 49 rfl)) Via.refl f246 f247 (Or.inl (own_w hw 50 rfl)) (own_w hw 7 rfl) (ty := .boolean) (by decide) rfl rfl ?_
            intro T248 h248 X248 e248 W248
            show own_Go p e below _ T248 (mkF m 199 #[.val (.ref o), .val (.ref ca), .val (.int iv0), .val (.int lv), .val (.int r2), .val (.int (f (own_rp f (lim - (own_p1 f j0 lim + 1)) (own_p1 f j0 lim + 1)))), .unset, .unset, .unset] [])
            have F248 := f246.same W248
            have sz249 : n0 ≤ h248.size := by rw [W248.size]; exact sz215
            have K250 := K216.wr W248 (Or.inl (List.mem_of_getElem? (i := 0) rfl))
            have N248 := Fr.snoc X248 N214 go
            refine own_by (T' := T248) (f' := (mkF m 200 #[.val (.ref o), .val (.ref ca), .val (.int iv0), .val (.int lv), .val (.int r2), .val (.int (f (own_rp f (lim - (own_p1 f j0 lim + 1)) (own_p1 f j0 lim + 1)))), .unset, .unset, .unset] [(.ref o)])) (fun t k => XS.aloadN X248.here hx rfl (hb hby d4_199) rfl rfl k) ?_
            refine own_getF (host := "") X248 hx hZ hown e248 (hb hby d4_200) (Or.inl (own_w hw 49 rfl)) Via.refl F248 ?_
            intro T251 X251 e251
            show own_Go p e below _ T251 (mkF m 203 #[.val (.ref o), .val (.ref ca), .val (.int iv0), .val (.int lv), .val (.int r2), .val (.int (f (own_rp f (lim - (own_p1 f j0 lim + 1)) (own_p1 f j0 lim + 1)))), .unset, .unset, .unset] [(.int (1 : Int32))])
            refine own_by (T' := T251) (f' := (mkF m 206 #[.val (.ref o), .val (.ref ca), .val (.int iv0), .val (.int lv), .val (.int r2), .val (.int (f (own_rp f (lim - (own_p1 f j0 lim + 1)) (own_p1 f j0 lim + 1)))), .unset, .unset, .unset] [])) (fun t k => XS.ifNo X251.here hx rfl (hb hby d4_203) rfl ((if0 _ _).trans (feq (by decide)).1) k) ?_
            refine own_by (T' := T251) (f' := (mkF m 209 #[.val (.ref o), .val (.ref ca), .val (.int iv0), .val (.int lv), .val (.int (r2 + (1 : Int32))), .val (.int (f (own_rp f (lim - (own_p1 f j0 lim + 1)) (own_p1 f j0 lim + 1)))), .unset, .unset, .unset] [])) (fun t k => XS.iinc X251.here hx rfl (hb hby d4_206) rfl (l' := #[.val (.ref o), .val (.ref ca), .val (.int iv0), .val (.int lv), .val (.int (r2 + (1 : Int32))), .val (.int (f (own_rp f (lim - (own_p1 f j0 lim + 1)) (own_p1 f j0 lim + 1)))), .unset, .unset, .unset]) rfl k) ?_
            refine own_by (T' := T251) (f' := (mkF m 211 #[.val (.ref o), .val (.ref ca), .val (.int iv0), .val (.int lv), .val (.int (r2 + (1 : Int32))), .val (.int (f (own_rp f (lim - (own_p1 f j0 lim + 1)) (own_p1 f j0 lim + 1)))), .unset, .unset, .unset] [(.int (r2 + (1 : Int32)))])) (fun t k => XS.iload X251.here hx rfl (hb hby d4_209) rfl k) ?_
            refine own_by (T' := T251) (f' := (mkF m 212 #[.val (.ref o), .val (.ref ca), .val (.int iv0), .val (.int lv), .val (.int (r2 + (1 : Int32))), .val (.int (f (own_rp f (lim - (own_p1 f j0 lim + 1)) (own_p1 f j0 lim + 1)))), .unset, .unset, .unset] [(.int lv), (.int (r2 + (1 : Int32)))])) (fun t k => XS.iloadN X251.here hx rfl (hb hby d4_211) rfl k) ?_
            by_cases hc212_252 : (r2 + (1 : Int32)) < lv
            · have _ := X251
              refine own_by (T' := T251) (f' := (mkF m 215 #[.val (.ref o), .val (.ref ca), .val (.int iv0), .val (.int lv), .val (.int (r2 + (1 : Int32))), .val (.int (f (own_rp f (lim - (own_p1 f j0 lim + 1)) (own_p1 f j0 lim + 1)))), .unset, .unset, .unset] [])) (fun t k => XS.icmpNo X251.here hx rfl (hb hby d4_212) rfl (tlt hc212_252).2.1 k) ?_
              refine own_by (T' := T251) (f' := (mkF m 216 #[.val (.ref o), .val (.ref ca), .val (.int iv0), .val (.int lv), .val (.int (r2 + (1 : Int32))), .val (.int (f (own_rp f (lim - (own_p1 f j0 lim + 1)) (own_p1 f j0 lim + 1)))), .unset, .unset, .unset] [(.ref ca)])) (fun t k => XS.aloadN X251.here hx rfl (hb hby d4_215) rfl rfl k) ?_
              refine own_by (T' := T251) (f' := (mkF m 218 #[.val (.ref o), .val (.ref ca), .val (.int iv0), .val (.int lv), .val (.int (r2 + (1 : Int32))), .val (.int (f (own_rp f (lim - (own_p1 f j0 lim + 1)) (own_p1 f j0 lim + 1)))), .unset, .unset, .unset] [(.int (r2 + (1 : Int32))), (.ref ca)])) (fun t k => XS.iload X251.here hx rfl (hb hby d4_216) rfl k) ?_
              have lt253 := own_ltn hr2 hl hc163_243
              have hi253 := own_inc hr2 lt253 (by omega)
              have le253 : (own_rp f (lim - (own_p1 f j0 lim + 1)) (own_p1 f j0 lim + 1)) + 1 ≤ lim := lt253
              have lq218 := own_ltn hi253 hl hc212_252
              have f254 := (f244.other W248 nco)
              have _ : (1 : Int32).toInt = 1 := by decide
              refine own_ldC X251 hx hZ e251 (hb hby d4_218) f254 (by omega) (by omega) ?_
              rw [show (r2 + (1 : Int32)).toInt.toNat = ((own_rp f (lim - (own_p1 f j0 lim + 1)) (own_p1 f j0 lim + 1)) + 1) from by omega]
              show own_Go p e below _ T251 (mkF m 219 #[.val (.ref o), .val (.ref ca), .val (.int iv0), .val (.int lv), .val (.int (r2 + (1 : Int32))), .val (.int (f (own_rp f (lim - (own_p1 f j0 lim + 1)) (own_p1 f j0 lim + 1)))), .unset, .unset, .unset] [(.int (f ((own_rp f (lim - (own_p1 f j0 lim + 1)) (own_p1 f j0 lim + 1)) + 1)))])
              refine own_by (T' := T251) (f' := (mkF m 223 #[.val (.ref o), .val (.ref ca), .val (.int iv0), .val (.int lv), .val (.int (r2 + (1 : Int32))), .val (.int (f (own_rp f (lim - (own_p1 f j0 lim + 1)) (own_p1 f j0 lim + 1)))), .unset, .unset, .unset] [(.int (f ((own_rp f (lim - (own_p1 f j0 lim + 1)) (own_p1 f j0 lim + 1)) + 1)))])) (fun t k => XS.goto X251.here hx rfl (pc0 := 219) (pc' := 223) rfl (hb hby d4_219) (by decide) (by decide) k) ?_
              refine own_by (T' := T251) (f' := (mkF m 225 #[.val (.ref o), .val (.ref ca), .val (.int iv0), .val (.int lv), .val (.int (r2 + (1 : Int32))), .val (.int (f (own_rp f (lim - (own_p1 f j0 lim + 1)) (own_p1 f j0 lim + 1)))), .val (.int (f ((own_rp f (lim - (own_p1 f j0 lim + 1)) (own_p1 f j0 lim + 1)) + 1))), .unset, .unset] [])) (fun t k => XS.istore X251.here hx rfl (hb hby d4_223) rfl (l' := #[.val (.ref o), .val (.ref ca), .val (.int iv0), .val (.int lv), .val (.int (r2 + (1 : Int32))), .val (.int (f (own_rp f (lim - (own_p1 f j0 lim + 1)) (own_p1 f j0 lim + 1)))), .val (.int (f ((own_rp f (lim - (own_p1 f j0 lim + 1)) (own_p1 f j0 lim + 1)) + 1))), .unset, .unset]) rfl k) ?_
              refine own_by (T' := T251) (f' := (mkF m 227 #[.val (.ref o), .val (.ref ca), .val (.int iv0), .val (.int lv), .val (.int (r2 + (1 : Int32))), .val (.int (f (own_rp f (lim - (own_p1 f j0 lim + 1)) (own_p1 f j0 lim + 1)))), .val (.int (f ((own_rp f (lim - (own_p1 f j0 lim + 1)) (own_p1 f j0 lim + 1)) + 1))), .unset, .unset] [(.int (f ((own_rp f (lim - (own_p1 f j0 lim + 1)) (own_p1 f j0 lim + 1)) + 1)))])) (fun t k => XS.iload X251.here hx rfl (hb hby d4_225) rfl k) ?_
              refine own_by (T' := T251) (f' := (mkF m 229 #[.val (.ref o), .val (.ref ca), .val (.int iv0), .val (.int lv), .val (.int (r2 + (1 : Int32))), .val (.int (f (own_rp f (lim - (own_p1 f j0 lim + 1)) (own_p1 f j0 lim + 1)))), .val (.int (f ((own_rp f (lim - (own_p1 f j0 lim + 1)) (own_p1 f j0 lim + 1)) + 1))), .unset, .unset] [(.int (45 : Int32)), (.int (f ((own_rp f (lim - (own_p1 f j0 lim + 1)) (own_p1 f j0 lim + 1)) + 1)))])) (fun t k => XS.bipush X251.here hx rfl (hb hby d4_227) k) ?_
              by_cases hc229_255 : (f ((own_rp f (lim - (own_p1 f j0 lim + 1)) (own_p1 f j0 lim + 1)) + 1)) = (45 : Int32)
              · have _ := X251
                refine own_by (T' := T251) (f' := (mkF m 232 #[.val (.ref o), .val (.ref ca), .val (.int iv0), .val (.int lv), .val (.int (r2 + (1 : Int32))), .val (.int (f (own_rp f (lim - (own_p1 f j0 lim + 1)) (own_p1 f j0 lim + 1)))), .val (.int (f ((own_rp f (lim - (own_p1 f j0 lim + 1)) (own_p1 f j0 lim + 1)) + 1))), .unset, .unset] [])) (fun t k => XS.icmpNo X251.here hx rfl (hb hby d4_229) rfl (teq hc229_255).2 k) ?_
                refine own_by (T' := T251) (f' := (mkF m 233 #[.val (.ref o), .val (.ref ca), .val (.int iv0), .val (.int lv), .val (.int (r2 + (1 : Int32))), .val (.int (f (own_rp f (lim - (own_p1 f j0 lim + 1)) (own_p1 f j0 lim + 1)))), .val (.int (f ((own_rp f (lim - (own_p1 f j0 lim + 1)) (own_p1 f j0 lim + 1)) + 1))), .unset, .unset] [(.int (1 : Int32))])) (fun t k => XS.iconst X251.here hx rfl (hb hby d4_232) k) ?_
                refine own_by (T' := T251) (f' := (mkF m 237 #[.val (.ref o), .val (.ref ca), .val (.int iv0), .val (.int lv), .val (.int (r2 + (1 : Int32))), .val (.int (f (own_rp f (lim - (own_p1 f j0 lim + 1)) (own_p1 f j0 lim + 1)))), .val (.int (f ((own_rp f (lim - (own_p1 f j0 lim + 1)) (own_p1 f j0 lim + 1)) + 1))), .unset, .unset] [(.int (1 : Int32))])) (fun t k => XS.goto X251.here hx rfl (pc0 := 233) (pc' := 237) rfl (hb hby d4_233) (by decide) (by decide) k) ?_
                refine own_by (T' := T251) (f' := (mkF m 239 #[.val (.ref o), .val (.ref ca), .val (.int iv0), .val (.int lv), .val (.int (r2 + (1 : Int32))), .val (.int (f (own_rp f (lim - (own_p1 f j0 lim + 1)) (own_p1 f j0 lim + 1)))), .val (.int (f ((own_rp f (lim - (own_p1 f j0 lim + 1)) (own_p1 f j0 lim + 1)) + 1))), .val (.int (1 : Int32)), .unset] [])) (fun t k => XS.istore X251.here hx rfl (hb hby d4_237) rfl (l' := #[.val (.ref o), .val (.ref ca), .val (.int iv0), .val (.int lv), .val (.int (r2 + (1 : Int32))), .val (.int (f (own_rp f (lim - (own_p1 f j0 lim + 1)) (own_p1 f j0 lim + 1)))), .val (.int (f ((own_rp f (lim - (own_p1 f j0 lim + 1)) (own_p1 f j0 lim + 1)) + 1))), .val (.int (1 : Int32)), .unset]) rfl k) ?_
                refine own_by (T' := T251) (f' := (mkF m 241 #[.val (.ref o), .val (.ref ca), .val (.int iv0), .val (.int lv), .val (.int (r2 + (1 : Int32))), .val (.int (f (own_rp f (lim - (own_p1 f j0 lim + 1)) (own_p1 f j0 lim + 1)))), .val (.int (f ((own_rp f (lim - (own_p1 f j0 lim + 1)) (own_p1 f j0 lim + 1)) + 1))), .val (.int (1 : Int32)), .unset] [(.int (f ((own_rp f (lim - (own_p1 f j0 lim + 1)) (own_p1 f j0 lim + 1)) + 1)))])) (fun t k => XS.iload X251.here hx rfl (hb hby d4_239) rfl k) ?_
                refine own_by (T' := T251) (f' := (mkF m 243 #[.val (.ref o), .val (.ref ca), .val (.int iv0), .val (.int lv), .val (.int (r2 + (1 : Int32))), .val (.int (f (own_rp f (lim - (own_p1 f j0 lim + 1)) (own_p1 f j0 lim + 1)))), .val (.int (f ((own_rp f (lim - (own_p1 f j0 lim + 1)) (own_p1 f j0 lim + 1)) + 1))), .val (.int (1 : Int32)), .unset] [(.int (43 : Int32)), (.int (f ((own_rp f (lim - (own_p1 f j0 lim + 1)) (own_p1 f j0 lim + 1)) + 1)))])) (fun t k => XS.bipush X251.here hx rfl (hb hby d4_241) k) ?_
                by_cases hc243_256 : (f ((own_rp f (lim - (own_p1 f j0 lim + 1)) (own_p1 f j0 lim + 1)) + 1)) = (43 : Int32)
                · have _ := X251
                  refine own_by (T' := T251) (f' := (mkF m 251 #[.val (.ref o), .val (.ref ca), .val (.int iv0), .val (.int lv), .val (.int (r2 + (1 : Int32))), .val (.int (f (own_rp f (lim - (own_p1 f j0 lim + 1)) (own_p1 f j0 lim + 1)))), .val (.int (f ((own_rp f (lim - (own_p1 f j0 lim + 1)) (own_p1 f j0 lim + 1)) + 1))), .val (.int (1 : Int32)), .unset] [])) (fun t k => XS.icmpYes X251.here hx rfl (pc0 := 243) (pc' := 251) rfl (hb hby d4_243) rfl (teq hc243_256).1 (by decide) (by decide) k) ?_
                  refine own_by (T' := T251) (f' := (mkF m 254 #[.val (.ref o), .val (.ref ca), .val (.int iv0), .val (.int lv), .val (.int ((r2 + (1 : Int32)) + (1 : Int32))), .val (.int (f (own_rp f (lim - (own_p1 f j0 lim + 1)) (own_p1 f j0 lim + 1)))), .val (.int (f ((own_rp f (lim - (own_p1 f j0 lim + 1)) (own_p1 f j0 lim + 1)) + 1))), .val (.int (1 : Int32)), .unset] [])) (fun t k => XS.iinc X251.here hx rfl (hb hby d4_251) rfl (l' := #[.val (.ref o), .val (.ref ca), .val (.int iv0), .val (.int lv), .val (.int ((r2 + (1 : Int32)) + (1 : Int32))), .val (.int (f (own_rp f (lim - (own_p1 f j0 lim + 1)) (own_p1 f j0 lim + 1)))), .val (.int (f ((own_rp f (lim - (own_p1 f j0 lim + 1)) (own_p1 f j0 lim + 1)) + 1))), .val (.int (1 : Int32)), .unset]) rfl k) ?_
                  refine own_by (T' := T251) (f' := (mkF m 256 #[.val (.ref o), .val (.ref ca), .val (.int iv0), .val (.int lv), .val (.int ((r2 + (1 : Int32)) + (1 : Int32))), .val (.int (f (own_rp f (lim - (own_p1 f j0 lim + 1)) (own_p1 f j0 lim + 1)))), .val (.int (f ((own_rp f (lim - (own_p1 f j0 lim + 1)) (own_p1 f j0 lim + 1)) + 1))), .val (.int (1 : Int32)), .unset] [(.int ((r2 + (1 : Int32)) + (1 : Int32)))])) (fun t k => XS.iload X251.here hx rfl (hb hby d4_254) rfl k) ?_
                  refine own_by (T' := T251) (f' := (mkF m 258 #[.val (.ref o), .val (.ref ca), .val (.int iv0), .val (.int lv), .val (.int ((r2 + (1 : Int32)) + (1 : Int32))), .val (.int (f (own_rp f (lim - (own_p1 f j0 lim + 1)) (own_p1 f j0 lim + 1)))), .val (.int (f ((own_rp f (lim - (own_p1 f j0 lim + 1)) (own_p1 f j0 lim + 1)) + 1))), .val (.int (1 : Int32)), .val (.int ((r2 + (1 : Int32)) + (1 : Int32)))] [])) (fun t k => XS.istore X251.here hx rfl (hb hby d4_256) rfl (l' := #[.val (.ref o), .val (.ref ca), .val (.int iv0), .val (.int lv), .val (.int ((r2 + (1 : Int32)) + (1 : Int32))), .val (.int (f (own_rp f (lim - (own_p1 f j0 lim + 1)) (own_p1 f j0 lim + 1)))), .val (.int (f ((own_rp f (lim - (own_p1 f j0 lim + 1)) (own_p1 f j0 lim + 1)) + 1))), .val (.int (1 : Int32)), .val (.int ((r2 + (1 : Int32)) + (1 : Int32)))]) rfl k) ?_
                  have hpt : own_pnt f j0 lim := ⟨own_ltn hr1 hl hc66_167, hc75_169⟩
                  have ep2 : own_p2 f j0 lim = (own_rp f (lim - (own_p1 f j0 lim + 1)) (own_p1 f j0 lim + 1)) := if_pos hpt
                  have es2 : own_s2 f j0 lim = (own_rs f (lim - (own_p1 f j0 lim + 1)) (own_p1 f j0 lim + 1) (own_s1 f j0 lim)) := if_pos hpt
                  have hV : sv2.toInt = ((own_s2 f j0 lim : Nat) : Int) := by rw [es2]; exact hsv2
                  have hD : dv2.toInt = ((own_dgs f j0 lim : Nat) : Int) := by rw [own_dgs, if_pos hpt, ep2]; exact hd2
                  have z0 : (0 : Int32).toInt = ((0 : Nat) : Int) := by decide
                  have lt257 := own_ltn hi253 hl hc212_252
                  have hi257 := own_inc hi253 lt257 (by omega)
                  have le257 : ((own_rp f (lim - (own_p1 f j0 lim + 1)) (own_p1 f j0 lim + 1)) + 1) + 1 ≤ lim := lt257
                  have f258 := (f247.wr W248)
                  have f259 := (((((P2_0.other W197 (Or.inr (sn_108 hw))).other W204 (Or.inr (sn_144 hw))).other W209 (Or.inr (sn_173 hw))).other W214 (Or.inr (sn_42 hw))).other W248 (Or.inr (sn_173 hw)))
                  have f260 := (((((P2_1.other W197 (Or.inr (sn_111 hw))).other W204 (Or.inr (sn_146 hw))).other W209 (Or.inr (sn_174 hw))).other W214 (Or.inr (sn_45 hw))).other W248 (Or.inr (sn_174 hw)))
                  have f261 := (((((P2_2.other W197 (Or.inr (sn_116 hw))).other W204 (Or.inr (sn_148 hw))).other W209 (Or.inr (sn_172 hw))).other W214 (Or.inr (sn_40 hw))).other W248 (Or.inr (sn_172 hw)))
                  have f262 := (f217.other W248 (Or.inr (sn_170 hw)))
                  have f263 := (((((P2_4.other W197 (Or.inr (sn_126 hw))).other W204 (Or.inr (sn_143 hw))).other W209 (Or.inr (sn_171 hw))).other W214 (Or.inr (sn_51 hw))).other W248 (Or.inr (sn_171 hw)))
                  have f264 := (F214.other W248 (Or.inr (sn_169 hw)))
                  have f265 := (((((P2_7.other W197 (Or.inr (sn_138 hw))).other W204 (Or.inr (sn_155 hw))).other W209 (Or.inr (sn_175 hw))).other W214 (Or.inr (sn_59 hw))).other W248 (Or.inr (sn_175 hw)))
                  have f266 := (((((P2_8.other W197 (Or.inr (sn_139 hw))).other W204 (Or.inr (sn_157 hw))).other W209 (Or.inr (sn_176 hw))).other W214 (Or.inr (sn_62 hw))).other W248 (Or.inr (sn_176 hw)))
                  have f267 := (((((P2_9.other W197 (Or.inr (sn_140 hw))).other W204 (Or.inr (sn_159 hw))).other W209 (Or.inr (sn_177 hw))).other W214 (Or.inr (sn_65 hw))).other W248 (Or.inr (sn_177 hw)))
                  have f268 := (((((P2_10.other W197 (Or.inr (sn_141 hw))).other W204 (Or.inr (sn_161 hw))).other W209 (Or.inr (sn_178 hw))).other W214 (Or.inr (sn_68 hw))).other W248 (Or.inr (sn_178 hw)))
                  have f269 := (((((P2_11.other W197 (Or.inr (sn_142 hw))).other W204 (Or.inr (sn_163 hw))).other W209 (Or.inr (sn_179 hw))).other W214 (Or.inr (sn_71 hw))).other W248 (Or.inr (sn_179 hw)))
                  have f270 := ((((F197.other W204 (Or.inr (sn_165 hw))).other W209 (Or.inr (sn_180 hw))).other W214 (Or.inr (sn_74 hw))).other W248 (Or.inr (sn_180 hw)))
                  have f271 := (((((P2_13.other W197 (Or.inr (sn_104 hw))).other W204 (Or.inr (sn_167 hw))).other W209 (Or.inr (sn_181 hw))).other W214 (Or.inr (sn_39 hw))).other W248 (Or.inr (sn_181 hw)))
                  exact eloop dv2 sv2 ((if_pos ⟨own_neqn hD z0 hc145_219, by rw [ep2]; exact own_ltn hr2 hl hc163_243, by rw [ep2]; exact Or.inl hc181_245⟩).symm) hD hV (lim - (((own_rp f (lim - (own_p1 f j0 lim + 1)) (own_p1 f j0 lim + 1)) + 1) + 1)) (((own_rp f (lim - (own_p1 f j0 lim + 1)) (own_p1 f j0 lim + 1)) + 1) + 1) ((r2 + (1 : Int32)) + (1 : Int32)) (0 : Int32) (f (own_rp f (lim - (own_p1 f j0 lim + 1)) (own_p1 f j0 lim + 1))) (f ((own_rp f (lim - (own_p1 f j0 lim + 1)) (own_p1 f j0 lim + 1)) + 1)) (1 : Int32) ((r2 + (1 : Int32)) + (1 : Int32)) (.ref ca) (.int iv0) u2 (.int (1 : Int32)) (.int (0 : Int32)) (.int (-1 : Int32)) (.int (0 : Int32)) (.long y9_2) (.long y10_2) (.int (r2 - (r1 + (1 : Int32)))) T251 h248 _ (by omega) hi257 X251 e251 f254 f258 f259 f260 f261 f262 f263 F248 f264 f265 f266 f267 f268 f269 f270 f271 K250 N248 sz249
                · have _ := X251
                  refine own_by (T' := T251) (f' := (mkF m 246 #[.val (.ref o), .val (.ref ca), .val (.int iv0), .val (.int lv), .val (.int (r2 + (1 : Int32))), .val (.int (f (own_rp f (lim - (own_p1 f j0 lim + 1)) (own_p1 f j0 lim + 1)))), .val (.int (f ((own_rp f (lim - (own_p1 f j0 lim + 1)) (own_p1 f j0 lim + 1)) + 1))), .val (.int (1 : Int32)), .unset] [])) (fun t k => XS.icmpNo X251.here hx rfl (hb hby d4_243) rfl (feq hc243_256).1 k) ?_
                  refine own_by (T' := T251) (f' := (mkF m 248 #[.val (.ref o), .val (.ref ca), .val (.int iv0), .val (.int lv), .val (.int (r2 + (1 : Int32))), .val (.int (f (own_rp f (lim - (own_p1 f j0 lim + 1)) (own_p1 f j0 lim + 1)))), .val (.int (f ((own_rp f (lim - (own_p1 f j0 lim + 1)) (own_p1 f j0 lim + 1)) + 1))), .val (.int (1 : Int32)), .unset] [(.int (1 : Int32))])) (fun t k => XS.iload X251.here hx rfl (hb hby d4_246) rfl k) ?_
                  refine own_by (T' := T251) (f' := (mkF m 251 #[.val (.ref o), .val (.ref ca), .val (.int iv0), .val (.int lv), .val (.int (r2 + (1 : Int32))), .val (.int (f (own_rp f (lim - (own_p1 f j0 lim + 1)) (own_p1 f j0 lim + 1)))), .val (.int (f ((own_rp f (lim - (own_p1 f j0 lim + 1)) (own_p1 f j0 lim + 1)) + 1))), .val (.int (1 : Int32)), .unset] [])) (fun t k => XS.ifNo X251.here hx rfl (hb hby d4_248) rfl ((if0 _ _).trans (feq (by decide)).1) k) ?_
                  refine own_by (T' := T251) (f' := (mkF m 254 #[.val (.ref o), .val (.ref ca), .val (.int iv0), .val (.int lv), .val (.int ((r2 + (1 : Int32)) + (1 : Int32))), .val (.int (f (own_rp f (lim - (own_p1 f j0 lim + 1)) (own_p1 f j0 lim + 1)))), .val (.int (f ((own_rp f (lim - (own_p1 f j0 lim + 1)) (own_p1 f j0 lim + 1)) + 1))), .val (.int (1 : Int32)), .unset] [])) (fun t k => XS.iinc X251.here hx rfl (hb hby d4_251) rfl (l' := #[.val (.ref o), .val (.ref ca), .val (.int iv0), .val (.int lv), .val (.int ((r2 + (1 : Int32)) + (1 : Int32))), .val (.int (f (own_rp f (lim - (own_p1 f j0 lim + 1)) (own_p1 f j0 lim + 1)))), .val (.int (f ((own_rp f (lim - (own_p1 f j0 lim + 1)) (own_p1 f j0 lim + 1)) + 1))), .val (.int (1 : Int32)), .unset]) rfl k) ?_
                  refine own_by (T' := T251) (f' := (mkF m 256 #[.val (.ref o), .val (.ref ca), .val (.int iv0), .val (.int lv), .val (.int ((r2 + (1 : Int32)) + (1 : Int32))), .val (.int (f (own_rp f (lim - (own_p1 f j0 lim + 1)) (own_p1 f j0 lim + 1)))), .val (.int (f ((own_rp f (lim - (own_p1 f j0 lim + 1)) (own_p1 f j0 lim + 1)) + 1))), .val (.int (1 : Int32)), .unset] [(.int ((r2 + (1 : Int32)) + (1 : Int32)))])) (fun t k => XS.iload X251.here hx rfl (hb hby d4_254) rfl k) ?_
                  refine own_by (T' := T251) (f' := (mkF m 258 #[.val (.ref o), .val (.ref ca), .val (.int iv0), .val (.int lv), .val (.int ((r2 + (1 : Int32)) + (1 : Int32))), .val (.int (f (own_rp f (lim - (own_p1 f j0 lim + 1)) (own_p1 f j0 lim + 1)))), .val (.int (f ((own_rp f (lim - (own_p1 f j0 lim + 1)) (own_p1 f j0 lim + 1)) + 1))), .val (.int (1 : Int32)), .val (.int ((r2 + (1 : Int32)) + (1 : Int32)))] [])) (fun t k => XS.istore X251.here hx rfl (hb hby d4_256) rfl (l' := #[.val (.ref o), .val (.ref ca), .val (.int iv0), .val (.int lv), .val (.int ((r2 + (1 : Int32)) + (1 : Int32))), .val (.int (f (own_rp f (lim - (own_p1 f j0 lim + 1)) (own_p1 f j0 lim + 1)))), .val (.int (f ((own_rp f (lim - (own_p1 f j0 lim + 1)) (own_p1 f j0 lim + 1)) + 1))), .val (.int (1 : Int32)), .val (.int ((r2 + (1 : Int32)) + (1 : Int32)))]) rfl k) ?_
                  have hpt : own_pnt f j0 lim := ⟨own_ltn hr1 hl hc66_167, hc75_169⟩
                  have ep2 : own_p2 f j0 lim = (own_rp f (lim - (own_p1 f j0 lim + 1)) (own_p1 f j0 lim + 1)) := if_pos hpt
                  have es2 : own_s2 f j0 lim = (own_rs f (lim - (own_p1 f j0 lim + 1)) (own_p1 f j0 lim + 1) (own_s1 f j0 lim)) := if_pos hpt
                  have hV : sv2.toInt = ((own_s2 f j0 lim : Nat) : Int) := by rw [es2]; exact hsv2
                  have hD : dv2.toInt = ((own_dgs f j0 lim : Nat) : Int) := by rw [own_dgs, if_pos hpt, ep2]; exact hd2
                  have z0 : (0 : Int32).toInt = ((0 : Nat) : Int) := by decide
                  have lt272 := own_ltn hi253 hl hc212_252
                  have hi272 := own_inc hi253 lt272 (by omega)
                  have le272 : ((own_rp f (lim - (own_p1 f j0 lim + 1)) (own_p1 f j0 lim + 1)) + 1) + 1 ≤ lim := lt272
                  have f273 := (f247.wr W248)
                  have f274 := (((((P2_0.other W197 (Or.inr (sn_108 hw))).other W204 (Or.inr (sn_144 hw))).other W209 (Or.inr (sn_173 hw))).other W214 (Or.inr (sn_42 hw))).other W248 (Or.inr (sn_173 hw)))
                  have f275 := (((((P2_1.other W197 (Or.inr (sn_111 hw))).other W204 (Or.inr (sn_146 hw))).other W209 (Or.inr (sn_174 hw))).other W214 (Or.inr (sn_45 hw))).other W248 (Or.inr (sn_174 hw)))
                  have f276 := (((((P2_2.other W197 (Or.inr (sn_116 hw))).other W204 (Or.inr (sn_148 hw))).other W209 (Or.inr (sn_172 hw))).other W214 (Or.inr (sn_40 hw))).other W248 (Or.inr (sn_172 hw)))
                  have f277 := (f217.other W248 (Or.inr (sn_170 hw)))
                  have f278 := (((((P2_4.other W197 (Or.inr (sn_126 hw))).other W204 (Or.inr (sn_143 hw))).other W209 (Or.inr (sn_171 hw))).other W214 (Or.inr (sn_51 hw))).other W248 (Or.inr (sn_171 hw)))
                  have f279 := (F214.other W248 (Or.inr (sn_169 hw)))
                  have f280 := (((((P2_7.other W197 (Or.inr (sn_138 hw))).other W204 (Or.inr (sn_155 hw))).other W209 (Or.inr (sn_175 hw))).other W214 (Or.inr (sn_59 hw))).other W248 (Or.inr (sn_175 hw)))
                  have f281 := (((((P2_8.other W197 (Or.inr (sn_139 hw))).other W204 (Or.inr (sn_157 hw))).other W209 (Or.inr (sn_176 hw))).other W214 (Or.inr (sn_62 hw))).other W248 (Or.inr (sn_176 hw)))
                  have f282 := (((((P2_9.other W197 (Or.inr (sn_140 hw))).other W204 (Or.inr (sn_159 hw))).other W209 (Or.inr (sn_177 hw))).other W214 (Or.inr (sn_65 hw))).other W248 (Or.inr (sn_177 hw)))
                  have f283 := (((((P2_10.other W197 (Or.inr (sn_141 hw))).other W204 (Or.inr (sn_161 hw))).other W209 (Or.inr (sn_178 hw))).other W214 (Or.inr (sn_68 hw))).other W248 (Or.inr (sn_178 hw)))
                  have f284 := (((((P2_11.other W197 (Or.inr (sn_142 hw))).other W204 (Or.inr (sn_163 hw))).other W209 (Or.inr (sn_179 hw))).other W214 (Or.inr (sn_71 hw))).other W248 (Or.inr (sn_179 hw)))
                  have f285 := ((((F197.other W204 (Or.inr (sn_165 hw))).other W209 (Or.inr (sn_180 hw))).other W214 (Or.inr (sn_74 hw))).other W248 (Or.inr (sn_180 hw)))
                  have f286 := (((((P2_13.other W197 (Or.inr (sn_104 hw))).other W204 (Or.inr (sn_167 hw))).other W209 (Or.inr (sn_181 hw))).other W214 (Or.inr (sn_39 hw))).other W248 (Or.inr (sn_181 hw)))
                  exact eloop dv2 sv2 ((if_pos ⟨own_neqn hD z0 hc145_219, by rw [ep2]; exact own_ltn hr2 hl hc163_243, by rw [ep2]; exact Or.inl hc181_245⟩).symm) hD hV (lim - (((own_rp f (lim - (own_p1 f j0 lim + 1)) (own_p1 f j0 lim + 1)) + 1) + 1)) (((own_rp f (lim - (own_p1 f j0 lim + 1)) (own_p1 f j0 lim + 1)) + 1) + 1) ((r2 + (1 : Int32)) + (1 : Int32)) (0 : Int32) (f (own_rp f (lim - (own_p1 f j0 lim + 1)) (own_p1 f j0 lim + 1))) (f ((own_rp f (lim - (own_p1 f j0 lim + 1)) (own_p1 f j0 lim + 1)) + 1)) (1 : Int32) ((r2 + (1 : Int32)) + (1 : Int32)) (.ref ca) (.int iv0) u2 (.int (1 : Int32)) (.int (0 : Int32)) (.int (-1 : Int32)) (.int (0 : Int32)) (.long y9_2) (.long y10_2) (.int (r2 - (r1 + (1 : Int32)))) T251 h248 _ (by omega) hi272 X251 e251 f254 f273 f274 f275 f276 f277 f278 F248 f279 f280 f281 f282 f283 f284 f285 f286 K250 N248 sz249
              · have _ := X251
                refine own_by (T' := T251) (f' := (mkF m 236 #[.val (.ref o), .val (.ref ca), .val (.int iv0), .val (.int lv), .val (.int (r2 + (1 : Int32))), .val (.int (f (own_rp f (lim - (own_p1 f j0 lim + 1)) (own_p1 f j0 lim + 1)))), .val (.int (f ((own_rp f (lim - (own_p1 f j0 lim + 1)) (own_p1 f j0 lim + 1)) + 1))), .unset, .unset] [])) (fun t k => XS.icmpYes X251.here hx rfl (pc0 := 229) (pc' := 236) rfl (hb hby d4_229) rfl (feq hc229_255).2 (by decide) (by decide) k) ?_
                refine own_by (T' := T251) (f' := (mkF m 237 #[.val (.ref o), .val (.ref ca), .val (.int iv0), .val (.int lv), .val (.int (r2 + (1 : Int32))), .val (.int (f (own_rp f (lim - (own_p1 f j0 lim + 1)) (own_p1 f j0 lim + 1)))), .val (.int (f ((own_rp f (lim - (own_p1 f j0 lim + 1)) (own_p1 f j0 lim + 1)) + 1))), .unset, .unset] [(.int (0 : Int32))])) (fun t k => XS.iconst X251.here hx rfl (hb hby d4_236) k) ?_
                refine own_by (T' := T251) (f' := (mkF m 239 #[.val (.ref o), .val (.ref ca), .val (.int iv0), .val (.int lv), .val (.int (r2 + (1 : Int32))), .val (.int (f (own_rp f (lim - (own_p1 f j0 lim + 1)) (own_p1 f j0 lim + 1)))), .val (.int (f ((own_rp f (lim - (own_p1 f j0 lim + 1)) (own_p1 f j0 lim + 1)) + 1))), .val (.int (0 : Int32)), .unset] [])) (fun t k => XS.istore X251.here hx rfl (hb hby d4_237) rfl (l' := #[.val (.ref o), .val (.ref ca), .val (.int iv0), .val (.int lv), .val (.int (r2 + (1 : Int32))), .val (.int (f (own_rp f (lim - (own_p1 f j0 lim + 1)) (own_p1 f j0 lim + 1)))), .val (.int (f ((own_rp f (lim - (own_p1 f j0 lim + 1)) (own_p1 f j0 lim + 1)) + 1))), .val (.int (0 : Int32)), .unset]) rfl k) ?_
                refine own_by (T' := T251) (f' := (mkF m 241 #[.val (.ref o), .val (.ref ca), .val (.int iv0), .val (.int lv), .val (.int (r2 + (1 : Int32))), .val (.int (f (own_rp f (lim - (own_p1 f j0 lim + 1)) (own_p1 f j0 lim + 1)))), .val (.int (f ((own_rp f (lim - (own_p1 f j0 lim + 1)) (own_p1 f j0 lim + 1)) + 1))), .val (.int (0 : Int32)), .unset] [(.int (f ((own_rp f (lim - (own_p1 f j0 lim + 1)) (own_p1 f j0 lim + 1)) + 1)))])) (fun t k => XS.iload X251.here hx rfl (hb hby d4_239) rfl k) ?_
                refine own_by (T' := T251) (f' := (mkF m 243 #[.val (.ref o), .val (.ref ca), .val (.int iv0), .val (.int lv), .val (.int (r2 + (1 : Int32))), .val (.int (f (own_rp f (lim - (own_p1 f j0 lim + 1)) (own_p1 f j0 lim + 1)))), .val (.int (f ((own_rp f (lim - (own_p1 f j0 lim + 1)) (own_p1 f j0 lim + 1)) + 1))), .val (.int (0 : Int32)), .unset] [(.int (43 : Int32)), (.int (f ((own_rp f (lim - (own_p1 f j0 lim + 1)) (own_p1 f j0 lim + 1)) + 1)))])) (fun t k => XS.bipush X251.here hx rfl (hb hby d4_241) k) ?_
                by_cases hc243_287 : (f ((own_rp f (lim - (own_p1 f j0 lim + 1)) (own_p1 f j0 lim + 1)) + 1)) = (43 : Int32)
                · have _ := X251
                  refine own_by (T' := T251) (f' := (mkF m 251 #[.val (.ref o), .val (.ref ca), .val (.int iv0), .val (.int lv), .val (.int (r2 + (1 : Int32))), .val (.int (f (own_rp f (lim - (own_p1 f j0 lim + 1)) (own_p1 f j0 lim + 1)))), .val (.int (f ((own_rp f (lim - (own_p1 f j0 lim + 1)) (own_p1 f j0 lim + 1)) + 1))), .val (.int (0 : Int32)), .unset] [])) (fun t k => XS.icmpYes X251.here hx rfl (pc0 := 243) (pc' := 251) rfl (hb hby d4_243) rfl (teq hc243_287).1 (by decide) (by decide) k) ?_
                  refine own_by (T' := T251) (f' := (mkF m 254 #[.val (.ref o), .val (.ref ca), .val (.int iv0), .val (.int lv), .val (.int ((r2 + (1 : Int32)) + (1 : Int32))), .val (.int (f (own_rp f (lim - (own_p1 f j0 lim + 1)) (own_p1 f j0 lim + 1)))), .val (.int (f ((own_rp f (lim - (own_p1 f j0 lim + 1)) (own_p1 f j0 lim + 1)) + 1))), .val (.int (0 : Int32)), .unset] [])) (fun t k => XS.iinc X251.here hx rfl (hb hby d4_251) rfl (l' := #[.val (.ref o), .val (.ref ca), .val (.int iv0), .val (.int lv), .val (.int ((r2 + (1 : Int32)) + (1 : Int32))), .val (.int (f (own_rp f (lim - (own_p1 f j0 lim + 1)) (own_p1 f j0 lim + 1)))), .val (.int (f ((own_rp f (lim - (own_p1 f j0 lim + 1)) (own_p1 f j0 lim + 1)) + 1))), .val (.int (0 : Int32)), .unset]) rfl k) ?_
                  refine own_by (T' := T251) (f' := (mkF m 256 #[.val (.ref o), .val (.ref ca), .val (.int iv0), .val (.int lv), .val (.int ((r2 + (1 : Int32)) + (1 : Int32))), .val (.int (f (own_rp f (lim - (own_p1 f j0 lim + 1)) (own_p1 f j0 lim + 1)))), .val (.int (f ((own_rp f (lim - (own_p1 f j0 lim + 1)) (own_p1 f j0 lim + 1)) + 1))), .val (.int (0 : Int32)), .unset] [(.int ((r2 + (1 : Int32)) + (1 : Int32)))])) (fun t k => XS.iload X251.here hx rfl (hb hby d4_254) rfl k) ?_
                  refine own_by (T' := T251) (f' := (mkF m 258 #[.val (.ref o), .val (.ref ca), .val (.int iv0), .val (.int lv), .val (.int ((r2 + (1 : Int32)) + (1 : Int32))), .val (.int (f (own_rp f (lim - (own_p1 f j0 lim + 1)) (own_p1 f j0 lim + 1)))), .val (.int (f ((own_rp f (lim - (own_p1 f j0 lim + 1)) (own_p1 f j0 lim + 1)) + 1))), .val (.int (0 : Int32)), .val (.int ((r2 + (1 : Int32)) + (1 : Int32)))] [])) (fun t k => XS.istore X251.here hx rfl (hb hby d4_256) rfl (l' := #[.val (.ref o), .val (.ref ca), .val (.int iv0), .val (.int lv), .val (.int ((r2 + (1 : Int32)) + (1 : Int32))), .val (.int (f (own_rp f (lim - (own_p1 f j0 lim + 1)) (own_p1 f j0 lim + 1)))), .val (.int (f ((own_rp f (lim - (own_p1 f j0 lim + 1)) (own_p1 f j0 lim + 1)) + 1))), .val (.int (0 : Int32)), .val (.int ((r2 + (1 : Int32)) + (1 : Int32)))]) rfl k) ?_
                  have hpt : own_pnt f j0 lim := ⟨own_ltn hr1 hl hc66_167, hc75_169⟩
                  have ep2 : own_p2 f j0 lim = (own_rp f (lim - (own_p1 f j0 lim + 1)) (own_p1 f j0 lim + 1)) := if_pos hpt
                  have es2 : own_s2 f j0 lim = (own_rs f (lim - (own_p1 f j0 lim + 1)) (own_p1 f j0 lim + 1) (own_s1 f j0 lim)) := if_pos hpt
                  have hV : sv2.toInt = ((own_s2 f j0 lim : Nat) : Int) := by rw [es2]; exact hsv2
                  have hD : dv2.toInt = ((own_dgs f j0 lim : Nat) : Int) := by rw [own_dgs, if_pos hpt, ep2]; exact hd2
                  have z0 : (0 : Int32).toInt = ((0 : Nat) : Int) := by decide
                  have lt288 := own_ltn hi253 hl hc212_252
                  have hi288 := own_inc hi253 lt288 (by omega)
                  have le288 : ((own_rp f (lim - (own_p1 f j0 lim + 1)) (own_p1 f j0 lim + 1)) + 1) + 1 ≤ lim := lt288
                  have f289 := (f247.wr W248)
                  have f290 := (((((P2_0.other W197 (Or.inr (sn_108 hw))).other W204 (Or.inr (sn_144 hw))).other W209 (Or.inr (sn_173 hw))).other W214 (Or.inr (sn_42 hw))).other W248 (Or.inr (sn_173 hw)))
                  have f291 := (((((P2_1.other W197 (Or.inr (sn_111 hw))).other W204 (Or.inr (sn_146 hw))).other W209 (Or.inr (sn_174 hw))).other W214 (Or.inr (sn_45 hw))).other W248 (Or.inr (sn_174 hw)))
                  have f292 := (((((P2_2.other W197 (Or.inr (sn_116 hw))).other W204 (Or.inr (sn_148 hw))).other W209 (Or.inr (sn_172 hw))).other W214 (Or.inr (sn_40 hw))).other W248 (Or.inr (sn_172 hw)))
                  have f293 := (f217.other W248 (Or.inr (sn_170 hw)))
                  have f294 := (((((P2_4.other W197 (Or.inr (sn_126 hw))).other W204 (Or.inr (sn_143 hw))).other W209 (Or.inr (sn_171 hw))).other W214 (Or.inr (sn_51 hw))).other W248 (Or.inr (sn_171 hw)))
                  have f295 := (F214.other W248 (Or.inr (sn_169 hw)))
                  have f296 := (((((P2_7.other W197 (Or.inr (sn_138 hw))).other W204 (Or.inr (sn_155 hw))).other W209 (Or.inr (sn_175 hw))).other W214 (Or.inr (sn_59 hw))).other W248 (Or.inr (sn_175 hw)))
                  have f297 := (((((P2_8.other W197 (Or.inr (sn_139 hw))).other W204 (Or.inr (sn_157 hw))).other W209 (Or.inr (sn_176 hw))).other W214 (Or.inr (sn_62 hw))).other W248 (Or.inr (sn_176 hw)))
                  have f298 := (((((P2_9.other W197 (Or.inr (sn_140 hw))).other W204 (Or.inr (sn_159 hw))).other W209 (Or.inr (sn_177 hw))).other W214 (Or.inr (sn_65 hw))).other W248 (Or.inr (sn_177 hw)))
                  have f299 := (((((P2_10.other W197 (Or.inr (sn_141 hw))).other W204 (Or.inr (sn_161 hw))).other W209 (Or.inr (sn_178 hw))).other W214 (Or.inr (sn_68 hw))).other W248 (Or.inr (sn_178 hw)))
                  have f300 := (((((P2_11.other W197 (Or.inr (sn_142 hw))).other W204 (Or.inr (sn_163 hw))).other W209 (Or.inr (sn_179 hw))).other W214 (Or.inr (sn_71 hw))).other W248 (Or.inr (sn_179 hw)))
                  have f301 := ((((F197.other W204 (Or.inr (sn_165 hw))).other W209 (Or.inr (sn_180 hw))).other W214 (Or.inr (sn_74 hw))).other W248 (Or.inr (sn_180 hw)))
                  have f302 := (((((P2_13.other W197 (Or.inr (sn_104 hw))).other W204 (Or.inr (sn_167 hw))).other W209 (Or.inr (sn_181 hw))).other W214 (Or.inr (sn_39 hw))).other W248 (Or.inr (sn_181 hw)))
                  exact eloop dv2 sv2 ((if_pos ⟨own_neqn hD z0 hc145_219, by rw [ep2]; exact own_ltn hr2 hl hc163_243, by rw [ep2]; exact Or.inl hc181_245⟩).symm) hD hV (lim - (((own_rp f (lim - (own_p1 f j0 lim + 1)) (own_p1 f j0 lim + 1)) + 1) + 1)) (((own_rp f (lim - (own_p1 f j0 lim + 1)) (own_p1 f j0 lim + 1)) + 1) + 1) ((r2 + (1 : Int32)) + (1 : Int32)) (0 : Int32) (f (own_rp f (lim - (own_p1 f j0 lim + 1)) (own_p1 f j0 lim + 1))) (f ((own_rp f (lim - (own_p1 f j0 lim + 1)) (own_p1 f j0 lim + 1)) + 1)) (0 : Int32) ((r2 + (1 : Int32)) + (1 : Int32)) (.ref ca) (.int iv0) u2 (.int (1 : Int32)) (.int (0 : Int32)) (.int (-1 : Int32)) (.int (0 : Int32)) (.long y9_2) (.long y10_2) (.int (r2 - (r1 + (1 : Int32)))) T251 h248 _ (by omega) hi288 X251 e251 f254 f289 f290 f291 f292 f293 f294 F248 f295 f296 f297 f298 f299 f300 f301 f302 K250 N248 sz249
                · have _ := X251
                  refine own_by (T' := T251) (f' := (mkF m 246 #[.val (.ref o), .val (.ref ca), .val (.int iv0), .val (.int lv), .val (.int (r2 + (1 : Int32))), .val (.int (f (own_rp f (lim - (own_p1 f j0 lim + 1)) (own_p1 f j0 lim + 1)))), .val (.int (f ((own_rp f (lim - (own_p1 f j0 lim + 1)) (own_p1 f j0 lim + 1)) + 1))), .val (.int (0 : Int32)), .unset] [])) (fun t k => XS.icmpNo X251.here hx rfl (hb hby d4_243) rfl (feq hc243_287).1 k) ?_
                  refine own_by (T' := T251) (f' := (mkF m 248 #[.val (.ref o), .val (.ref ca), .val (.int iv0), .val (.int lv), .val (.int (r2 + (1 : Int32))), .val (.int (f (own_rp f (lim - (own_p1 f j0 lim + 1)) (own_p1 f j0 lim + 1)))), .val (.int (f ((own_rp f (lim - (own_p1 f j0 lim + 1)) (own_p1 f j0 lim + 1)) + 1))), .val (.int (0 : Int32)), .unset] [(.int (0 : Int32))])) (fun t k => XS.iload X251.here hx rfl (hb hby d4_246) rfl k) ?_
                  refine own_by (T' := T251) (f' := (mkF m 254 #[.val (.ref o), .val (.ref ca), .val (.int iv0), .val (.int lv), .val (.int (r2 + (1 : Int32))), .val (.int (f (own_rp f (lim - (own_p1 f j0 lim + 1)) (own_p1 f j0 lim + 1)))), .val (.int (f ((own_rp f (lim - (own_p1 f j0 lim + 1)) (own_p1 f j0 lim + 1)) + 1))), .val (.int (0 : Int32)), .unset] [])) (fun t k => XS.ifYes X251.here hx rfl (pc0 := 248) (pc' := 254) rfl (hb hby d4_248) rfl ((if0 _ _).trans (teq rfl).1) (by decide) (by decide) k) ?_
                  refine own_by (T' := T251) (f' := (mkF m 256 #[.val (.ref o), .val (.ref ca), .val (.int iv0), .val (.int lv), .val (.int (r2 + (1 : Int32))), .val (.int (f (own_rp f (lim - (own_p1 f j0 lim + 1)) (own_p1 f j0 lim + 1)))), .val (.int (f ((own_rp f (lim - (own_p1 f j0 lim + 1)) (own_p1 f j0 lim + 1)) + 1))), .val (.int (0 : Int32)), .unset] [(.int (r2 + (1 : Int32)))])) (fun t k => XS.iload X251.here hx rfl (hb hby d4_254) rfl k) ?_
                  refine own_by (T' := T251) (f' := (mkF m 258 #[.val (.ref o), .val (.ref ca), .val (.int iv0), .val (.int lv), .val (.int (r2 + (1 : Int32))), .val (.int (f (own_rp f (lim - (own_p1 f j0 lim + 1)) (own_p1 f j0 lim + 1)))), .val (.int (f ((own_rp f (lim - (own_p1 f j0 lim + 1)) (own_p1 f j0 lim + 1)) + 1))), .val (.int (0 : Int32)), .val (.int (r2 + (1 : Int32)))] [])) (fun t k => XS.istore X251.here hx rfl (hb hby d4_256) rfl (l' := #[.val (.ref o), .val (.ref ca), .val (.int iv0), .val (.int lv), .val (.int (r2 + (1 : Int32))), .val (.int (f (own_rp f (lim - (own_p1 f j0 lim + 1)) (own_p1 f j0 lim + 1)))), .val (.int (f ((own_rp f (lim - (own_p1 f j0 lim + 1)) (own_p1 f j0 lim + 1)) + 1))), .val (.int (0 : Int32)), .val (.int (r2 + (1 : Int32)))]) rfl k) ?_
                  have hpt : own_pnt f j0 lim := ⟨own_ltn hr1 hl hc66_167, hc75_169⟩
                  have ep2 : own_p2 f j0 lim = (own_rp f (lim - (own_p1 f j0 lim + 1)) (own_p1 f j0 lim + 1)) := if_pos hpt
                  have es2 : own_s2 f j0 lim = (own_rs f (lim - (own_p1 f j0 lim + 1)) (own_p1 f j0 lim + 1) (own_s1 f j0 lim)) := if_pos hpt
                  have hV : sv2.toInt = ((own_s2 f j0 lim : Nat) : Int) := by rw [es2]; exact hsv2
                  have hD : dv2.toInt = ((own_dgs f j0 lim : Nat) : Int) := by rw [own_dgs, if_pos hpt, ep2]; exact hd2
                  have z0 : (0 : Int32).toInt = ((0 : Nat) : Int) := by decide
                  have f303 := (f247.wr W248)
                  have f304 := (((((P2_0.other W197 (Or.inr (sn_108 hw))).other W204 (Or.inr (sn_144 hw))).other W209 (Or.inr (sn_173 hw))).other W214 (Or.inr (sn_42 hw))).other W248 (Or.inr (sn_173 hw)))
                  have f305 := (((((P2_1.other W197 (Or.inr (sn_111 hw))).other W204 (Or.inr (sn_146 hw))).other W209 (Or.inr (sn_174 hw))).other W214 (Or.inr (sn_45 hw))).other W248 (Or.inr (sn_174 hw)))
                  have f306 := (((((P2_2.other W197 (Or.inr (sn_116 hw))).other W204 (Or.inr (sn_148 hw))).other W209 (Or.inr (sn_172 hw))).other W214 (Or.inr (sn_40 hw))).other W248 (Or.inr (sn_172 hw)))
                  have f307 := (f217.other W248 (Or.inr (sn_170 hw)))
                  have f308 := (((((P2_4.other W197 (Or.inr (sn_126 hw))).other W204 (Or.inr (sn_143 hw))).other W209 (Or.inr (sn_171 hw))).other W214 (Or.inr (sn_51 hw))).other W248 (Or.inr (sn_171 hw)))
                  have f309 := (F214.other W248 (Or.inr (sn_169 hw)))
                  have f310 := (((((P2_7.other W197 (Or.inr (sn_138 hw))).other W204 (Or.inr (sn_155 hw))).other W209 (Or.inr (sn_175 hw))).other W214 (Or.inr (sn_59 hw))).other W248 (Or.inr (sn_175 hw)))
                  have f311 := (((((P2_8.other W197 (Or.inr (sn_139 hw))).other W204 (Or.inr (sn_157 hw))).other W209 (Or.inr (sn_176 hw))).other W214 (Or.inr (sn_62 hw))).other W248 (Or.inr (sn_176 hw)))
                  have f312 := (((((P2_9.other W197 (Or.inr (sn_140 hw))).other W204 (Or.inr (sn_159 hw))).other W209 (Or.inr (sn_177 hw))).other W214 (Or.inr (sn_65 hw))).other W248 (Or.inr (sn_177 hw)))
                  have f313 := (((((P2_10.other W197 (Or.inr (sn_141 hw))).other W204 (Or.inr (sn_161 hw))).other W209 (Or.inr (sn_178 hw))).other W214 (Or.inr (sn_68 hw))).other W248 (Or.inr (sn_178 hw)))
                  have f314 := (((((P2_11.other W197 (Or.inr (sn_142 hw))).other W204 (Or.inr (sn_163 hw))).other W209 (Or.inr (sn_179 hw))).other W214 (Or.inr (sn_71 hw))).other W248 (Or.inr (sn_179 hw)))
                  have f315 := ((((F197.other W204 (Or.inr (sn_165 hw))).other W209 (Or.inr (sn_180 hw))).other W214 (Or.inr (sn_74 hw))).other W248 (Or.inr (sn_180 hw)))
                  have f316 := (((((P2_13.other W197 (Or.inr (sn_104 hw))).other W204 (Or.inr (sn_167 hw))).other W209 (Or.inr (sn_181 hw))).other W214 (Or.inr (sn_39 hw))).other W248 (Or.inr (sn_181 hw)))
                  exact eloop dv2 sv2 ((if_pos ⟨own_neqn hD z0 hc145_219, by rw [ep2]; exact own_ltn hr2 hl hc163_243, by rw [ep2]; exact Or.inl hc181_245⟩).symm) hD hV (lim - ((own_rp f (lim - (own_p1 f j0 lim + 1)) (own_p1 f j0 lim + 1)) + 1)) ((own_rp f (lim - (own_p1 f j0 lim + 1)) (own_p1 f j0 lim + 1)) + 1) (r2 + (1 : Int32)) (0 : Int32) (f (own_rp f (lim - (own_p1 f j0 lim + 1)) (own_p1 f j0 lim + 1))) (f ((own_rp f (lim - (own_p1 f j0 lim + 1)) (own_p1 f j0 lim + 1)) + 1)) (0 : Int32) (r2 + (1 : Int32)) (.ref ca) (.int iv0) u2 (.int (1 : Int32)) (.int (0 : Int32)) (.int (-1 : Int32)) (.int (0 : Int32)) (.long y9_2) (.long y10_2) (.int (r2 - (r1 + (1 : Int32)))) T251 h248 _ (by omega) hi253 X251 e251 f254 f303 f304 f305 f306 f307 f308 F248 f309 f310 f311 f312 f313 f314 f315 f316 K250 N248 sz249
            · have _ := X251
              refine own_by (T' := T251) (f' := (mkF m 222 #[.val (.ref o), .val (.ref ca), .val (.int iv0), .val (.int lv), .val (.int (r2 + (1 : Int32))), .val (.int (f (own_rp f (lim - (own_p1 f j0 lim + 1)) (own_p1 f j0 lim + 1)))), .unset, .unset, .unset] [])) (fun t k => XS.icmpYes X251.here hx rfl (pc0 := 212) (pc' := 222) rfl (hb hby d4_212) rfl (flt hc212_252).2.1 (by decide) (by decide) k) ?_
              refine own_by (T' := T251) (f' := (mkF m 223 #[.val (.ref o), .val (.ref ca), .val (.int iv0), .val (.int lv), .val (.int (r2 + (1 : Int32))), .val (.int (f (own_rp f (lim - (own_p1 f j0 lim + 1)) (own_p1 f j0 lim + 1)))), .unset, .unset, .unset] [(.int (0 : Int32))])) (fun t k => XS.iconst X251.here hx rfl (hb hby d4_222) k) ?_
              refine own_by (T' := T251) (f' := (mkF m 225 #[.val (.ref o), .val (.ref ca), .val (.int iv0), .val (.int lv), .val (.int (r2 + (1 : Int32))), .val (.int (f (own_rp f (lim - (own_p1 f j0 lim + 1)) (own_p1 f j0 lim + 1)))), .val (.int (0 : Int32)), .unset, .unset] [])) (fun t k => XS.istore X251.here hx rfl (hb hby d4_223) rfl (l' := #[.val (.ref o), .val (.ref ca), .val (.int iv0), .val (.int lv), .val (.int (r2 + (1 : Int32))), .val (.int (f (own_rp f (lim - (own_p1 f j0 lim + 1)) (own_p1 f j0 lim + 1)))), .val (.int (0 : Int32)), .unset, .unset]) rfl k) ?_
              refine own_by (T' := T251) (f' := (mkF m 227 #[.val (.ref o), .val (.ref ca), .val (.int iv0), .val (.int lv), .val (.int (r2 + (1 : Int32))), .val (.int (f (own_rp f (lim - (own_p1 f j0 lim + 1)) (own_p1 f j0 lim + 1)))), .val (.int (0 : Int32)), .unset, .unset] [(.int (0 : Int32))])) (fun t k => XS.iload X251.here hx rfl (hb hby d4_225) rfl k) ?_
              refine own_by (T' := T251) (f' := (mkF m 229 #[.val (.ref o), .val (.ref ca), .val (.int iv0), .val (.int lv), .val (.int (r2 + (1 : Int32))), .val (.int (f (own_rp f (lim - (own_p1 f j0 lim + 1)) (own_p1 f j0 lim + 1)))), .val (.int (0 : Int32)), .unset, .unset] [(.int (45 : Int32)), (.int (0 : Int32))])) (fun t k => XS.bipush X251.here hx rfl (hb hby d4_227) k) ?_
              refine own_by (T' := T251) (f' := (mkF m 236 #[.val (.ref o), .val (.ref ca), .val (.int iv0), .val (.int lv), .val (.int (r2 + (1 : Int32))), .val (.int (f (own_rp f (lim - (own_p1 f j0 lim + 1)) (own_p1 f j0 lim + 1)))), .val (.int (0 : Int32)), .unset, .unset] [])) (fun t k => XS.icmpYes X251.here hx rfl (pc0 := 229) (pc' := 236) rfl (hb hby d4_229) rfl (feq (by decide)).2 (by decide) (by decide) k) ?_
              refine own_by (T' := T251) (f' := (mkF m 237 #[.val (.ref o), .val (.ref ca), .val (.int iv0), .val (.int lv), .val (.int (r2 + (1 : Int32))), .val (.int (f (own_rp f (lim - (own_p1 f j0 lim + 1)) (own_p1 f j0 lim + 1)))), .val (.int (0 : Int32)), .unset, .unset] [(.int (0 : Int32))])) (fun t k => XS.iconst X251.here hx rfl (hb hby d4_236) k) ?_
              refine own_by (T' := T251) (f' := (mkF m 239 #[.val (.ref o), .val (.ref ca), .val (.int iv0), .val (.int lv), .val (.int (r2 + (1 : Int32))), .val (.int (f (own_rp f (lim - (own_p1 f j0 lim + 1)) (own_p1 f j0 lim + 1)))), .val (.int (0 : Int32)), .val (.int (0 : Int32)), .unset] [])) (fun t k => XS.istore X251.here hx rfl (hb hby d4_237) rfl (l' := #[.val (.ref o), .val (.ref ca), .val (.int iv0), .val (.int lv), .val (.int (r2 + (1 : Int32))), .val (.int (f (own_rp f (lim - (own_p1 f j0 lim + 1)) (own_p1 f j0 lim + 1)))), .val (.int (0 : Int32)), .val (.int (0 : Int32)), .unset]) rfl k) ?_
              refine own_by (T' := T251) (f' := (mkF m 241 #[.val (.ref o), .val (.ref ca), .val (.int iv0), .val (.int lv), .val (.int (r2 + (1 : Int32))), .val (.int (f (own_rp f (lim - (own_p1 f j0 lim + 1)) (own_p1 f j0 lim + 1)))), .val (.int (0 : Int32)), .val (.int (0 : Int32)), .unset] [(.int (0 : Int32))])) (fun t k => XS.iload X251.here hx rfl (hb hby d4_239) rfl k) ?_
              refine own_by (T' := T251) (f' := (mkF m 243 #[.val (.ref o), .val (.ref ca), .val (.int iv0), .val (.int lv), .val (.int (r2 + (1 : Int32))), .val (.int (f (own_rp f (lim - (own_p1 f j0 lim + 1)) (own_p1 f j0 lim + 1)))), .val (.int (0 : Int32)), .val (.int (0 : Int32)), .unset] [(.int (43 : Int32)), (.int (0 : Int32))])) (fun t k => XS.bipush X251.here hx rfl (hb hby d4_241) k) ?_
              refine own_by (T' := T251) (f' := (mkF m 246 #[.val (.ref o), .val (.ref ca), .val (.int iv0), .val (.int lv), .val (.int (r2 + (1 : Int32))), .val (.int (f (own_rp f (lim - (own_p1 f j0 lim + 1)) (own_p1 f j0 lim + 1)))), .val (.int (0 : Int32)), .val (.int (0 : Int32)), .unset] [])) (fun t k => XS.icmpNo X251.here hx rfl (hb hby d4_243) rfl (feq (by decide)).1 k) ?_
              refine own_by (T' := T251) (f' := (mkF m 248 #[.val (.ref o), .val (.ref ca), .val (.int iv0), .val (.int lv), .val (.int (r2 + (1 : Int32))), .val (.int (f (own_rp f (lim - (own_p1 f j0 lim + 1)) (own_p1 f j0 lim + 1)))), .val (.int (0 : Int32)), .val (.int (0 : Int32)), .unset] [(.int (0 : Int32))])) (fun t k => XS.iload X251.here hx rfl (hb hby d4_246) rfl k) ?_
              refine own_by (T' := T251) (f' := (mkF m 254 #[.val (.ref o), .val (.ref ca), .val (.int iv0), .val (.int lv), .val (.int (r2 + (1 : Int32))), .val (.int (f (own_rp f (lim - (own_p1 f j0 lim + 1)) (own_p1 f j0 lim + 1)))), .val (.int (0 : Int32)), .val (.int (0 : Int32)), .unset] [])) (fun t k => XS.ifYes X251.here hx rfl (pc0 := 248) (pc' := 254) rfl (hb hby d4_248) rfl ((if0 _ _).trans (teq rfl).1) (by decide) (by decide) k) ?_
              refine own_by (T' := T251) (f' := (mkF m 256 #[.val (.ref o), .val (.ref ca), .val (.int iv0), .val (.int lv), .val (.int (r2 + (1 : Int32))), .val (.int (f (own_rp f (lim - (own_p1 f j0 lim + 1)) (own_p1 f j0 lim + 1)))), .val (.int (0 : Int32)), .val (.int (0 : Int32)), .unset] [(.int (r2 + (1 : Int32)))])) (fun t k => XS.iload X251.here hx rfl (hb hby d4_254) rfl k) ?_
              refine own_by (T' := T251) (f' := (mkF m 258 #[.val (.ref o), .val (.ref ca), .val (.int iv0), .val (.int lv), .val (.int (r2 + (1 : Int32))), .val (.int (f (own_rp f (lim - (own_p1 f j0 lim + 1)) (own_p1 f j0 lim + 1)))), .val (.int (0 : Int32)), .val (.int (0 : Int32)), .val (.int (r2 + (1 : Int32)))] [])) (fun t k => XS.istore X251.here hx rfl (hb hby d4_256) rfl (l' := #[.val (.ref o), .val (.ref ca), .val (.int iv0), .val (.int lv), .val (.int (r2 + (1 : Int32))), .val (.int (f (own_rp f (lim - (own_p1 f j0 lim + 1)) (own_p1 f j0 lim + 1)))), .val (.int (0 : Int32)), .val (.int (0 : Int32)), .val (.int (r2 + (1 : Int32)))]) rfl k) ?_
              have hpt : own_pnt f j0 lim := ⟨own_ltn hr1 hl hc66_167, hc75_169⟩
              have ep2 : own_p2 f j0 lim = (own_rp f (lim - (own_p1 f j0 lim + 1)) (own_p1 f j0 lim + 1)) := if_pos hpt
              have es2 : own_s2 f j0 lim = (own_rs f (lim - (own_p1 f j0 lim + 1)) (own_p1 f j0 lim + 1) (own_s1 f j0 lim)) := if_pos hpt
              have hV : sv2.toInt = ((own_s2 f j0 lim : Nat) : Int) := by rw [es2]; exact hsv2
              have hD : dv2.toInt = ((own_dgs f j0 lim : Nat) : Int) := by rw [own_dgs, if_pos hpt, ep2]; exact hd2
              have z0 : (0 : Int32).toInt = ((0 : Nat) : Int) := by decide
              have lt317 := own_ltn hr2 hl hc163_243
              have hi317 := own_inc hr2 lt317 (by omega)
              have le317 : (own_rp f (lim - (own_p1 f j0 lim + 1)) (own_p1 f j0 lim + 1)) + 1 ≤ lim := lt317
              have f318 := (f244.other W248 nco)
              have f319 := (f247.wr W248)
              have f320 := (((((P2_0.other W197 (Or.inr (sn_108 hw))).other W204 (Or.inr (sn_144 hw))).other W209 (Or.inr (sn_173 hw))).other W214 (Or.inr (sn_42 hw))).other W248 (Or.inr (sn_173 hw)))
              have f321 := (((((P2_1.other W197 (Or.inr (sn_111 hw))).other W204 (Or.inr (sn_146 hw))).other W209 (Or.inr (sn_174 hw))).other W214 (Or.inr (sn_45 hw))).other W248 (Or.inr (sn_174 hw)))
              have f322 := (((((P2_2.other W197 (Or.inr (sn_116 hw))).other W204 (Or.inr (sn_148 hw))).other W209 (Or.inr (sn_172 hw))).other W214 (Or.inr (sn_40 hw))).other W248 (Or.inr (sn_172 hw)))
              have f323 := (f217.other W248 (Or.inr (sn_170 hw)))
              have f324 := (((((P2_4.other W197 (Or.inr (sn_126 hw))).other W204 (Or.inr (sn_143 hw))).other W209 (Or.inr (sn_171 hw))).other W214 (Or.inr (sn_51 hw))).other W248 (Or.inr (sn_171 hw)))
              have f325 := (F214.other W248 (Or.inr (sn_169 hw)))
              have f326 := (((((P2_7.other W197 (Or.inr (sn_138 hw))).other W204 (Or.inr (sn_155 hw))).other W209 (Or.inr (sn_175 hw))).other W214 (Or.inr (sn_59 hw))).other W248 (Or.inr (sn_175 hw)))
              have f327 := (((((P2_8.other W197 (Or.inr (sn_139 hw))).other W204 (Or.inr (sn_157 hw))).other W209 (Or.inr (sn_176 hw))).other W214 (Or.inr (sn_62 hw))).other W248 (Or.inr (sn_176 hw)))
              have f328 := (((((P2_9.other W197 (Or.inr (sn_140 hw))).other W204 (Or.inr (sn_159 hw))).other W209 (Or.inr (sn_177 hw))).other W214 (Or.inr (sn_65 hw))).other W248 (Or.inr (sn_177 hw)))
              have f329 := (((((P2_10.other W197 (Or.inr (sn_141 hw))).other W204 (Or.inr (sn_161 hw))).other W209 (Or.inr (sn_178 hw))).other W214 (Or.inr (sn_68 hw))).other W248 (Or.inr (sn_178 hw)))
              have f330 := (((((P2_11.other W197 (Or.inr (sn_142 hw))).other W204 (Or.inr (sn_163 hw))).other W209 (Or.inr (sn_179 hw))).other W214 (Or.inr (sn_71 hw))).other W248 (Or.inr (sn_179 hw)))
              have f331 := ((((F197.other W204 (Or.inr (sn_165 hw))).other W209 (Or.inr (sn_180 hw))).other W214 (Or.inr (sn_74 hw))).other W248 (Or.inr (sn_180 hw)))
              have f332 := (((((P2_13.other W197 (Or.inr (sn_104 hw))).other W204 (Or.inr (sn_167 hw))).other W209 (Or.inr (sn_181 hw))).other W214 (Or.inr (sn_39 hw))).other W248 (Or.inr (sn_181 hw)))
              exact eloop dv2 sv2 ((if_pos ⟨own_neqn hD z0 hc145_219, by rw [ep2]; exact own_ltn hr2 hl hc163_243, by rw [ep2]; exact Or.inl hc181_245⟩).symm) hD hV (lim - ((own_rp f (lim - (own_p1 f j0 lim + 1)) (own_p1 f j0 lim + 1)) + 1)) ((own_rp f (lim - (own_p1 f j0 lim + 1)) (own_p1 f j0 lim + 1)) + 1) (r2 + (1 : Int32)) (0 : Int32) (f (own_rp f (lim - (own_p1 f j0 lim + 1)) (own_p1 f j0 lim + 1))) (0 : Int32) (0 : Int32) (r2 + (1 : Int32)) (.ref ca) (.int iv0) u2 (.int (1 : Int32)) (.int (0 : Int32)) (.int (-1 : Int32)) (.int (0 : Int32)) (.long y9_2) (.long y10_2) (.int (r2 - (r1 + (1 : Int32)))) T251 h248 _ (by omega) hi317 X251 e251 f318 f319 f320 f321 f322 f323 f324 F248 f325 f326 f327 f328 f329 f330 f331 f332 K250 N248 sz249
          · have _ := X218
            refine own_by (T' := T218) (f' := (mkF m 184 #[.val (.ref o), .val (.ref ca), .val (.int iv0), .val (.int lv), .val (.int r2), .val (.int (f (own_rp f (lim - (own_p1 f j0 lim + 1)) (own_p1 f j0 lim + 1)))), .unset, .unset, .unset] [(.ref o)])) (fun t k => XS.icmpNo X218.here hx rfl (hb hby d4_181) rfl (feq hc181_245).1 k) ?_
            refine own_by (T' := T218) (f' := (mkF m 186 #[.val (.ref o), .val (.ref ca), .val (.int iv0), .val (.int lv), .val (.int r2), .val (.int (f (own_rp f (lim - (own_p1 f j0 lim + 1)) (own_p1 f j0 lim + 1)))), .unset, .unset, .unset] [(.int (f (own_rp f (lim - (own_p1 f j0 lim + 1)) (own_p1 f j0 lim + 1)))), (.ref o)])) (fun t k => XS.iload X218.here hx rfl (hb hby d4_184) rfl k) ?_
            refine own_by (T' := T218) (f' := (mkF m 188 #[.val (.ref o), .val (.ref ca), .val (.int iv0), .val (.int lv), .val (.int r2), .val (.int (f (own_rp f (lim - (own_p1 f j0 lim + 1)) (own_p1 f j0 lim + 1)))), .unset, .unset, .unset] [(.int (69 : Int32)), (.int (f (own_rp f (lim - (own_p1 f j0 lim + 1)) (own_p1 f j0 lim + 1)))), (.ref o)])) (fun t k => XS.bipush X218.here hx rfl (hb hby d4_186) k) ?_
            by_cases hc188_333 : (f (own_rp f (lim - (own_p1 f j0 lim + 1)) (own_p1 f j0 lim + 1))) = (69 : Int32)
            · have _ := X218
              refine own_by (T' := T218) (f' := (mkF m 191 #[.val (.ref o), .val (.ref ca), .val (.int iv0), .val (.int lv), .val (.int r2), .val (.int (f (own_rp f (lim - (own_p1 f j0 lim + 1)) (own_p1 f j0 lim + 1)))), .unset, .unset, .unset] [(.ref o)])) (fun t k => XS.icmpNo X218.here hx rfl (hb hby d4_188) rfl (teq hc188_333).2 k) ?_
              refine own_by (T' := T218) (f' := (mkF m 192 #[.val (.ref o), .val (.ref ca), .val (.int iv0), .val (.int lv), .val (.int r2), .val (.int (f (own_rp f (lim - (own_p1 f j0 lim + 1)) (own_p1 f j0 lim + 1)))), .unset, .unset, .unset] [(.int (1 : Int32)), (.ref o)])) (fun t k => XS.iconst X218.here hx rfl (hb hby d4_191) k) ?_
              refine own_by (T' := T218) (f' := (mkF m 196 #[.val (.ref o), .val (.ref ca), .val (.int iv0), .val (.int lv), .val (.int r2), .val (.int (f (own_rp f (lim - (own_p1 f j0 lim + 1)) (own_p1 f j0 lim + 1)))), .unset, .unset, .unset] [(.int (1 : Int32)), (.ref o)])) (fun t k => XS.goto X218.here hx rfl (pc0 := 192) (pc' := 196) rfl (hb hby d4_192) (by decide) (by decide) k) ?_
              have f334 := (F209.other W214 (Or.inr (sn_54 hw)))
              have f335 := (f213.wr W214)
              refine own_putF (host := "") X218 hx hZ hown e218 (hb hby d4_196) (Or.inl (own_w hw 49 rfl)) Via.refl f334 f335 (Or.inl (own_w hw 50 rfl)) (own_w hw 7 rfl) (ty := .boolean) (by decide) rfl rfl ?_
              intro T336 h336 X336 e336 W336
              show own_Go p e below _ T336 (mkF m 199 #[.val (.ref o), .val (.ref ca), .val (.int iv0), .val (.int lv), .val (.int r2), .val (.int (f (own_rp f (lim - (own_p1 f j0 lim + 1)) (own_p1 f j0 lim + 1)))), .unset, .unset, .unset] [])
              have F336 := f334.same W336
              have sz337 : n0 ≤ h336.size := by rw [W336.size]; exact sz215
              have K338 := K216.wr W336 (Or.inl (List.mem_of_getElem? (i := 0) rfl))
              have N336 := Fr.snoc X336 N214 go
              refine own_by (T' := T336) (f' := (mkF m 200 #[.val (.ref o), .val (.ref ca), .val (.int iv0), .val (.int lv), .val (.int r2), .val (.int (f (own_rp f (lim - (own_p1 f j0 lim + 1)) (own_p1 f j0 lim + 1)))), .unset, .unset, .unset] [(.ref o)])) (fun t k => XS.aloadN X336.here hx rfl (hb hby d4_199) rfl rfl k) ?_
              refine own_getF (host := "") X336 hx hZ hown e336 (hb hby d4_200) (Or.inl (own_w hw 49 rfl)) Via.refl F336 ?_
              intro T339 X339 e339
              show own_Go p e below _ T339 (mkF m 203 #[.val (.ref o), .val (.ref ca), .val (.int iv0), .val (.int lv), .val (.int r2), .val (.int (f (own_rp f (lim - (own_p1 f j0 lim + 1)) (own_p1 f j0 lim + 1)))), .unset, .unset, .unset] [(.int (1 : Int32))])
              refine own_by (T' := T339) (f' := (mkF m 206 #[.val (.ref o), .val (.ref ca), .val (.int iv0), .val (.int lv), .val (.int r2), .val (.int (f (own_rp f (lim - (own_p1 f j0 lim + 1)) (own_p1 f j0 lim + 1)))), .unset, .unset, .unset] [])) (fun t k => XS.ifNo X339.here hx rfl (hb hby d4_203) rfl ((if0 _ _).trans (feq (by decide)).1) k) ?_
              refine own_by (T' := T339) (f' := (mkF m 209 #[.val (.ref o), .val (.ref ca), .val (.int iv0), .val (.int lv), .val (.int (r2 + (1 : Int32))), .val (.int (f (own_rp f (lim - (own_p1 f j0 lim + 1)) (own_p1 f j0 lim + 1)))), .unset, .unset, .unset] [])) (fun t k => XS.iinc X339.here hx rfl (hb hby d4_206) rfl (l' := #[.val (.ref o), .val (.ref ca), .val (.int iv0), .val (.int lv), .val (.int (r2 + (1 : Int32))), .val (.int (f (own_rp f (lim - (own_p1 f j0 lim + 1)) (own_p1 f j0 lim + 1)))), .unset, .unset, .unset]) rfl k) ?_
              refine own_by (T' := T339) (f' := (mkF m 211 #[.val (.ref o), .val (.ref ca), .val (.int iv0), .val (.int lv), .val (.int (r2 + (1 : Int32))), .val (.int (f (own_rp f (lim - (own_p1 f j0 lim + 1)) (own_p1 f j0 lim + 1)))), .unset, .unset, .unset] [(.int (r2 + (1 : Int32)))])) (fun t k => XS.iload X339.here hx rfl (hb hby d4_209) rfl k) ?_
              refine own_by (T' := T339) (f' := (mkF m 212 #[.val (.ref o), .val (.ref ca), .val (.int iv0), .val (.int lv), .val (.int (r2 + (1 : Int32))), .val (.int (f (own_rp f (lim - (own_p1 f j0 lim + 1)) (own_p1 f j0 lim + 1)))), .unset, .unset, .unset] [(.int lv), (.int (r2 + (1 : Int32)))])) (fun t k => XS.iloadN X339.here hx rfl (hb hby d4_211) rfl k) ?_
              by_cases hc212_340 : (r2 + (1 : Int32)) < lv
              · have _ := X339
                refine own_by (T' := T339) (f' := (mkF m 215 #[.val (.ref o), .val (.ref ca), .val (.int iv0), .val (.int lv), .val (.int (r2 + (1 : Int32))), .val (.int (f (own_rp f (lim - (own_p1 f j0 lim + 1)) (own_p1 f j0 lim + 1)))), .unset, .unset, .unset] [])) (fun t k => XS.icmpNo X339.here hx rfl (hb hby d4_212) rfl (tlt hc212_340).2.1 k) ?_
                refine own_by (T' := T339) (f' := (mkF m 216 #[.val (.ref o), .val (.ref ca), .val (.int iv0), .val (.int lv), .val (.int (r2 + (1 : Int32))), .val (.int (f (own_rp f (lim - (own_p1 f j0 lim + 1)) (own_p1 f j0 lim + 1)))), .unset, .unset, .unset] [(.ref ca)])) (fun t k => XS.aloadN X339.here hx rfl (hb hby d4_215) rfl rfl k) ?_
                refine own_by (T' := T339) (f' := (mkF m 218 #[.val (.ref o), .val (.ref ca), .val (.int iv0), .val (.int lv), .val (.int (r2 + (1 : Int32))), .val (.int (f (own_rp f (lim - (own_p1 f j0 lim + 1)) (own_p1 f j0 lim + 1)))), .unset, .unset, .unset] [(.int (r2 + (1 : Int32))), (.ref ca)])) (fun t k => XS.iload X339.here hx rfl (hb hby d4_216) rfl k) ?_
                have lt341 := own_ltn hr2 hl hc163_243
                have hi341 := own_inc hr2 lt341 (by omega)
                have le341 : (own_rp f (lim - (own_p1 f j0 lim + 1)) (own_p1 f j0 lim + 1)) + 1 ≤ lim := lt341
                have lq218 := own_ltn hi341 hl hc212_340
                have f342 := (f244.other W336 nco)
                have _ : (1 : Int32).toInt = 1 := by decide
                refine own_ldC X339 hx hZ e339 (hb hby d4_218) f342 (by omega) (by omega) ?_
                rw [show (r2 + (1 : Int32)).toInt.toNat = ((own_rp f (lim - (own_p1 f j0 lim + 1)) (own_p1 f j0 lim + 1)) + 1) from by omega]
                show own_Go p e below _ T339 (mkF m 219 #[.val (.ref o), .val (.ref ca), .val (.int iv0), .val (.int lv), .val (.int (r2 + (1 : Int32))), .val (.int (f (own_rp f (lim - (own_p1 f j0 lim + 1)) (own_p1 f j0 lim + 1)))), .unset, .unset, .unset] [(.int (f ((own_rp f (lim - (own_p1 f j0 lim + 1)) (own_p1 f j0 lim + 1)) + 1)))])
                refine own_by (T' := T339) (f' := (mkF m 223 #[.val (.ref o), .val (.ref ca), .val (.int iv0), .val (.int lv), .val (.int (r2 + (1 : Int32))), .val (.int (f (own_rp f (lim - (own_p1 f j0 lim + 1)) (own_p1 f j0 lim + 1)))), .unset, .unset, .unset] [(.int (f ((own_rp f (lim - (own_p1 f j0 lim + 1)) (own_p1 f j0 lim + 1)) + 1)))])) (fun t k => XS.goto X339.here hx rfl (pc0 := 219) (pc' := 223) rfl (hb hby d4_219) (by decide) (by decide) k) ?_
                refine own_by (T' := T339) (f' := (mkF m 225 #[.val (.ref o), .val (.ref ca), .val (.int iv0), .val (.int lv), .val (.int (r2 + (1 : Int32))), .val (.int (f (own_rp f (lim - (own_p1 f j0 lim + 1)) (own_p1 f j0 lim + 1)))), .val (.int (f ((own_rp f (lim - (own_p1 f j0 lim + 1)) (own_p1 f j0 lim + 1)) + 1))), .unset, .unset] [])) (fun t k => XS.istore X339.here hx rfl (hb hby d4_223) rfl (l' := #[.val (.ref o), .val (.ref ca), .val (.int iv0), .val (.int lv), .val (.int (r2 + (1 : Int32))), .val (.int (f (own_rp f (lim - (own_p1 f j0 lim + 1)) (own_p1 f j0 lim + 1)))), .val (.int (f ((own_rp f (lim - (own_p1 f j0 lim + 1)) (own_p1 f j0 lim + 1)) + 1))), .unset, .unset]) rfl k) ?_
                refine own_by (T' := T339) (f' := (mkF m 227 #[.val (.ref o), .val (.ref ca), .val (.int iv0), .val (.int lv), .val (.int (r2 + (1 : Int32))), .val (.int (f (own_rp f (lim - (own_p1 f j0 lim + 1)) (own_p1 f j0 lim + 1)))), .val (.int (f ((own_rp f (lim - (own_p1 f j0 lim + 1)) (own_p1 f j0 lim + 1)) + 1))), .unset, .unset] [(.int (f ((own_rp f (lim - (own_p1 f j0 lim + 1)) (own_p1 f j0 lim + 1)) + 1)))])) (fun t k => XS.iload X339.here hx rfl (hb hby d4_225) rfl k) ?_
                refine own_by (T' := T339) (f' := (mkF m 229 #[.val (.ref o), .val (.ref ca), .val (.int iv0), .val (.int lv), .val (.int (r2 + (1 : Int32))), .val (.int (f (own_rp f (lim - (own_p1 f j0 lim + 1)) (own_p1 f j0 lim + 1)))), .val (.int (f ((own_rp f (lim - (own_p1 f j0 lim + 1)) (own_p1 f j0 lim + 1)) + 1))), .unset, .unset] [(.int (45 : Int32)), (.int (f ((own_rp f (lim - (own_p1 f j0 lim + 1)) (own_p1 f j0 lim + 1)) + 1)))])) (fun t k => XS.bipush X339.here hx rfl (hb hby d4_227) k) ?_
                by_cases hc229_343 : (f ((own_rp f (lim - (own_p1 f j0 lim + 1)) (own_p1 f j0 lim + 1)) + 1)) = (45 : Int32)
                · have _ := X339
                  refine own_by (T' := T339) (f' := (mkF m 232 #[.val (.ref o), .val (.ref ca), .val (.int iv0), .val (.int lv), .val (.int (r2 + (1 : Int32))), .val (.int (f (own_rp f (lim - (own_p1 f j0 lim + 1)) (own_p1 f j0 lim + 1)))), .val (.int (f ((own_rp f (lim - (own_p1 f j0 lim + 1)) (own_p1 f j0 lim + 1)) + 1))), .unset, .unset] [])) (fun t k => XS.icmpNo X339.here hx rfl (hb hby d4_229) rfl (teq hc229_343).2 k) ?_
                  refine own_by (T' := T339) (f' := (mkF m 233 #[.val (.ref o), .val (.ref ca), .val (.int iv0), .val (.int lv), .val (.int (r2 + (1 : Int32))), .val (.int (f (own_rp f (lim - (own_p1 f j0 lim + 1)) (own_p1 f j0 lim + 1)))), .val (.int (f ((own_rp f (lim - (own_p1 f j0 lim + 1)) (own_p1 f j0 lim + 1)) + 1))), .unset, .unset] [(.int (1 : Int32))])) (fun t k => XS.iconst X339.here hx rfl (hb hby d4_232) k) ?_
                  refine own_by (T' := T339) (f' := (mkF m 237 #[.val (.ref o), .val (.ref ca), .val (.int iv0), .val (.int lv), .val (.int (r2 + (1 : Int32))), .val (.int (f (own_rp f (lim - (own_p1 f j0 lim + 1)) (own_p1 f j0 lim + 1)))), .val (.int (f ((own_rp f (lim - (own_p1 f j0 lim + 1)) (own_p1 f j0 lim + 1)) + 1))), .unset, .unset] [(.int (1 : Int32))])) (fun t k => XS.goto X339.here hx rfl (pc0 := 233) (pc' := 237) rfl (hb hby d4_233) (by decide) (by decide) k) ?_
                  refine own_by (T' := T339) (f' := (mkF m 239 #[.val (.ref o), .val (.ref ca), .val (.int iv0), .val (.int lv), .val (.int (r2 + (1 : Int32))), .val (.int (f (own_rp f (lim - (own_p1 f j0 lim + 1)) (own_p1 f j0 lim + 1)))), .val (.int (f ((own_rp f (lim - (own_p1 f j0 lim + 1)) (own_p1 f j0 lim + 1)) + 1))), .val (.int (1 : Int32)), .unset] [])) (fun t k => XS.istore X339.here hx rfl (hb hby d4_237) rfl (l' := #[.val (.ref o), .val (.ref ca), .val (.int iv0), .val (.int lv), .val (.int (r2 + (1 : Int32))), .val (.int (f (own_rp f (lim - (own_p1 f j0 lim + 1)) (own_p1 f j0 lim + 1)))), .val (.int (f ((own_rp f (lim - (own_p1 f j0 lim + 1)) (own_p1 f j0 lim + 1)) + 1))), .val (.int (1 : Int32)), .unset]) rfl k) ?_
                  refine own_by (T' := T339) (f' := (mkF m 241 #[.val (.ref o), .val (.ref ca), .val (.int iv0), .val (.int lv), .val (.int (r2 + (1 : Int32))), .val (.int (f (own_rp f (lim - (own_p1 f j0 lim + 1)) (own_p1 f j0 lim + 1)))), .val (.int (f ((own_rp f (lim - (own_p1 f j0 lim + 1)) (own_p1 f j0 lim + 1)) + 1))), .val (.int (1 : Int32)), .unset] [(.int (f ((own_rp f (lim - (own_p1 f j0 lim + 1)) (own_p1 f j0 lim + 1)) + 1)))])) (fun t k => XS.iload X339.here hx rfl (hb hby d4_239) rfl k) ?_
                  refine own_by (T' := T339) (f' := (mkF m 243 #[.val (.ref o), .val (.ref ca), .val (.int iv0), .val (.int lv), .val (.int (r2 + (1 : Int32))), .val (.int (f (own_rp f (lim - (own_p1 f j0 lim + 1)) (own_p1 f j0 lim + 1)))), .val (.int (f ((own_rp f (lim - (own_p1 f j0 lim + 1)) (own_p1 f j0 lim + 1)) + 1))), .val (.int (1 : Int32)), .unset] [(.int (43 : Int32)), (.int (f ((own_rp f (lim - (own_p1 f j0 lim + 1)) (own_p1 f j0 lim + 1)) + 1)))])) (fun t k => XS.bipush X339.here hx rfl (hb hby d4_241) k) ?_
                  by_cases hc243_344 : (f ((own_rp f (lim - (own_p1 f j0 lim + 1)) (own_p1 f j0 lim + 1)) + 1)) = (43 : Int32)
                  · have _ := X339
                    refine own_by (T' := T339) (f' := (mkF m 251 #[.val (.ref o), .val (.ref ca), .val (.int iv0), .val (.int lv), .val (.int (r2 + (1 : Int32))), .val (.int (f (own_rp f (lim - (own_p1 f j0 lim + 1)) (own_p1 f j0 lim + 1)))), .val (.int (f ((own_rp f (lim - (own_p1 f j0 lim + 1)) (own_p1 f j0 lim + 1)) + 1))), .val (.int (1 : Int32)), .unset] [])) (fun t k => XS.icmpYes X339.here hx rfl (pc0 := 243) (pc' := 251) rfl (hb hby d4_243) rfl (teq hc243_344).1 (by decide) (by decide) k) ?_
                    refine own_by (T' := T339) (f' := (mkF m 254 #[.val (.ref o), .val (.ref ca), .val (.int iv0), .val (.int lv), .val (.int ((r2 + (1 : Int32)) + (1 : Int32))), .val (.int (f (own_rp f (lim - (own_p1 f j0 lim + 1)) (own_p1 f j0 lim + 1)))), .val (.int (f ((own_rp f (lim - (own_p1 f j0 lim + 1)) (own_p1 f j0 lim + 1)) + 1))), .val (.int (1 : Int32)), .unset] [])) (fun t k => XS.iinc X339.here hx rfl (hb hby d4_251) rfl (l' := #[.val (.ref o), .val (.ref ca), .val (.int iv0), .val (.int lv), .val (.int ((r2 + (1 : Int32)) + (1 : Int32))), .val (.int (f (own_rp f (lim - (own_p1 f j0 lim + 1)) (own_p1 f j0 lim + 1)))), .val (.int (f ((own_rp f (lim - (own_p1 f j0 lim + 1)) (own_p1 f j0 lim + 1)) + 1))), .val (.int (1 : Int32)), .unset]) rfl k) ?_
                    refine own_by (T' := T339) (f' := (mkF m 256 #[.val (.ref o), .val (.ref ca), .val (.int iv0), .val (.int lv), .val (.int ((r2 + (1 : Int32)) + (1 : Int32))), .val (.int (f (own_rp f (lim - (own_p1 f j0 lim + 1)) (own_p1 f j0 lim + 1)))), .val (.int (f ((own_rp f (lim - (own_p1 f j0 lim + 1)) (own_p1 f j0 lim + 1)) + 1))), .val (.int (1 : Int32)), .unset] [(.int ((r2 + (1 : Int32)) + (1 : Int32)))])) (fun t k => XS.iload X339.here hx rfl (hb hby d4_254) rfl k) ?_
                    refine own_by (T' := T339) (f' := (mkF m 258 #[.val (.ref o), .val (.ref ca), .val (.int iv0), .val (.int lv), .val (.int ((r2 + (1 : Int32)) + (1 : Int32))), .val (.int (f (own_rp f (lim - (own_p1 f j0 lim + 1)) (own_p1 f j0 lim + 1)))), .val (.int (f ((own_rp f (lim - (own_p1 f j0 lim + 1)) (own_p1 f j0 lim + 1)) + 1))), .val (.int (1 : Int32)), .val (.int ((r2 + (1 : Int32)) + (1 : Int32)))] [])) (fun t k => XS.istore X339.here hx rfl (hb hby d4_256) rfl (l' := #[.val (.ref o), .val (.ref ca), .val (.int iv0), .val (.int lv), .val (.int ((r2 + (1 : Int32)) + (1 : Int32))), .val (.int (f (own_rp f (lim - (own_p1 f j0 lim + 1)) (own_p1 f j0 lim + 1)))), .val (.int (f ((own_rp f (lim - (own_p1 f j0 lim + 1)) (own_p1 f j0 lim + 1)) + 1))), .val (.int (1 : Int32)), .val (.int ((r2 + (1 : Int32)) + (1 : Int32)))]) rfl k) ?_
                    have hpt : own_pnt f j0 lim := ⟨own_ltn hr1 hl hc66_167, hc75_169⟩
                    have ep2 : own_p2 f j0 lim = (own_rp f (lim - (own_p1 f j0 lim + 1)) (own_p1 f j0 lim + 1)) := if_pos hpt
                    have es2 : own_s2 f j0 lim = (own_rs f (lim - (own_p1 f j0 lim + 1)) (own_p1 f j0 lim + 1) (own_s1 f j0 lim)) := if_pos hpt
                    have hV : sv2.toInt = ((own_s2 f j0 lim : Nat) : Int) := by rw [es2]; exact hsv2
                    have hD : dv2.toInt = ((own_dgs f j0 lim : Nat) : Int) := by rw [own_dgs, if_pos hpt, ep2]; exact hd2
                    have z0 : (0 : Int32).toInt = ((0 : Nat) : Int) := by decide
                    have lt345 := own_ltn hi341 hl hc212_340
                    have hi345 := own_inc hi341 lt345 (by omega)
                    have le345 : ((own_rp f (lim - (own_p1 f j0 lim + 1)) (own_p1 f j0 lim + 1)) + 1) + 1 ≤ lim := lt345
                    have f346 := (f335.wr W336)
                    have f347 := (((((P2_0.other W197 (Or.inr (sn_108 hw))).other W204 (Or.inr (sn_144 hw))).other W209 (Or.inr (sn_173 hw))).other W214 (Or.inr (sn_42 hw))).other W336 (Or.inr (sn_173 hw)))
                    have f348 := (((((P2_1.other W197 (Or.inr (sn_111 hw))).other W204 (Or.inr (sn_146 hw))).other W209 (Or.inr (sn_174 hw))).other W214 (Or.inr (sn_45 hw))).other W336 (Or.inr (sn_174 hw)))
                    have f349 := (((((P2_2.other W197 (Or.inr (sn_116 hw))).other W204 (Or.inr (sn_148 hw))).other W209 (Or.inr (sn_172 hw))).other W214 (Or.inr (sn_40 hw))).other W336 (Or.inr (sn_172 hw)))
                    have f350 := (f217.other W336 (Or.inr (sn_170 hw)))
                    have f351 := (((((P2_4.other W197 (Or.inr (sn_126 hw))).other W204 (Or.inr (sn_143 hw))).other W209 (Or.inr (sn_171 hw))).other W214 (Or.inr (sn_51 hw))).other W336 (Or.inr (sn_171 hw)))
                    have f352 := (F214.other W336 (Or.inr (sn_169 hw)))
                    have f353 := (((((P2_7.other W197 (Or.inr (sn_138 hw))).other W204 (Or.inr (sn_155 hw))).other W209 (Or.inr (sn_175 hw))).other W214 (Or.inr (sn_59 hw))).other W336 (Or.inr (sn_175 hw)))
                    have f354 := (((((P2_8.other W197 (Or.inr (sn_139 hw))).other W204 (Or.inr (sn_157 hw))).other W209 (Or.inr (sn_176 hw))).other W214 (Or.inr (sn_62 hw))).other W336 (Or.inr (sn_176 hw)))
                    have f355 := (((((P2_9.other W197 (Or.inr (sn_140 hw))).other W204 (Or.inr (sn_159 hw))).other W209 (Or.inr (sn_177 hw))).other W214 (Or.inr (sn_65 hw))).other W336 (Or.inr (sn_177 hw)))
                    have f356 := (((((P2_10.other W197 (Or.inr (sn_141 hw))).other W204 (Or.inr (sn_161 hw))).other W209 (Or.inr (sn_178 hw))).other W214 (Or.inr (sn_68 hw))).other W336 (Or.inr (sn_178 hw)))
                    have f357 := (((((P2_11.other W197 (Or.inr (sn_142 hw))).other W204 (Or.inr (sn_163 hw))).other W209 (Or.inr (sn_179 hw))).other W214 (Or.inr (sn_71 hw))).other W336 (Or.inr (sn_179 hw)))
                    have f358 := ((((F197.other W204 (Or.inr (sn_165 hw))).other W209 (Or.inr (sn_180 hw))).other W214 (Or.inr (sn_74 hw))).other W336 (Or.inr (sn_180 hw)))
                    have f359 := (((((P2_13.other W197 (Or.inr (sn_104 hw))).other W204 (Or.inr (sn_167 hw))).other W209 (Or.inr (sn_181 hw))).other W214 (Or.inr (sn_39 hw))).other W336 (Or.inr (sn_181 hw)))
                    exact eloop dv2 sv2 ((if_pos ⟨own_neqn hD z0 hc145_219, by rw [ep2]; exact own_ltn hr2 hl hc163_243, by rw [ep2]; exact Or.inr hc188_333⟩).symm) hD hV (lim - (((own_rp f (lim - (own_p1 f j0 lim + 1)) (own_p1 f j0 lim + 1)) + 1) + 1)) (((own_rp f (lim - (own_p1 f j0 lim + 1)) (own_p1 f j0 lim + 1)) + 1) + 1) ((r2 + (1 : Int32)) + (1 : Int32)) (0 : Int32) (f (own_rp f (lim - (own_p1 f j0 lim + 1)) (own_p1 f j0 lim + 1))) (f ((own_rp f (lim - (own_p1 f j0 lim + 1)) (own_p1 f j0 lim + 1)) + 1)) (1 : Int32) ((r2 + (1 : Int32)) + (1 : Int32)) (.ref ca) (.int iv0) u2 (.int (1 : Int32)) (.int (0 : Int32)) (.int (-1 : Int32)) (.int (0 : Int32)) (.long y9_2) (.long y10_2) (.int (r2 - (r1 + (1 : Int32)))) T339 h336 _ (by omega) hi345 X339 e339 f342 f346 f347 f348 f349 f350 f351 F336 f352 f353 f354 f355 f356 f357 f358 f359 K338 N336 sz337
                  · have _ := X339
                    refine own_by (T' := T339) (f' := (mkF m 246 #[.val (.ref o), .val (.ref ca), .val (.int iv0), .val (.int lv), .val (.int (r2 + (1 : Int32))), .val (.int (f (own_rp f (lim - (own_p1 f j0 lim + 1)) (own_p1 f j0 lim + 1)))), .val (.int (f ((own_rp f (lim - (own_p1 f j0 lim + 1)) (own_p1 f j0 lim + 1)) + 1))), .val (.int (1 : Int32)), .unset] [])) (fun t k => XS.icmpNo X339.here hx rfl (hb hby d4_243) rfl (feq hc243_344).1 k) ?_
                    refine own_by (T' := T339) (f' := (mkF m 248 #[.val (.ref o), .val (.ref ca), .val (.int iv0), .val (.int lv), .val (.int (r2 + (1 : Int32))), .val (.int (f (own_rp f (lim - (own_p1 f j0 lim + 1)) (own_p1 f j0 lim + 1)))), .val (.int (f ((own_rp f (lim - (own_p1 f j0 lim + 1)) (own_p1 f j0 lim + 1)) + 1))), .val (.int (1 : Int32)), .unset] [(.int (1 : Int32))])) (fun t k => XS.iload X339.here hx rfl (hb hby d4_246) rfl k) ?_
                    refine own_by (T' := T339) (f' := (mkF m 251 #[.val (.ref o), .val (.ref ca), .val (.int iv0), .val (.int lv), .val (.int (r2 + (1 : Int32))), .val (.int (f (own_rp f (lim - (own_p1 f j0 lim + 1)) (own_p1 f j0 lim + 1)))), .val (.int (f ((own_rp f (lim - (own_p1 f j0 lim + 1)) (own_p1 f j0 lim + 1)) + 1))), .val (.int (1 : Int32)), .unset] [])) (fun t k => XS.ifNo X339.here hx rfl (hb hby d4_248) rfl ((if0 _ _).trans (feq (by decide)).1) k) ?_
                    refine own_by (T' := T339) (f' := (mkF m 254 #[.val (.ref o), .val (.ref ca), .val (.int iv0), .val (.int lv), .val (.int ((r2 + (1 : Int32)) + (1 : Int32))), .val (.int (f (own_rp f (lim - (own_p1 f j0 lim + 1)) (own_p1 f j0 lim + 1)))), .val (.int (f ((own_rp f (lim - (own_p1 f j0 lim + 1)) (own_p1 f j0 lim + 1)) + 1))), .val (.int (1 : Int32)), .unset] [])) (fun t k => XS.iinc X339.here hx rfl (hb hby d4_251) rfl (l' := #[.val (.ref o), .val (.ref ca), .val (.int iv0), .val (.int lv), .val (.int ((r2 + (1 : Int32)) + (1 : Int32))), .val (.int (f (own_rp f (lim - (own_p1 f j0 lim + 1)) (own_p1 f j0 lim + 1)))), .val (.int (f ((own_rp f (lim - (own_p1 f j0 lim + 1)) (own_p1 f j0 lim + 1)) + 1))), .val (.int (1 : Int32)), .unset]) rfl k) ?_
                    refine own_by (T' := T339) (f' := (mkF m 256 #[.val (.ref o), .val (.ref ca), .val (.int iv0), .val (.int lv), .val (.int ((r2 + (1 : Int32)) + (1 : Int32))), .val (.int (f (own_rp f (lim - (own_p1 f j0 lim + 1)) (own_p1 f j0 lim + 1)))), .val (.int (f ((own_rp f (lim - (own_p1 f j0 lim + 1)) (own_p1 f j0 lim + 1)) + 1))), .val (.int (1 : Int32)), .unset] [(.int ((r2 + (1 : Int32)) + (1 : Int32)))])) (fun t k => XS.iload X339.here hx rfl (hb hby d4_254) rfl k) ?_
                    refine own_by (T' := T339) (f' := (mkF m 258 #[.val (.ref o), .val (.ref ca), .val (.int iv0), .val (.int lv), .val (.int ((r2 + (1 : Int32)) + (1 : Int32))), .val (.int (f (own_rp f (lim - (own_p1 f j0 lim + 1)) (own_p1 f j0 lim + 1)))), .val (.int (f ((own_rp f (lim - (own_p1 f j0 lim + 1)) (own_p1 f j0 lim + 1)) + 1))), .val (.int (1 : Int32)), .val (.int ((r2 + (1 : Int32)) + (1 : Int32)))] [])) (fun t k => XS.istore X339.here hx rfl (hb hby d4_256) rfl (l' := #[.val (.ref o), .val (.ref ca), .val (.int iv0), .val (.int lv), .val (.int ((r2 + (1 : Int32)) + (1 : Int32))), .val (.int (f (own_rp f (lim - (own_p1 f j0 lim + 1)) (own_p1 f j0 lim + 1)))), .val (.int (f ((own_rp f (lim - (own_p1 f j0 lim + 1)) (own_p1 f j0 lim + 1)) + 1))), .val (.int (1 : Int32)), .val (.int ((r2 + (1 : Int32)) + (1 : Int32)))]) rfl k) ?_
                    have hpt : own_pnt f j0 lim := ⟨own_ltn hr1 hl hc66_167, hc75_169⟩
                    have ep2 : own_p2 f j0 lim = (own_rp f (lim - (own_p1 f j0 lim + 1)) (own_p1 f j0 lim + 1)) := if_pos hpt
                    have es2 : own_s2 f j0 lim = (own_rs f (lim - (own_p1 f j0 lim + 1)) (own_p1 f j0 lim + 1) (own_s1 f j0 lim)) := if_pos hpt
                    have hV : sv2.toInt = ((own_s2 f j0 lim : Nat) : Int) := by rw [es2]; exact hsv2
                    have hD : dv2.toInt = ((own_dgs f j0 lim : Nat) : Int) := by rw [own_dgs, if_pos hpt, ep2]; exact hd2
                    have z0 : (0 : Int32).toInt = ((0 : Nat) : Int) := by decide
                    have lt360 := own_ltn hi341 hl hc212_340
                    have hi360 := own_inc hi341 lt360 (by omega)
                    have le360 : ((own_rp f (lim - (own_p1 f j0 lim + 1)) (own_p1 f j0 lim + 1)) + 1) + 1 ≤ lim := lt360
                    have f361 := (f335.wr W336)
                    have f362 := (((((P2_0.other W197 (Or.inr (sn_108 hw))).other W204 (Or.inr (sn_144 hw))).other W209 (Or.inr (sn_173 hw))).other W214 (Or.inr (sn_42 hw))).other W336 (Or.inr (sn_173 hw)))
                    have f363 := (((((P2_1.other W197 (Or.inr (sn_111 hw))).other W204 (Or.inr (sn_146 hw))).other W209 (Or.inr (sn_174 hw))).other W214 (Or.inr (sn_45 hw))).other W336 (Or.inr (sn_174 hw)))
                    have f364 := (((((P2_2.other W197 (Or.inr (sn_116 hw))).other W204 (Or.inr (sn_148 hw))).other W209 (Or.inr (sn_172 hw))).other W214 (Or.inr (sn_40 hw))).other W336 (Or.inr (sn_172 hw)))
                    have f365 := (f217.other W336 (Or.inr (sn_170 hw)))
                    have f366 := (((((P2_4.other W197 (Or.inr (sn_126 hw))).other W204 (Or.inr (sn_143 hw))).other W209 (Or.inr (sn_171 hw))).other W214 (Or.inr (sn_51 hw))).other W336 (Or.inr (sn_171 hw)))
                    have f367 := (F214.other W336 (Or.inr (sn_169 hw)))
                    have f368 := (((((P2_7.other W197 (Or.inr (sn_138 hw))).other W204 (Or.inr (sn_155 hw))).other W209 (Or.inr (sn_175 hw))).other W214 (Or.inr (sn_59 hw))).other W336 (Or.inr (sn_175 hw)))
                    have f369 := (((((P2_8.other W197 (Or.inr (sn_139 hw))).other W204 (Or.inr (sn_157 hw))).other W209 (Or.inr (sn_176 hw))).other W214 (Or.inr (sn_62 hw))).other W336 (Or.inr (sn_176 hw)))
                    have f370 := (((((P2_9.other W197 (Or.inr (sn_140 hw))).other W204 (Or.inr (sn_159 hw))).other W209 (Or.inr (sn_177 hw))).other W214 (Or.inr (sn_65 hw))).other W336 (Or.inr (sn_177 hw)))
                    have f371 := (((((P2_10.other W197 (Or.inr (sn_141 hw))).other W204 (Or.inr (sn_161 hw))).other W209 (Or.inr (sn_178 hw))).other W214 (Or.inr (sn_68 hw))).other W336 (Or.inr (sn_178 hw)))
                    have f372 := (((((P2_11.other W197 (Or.inr (sn_142 hw))).other W204 (Or.inr (sn_163 hw))).other W209 (Or.inr (sn_179 hw))).other W214 (Or.inr (sn_71 hw))).other W336 (Or.inr (sn_179 hw)))
                    have f373 := ((((F197.other W204 (Or.inr (sn_165 hw))).other W209 (Or.inr (sn_180 hw))).other W214 (Or.inr (sn_74 hw))).other W336 (Or.inr (sn_180 hw)))
                    have f374 := (((((P2_13.other W197 (Or.inr (sn_104 hw))).other W204 (Or.inr (sn_167 hw))).other W209 (Or.inr (sn_181 hw))).other W214 (Or.inr (sn_39 hw))).other W336 (Or.inr (sn_181 hw)))
                    exact eloop dv2 sv2 ((if_pos ⟨own_neqn hD z0 hc145_219, by rw [ep2]; exact own_ltn hr2 hl hc163_243, by rw [ep2]; exact Or.inr hc188_333⟩).symm) hD hV (lim - (((own_rp f (lim - (own_p1 f j0 lim + 1)) (own_p1 f j0 lim + 1)) + 1) + 1)) (((own_rp f (lim - (own_p1 f j0 lim + 1)) (own_p1 f j0 lim + 1)) + 1) + 1) ((r2 + (1 : Int32)) + (1 : Int32)) (0 : Int32) (f (own_rp f (lim - (own_p1 f j0 lim + 1)) (own_p1 f j0 lim + 1))) (f ((own_rp f (lim - (own_p1 f j0 lim + 1)) (own_p1 f j0 lim + 1)) + 1)) (1 : Int32) ((r2 + (1 : Int32)) + (1 : Int32)) (.ref ca) (.int iv0) u2 (.int (1 : Int32)) (.int (0 : Int32)) (.int (-1 : Int32)) (.int (0 : Int32)) (.long y9_2) (.long y10_2) (.int (r2 - (r1 + (1 : Int32)))) T339 h336 _ (by omega) hi360 X339 e339 f342 f361 f362 f363 f364 f365 f366 F336 f367 f368 f369 f370 f371 f372 f373 f374 K338 N336 sz337
                · have _ := X339
                  refine own_by (T' := T339) (f' := (mkF m 236 #[.val (.ref o), .val (.ref ca), .val (.int iv0), .val (.int lv), .val (.int (r2 + (1 : Int32))), .val (.int (f (own_rp f (lim - (own_p1 f j0 lim + 1)) (own_p1 f j0 lim + 1)))), .val (.int (f ((own_rp f (lim - (own_p1 f j0 lim + 1)) (own_p1 f j0 lim + 1)) + 1))), .unset, .unset] [])) (fun t k => XS.icmpYes X339.here hx rfl (pc0 := 229) (pc' := 236) rfl (hb hby d4_229) rfl (feq hc229_343).2 (by decide) (by decide) k) ?_
                  refine own_by (T' := T339) (f' := (mkF m 237 #[.val (.ref o), .val (.ref ca), .val (.int iv0), .val (.int lv), .val (.int (r2 + (1 : Int32))), .val (.int (f (own_rp f (lim - (own_p1 f j0 lim + 1)) (own_p1 f j0 lim + 1)))), .val (.int (f ((own_rp f (lim - (own_p1 f j0 lim + 1)) (own_p1 f j0 lim + 1)) + 1))), .unset, .unset] [(.int (0 : Int32))])) (fun t k => XS.iconst X339.here hx rfl (hb hby d4_236) k) ?_
                  refine own_by (T' := T339) (f' := (mkF m 239 #[.val (.ref o), .val (.ref ca), .val (.int iv0), .val (.int lv), .val (.int (r2 + (1 : Int32))), .val (.int (f (own_rp f (lim - (own_p1 f j0 lim + 1)) (own_p1 f j0 lim + 1)))), .val (.int (f ((own_rp f (lim - (own_p1 f j0 lim + 1)) (own_p1 f j0 lim + 1)) + 1))), .val (.int (0 : Int32)), .unset] [])) (fun t k => XS.istore X339.here hx rfl (hb hby d4_237) rfl (l' := #[.val (.ref o), .val (.ref ca), .val (.int iv0), .val (.int lv), .val (.int (r2 + (1 : Int32))), .val (.int (f (own_rp f (lim - (own_p1 f j0 lim + 1)) (own_p1 f j0 lim + 1)))), .val (.int (f ((own_rp f (lim - (own_p1 f j0 lim + 1)) (own_p1 f j0 lim + 1)) + 1))), .val (.int (0 : Int32)), .unset]) rfl k) ?_
                  refine own_by (T' := T339) (f' := (mkF m 241 #[.val (.ref o), .val (.ref ca), .val (.int iv0), .val (.int lv), .val (.int (r2 + (1 : Int32))), .val (.int (f (own_rp f (lim - (own_p1 f j0 lim + 1)) (own_p1 f j0 lim + 1)))), .val (.int (f ((own_rp f (lim - (own_p1 f j0 lim + 1)) (own_p1 f j0 lim + 1)) + 1))), .val (.int (0 : Int32)), .unset] [(.int (f ((own_rp f (lim - (own_p1 f j0 lim + 1)) (own_p1 f j0 lim + 1)) + 1)))])) (fun t k => XS.iload X339.here hx rfl (hb hby d4_239) rfl k) ?_
                  refine own_by (T' := T339) (f' := (mkF m 243 #[.val (.ref o), .val (.ref ca), .val (.int iv0), .val (.int lv), .val (.int (r2 + (1 : Int32))), .val (.int (f (own_rp f (lim - (own_p1 f j0 lim + 1)) (own_p1 f j0 lim + 1)))), .val (.int (f ((own_rp f (lim - (own_p1 f j0 lim + 1)) (own_p1 f j0 lim + 1)) + 1))), .val (.int (0 : Int32)), .unset] [(.int (43 : Int32)), (.int (f ((own_rp f (lim - (own_p1 f j0 lim + 1)) (own_p1 f j0 lim + 1)) + 1)))])) (fun t k => XS.bipush X339.here hx rfl (hb hby d4_241) k) ?_
                  by_cases hc243_375 : (f ((own_rp f (lim - (own_p1 f j0 lim + 1)) (own_p1 f j0 lim + 1)) + 1)) = (43 : Int32)
                  · have _ := X339
                    refine own_by (T' := T339) (f' := (mkF m 251 #[.val (.ref o), .val (.ref ca), .val (.int iv0), .val (.int lv), .val (.int (r2 + (1 : Int32))), .val (.int (f (own_rp f (lim - (own_p1 f j0 lim + 1)) (own_p1 f j0 lim + 1)))), .val (.int (f ((own_rp f (lim - (own_p1 f j0 lim + 1)) (own_p1 f j0 lim + 1)) + 1))), .val (.int (0 : Int32)), .unset] [])) (fun t k => XS.icmpYes X339.here hx rfl (pc0 := 243) (pc' := 251) rfl (hb hby d4_243) rfl (teq hc243_375).1 (by decide) (by decide) k) ?_
                    refine own_by (T' := T339) (f' := (mkF m 254 #[.val (.ref o), .val (.ref ca), .val (.int iv0), .val (.int lv), .val (.int ((r2 + (1 : Int32)) + (1 : Int32))), .val (.int (f (own_rp f (lim - (own_p1 f j0 lim + 1)) (own_p1 f j0 lim + 1)))), .val (.int (f ((own_rp f (lim - (own_p1 f j0 lim + 1)) (own_p1 f j0 lim + 1)) + 1))), .val (.int (0 : Int32)), .unset] [])) (fun t k => XS.iinc X339.here hx rfl (hb hby d4_251) rfl (l' := #[.val (.ref o), .val (.ref ca), .val (.int iv0), .val (.int lv), .val (.int ((r2 + (1 : Int32)) + (1 : Int32))), .val (.int (f (own_rp f (lim - (own_p1 f j0 lim + 1)) (own_p1 f j0 lim + 1)))), .val (.int (f ((own_rp f (lim - (own_p1 f j0 lim + 1)) (own_p1 f j0 lim + 1)) + 1))), .val (.int (0 : Int32)), .unset]) rfl k) ?_
                    refine own_by (T' := T339) (f' := (mkF m 256 #[.val (.ref o), .val (.ref ca), .val (.int iv0), .val (.int lv), .val (.int ((r2 + (1 : Int32)) + (1 : Int32))), .val (.int (f (own_rp f (lim - (own_p1 f j0 lim + 1)) (own_p1 f j0 lim + 1)))), .val (.int (f ((own_rp f (lim - (own_p1 f j0 lim + 1)) (own_p1 f j0 lim + 1)) + 1))), .val (.int (0 : Int32)), .unset] [(.int ((r2 + (1 : Int32)) + (1 : Int32)))])) (fun t k => XS.iload X339.here hx rfl (hb hby d4_254) rfl k) ?_
                    refine own_by (T' := T339) (f' := (mkF m 258 #[.val (.ref o), .val (.ref ca), .val (.int iv0), .val (.int lv), .val (.int ((r2 + (1 : Int32)) + (1 : Int32))), .val (.int (f (own_rp f (lim - (own_p1 f j0 lim + 1)) (own_p1 f j0 lim + 1)))), .val (.int (f ((own_rp f (lim - (own_p1 f j0 lim + 1)) (own_p1 f j0 lim + 1)) + 1))), .val (.int (0 : Int32)), .val (.int ((r2 + (1 : Int32)) + (1 : Int32)))] [])) (fun t k => XS.istore X339.here hx rfl (hb hby d4_256) rfl (l' := #[.val (.ref o), .val (.ref ca), .val (.int iv0), .val (.int lv), .val (.int ((r2 + (1 : Int32)) + (1 : Int32))), .val (.int (f (own_rp f (lim - (own_p1 f j0 lim + 1)) (own_p1 f j0 lim + 1)))), .val (.int (f ((own_rp f (lim - (own_p1 f j0 lim + 1)) (own_p1 f j0 lim + 1)) + 1))), .val (.int (0 : Int32)), .val (.int ((r2 + (1 : Int32)) + (1 : Int32)))]) rfl k) ?_
                    have hpt : own_pnt f j0 lim := ⟨own_ltn hr1 hl hc66_167, hc75_169⟩
                    have ep2 : own_p2 f j0 lim = (own_rp f (lim - (own_p1 f j0 lim + 1)) (own_p1 f j0 lim + 1)) := if_pos hpt
                    have es2 : own_s2 f j0 lim = (own_rs f (lim - (own_p1 f j0 lim + 1)) (own_p1 f j0 lim + 1) (own_s1 f j0 lim)) := if_pos hpt
                    have hV : sv2.toInt = ((own_s2 f j0 lim : Nat) : Int) := by rw [es2]; exact hsv2
                    have hD : dv2.toInt = ((own_dgs f j0 lim : Nat) : Int) := by rw [own_dgs, if_pos hpt, ep2]; exact hd2
                    have z0 : (0 : Int32).toInt = ((0 : Nat) : Int) := by decide
                    have lt376 := own_ltn hi341 hl hc212_340
                    have hi376 := own_inc hi341 lt376 (by omega)
                    have le376 : ((own_rp f (lim - (own_p1 f j0 lim + 1)) (own_p1 f j0 lim + 1)) + 1) + 1 ≤ lim := lt376
                    have f377 := (f335.wr W336)
                    have f378 := (((((P2_0.other W197 (Or.inr (sn_108 hw))).other W204 (Or.inr (sn_144 hw))).other W209 (Or.inr (sn_173 hw))).other W214 (Or.inr (sn_42 hw))).other W336 (Or.inr (sn_173 hw)))
                    have f379 := (((((P2_1.other W197 (Or.inr (sn_111 hw))).other W204 (Or.inr (sn_146 hw))).other W209 (Or.inr (sn_174 hw))).other W214 (Or.inr (sn_45 hw))).other W336 (Or.inr (sn_174 hw)))
                    have f380 := (((((P2_2.other W197 (Or.inr (sn_116 hw))).other W204 (Or.inr (sn_148 hw))).other W209 (Or.inr (sn_172 hw))).other W214 (Or.inr (sn_40 hw))).other W336 (Or.inr (sn_172 hw)))
                    have f381 := (f217.other W336 (Or.inr (sn_170 hw)))
                    have f382 := (((((P2_4.other W197 (Or.inr (sn_126 hw))).other W204 (Or.inr (sn_143 hw))).other W209 (Or.inr (sn_171 hw))).other W214 (Or.inr (sn_51 hw))).other W336 (Or.inr (sn_171 hw)))
                    have f383 := (F214.other W336 (Or.inr (sn_169 hw)))
                    have f384 := (((((P2_7.other W197 (Or.inr (sn_138 hw))).other W204 (Or.inr (sn_155 hw))).other W209 (Or.inr (sn_175 hw))).other W214 (Or.inr (sn_59 hw))).other W336 (Or.inr (sn_175 hw)))
                    have f385 := (((((P2_8.other W197 (Or.inr (sn_139 hw))).other W204 (Or.inr (sn_157 hw))).other W209 (Or.inr (sn_176 hw))).other W214 (Or.inr (sn_62 hw))).other W336 (Or.inr (sn_176 hw)))
                    have f386 := (((((P2_9.other W197 (Or.inr (sn_140 hw))).other W204 (Or.inr (sn_159 hw))).other W209 (Or.inr (sn_177 hw))).other W214 (Or.inr (sn_65 hw))).other W336 (Or.inr (sn_177 hw)))
                    have f387 := (((((P2_10.other W197 (Or.inr (sn_141 hw))).other W204 (Or.inr (sn_161 hw))).other W209 (Or.inr (sn_178 hw))).other W214 (Or.inr (sn_68 hw))).other W336 (Or.inr (sn_178 hw)))
                    have f388 := (((((P2_11.other W197 (Or.inr (sn_142 hw))).other W204 (Or.inr (sn_163 hw))).other W209 (Or.inr (sn_179 hw))).other W214 (Or.inr (sn_71 hw))).other W336 (Or.inr (sn_179 hw)))
                    have f389 := ((((F197.other W204 (Or.inr (sn_165 hw))).other W209 (Or.inr (sn_180 hw))).other W214 (Or.inr (sn_74 hw))).other W336 (Or.inr (sn_180 hw)))
                    have f390 := (((((P2_13.other W197 (Or.inr (sn_104 hw))).other W204 (Or.inr (sn_167 hw))).other W209 (Or.inr (sn_181 hw))).other W214 (Or.inr (sn_39 hw))).other W336 (Or.inr (sn_181 hw)))
                    exact eloop dv2 sv2 ((if_pos ⟨own_neqn hD z0 hc145_219, by rw [ep2]; exact own_ltn hr2 hl hc163_243, by rw [ep2]; exact Or.inr hc188_333⟩).symm) hD hV (lim - (((own_rp f (lim - (own_p1 f j0 lim + 1)) (own_p1 f j0 lim + 1)) + 1) + 1)) (((own_rp f (lim - (own_p1 f j0 lim + 1)) (own_p1 f j0 lim + 1)) + 1) + 1) ((r2 + (1 : Int32)) + (1 : Int32)) (0 : Int32) (f (own_rp f (lim - (own_p1 f j0 lim + 1)) (own_p1 f j0 lim + 1))) (f ((own_rp f (lim - (own_p1 f j0 lim + 1)) (own_p1 f j0 lim + 1)) + 1)) (0 : Int32) ((r2 + (1 : Int32)) + (1 : Int32)) (.ref ca) (.int iv0) u2 (.int (1 : Int32)) (.int (0 : Int32)) (.int (-1 : Int32)) (.int (0 : Int32)) (.long y9_2) (.long y10_2) (.int (r2 - (r1 + (1 : Int32)))) T339 h336 _ (by omega) hi376 X339 e339 f342 f377 f378 f379 f380 f381 f382 F336 f383 f384 f385 f386 f387 f388 f389 f390 K338 N336 sz337
                  · have _ := X339
                    refine own_by (T' := T339) (f' := (mkF m 246 #[.val (.ref o), .val (.ref ca), .val (.int iv0), .val (.int lv), .val (.int (r2 + (1 : Int32))), .val (.int (f (own_rp f (lim - (own_p1 f j0 lim + 1)) (own_p1 f j0 lim + 1)))), .val (.int (f ((own_rp f (lim - (own_p1 f j0 lim + 1)) (own_p1 f j0 lim + 1)) + 1))), .val (.int (0 : Int32)), .unset] [])) (fun t k => XS.icmpNo X339.here hx rfl (hb hby d4_243) rfl (feq hc243_375).1 k) ?_
                    refine own_by (T' := T339) (f' := (mkF m 248 #[.val (.ref o), .val (.ref ca), .val (.int iv0), .val (.int lv), .val (.int (r2 + (1 : Int32))), .val (.int (f (own_rp f (lim - (own_p1 f j0 lim + 1)) (own_p1 f j0 lim + 1)))), .val (.int (f ((own_rp f (lim - (own_p1 f j0 lim + 1)) (own_p1 f j0 lim + 1)) + 1))), .val (.int (0 : Int32)), .unset] [(.int (0 : Int32))])) (fun t k => XS.iload X339.here hx rfl (hb hby d4_246) rfl k) ?_
                    refine own_by (T' := T339) (f' := (mkF m 254 #[.val (.ref o), .val (.ref ca), .val (.int iv0), .val (.int lv), .val (.int (r2 + (1 : Int32))), .val (.int (f (own_rp f (lim - (own_p1 f j0 lim + 1)) (own_p1 f j0 lim + 1)))), .val (.int (f ((own_rp f (lim - (own_p1 f j0 lim + 1)) (own_p1 f j0 lim + 1)) + 1))), .val (.int (0 : Int32)), .unset] [])) (fun t k => XS.ifYes X339.here hx rfl (pc0 := 248) (pc' := 254) rfl (hb hby d4_248) rfl ((if0 _ _).trans (teq rfl).1) (by decide) (by decide) k) ?_
                    refine own_by (T' := T339) (f' := (mkF m 256 #[.val (.ref o), .val (.ref ca), .val (.int iv0), .val (.int lv), .val (.int (r2 + (1 : Int32))), .val (.int (f (own_rp f (lim - (own_p1 f j0 lim + 1)) (own_p1 f j0 lim + 1)))), .val (.int (f ((own_rp f (lim - (own_p1 f j0 lim + 1)) (own_p1 f j0 lim + 1)) + 1))), .val (.int (0 : Int32)), .unset] [(.int (r2 + (1 : Int32)))])) (fun t k => XS.iload X339.here hx rfl (hb hby d4_254) rfl k) ?_
                    refine own_by (T' := T339) (f' := (mkF m 258 #[.val (.ref o), .val (.ref ca), .val (.int iv0), .val (.int lv), .val (.int (r2 + (1 : Int32))), .val (.int (f (own_rp f (lim - (own_p1 f j0 lim + 1)) (own_p1 f j0 lim + 1)))), .val (.int (f ((own_rp f (lim - (own_p1 f j0 lim + 1)) (own_p1 f j0 lim + 1)) + 1))), .val (.int (0 : Int32)), .val (.int (r2 + (1 : Int32)))] [])) (fun t k => XS.istore X339.here hx rfl (hb hby d4_256) rfl (l' := #[.val (.ref o), .val (.ref ca), .val (.int iv0), .val (.int lv), .val (.int (r2 + (1 : Int32))), .val (.int (f (own_rp f (lim - (own_p1 f j0 lim + 1)) (own_p1 f j0 lim + 1)))), .val (.int (f ((own_rp f (lim - (own_p1 f j0 lim + 1)) (own_p1 f j0 lim + 1)) + 1))), .val (.int (0 : Int32)), .val (.int (r2 + (1 : Int32)))]) rfl k) ?_
                    have hpt : own_pnt f j0 lim := ⟨own_ltn hr1 hl hc66_167, hc75_169⟩
                    have ep2 : own_p2 f j0 lim = (own_rp f (lim - (own_p1 f j0 lim + 1)) (own_p1 f j0 lim + 1)) := if_pos hpt
                    have es2 : own_s2 f j0 lim = (own_rs f (lim - (own_p1 f j0 lim + 1)) (own_p1 f j0 lim + 1) (own_s1 f j0 lim)) := if_pos hpt
                    have hV : sv2.toInt = ((own_s2 f j0 lim : Nat) : Int) := by rw [es2]; exact hsv2
                    have hD : dv2.toInt = ((own_dgs f j0 lim : Nat) : Int) := by rw [own_dgs, if_pos hpt, ep2]; exact hd2
                    have z0 : (0 : Int32).toInt = ((0 : Nat) : Int) := by decide
                    have f391 := (f335.wr W336)
                    have f392 := (((((P2_0.other W197 (Or.inr (sn_108 hw))).other W204 (Or.inr (sn_144 hw))).other W209 (Or.inr (sn_173 hw))).other W214 (Or.inr (sn_42 hw))).other W336 (Or.inr (sn_173 hw)))
                    have f393 := (((((P2_1.other W197 (Or.inr (sn_111 hw))).other W204 (Or.inr (sn_146 hw))).other W209 (Or.inr (sn_174 hw))).other W214 (Or.inr (sn_45 hw))).other W336 (Or.inr (sn_174 hw)))
                    have f394 := (((((P2_2.other W197 (Or.inr (sn_116 hw))).other W204 (Or.inr (sn_148 hw))).other W209 (Or.inr (sn_172 hw))).other W214 (Or.inr (sn_40 hw))).other W336 (Or.inr (sn_172 hw)))
                    have f395 := (f217.other W336 (Or.inr (sn_170 hw)))
                    have f396 := (((((P2_4.other W197 (Or.inr (sn_126 hw))).other W204 (Or.inr (sn_143 hw))).other W209 (Or.inr (sn_171 hw))).other W214 (Or.inr (sn_51 hw))).other W336 (Or.inr (sn_171 hw)))
                    have f397 := (F214.other W336 (Or.inr (sn_169 hw)))
                    have f398 := (((((P2_7.other W197 (Or.inr (sn_138 hw))).other W204 (Or.inr (sn_155 hw))).other W209 (Or.inr (sn_175 hw))).other W214 (Or.inr (sn_59 hw))).other W336 (Or.inr (sn_175 hw)))
                    have f399 := (((((P2_8.other W197 (Or.inr (sn_139 hw))).other W204 (Or.inr (sn_157 hw))).other W209 (Or.inr (sn_176 hw))).other W214 (Or.inr (sn_62 hw))).other W336 (Or.inr (sn_176 hw)))
                    have f400 := (((((P2_9.other W197 (Or.inr (sn_140 hw))).other W204 (Or.inr (sn_159 hw))).other W209 (Or.inr (sn_177 hw))).other W214 (Or.inr (sn_65 hw))).other W336 (Or.inr (sn_177 hw)))
                    have f401 := (((((P2_10.other W197 (Or.inr (sn_141 hw))).other W204 (Or.inr (sn_161 hw))).other W209 (Or.inr (sn_178 hw))).other W214 (Or.inr (sn_68 hw))).other W336 (Or.inr (sn_178 hw)))
                    have f402 := (((((P2_11.other W197 (Or.inr (sn_142 hw))).other W204 (Or.inr (sn_163 hw))).other W209 (Or.inr (sn_179 hw))).other W214 (Or.inr (sn_71 hw))).other W336 (Or.inr (sn_179 hw)))
                    have f403 := ((((F197.other W204 (Or.inr (sn_165 hw))).other W209 (Or.inr (sn_180 hw))).other W214 (Or.inr (sn_74 hw))).other W336 (Or.inr (sn_180 hw)))
                    have f404 := (((((P2_13.other W197 (Or.inr (sn_104 hw))).other W204 (Or.inr (sn_167 hw))).other W209 (Or.inr (sn_181 hw))).other W214 (Or.inr (sn_39 hw))).other W336 (Or.inr (sn_181 hw)))
                    exact eloop dv2 sv2 ((if_pos ⟨own_neqn hD z0 hc145_219, by rw [ep2]; exact own_ltn hr2 hl hc163_243, by rw [ep2]; exact Or.inr hc188_333⟩).symm) hD hV (lim - ((own_rp f (lim - (own_p1 f j0 lim + 1)) (own_p1 f j0 lim + 1)) + 1)) ((own_rp f (lim - (own_p1 f j0 lim + 1)) (own_p1 f j0 lim + 1)) + 1) (r2 + (1 : Int32)) (0 : Int32) (f (own_rp f (lim - (own_p1 f j0 lim + 1)) (own_p1 f j0 lim + 1))) (f ((own_rp f (lim - (own_p1 f j0 lim + 1)) (own_p1 f j0 lim + 1)) + 1)) (0 : Int32) (r2 + (1 : Int32)) (.ref ca) (.int iv0) u2 (.int (1 : Int32)) (.int (0 : Int32)) (.int (-1 : Int32)) (.int (0 : Int32)) (.long y9_2) (.long y10_2) (.int (r2 - (r1 + (1 : Int32)))) T339 h336 _ (by omega) hi341 X339 e339 f342 f391 f392 f393 f394 f395 f396 F336 f397 f398 f399 f400 f401 f402 f403 f404 K338 N336 sz337
              · have _ := X339
                refine own_by (T' := T339) (f' := (mkF m 222 #[.val (.ref o), .val (.ref ca), .val (.int iv0), .val (.int lv), .val (.int (r2 + (1 : Int32))), .val (.int (f (own_rp f (lim - (own_p1 f j0 lim + 1)) (own_p1 f j0 lim + 1)))), .unset, .unset, .unset] [])) (fun t k => XS.icmpYes X339.here hx rfl (pc0 := 212) (pc' := 222) rfl (hb hby d4_212) rfl (flt hc212_340).2.1 (by decide) (by decide) k) ?_
                refine own_by (T' := T339) (f' := (mkF m 223 #[.val (.ref o), .val (.ref ca), .val (.int iv0), .val (.int lv), .val (.int (r2 + (1 : Int32))), .val (.int (f (own_rp f (lim - (own_p1 f j0 lim + 1)) (own_p1 f j0 lim + 1)))), .unset, .unset, .unset] [(.int (0 : Int32))])) (fun t k => XS.iconst X339.here hx rfl (hb hby d4_222) k) ?_
                refine own_by (T' := T339) (f' := (mkF m 225 #[.val (.ref o), .val (.ref ca), .val (.int iv0), .val (.int lv), .val (.int (r2 + (1 : Int32))), .val (.int (f (own_rp f (lim - (own_p1 f j0 lim + 1)) (own_p1 f j0 lim + 1)))), .val (.int (0 : Int32)), .unset, .unset] [])) (fun t k => XS.istore X339.here hx rfl (hb hby d4_223) rfl (l' := #[.val (.ref o), .val (.ref ca), .val (.int iv0), .val (.int lv), .val (.int (r2 + (1 : Int32))), .val (.int (f (own_rp f (lim - (own_p1 f j0 lim + 1)) (own_p1 f j0 lim + 1)))), .val (.int (0 : Int32)), .unset, .unset]) rfl k) ?_
                refine own_by (T' := T339) (f' := (mkF m 227 #[.val (.ref o), .val (.ref ca), .val (.int iv0), .val (.int lv), .val (.int (r2 + (1 : Int32))), .val (.int (f (own_rp f (lim - (own_p1 f j0 lim + 1)) (own_p1 f j0 lim + 1)))), .val (.int (0 : Int32)), .unset, .unset] [(.int (0 : Int32))])) (fun t k => XS.iload X339.here hx rfl (hb hby d4_225) rfl k) ?_
                refine own_by (T' := T339) (f' := (mkF m 229 #[.val (.ref o), .val (.ref ca), .val (.int iv0), .val (.int lv), .val (.int (r2 + (1 : Int32))), .val (.int (f (own_rp f (lim - (own_p1 f j0 lim + 1)) (own_p1 f j0 lim + 1)))), .val (.int (0 : Int32)), .unset, .unset] [(.int (45 : Int32)), (.int (0 : Int32))])) (fun t k => XS.bipush X339.here hx rfl (hb hby d4_227) k) ?_
                refine own_by (T' := T339) (f' := (mkF m 236 #[.val (.ref o), .val (.ref ca), .val (.int iv0), .val (.int lv), .val (.int (r2 + (1 : Int32))), .val (.int (f (own_rp f (lim - (own_p1 f j0 lim + 1)) (own_p1 f j0 lim + 1)))), .val (.int (0 : Int32)), .unset, .unset] [])) (fun t k => XS.icmpYes X339.here hx rfl (pc0 := 229) (pc' := 236) rfl (hb hby d4_229) rfl (feq (by decide)).2 (by decide) (by decide) k) ?_
                refine own_by (T' := T339) (f' := (mkF m 237 #[.val (.ref o), .val (.ref ca), .val (.int iv0), .val (.int lv), .val (.int (r2 + (1 : Int32))), .val (.int (f (own_rp f (lim - (own_p1 f j0 lim + 1)) (own_p1 f j0 lim + 1)))), .val (.int (0 : Int32)), .unset, .unset] [(.int (0 : Int32))])) (fun t k => XS.iconst X339.here hx rfl (hb hby d4_236) k) ?_
                refine own_by (T' := T339) (f' := (mkF m 239 #[.val (.ref o), .val (.ref ca), .val (.int iv0), .val (.int lv), .val (.int (r2 + (1 : Int32))), .val (.int (f (own_rp f (lim - (own_p1 f j0 lim + 1)) (own_p1 f j0 lim + 1)))), .val (.int (0 : Int32)), .val (.int (0 : Int32)), .unset] [])) (fun t k => XS.istore X339.here hx rfl (hb hby d4_237) rfl (l' := #[.val (.ref o), .val (.ref ca), .val (.int iv0), .val (.int lv), .val (.int (r2 + (1 : Int32))), .val (.int (f (own_rp f (lim - (own_p1 f j0 lim + 1)) (own_p1 f j0 lim + 1)))), .val (.int (0 : Int32)), .val (.int (0 : Int32)), .unset]) rfl k) ?_
                refine own_by (T' := T339) (f' := (mkF m 241 #[.val (.ref o), .val (.ref ca), .val (.int iv0), .val (.int lv), .val (.int (r2 + (1 : Int32))), .val (.int (f (own_rp f (lim - (own_p1 f j0 lim + 1)) (own_p1 f j0 lim + 1)))), .val (.int (0 : Int32)), .val (.int (0 : Int32)), .unset] [(.int (0 : Int32))])) (fun t k => XS.iload X339.here hx rfl (hb hby d4_239) rfl k) ?_
                refine own_by (T' := T339) (f' := (mkF m 243 #[.val (.ref o), .val (.ref ca), .val (.int iv0), .val (.int lv), .val (.int (r2 + (1 : Int32))), .val (.int (f (own_rp f (lim - (own_p1 f j0 lim + 1)) (own_p1 f j0 lim + 1)))), .val (.int (0 : Int32)), .val (.int (0 : Int32)), .unset] [(.int (43 : Int32)), (.int (0 : Int32))])) (fun t k => XS.bipush X339.here hx rfl (hb hby d4_241) k) ?_
                refine own_by (T' := T339) (f' := (mkF m 246 #[.val (.ref o), .val (.ref ca), .val (.int iv0), .val (.int lv), .val (.int (r2 + (1 : Int32))), .val (.int (f (own_rp f (lim - (own_p1 f j0 lim + 1)) (own_p1 f j0 lim + 1)))), .val (.int (0 : Int32)), .val (.int (0 : Int32)), .unset] [])) (fun t k => XS.icmpNo X339.here hx rfl (hb hby d4_243) rfl (feq (by decide)).1 k) ?_
                refine own_by (T' := T339) (f' := (mkF m 248 #[.val (.ref o), .val (.ref ca), .val (.int iv0), .val (.int lv), .val (.int (r2 + (1 : Int32))), .val (.int (f (own_rp f (lim - (own_p1 f j0 lim + 1)) (own_p1 f j0 lim + 1)))), .val (.int (0 : Int32)), .val (.int (0 : Int32)), .unset] [(.int (0 : Int32))])) (fun t k => XS.iload X339.here hx rfl (hb hby d4_246) rfl k) ?_
                refine own_by (T' := T339) (f' := (mkF m 254 #[.val (.ref o), .val (.ref ca), .val (.int iv0), .val (.int lv), .val (.int (r2 + (1 : Int32))), .val (.int (f (own_rp f (lim - (own_p1 f j0 lim + 1)) (own_p1 f j0 lim + 1)))), .val (.int (0 : Int32)), .val (.int (0 : Int32)), .unset] [])) (fun t k => XS.ifYes X339.here hx rfl (pc0 := 248) (pc' := 254) rfl (hb hby d4_248) rfl ((if0 _ _).trans (teq rfl).1) (by decide) (by decide) k) ?_
                refine own_by (T' := T339) (f' := (mkF m 256 #[.val (.ref o), .val (.ref ca), .val (.int iv0), .val (.int lv), .val (.int (r2 + (1 : Int32))), .val (.int (f (own_rp f (lim - (own_p1 f j0 lim + 1)) (own_p1 f j0 lim + 1)))), .val (.int (0 : Int32)), .val (.int (0 : Int32)), .unset] [(.int (r2 + (1 : Int32)))])) (fun t k => XS.iload X339.here hx rfl (hb hby d4_254) rfl k) ?_
                refine own_by (T' := T339) (f' := (mkF m 258 #[.val (.ref o), .val (.ref ca), .val (.int iv0), .val (.int lv), .val (.int (r2 + (1 : Int32))), .val (.int (f (own_rp f (lim - (own_p1 f j0 lim + 1)) (own_p1 f j0 lim + 1)))), .val (.int (0 : Int32)), .val (.int (0 : Int32)), .val (.int (r2 + (1 : Int32)))] [])) (fun t k => XS.istore X339.here hx rfl (hb hby d4_256) rfl (l' := #[.val (.ref o), .val (.ref ca), .val (.int iv0), .val (.int lv), .val (.int (r2 + (1 : Int32))), .val (.int (f (own_rp f (lim - (own_p1 f j0 lim + 1)) (own_p1 f j0 lim + 1)))), .val (.int (0 : Int32)), .val (.int (0 : Int32)), .val (.int (r2 + (1 : Int32)))]) rfl k) ?_
                have hpt : own_pnt f j0 lim := ⟨own_ltn hr1 hl hc66_167, hc75_169⟩
                have ep2 : own_p2 f j0 lim = (own_rp f (lim - (own_p1 f j0 lim + 1)) (own_p1 f j0 lim + 1)) := if_pos hpt
                have es2 : own_s2 f j0 lim = (own_rs f (lim - (own_p1 f j0 lim + 1)) (own_p1 f j0 lim + 1) (own_s1 f j0 lim)) := if_pos hpt
                have hV : sv2.toInt = ((own_s2 f j0 lim : Nat) : Int) := by rw [es2]; exact hsv2
                have hD : dv2.toInt = ((own_dgs f j0 lim : Nat) : Int) := by rw [own_dgs, if_pos hpt, ep2]; exact hd2
                have z0 : (0 : Int32).toInt = ((0 : Nat) : Int) := by decide
                have lt405 := own_ltn hr2 hl hc163_243
                have hi405 := own_inc hr2 lt405 (by omega)
                have le405 : (own_rp f (lim - (own_p1 f j0 lim + 1)) (own_p1 f j0 lim + 1)) + 1 ≤ lim := lt405
                have f406 := (f244.other W336 nco)
                have f407 := (f335.wr W336)
                have f408 := (((((P2_0.other W197 (Or.inr (sn_108 hw))).other W204 (Or.inr (sn_144 hw))).other W209 (Or.inr (sn_173 hw))).other W214 (Or.inr (sn_42 hw))).other W336 (Or.inr (sn_173 hw)))
                have f409 := (((((P2_1.other W197 (Or.inr (sn_111 hw))).other W204 (Or.inr (sn_146 hw))).other W209 (Or.inr (sn_174 hw))).other W214 (Or.inr (sn_45 hw))).other W336 (Or.inr (sn_174 hw)))
                have f410 := (((((P2_2.other W197 (Or.inr (sn_116 hw))).other W204 (Or.inr (sn_148 hw))).other W209 (Or.inr (sn_172 hw))).other W214 (Or.inr (sn_40 hw))).other W336 (Or.inr (sn_172 hw)))
                have f411 := (f217.other W336 (Or.inr (sn_170 hw)))
                have f412 := (((((P2_4.other W197 (Or.inr (sn_126 hw))).other W204 (Or.inr (sn_143 hw))).other W209 (Or.inr (sn_171 hw))).other W214 (Or.inr (sn_51 hw))).other W336 (Or.inr (sn_171 hw)))
                have f413 := (F214.other W336 (Or.inr (sn_169 hw)))
                have f414 := (((((P2_7.other W197 (Or.inr (sn_138 hw))).other W204 (Or.inr (sn_155 hw))).other W209 (Or.inr (sn_175 hw))).other W214 (Or.inr (sn_59 hw))).other W336 (Or.inr (sn_175 hw)))
                have f415 := (((((P2_8.other W197 (Or.inr (sn_139 hw))).other W204 (Or.inr (sn_157 hw))).other W209 (Or.inr (sn_176 hw))).other W214 (Or.inr (sn_62 hw))).other W336 (Or.inr (sn_176 hw)))
                have f416 := (((((P2_9.other W197 (Or.inr (sn_140 hw))).other W204 (Or.inr (sn_159 hw))).other W209 (Or.inr (sn_177 hw))).other W214 (Or.inr (sn_65 hw))).other W336 (Or.inr (sn_177 hw)))
                have f417 := (((((P2_10.other W197 (Or.inr (sn_141 hw))).other W204 (Or.inr (sn_161 hw))).other W209 (Or.inr (sn_178 hw))).other W214 (Or.inr (sn_68 hw))).other W336 (Or.inr (sn_178 hw)))
                have f418 := (((((P2_11.other W197 (Or.inr (sn_142 hw))).other W204 (Or.inr (sn_163 hw))).other W209 (Or.inr (sn_179 hw))).other W214 (Or.inr (sn_71 hw))).other W336 (Or.inr (sn_179 hw)))
                have f419 := ((((F197.other W204 (Or.inr (sn_165 hw))).other W209 (Or.inr (sn_180 hw))).other W214 (Or.inr (sn_74 hw))).other W336 (Or.inr (sn_180 hw)))
                have f420 := (((((P2_13.other W197 (Or.inr (sn_104 hw))).other W204 (Or.inr (sn_167 hw))).other W209 (Or.inr (sn_181 hw))).other W214 (Or.inr (sn_39 hw))).other W336 (Or.inr (sn_181 hw)))
                exact eloop dv2 sv2 ((if_pos ⟨own_neqn hD z0 hc145_219, by rw [ep2]; exact own_ltn hr2 hl hc163_243, by rw [ep2]; exact Or.inr hc188_333⟩).symm) hD hV (lim - ((own_rp f (lim - (own_p1 f j0 lim + 1)) (own_p1 f j0 lim + 1)) + 1)) ((own_rp f (lim - (own_p1 f j0 lim + 1)) (own_p1 f j0 lim + 1)) + 1) (r2 + (1 : Int32)) (0 : Int32) (f (own_rp f (lim - (own_p1 f j0 lim + 1)) (own_p1 f j0 lim + 1))) (0 : Int32) (0 : Int32) (r2 + (1 : Int32)) (.ref ca) (.int iv0) u2 (.int (1 : Int32)) (.int (0 : Int32)) (.int (-1 : Int32)) (.int (0 : Int32)) (.long y9_2) (.long y10_2) (.int (r2 - (r1 + (1 : Int32)))) T339 h336 _ (by omega) hi405 X339 e339 f406 f407 f408 f409 f410 f411 f412 F336 f413 f414 f415 f416 f417 f418 f419 f420 K338 N336 sz337
            · have _ := X218
              refine own_by (T' := T218) (f' := (mkF m 195 #[.val (.ref o), .val (.ref ca), .val (.int iv0), .val (.int lv), .val (.int r2), .val (.int (f (own_rp f (lim - (own_p1 f j0 lim + 1)) (own_p1 f j0 lim + 1)))), .unset, .unset, .unset] [(.ref o)])) (fun t k => XS.icmpYes X218.here hx rfl (pc0 := 188) (pc' := 195) rfl (hb hby d4_188) rfl (feq hc188_333).2 (by decide) (by decide) k) ?_
              refine own_by (T' := T218) (f' := (mkF m 196 #[.val (.ref o), .val (.ref ca), .val (.int iv0), .val (.int lv), .val (.int r2), .val (.int (f (own_rp f (lim - (own_p1 f j0 lim + 1)) (own_p1 f j0 lim + 1)))), .unset, .unset, .unset] [(.int (0 : Int32)), (.ref o)])) (fun t k => XS.iconst X218.here hx rfl (hb hby d4_195) k) ?_
              have f421 := (F209.other W214 (Or.inr (sn_54 hw)))
              have f422 := (f213.wr W214)
              refine own_putF (host := "") X218 hx hZ hown e218 (hb hby d4_196) (Or.inl (own_w hw 49 rfl)) Via.refl f421 f422 (Or.inl (own_w hw 50 rfl)) (own_w hw 7 rfl) (ty := .boolean) (by decide) rfl rfl ?_
              intro T423 h423 X423 e423 W423
              show own_Go p e below _ T423 (mkF m 199 #[.val (.ref o), .val (.ref ca), .val (.int iv0), .val (.int lv), .val (.int r2), .val (.int (f (own_rp f (lim - (own_p1 f j0 lim + 1)) (own_p1 f j0 lim + 1)))), .unset, .unset, .unset] [])
              have F423 := f421.same W423
              have sz424 : n0 ≤ h423.size := by rw [W423.size]; exact sz215
              have K425 := K216.wr W423 (Or.inl (List.mem_of_getElem? (i := 0) rfl))
              have N423 := Fr.snoc X423 N214 go
              refine own_by (T' := T423) (f' := (mkF m 200 #[.val (.ref o), .val (.ref ca), .val (.int iv0), .val (.int lv), .val (.int r2), .val (.int (f (own_rp f (lim - (own_p1 f j0 lim + 1)) (own_p1 f j0 lim + 1)))), .unset, .unset, .unset] [(.ref o)])) (fun t k => XS.aloadN X423.here hx rfl (hb hby d4_199) rfl rfl k) ?_
              refine own_getF (host := "") X423 hx hZ hown e423 (hb hby d4_200) (Or.inl (own_w hw 49 rfl)) Via.refl F423 ?_
              intro T426 X426 e426
              show own_Go p e below _ T426 (mkF m 203 #[.val (.ref o), .val (.ref ca), .val (.int iv0), .val (.int lv), .val (.int r2), .val (.int (f (own_rp f (lim - (own_p1 f j0 lim + 1)) (own_p1 f j0 lim + 1)))), .unset, .unset, .unset] [(.int (0 : Int32))])
              refine own_by (T' := T426) (f' := (mkF m 341 #[.val (.ref o), .val (.ref ca), .val (.int iv0), .val (.int lv), .val (.int r2), .val (.int (f (own_rp f (lim - (own_p1 f j0 lim + 1)) (own_p1 f j0 lim + 1)))), .unset, .unset, .unset] [])) (fun t k => XS.ifYes X426.here hx rfl (pc0 := 203) (pc' := 341) rfl (hb hby d4_203) rfl ((if0 _ _).trans (teq rfl).1) (by decide) (by decide) k) ?_
              refine own_by (T' := T426) (f' := (mkF m 342 #[.val (.ref o), .val (.ref ca), .val (.int iv0), .val (.int lv), .val (.int r2), .val (.int (f (own_rp f (lim - (own_p1 f j0 lim + 1)) (own_p1 f j0 lim + 1)))), .unset, .unset, .unset] [(.ref o)])) (fun t k => XS.aloadN X426.here hx rfl (hb hby d4_341) rfl rfl k) ?_
              refine own_by (T' := T426) (f' := (mkF m 344 #[.val (.ref o), .val (.ref ca), .val (.int iv0), .val (.int lv), .val (.int r2), .val (.int (f (own_rp f (lim - (own_p1 f j0 lim + 1)) (own_p1 f j0 lim + 1)))), .unset, .unset, .unset] [(.int r2), (.ref o)])) (fun t k => XS.iload X426.here hx rfl (hb hby d4_342) rfl k) ?_
              have f427 := (((((P2_2.other W197 (Or.inr (sn_116 hw))).other W204 (Or.inr (sn_148 hw))).other W209 (Or.inr (sn_172 hw))).other W214 (Or.inr (sn_40 hw))).other W423 (Or.inr (sn_172 hw)))
              have f428 := (f422.wr W423)
              refine own_putF (host := "") X426 hx hZ hown e426 (hb hby d4_344) (Or.inl (own_w hw 53 rfl)) Via.refl f427 f428 (Or.inl (own_w hw 54 rfl)) (own_w hw 7 rfl) (ty := .int) (by decide) rfl rfl ?_
              intro T429 h429 X429 e429 W429
              show own_Go p e below _ T429 (mkF m 347 #[.val (.ref o), .val (.ref ca), .val (.int iv0), .val (.int lv), .val (.int r2), .val (.int (f (own_rp f (lim - (own_p1 f j0 lim + 1)) (own_p1 f j0 lim + 1)))), .unset, .unset, .unset] [])
              have F429 := f427.same W429
              have sz430 : n0 ≤ h429.size := by rw [W429.size]; exact sz424
              have K431 := K425.wr W429 (Or.inl (List.mem_of_getElem? (i := 0) rfl))
              have N429 := Fr.snoc X429 N423 go
              refine own_by (T' := T429) (f' := (mkF m 348 #[.val (.ref o), .val (.ref ca), .val (.int iv0), .val (.int lv), .val (.int r2), .val (.int (f (own_rp f (lim - (own_p1 f j0 lim + 1)) (own_p1 f j0 lim + 1)))), .unset, .unset, .unset] [(.ref o)])) (fun t k => XS.aloadN X429.here hx rfl (hb hby d4_347) rfl rfl k) ?_
              have hpt : own_pnt f j0 lim := ⟨own_ltn hr1 hl hc66_167, hc75_169⟩
              have ep2 : own_p2 f j0 lim = (own_rp f (lim - (own_p1 f j0 lim + 1)) (own_p1 f j0 lim + 1)) := if_pos hpt
              have es2 : own_s2 f j0 lim = (own_rs f (lim - (own_p1 f j0 lim + 1)) (own_p1 f j0 lim + 1) (own_s1 f j0 lim)) := if_pos hpt
              have hV : sv2.toInt = ((own_s2 f j0 lim : Nat) : Int) := by rw [es2]; exact hsv2
              have hD : dv2.toInt = ((own_dgs f j0 lim : Nat) : Int) := by rw [own_dgs, if_pos hpt, ep2]; exact hd2
              have z0 : (0 : Int32).toInt = ((0 : Nat) : Int) := by decide
              have f432 := ((((((P2_0.other W197 (Or.inr (sn_108 hw))).other W204 (Or.inr (sn_144 hw))).other W209 (Or.inr (sn_173 hw))).other W214 (Or.inr (sn_42 hw))).other W423 (Or.inr (sn_173 hw))).other W429 (Or.inr (sn_44 hw)))
              have f433 := ((((((P2_1.other W197 (Or.inr (sn_111 hw))).other W204 (Or.inr (sn_146 hw))).other W209 (Or.inr (sn_174 hw))).other W214 (Or.inr (sn_45 hw))).other W423 (Or.inr (sn_174 hw))).other W429 (Or.inr (sn_47 hw)))
              have f434 := ((f217.other W423 (Or.inr (sn_170 hw))).other W429 (Or.inr (sn_50 hw)))
              have f435 := ((((((P2_4.other W197 (Or.inr (sn_126 hw))).other W204 (Or.inr (sn_143 hw))).other W209 (Or.inr (sn_171 hw))).other W214 (Or.inr (sn_51 hw))).other W423 (Or.inr (sn_171 hw))).other W429 (Or.inr (sn_53 hw)))
              have f436 := (F423.other W429 (Or.inr (sn_56 hw)))
              have f437 := ((F214.other W423 (Or.inr (sn_169 hw))).other W429 (Or.inr (sn_58 hw)))
              have f438 := ((((((P2_7.other W197 (Or.inr (sn_138 hw))).other W204 (Or.inr (sn_155 hw))).other W209 (Or.inr (sn_175 hw))).other W214 (Or.inr (sn_59 hw))).other W423 (Or.inr (sn_175 hw))).other W429 (Or.inr (sn_61 hw)))
              have f439 := ((((((P2_8.other W197 (Or.inr (sn_139 hw))).other W204 (Or.inr (sn_157 hw))).other W209 (Or.inr (sn_176 hw))).other W214 (Or.inr (sn_62 hw))).other W423 (Or.inr (sn_176 hw))).other W429 (Or.inr (sn_64 hw)))
              have f440 := ((((((P2_9.other W197 (Or.inr (sn_140 hw))).other W204 (Or.inr (sn_159 hw))).other W209 (Or.inr (sn_177 hw))).other W214 (Or.inr (sn_65 hw))).other W423 (Or.inr (sn_177 hw))).other W429 (Or.inr (sn_67 hw)))
              have f441 := ((((((P2_10.other W197 (Or.inr (sn_141 hw))).other W204 (Or.inr (sn_161 hw))).other W209 (Or.inr (sn_178 hw))).other W214 (Or.inr (sn_68 hw))).other W423 (Or.inr (sn_178 hw))).other W429 (Or.inr (sn_70 hw)))
              have f442 := ((((((P2_11.other W197 (Or.inr (sn_142 hw))).other W204 (Or.inr (sn_163 hw))).other W209 (Or.inr (sn_179 hw))).other W214 (Or.inr (sn_71 hw))).other W423 (Or.inr (sn_179 hw))).other W429 (Or.inr (sn_73 hw)))
              have f443 := (((((F197.other W204 (Or.inr (sn_165 hw))).other W209 (Or.inr (sn_180 hw))).other W214 (Or.inr (sn_74 hw))).other W423 (Or.inr (sn_180 hw))).other W429 (Or.inr (sn_76 hw)))
              have f444 := ((((((P2_13.other W197 (Or.inr (sn_104 hw))).other W204 (Or.inr (sn_167 hw))).other W209 (Or.inr (sn_181 hw))).other W214 (Or.inr (sn_39 hw))).other W423 (Or.inr (sn_181 hw))).other W429 (Or.inr (sn_77 hw)))
              refine own_retA X429 hx hret hlk (hb hby d4_348) rfl rfl rfl (by decide) (by decide) ?_
              try rw [e429]
              exact ⟨rfl, N429, K431, _, _, _, (if_neg (fun q => (ep2 ▸ q.2.2 : f (own_rp f (lim - (own_p1 f j0 lim + 1)) (own_p1 f j0 lim + 1)) = (101 : Int32) ∨ f (own_rp f (lim - (own_p1 f j0 lim + 1)) (own_p1 f j0 lim + 1)) = (69 : Int32)).elim hc181_245 hc188_333)).symm, hD, hV, _, _, _, _, _, _, _, _, _, _, _, f432, f433, F429, f434, f435, f436, f437, f438, f439, f440, f441, f442, f443, f444⟩
        · have _ := X218
          refine own_by (T' := T218) (f' := (mkF m 173 #[.val (.ref o), .val (.ref ca), .val (.int iv0), .val (.int lv), .val (.int r2), .val (.int (r1 + (1 : Int32))), .unset, .unset, .unset] [])) (fun t k => XS.icmpYes X218.here hx rfl (pc0 := 163) (pc' := 173) rfl (hb hby d4_163) rfl (flt hc163_243).2.1 (by decide) (by decide) k) ?_
          refine own_by (T' := T218) (f' := (mkF m 174 #[.val (.ref o), .val (.ref ca), .val (.int iv0), .val (.int lv), .val (.int r2), .val (.int (r1 + (1 : Int32))), .unset, .unset, .unset] [(.int (0 : Int32))])) (fun t k => XS.iconst X218.here hx rfl (hb hby d4_173) k) ?_
          refine own_by (T' := T218) (f' := (mkF m 176 #[.val (.ref o), .val (.ref ca), .val (.int iv0), .val (.int lv), .val (.int r2), .val (.int (0 : Int32)), .unset, .unset, .unset] [])) (fun t k => XS.istore X218.here hx rfl (hb hby d4_174) rfl (l' := #[.val (.ref o), .val (.ref ca), .val (.int iv0), .val (.int lv), .val (.int r2), .val (.int (0 : Int32)), .unset, .unset, .unset]) rfl k) ?_
          refine own_by (T' := T218) (f' := (mkF m 177 #[.val (.ref o), .val (.ref ca), .val (.int iv0), .val (.int lv), .val (.int r2), .val (.int (0 : Int32)), .unset, .unset, .unset] [(.ref o)])) (fun t k => XS.aloadN X218.here hx rfl (hb hby d4_176) rfl rfl k) ?_
          refine own_by (T' := T218) (f' := (mkF m 179 #[.val (.ref o), .val (.ref ca), .val (.int iv0), .val (.int lv), .val (.int r2), .val (.int (0 : Int32)), .unset, .unset, .unset] [(.int (0 : Int32)), (.ref o)])) (fun t k => XS.iload X218.here hx rfl (hb hby d4_177) rfl k) ?_
          refine own_by (T' := T218) (f' := (mkF m 181 #[.val (.ref o), .val (.ref ca), .val (.int iv0), .val (.int lv), .val (.int r2), .val (.int (0 : Int32)), .unset, .unset, .unset] [(.int (101 : Int32)), (.int (0 : Int32)), (.ref o)])) (fun t k => XS.bipush X218.here hx rfl (hb hby d4_179) k) ?_
          refine own_by (T' := T218) (f' := (mkF m 184 #[.val (.ref o), .val (.ref ca), .val (.int iv0), .val (.int lv), .val (.int r2), .val (.int (0 : Int32)), .unset, .unset, .unset] [(.ref o)])) (fun t k => XS.icmpNo X218.here hx rfl (hb hby d4_181) rfl (feq (by decide)).1 k) ?_
          refine own_by (T' := T218) (f' := (mkF m 186 #[.val (.ref o), .val (.ref ca), .val (.int iv0), .val (.int lv), .val (.int r2), .val (.int (0 : Int32)), .unset, .unset, .unset] [(.int (0 : Int32)), (.ref o)])) (fun t k => XS.iload X218.here hx rfl (hb hby d4_184) rfl k) ?_
          refine own_by (T' := T218) (f' := (mkF m 188 #[.val (.ref o), .val (.ref ca), .val (.int iv0), .val (.int lv), .val (.int r2), .val (.int (0 : Int32)), .unset, .unset, .unset] [(.int (69 : Int32)), (.int (0 : Int32)), (.ref o)])) (fun t k => XS.bipush X218.here hx rfl (hb hby d4_186) k) ?_
          refine own_by (T' := T218) (f' := (mkF m 195 #[.val (.ref o), .val (.ref ca), .val (.int iv0), .val (.int lv), .val (.int r2), .val (.int (0 : Int32)), .unset, .unset, .unset] [(.ref o)])) (fun t k => XS.icmpYes X218.here hx rfl (pc0 := 188) (pc' := 195) rfl (hb hby d4_188) rfl (feq (by decide)).2 (by decide) (by decide) k) ?_
          refine own_by (T' := T218) (f' := (mkF m 196 #[.val (.ref o), .val (.ref ca), .val (.int iv0), .val (.int lv), .val (.int r2), .val (.int (0 : Int32)), .unset, .unset, .unset] [(.int (0 : Int32)), (.ref o)])) (fun t k => XS.iconst X218.here hx rfl (hb hby d4_195) k) ?_
          have f445 := (F209.other W214 (Or.inr (sn_54 hw)))
          have f446 := (f213.wr W214)
          refine own_putF (host := "") X218 hx hZ hown e218 (hb hby d4_196) (Or.inl (own_w hw 49 rfl)) Via.refl f445 f446 (Or.inl (own_w hw 50 rfl)) (own_w hw 7 rfl) (ty := .boolean) (by decide) rfl rfl ?_
          intro T447 h447 X447 e447 W447
          show own_Go p e below _ T447 (mkF m 199 #[.val (.ref o), .val (.ref ca), .val (.int iv0), .val (.int lv), .val (.int r2), .val (.int (0 : Int32)), .unset, .unset, .unset] [])
          have F447 := f445.same W447
          have sz448 : n0 ≤ h447.size := by rw [W447.size]; exact sz215
          have K449 := K216.wr W447 (Or.inl (List.mem_of_getElem? (i := 0) rfl))
          have N447 := Fr.snoc X447 N214 go
          refine own_by (T' := T447) (f' := (mkF m 200 #[.val (.ref o), .val (.ref ca), .val (.int iv0), .val (.int lv), .val (.int r2), .val (.int (0 : Int32)), .unset, .unset, .unset] [(.ref o)])) (fun t k => XS.aloadN X447.here hx rfl (hb hby d4_199) rfl rfl k) ?_
          refine own_getF (host := "") X447 hx hZ hown e447 (hb hby d4_200) (Or.inl (own_w hw 49 rfl)) Via.refl F447 ?_
          intro T450 X450 e450
          show own_Go p e below _ T450 (mkF m 203 #[.val (.ref o), .val (.ref ca), .val (.int iv0), .val (.int lv), .val (.int r2), .val (.int (0 : Int32)), .unset, .unset, .unset] [(.int (0 : Int32))])
          refine own_by (T' := T450) (f' := (mkF m 341 #[.val (.ref o), .val (.ref ca), .val (.int iv0), .val (.int lv), .val (.int r2), .val (.int (0 : Int32)), .unset, .unset, .unset] [])) (fun t k => XS.ifYes X450.here hx rfl (pc0 := 203) (pc' := 341) rfl (hb hby d4_203) rfl ((if0 _ _).trans (teq rfl).1) (by decide) (by decide) k) ?_
          refine own_by (T' := T450) (f' := (mkF m 342 #[.val (.ref o), .val (.ref ca), .val (.int iv0), .val (.int lv), .val (.int r2), .val (.int (0 : Int32)), .unset, .unset, .unset] [(.ref o)])) (fun t k => XS.aloadN X450.here hx rfl (hb hby d4_341) rfl rfl k) ?_
          refine own_by (T' := T450) (f' := (mkF m 344 #[.val (.ref o), .val (.ref ca), .val (.int iv0), .val (.int lv), .val (.int r2), .val (.int (0 : Int32)), .unset, .unset, .unset] [(.int r2), (.ref o)])) (fun t k => XS.iload X450.here hx rfl (hb hby d4_342) rfl k) ?_
          have f451 := (((((P2_2.other W197 (Or.inr (sn_116 hw))).other W204 (Or.inr (sn_148 hw))).other W209 (Or.inr (sn_172 hw))).other W214 (Or.inr (sn_40 hw))).other W447 (Or.inr (sn_172 hw)))
          have f452 := (f446.wr W447)
          refine own_putF (host := "") X450 hx hZ hown e450 (hb hby d4_344) (Or.inl (own_w hw 53 rfl)) Via.refl f451 f452 (Or.inl (own_w hw 54 rfl)) (own_w hw 7 rfl) (ty := .int) (by decide) rfl rfl ?_
          intro T453 h453 X453 e453 W453
          show own_Go p e below _ T453 (mkF m 347 #[.val (.ref o), .val (.ref ca), .val (.int iv0), .val (.int lv), .val (.int r2), .val (.int (0 : Int32)), .unset, .unset, .unset] [])
          have F453 := f451.same W453
          have sz454 : n0 ≤ h453.size := by rw [W453.size]; exact sz448
          have K455 := K449.wr W453 (Or.inl (List.mem_of_getElem? (i := 0) rfl))
          have N453 := Fr.snoc X453 N447 go
          refine own_by (T' := T453) (f' := (mkF m 348 #[.val (.ref o), .val (.ref ca), .val (.int iv0), .val (.int lv), .val (.int r2), .val (.int (0 : Int32)), .unset, .unset, .unset] [(.ref o)])) (fun t k => XS.aloadN X453.here hx rfl (hb hby d4_347) rfl rfl k) ?_
          have hpt : own_pnt f j0 lim := ⟨own_ltn hr1 hl hc66_167, hc75_169⟩
          have ep2 : own_p2 f j0 lim = (own_rp f (lim - (own_p1 f j0 lim + 1)) (own_p1 f j0 lim + 1)) := if_pos hpt
          have es2 : own_s2 f j0 lim = (own_rs f (lim - (own_p1 f j0 lim + 1)) (own_p1 f j0 lim + 1) (own_s1 f j0 lim)) := if_pos hpt
          have hV : sv2.toInt = ((own_s2 f j0 lim : Nat) : Int) := by rw [es2]; exact hsv2
          have hD : dv2.toInt = ((own_dgs f j0 lim : Nat) : Int) := by rw [own_dgs, if_pos hpt, ep2]; exact hd2
          have z0 : (0 : Int32).toInt = ((0 : Nat) : Int) := by decide
          have f456 := ((((((P2_0.other W197 (Or.inr (sn_108 hw))).other W204 (Or.inr (sn_144 hw))).other W209 (Or.inr (sn_173 hw))).other W214 (Or.inr (sn_42 hw))).other W447 (Or.inr (sn_173 hw))).other W453 (Or.inr (sn_44 hw)))
          have f457 := ((((((P2_1.other W197 (Or.inr (sn_111 hw))).other W204 (Or.inr (sn_146 hw))).other W209 (Or.inr (sn_174 hw))).other W214 (Or.inr (sn_45 hw))).other W447 (Or.inr (sn_174 hw))).other W453 (Or.inr (sn_47 hw)))
          have f458 := ((f217.other W447 (Or.inr (sn_170 hw))).other W453 (Or.inr (sn_50 hw)))
          have f459 := ((((((P2_4.other W197 (Or.inr (sn_126 hw))).other W204 (Or.inr (sn_143 hw))).other W209 (Or.inr (sn_171 hw))).other W214 (Or.inr (sn_51 hw))).other W447 (Or.inr (sn_171 hw))).other W453 (Or.inr (sn_53 hw)))
          have f460 := (F447.other W453 (Or.inr (sn_56 hw)))
          have f461 := ((F214.other W447 (Or.inr (sn_169 hw))).other W453 (Or.inr (sn_58 hw)))
          have f462 := ((((((P2_7.other W197 (Or.inr (sn_138 hw))).other W204 (Or.inr (sn_155 hw))).other W209 (Or.inr (sn_175 hw))).other W214 (Or.inr (sn_59 hw))).other W447 (Or.inr (sn_175 hw))).other W453 (Or.inr (sn_61 hw)))
          have f463 := ((((((P2_8.other W197 (Or.inr (sn_139 hw))).other W204 (Or.inr (sn_157 hw))).other W209 (Or.inr (sn_176 hw))).other W214 (Or.inr (sn_62 hw))).other W447 (Or.inr (sn_176 hw))).other W453 (Or.inr (sn_64 hw)))
          have f464 := ((((((P2_9.other W197 (Or.inr (sn_140 hw))).other W204 (Or.inr (sn_159 hw))).other W209 (Or.inr (sn_177 hw))).other W214 (Or.inr (sn_65 hw))).other W447 (Or.inr (sn_177 hw))).other W453 (Or.inr (sn_67 hw)))
          have f465 := ((((((P2_10.other W197 (Or.inr (sn_141 hw))).other W204 (Or.inr (sn_161 hw))).other W209 (Or.inr (sn_178 hw))).other W214 (Or.inr (sn_68 hw))).other W447 (Or.inr (sn_178 hw))).other W453 (Or.inr (sn_70 hw)))
          have f466 := ((((((P2_11.other W197 (Or.inr (sn_142 hw))).other W204 (Or.inr (sn_163 hw))).other W209 (Or.inr (sn_179 hw))).other W214 (Or.inr (sn_71 hw))).other W447 (Or.inr (sn_179 hw))).other W453 (Or.inr (sn_73 hw)))
          have f467 := (((((F197.other W204 (Or.inr (sn_165 hw))).other W209 (Or.inr (sn_180 hw))).other W214 (Or.inr (sn_74 hw))).other W447 (Or.inr (sn_180 hw))).other W453 (Or.inr (sn_76 hw)))
          have f468 := ((((((P2_13.other W197 (Or.inr (sn_104 hw))).other W204 (Or.inr (sn_167 hw))).other W209 (Or.inr (sn_181 hw))).other W214 (Or.inr (sn_39 hw))).other W447 (Or.inr (sn_181 hw))).other W453 (Or.inr (sn_77 hw)))
          refine own_retA X453 hx hret hlk (hb hby d4_348) rfl rfl rfl (by decide) (by decide) ?_
          try rw [e453]
          exact ⟨rfl, N453, K455, _, _, _, (if_neg (fun q => own_nltn hr2 hl hc163_243 (ep2 ▸ q.2.1))).symm, hD, hV, _, _, _, _, _, _, _, _, _, _, _, f456, f457, F453, f458, f459, f460, f461, f462, f463, f464, f465, f466, f467, f468⟩
    · have _ := X164
      refine own_by (T' := T164) (f' := (mkF m 82 #[.val (.ref o), .val (.ref ca), .val (.int iv0), .val (.int lv), .val (.int r1), .unset, .unset, .unset, .unset] [(.ref o)])) (fun t k => XS.icmpYes X164.here hx rfl (pc0 := 75) (pc' := 82) rfl (hb hby d4_75) rfl (feq hc75_169).2 (by decide) (by decide) k) ?_
      refine own_by (T' := T164) (f' := (mkF m 83 #[.val (.ref o), .val (.ref ca), .val (.int iv0), .val (.int lv), .val (.int r1), .unset, .unset, .unset, .unset] [(.int (0 : Int32)), (.ref o)])) (fun t k => XS.iconst X164.here hx rfl (hb hby d4_82) k) ?_
      have f469 := (P1_4.other W164 (Or.inr (sn_143 hw)))
      have f470 := (f163.wr W164)
      refine own_putF (host := "") X164 hx hZ hown e164 (hb hby d4_83) (Or.inl (own_w hw 47 rfl)) Via.refl f469 f470 (Or.inl (own_w hw 48 rfl)) (own_w hw 7 rfl) (ty := .boolean) (by decide) rfl rfl ?_
      intro T471 h471 X471 e471 W471
      show own_Go p e below _ T471 (mkF m 86 #[.val (.ref o), .val (.ref ca), .val (.int iv0), .val (.int lv), .val (.int r1), .unset, .unset, .unset, .unset] [])
      have F471 := f469.same W471
      have sz472 : n0 ≤ h471.size := by rw [W471.size]; exact sz165
      have K473 := K166.wr W471 (Or.inl (List.mem_of_getElem? (i := 0) rfl))
      have N471 := Fr.snoc X471 N164 go
      refine own_by (T' := T471) (f' := (mkF m 87 #[.val (.ref o), .val (.ref ca), .val (.int iv0), .val (.int lv), .val (.int r1), .unset, .unset, .unset, .unset] [(.ref o)])) (fun t k => XS.aloadN X471.here hx rfl (hb hby d4_86) rfl rfl k) ?_
      refine own_getF (host := "") X471 hx hZ hown e471 (hb hby d4_87) (Or.inl (own_w hw 47 rfl)) Via.refl F471 ?_
      intro T474 X474 e474
      show own_Go p e below _ T474 (mkF m 90 #[.val (.ref o), .val (.ref ca), .val (.int iv0), .val (.int lv), .val (.int r1), .unset, .unset, .unset, .unset] [(.int (0 : Int32))])
      refine own_by (T' := T474) (f' := (mkF m 131 #[.val (.ref o), .val (.ref ca), .val (.int iv0), .val (.int lv), .val (.int r1), .unset, .unset, .unset, .unset] [])) (fun t k => XS.ifYes X474.here hx rfl (pc0 := 90) (pc' := 131) rfl (hb hby d4_90) rfl ((if0 _ _).trans (teq rfl).1) (by decide) (by decide) k) ?_
      refine own_by (T' := T474) (f' := (mkF m 132 #[.val (.ref o), .val (.ref ca), .val (.int iv0), .val (.int lv), .val (.int r1), .unset, .unset, .unset, .unset] [(.ref o)])) (fun t k => XS.aloadN X474.here hx rfl (hb hby d4_131) rfl rfl k) ?_
      refine own_by (T' := T474) (f' := (mkF m 133 #[.val (.ref o), .val (.ref ca), .val (.int iv0), .val (.int lv), .val (.int r1), .unset, .unset, .unset, .unset] [(.int (0 : Int32)), (.ref o)])) (fun t k => XS.iconst X474.here hx rfl (hb hby d4_132) k) ?_
      have f475 := ((P1_5.other W164 (Or.inr (sn_151 hw))).other W471 (Or.inr (sn_152 hw)))
      have f476 := (f470.wr W471)
      refine own_putF (host := "") X474 hx hZ hown e474 (hb hby d4_133) (Or.inl (own_w hw 49 rfl)) Via.refl f475 f476 (Or.inl (own_w hw 50 rfl)) (own_w hw 7 rfl) (ty := .boolean) (by decide) rfl rfl ?_
      intro T477 h477 X477 e477 W477
      show own_Go p e below _ T477 (mkF m 136 #[.val (.ref o), .val (.ref ca), .val (.int iv0), .val (.int lv), .val (.int r1), .unset, .unset, .unset, .unset] [])
      have F477 := f475.same W477
      have sz478 : n0 ≤ h477.size := by rw [W477.size]; exact sz472
      have K479 := K473.wr W477 (Or.inl (List.mem_of_getElem? (i := 0) rfl))
      have N477 := Fr.snoc X477 N471 go
      refine own_by (T' := T477) (f' := (mkF m 137 #[.val (.ref o), .val (.ref ca), .val (.int iv0), .val (.int lv), .val (.int r1), .unset, .unset, .unset, .unset] [(.ref o)])) (fun t k => XS.aloadN X477.here hx rfl (hb hby d4_136) rfl rfl k) ?_
      refine own_by (T' := T477) (f' := (mkF m 138 #[.val (.ref o), .val (.ref ca), .val (.int iv0), .val (.int lv), .val (.int r1), .unset, .unset, .unset, .unset] [(.int (0 : Int32)), (.ref o)])) (fun t k => XS.iconst X477.here hx rfl (hb hby d4_137) k) ?_
      have f480 := (((P1_6.other W164 (Or.inr (sn_153 hw))).other W471 (Or.inr (sn_154 hw))).other W477 (Or.inr (sn_169 hw)))
      have f481 := (f476.wr W477)
      refine own_putF (host := "") X477 hx hZ hown e477 (hb hby d4_138) (Or.inl (own_w hw 51 rfl)) Via.refl f480 f481 (Or.inl (own_w hw 52 rfl)) (own_w hw 7 rfl) (ty := .boolean) (by decide) rfl rfl ?_
      intro T482 h482 X482 e482 W482
      show own_Go p e below _ T482 (mkF m 141 #[.val (.ref o), .val (.ref ca), .val (.int iv0), .val (.int lv), .val (.int r1), .unset, .unset, .unset, .unset] [])
      have F482 := f480.same W482
      have sz483 : n0 ≤ h482.size := by rw [W482.size]; exact sz478
      have K484 := K479.wr W482 (Or.inl (List.mem_of_getElem? (i := 0) rfl))
      have N482 := Fr.snoc X482 N477 go
      refine own_by (T' := T482) (f' := (mkF m 142 #[.val (.ref o), .val (.ref ca), .val (.int iv0), .val (.int lv), .val (.int r1), .unset, .unset, .unset, .unset] [(.ref o)])) (fun t k => XS.aloadN X482.here hx rfl (hb hby d4_141) rfl rfl k) ?_
      have f485 := (((F164.other W471 (Or.inr (sn_150 hw))).other W477 (Or.inr (sn_170 hw))).other W482 (Or.inr (sn_48 hw)))
      refine own_getF (host := "") X482 hx hZ hown e482 (hb hby d4_142) (Or.inl (own_w hw 45 rfl)) Via.refl f485 ?_
      intro T486 X486 e486
      show own_Go p e below _ T486 (mkF m 145 #[.val (.ref o), .val (.ref ca), .val (.int iv0), .val (.int lv), .val (.int r1), .unset, .unset, .unset, .unset] [(.int dv1)])
      by_cases hc145_487 : dv1 = (0 : Int32)
      · have _ := X486
        refine own_by (T' := T486) (f' := (mkF m 148 #[.val (.ref o), .val (.ref ca), .val (.int iv0), .val (.int lv), .val (.int r1), .unset, .unset, .unset, .unset] [])) (fun t k => XS.ifNo X486.here hx rfl (hb hby d4_145) rfl ((if0 _ _).trans (teq hc145_487).2) k) ?_
        refine own_by (T' := T486) (f' := (mkF m 149 #[.val (.ref o), .val (.ref ca), .val (.int iv0), .val (.int lv), .val (.int r1), .unset, .unset, .unset, .unset] [(.ref o)])) (fun t k => XS.aloadN X486.here hx rfl (hb hby d4_148) rfl rfl k) ?_
        refine own_by (T' := T486) (f' := (mkF m 150 #[.val (.ref o), .val (.ref ca), .val (.int iv0), .val (.int lv), .val (.int r1), .unset, .unset, .unset, .unset] [(.int (0 : Int32)), (.ref o)])) (fun t k => XS.iconst X486.here hx rfl (hb hby d4_149) k) ?_
        have f488 := ((F471.other W477 (Or.inr (sn_171 hw))).other W482 (Or.inr (sn_51 hw)))
        have f489 := (f481.wr W482)
        refine own_putF (host := "") X486 hx hZ hown e486 (hb hby d4_150) (Or.inl (own_w hw 47 rfl)) Via.refl f488 f489 (Or.inl (own_w hw 48 rfl)) (own_w hw 7 rfl) (ty := .boolean) (by decide) rfl rfl ?_
        intro T490 h490 X490 e490 W490
        show own_Go p e below _ T490 (mkF m 153 #[.val (.ref o), .val (.ref ca), .val (.int iv0), .val (.int lv), .val (.int r1), .unset, .unset, .unset, .unset] [])
        have F490 := f488.same W490
        have sz491 : n0 ≤ h490.size := by rw [W490.size]; exact sz483
        have K492 := K484.wr W490 (Or.inl (List.mem_of_getElem? (i := 0) rfl))
        have N490 := Fr.snoc X490 N482 go
        refine own_by (T' := T490) (f' := (mkF m 154 #[.val (.ref o), .val (.ref ca), .val (.int iv0), .val (.int lv), .val (.int r1), .unset, .unset, .unset, .unset] [(.ref o)])) (fun t k => XS.aloadN X490.here hx rfl (hb hby d4_153) rfl rfl k) ?_
        refine own_by (T' := T490) (f' := (mkF m 155 #[.val (.ref o), .val (.ref ca), .val (.int iv0), .val (.int lv), .val (.int r1), .unset, .unset, .unset, .unset] [(.int iv0), (.ref o)])) (fun t k => XS.iloadN X490.here hx rfl (hb hby d4_154) rfl k) ?_
        have f493 := (((((P1_2.other W164 (Or.inr (sn_148 hw))).other W471 (Or.inr (sn_149 hw))).other W477 (Or.inr (sn_172 hw))).other W482 (Or.inr (sn_40 hw))).other W490 (Or.inr (sn_149 hw)))
        have f494 := (f489.wr W490)
        refine own_putF (host := "") X490 hx hZ hown e490 (hb hby d4_155) (Or.inl (own_w hw 53 rfl)) Via.refl f493 f494 (Or.inl (own_w hw 54 rfl)) (own_w hw 7 rfl) (ty := .int) (by decide) rfl rfl ?_
        intro T495 h495 X495 e495 W495
        show own_Go p e below _ T495 (mkF m 158 #[.val (.ref o), .val (.ref ca), .val (.int iv0), .val (.int lv), .val (.int r1), .unset, .unset, .unset, .unset] [])
        have F495 := f493.same W495
        have sz496 : n0 ≤ h495.size := by rw [W495.size]; exact sz491
        have K497 := K492.wr W495 (Or.inl (List.mem_of_getElem? (i := 0) rfl))
        have N495 := Fr.snoc X495 N490 go
        refine own_by (T' := T495) (f' := (mkF m 159 #[.val (.ref o), .val (.ref ca), .val (.int iv0), .val (.int lv), .val (.int r1), .unset, .unset, .unset, .unset] [(.ref o)])) (fun t k => XS.aloadN X495.here hx rfl (hb hby d4_158) rfl rfl k) ?_
        have hpt : ¬ own_pnt f j0 lim := fun q => hc75_169 q.2
        have ep2 : own_p2 f j0 lim = (own_p1 f j0 lim) := if_neg hpt
        have es2 : own_s2 f j0 lim = (own_s1 f j0 lim) := if_neg hpt
        have hV : sv1.toInt = ((own_s2 f j0 lim : Nat) : Int) := by rw [es2]; exact hsv1
        have hD : dv1.toInt = ((own_dgs f j0 lim : Nat) : Int) := by rw [own_dgs, if_neg hpt]; exact hd1
        have z0 : (0 : Int32).toInt = ((0 : Nat) : Int) := by decide
        have f498 := ((((((P1_0.other W164 (Or.inr (sn_144 hw))).other W471 (Or.inr (sn_145 hw))).other W477 (Or.inr (sn_173 hw))).other W482 (Or.inr (sn_42 hw))).other W490 (Or.inr (sn_145 hw))).other W495 (Or.inr (sn_44 hw)))
        have f499 := ((((((P1_1.other W164 (Or.inr (sn_146 hw))).other W471 (Or.inr (sn_147 hw))).other W477 (Or.inr (sn_174 hw))).other W482 (Or.inr (sn_45 hw))).other W490 (Or.inr (sn_147 hw))).other W495 (Or.inr (sn_47 hw)))
        have f500 := ((f485.other W490 (Or.inr (sn_150 hw))).other W495 (Or.inr (sn_50 hw)))
        have f501 := (F490.other W495 (Or.inr (sn_53 hw)))
        have f502 := (((F477.other W482 (Or.inr (sn_54 hw))).other W490 (Or.inr (sn_152 hw))).other W495 (Or.inr (sn_56 hw)))
        have f503 := ((F482.other W490 (Or.inr (sn_154 hw))).other W495 (Or.inr (sn_58 hw)))
        have f504 := ((((((P1_7.other W164 (Or.inr (sn_155 hw))).other W471 (Or.inr (sn_156 hw))).other W477 (Or.inr (sn_175 hw))).other W482 (Or.inr (sn_59 hw))).other W490 (Or.inr (sn_156 hw))).other W495 (Or.inr (sn_61 hw)))
        have f505 := ((((((P1_8.other W164 (Or.inr (sn_157 hw))).other W471 (Or.inr (sn_158 hw))).other W477 (Or.inr (sn_176 hw))).other W482 (Or.inr (sn_62 hw))).other W490 (Or.inr (sn_158 hw))).other W495 (Or.inr (sn_64 hw)))
        have f506 := ((((((P1_9.other W164 (Or.inr (sn_159 hw))).other W471 (Or.inr (sn_160 hw))).other W477 (Or.inr (sn_177 hw))).other W482 (Or.inr (sn_65 hw))).other W490 (Or.inr (sn_160 hw))).other W495 (Or.inr (sn_67 hw)))
        have f507 := ((((((P1_10.other W164 (Or.inr (sn_161 hw))).other W471 (Or.inr (sn_162 hw))).other W477 (Or.inr (sn_178 hw))).other W482 (Or.inr (sn_68 hw))).other W490 (Or.inr (sn_162 hw))).other W495 (Or.inr (sn_70 hw)))
        have f508 := ((((((P1_11.other W164 (Or.inr (sn_163 hw))).other W471 (Or.inr (sn_164 hw))).other W477 (Or.inr (sn_179 hw))).other W482 (Or.inr (sn_71 hw))).other W490 (Or.inr (sn_164 hw))).other W495 (Or.inr (sn_73 hw)))
        have f509 := ((((((P1_12.other W164 (Or.inr (sn_165 hw))).other W471 (Or.inr (sn_166 hw))).other W477 (Or.inr (sn_180 hw))).other W482 (Or.inr (sn_74 hw))).other W490 (Or.inr (sn_166 hw))).other W495 (Or.inr (sn_76 hw)))
        have f510 := ((((((P1_13.other W164 (Or.inr (sn_167 hw))).other W471 (Or.inr (sn_168 hw))).other W477 (Or.inr (sn_181 hw))).other W482 (Or.inr (sn_39 hw))).other W490 (Or.inr (sn_168 hw))).other W495 (Or.inr (sn_77 hw)))
        refine own_retA X495 hx hret hlk (hb hby d4_159) rfl rfl rfl (by decide) (by decide) ?_
        try rw [e495]
        exact ⟨rfl, N495, K497, _, _, _, (if_neg (fun q => q.1 (own_eqn hD z0 hc145_487))).symm, hD, hV, _, _, _, _, _, _, _, _, _, _, _, f498, f499, F495, f500, f501, f502, f503, f504, f505, f506, f507, f508, f509, f510⟩
      · have _ := X486
        refine own_by (T' := T486) (f' := (mkF m 160 #[.val (.ref o), .val (.ref ca), .val (.int iv0), .val (.int lv), .val (.int r1), .unset, .unset, .unset, .unset] [])) (fun t k => XS.ifYes X486.here hx rfl (pc0 := 145) (pc' := 160) rfl (hb hby d4_145) rfl ((if0 _ _).trans (feq hc145_487).2) (by decide) (by decide) k) ?_
        refine own_by (T' := T486) (f' := (mkF m 162 #[.val (.ref o), .val (.ref ca), .val (.int iv0), .val (.int lv), .val (.int r1), .unset, .unset, .unset, .unset] [(.int r1)])) (fun t k => XS.iload X486.here hx rfl (hb hby d4_160) rfl k) ?_
        refine own_by (T' := T486) (f' := (mkF m 163 #[.val (.ref o), .val (.ref ca), .val (.int iv0), .val (.int lv), .val (.int r1), .unset, .unset, .unset, .unset] [(.int lv), (.int r1)])) (fun t k => XS.iloadN X486.here hx rfl (hb hby d4_162) rfl k) ?_
        refine own_by (T' := T486) (f' := (mkF m 166 #[.val (.ref o), .val (.ref ca), .val (.int iv0), .val (.int lv), .val (.int r1), .unset, .unset, .unset, .unset] [])) (fun t k => XS.icmpNo X486.here hx rfl (hb hby d4_163) rfl (tlt hc66_167).2.1 k) ?_
        refine own_by (T' := T486) (f' := (mkF m 167 #[.val (.ref o), .val (.ref ca), .val (.int iv0), .val (.int lv), .val (.int r1), .unset, .unset, .unset, .unset] [(.ref ca)])) (fun t k => XS.aloadN X486.here hx rfl (hb hby d4_166) rfl rfl k) ?_
        refine own_by (T' := T486) (f' := (mkF m 169 #[.val (.ref o), .val (.ref ca), .val (.int iv0), .val (.int lv), .val (.int r1), .unset, .unset, .unset, .unset] [(.int r1), (.ref ca)])) (fun t k => XS.iload X486.here hx rfl (hb hby d4_167) rfl k) ?_
        have lq169 := own_ltn hr1 hl hc66_167
        have f511 := (((f168.other W471 nco).other W477 nco).other W482 nco)
        refine own_ldC X486 hx hZ e486 (hb hby d4_169) f511 (by omega) (by omega) ?_
        rw [show r1.toInt.toNat = (own_p1 f j0 lim) from by omega]
        show own_Go p e below _ T486 (mkF m 170 #[.val (.ref o), .val (.ref ca), .val (.int iv0), .val (.int lv), .val (.int r1), .unset, .unset, .unset, .unset] [(.int (f (own_p1 f j0 lim)))])
        refine own_by (T' := T486) (f' := (mkF m 174 #[.val (.ref o), .val (.ref ca), .val (.int iv0), .val (.int lv), .val (.int r1), .unset, .unset, .unset, .unset] [(.int (f (own_p1 f j0 lim)))])) (fun t k => XS.goto X486.here hx rfl (pc0 := 170) (pc' := 174) rfl (hb hby d4_170) (by decide) (by decide) k) ?_
        refine own_by (T' := T486) (f' := (mkF m 176 #[.val (.ref o), .val (.ref ca), .val (.int iv0), .val (.int lv), .val (.int r1), .val (.int (f (own_p1 f j0 lim))), .unset, .unset, .unset] [])) (fun t k => XS.istore X486.here hx rfl (hb hby d4_174) rfl (l' := #[.val (.ref o), .val (.ref ca), .val (.int iv0), .val (.int lv), .val (.int r1), .val (.int (f (own_p1 f j0 lim))), .unset, .unset, .unset]) rfl k) ?_
        refine own_by (T' := T486) (f' := (mkF m 177 #[.val (.ref o), .val (.ref ca), .val (.int iv0), .val (.int lv), .val (.int r1), .val (.int (f (own_p1 f j0 lim))), .unset, .unset, .unset] [(.ref o)])) (fun t k => XS.aloadN X486.here hx rfl (hb hby d4_176) rfl rfl k) ?_
        refine own_by (T' := T486) (f' := (mkF m 179 #[.val (.ref o), .val (.ref ca), .val (.int iv0), .val (.int lv), .val (.int r1), .val (.int (f (own_p1 f j0 lim))), .unset, .unset, .unset] [(.int (f (own_p1 f j0 lim))), (.ref o)])) (fun t k => XS.iload X486.here hx rfl (hb hby d4_177) rfl k) ?_
        refine own_by (T' := T486) (f' := (mkF m 181 #[.val (.ref o), .val (.ref ca), .val (.int iv0), .val (.int lv), .val (.int r1), .val (.int (f (own_p1 f j0 lim))), .unset, .unset, .unset] [(.int (101 : Int32)), (.int (f (own_p1 f j0 lim))), (.ref o)])) (fun t k => XS.bipush X486.here hx rfl (hb hby d4_179) k) ?_
        by_cases hc181_512 : (f (own_p1 f j0 lim)) = (101 : Int32)
        · have _ := X486
          refine own_by (T' := T486) (f' := (mkF m 191 #[.val (.ref o), .val (.ref ca), .val (.int iv0), .val (.int lv), .val (.int r1), .val (.int (f (own_p1 f j0 lim))), .unset, .unset, .unset] [(.ref o)])) (fun t k => XS.icmpYes X486.here hx rfl (pc0 := 181) (pc' := 191) rfl (hb hby d4_181) rfl (teq hc181_512).1 (by decide) (by decide) k) ?_
          refine own_by (T' := T486) (f' := (mkF m 192 #[.val (.ref o), .val (.ref ca), .val (.int iv0), .val (.int lv), .val (.int r1), .val (.int (f (own_p1 f j0 lim))), .unset, .unset, .unset] [(.int (1 : Int32)), (.ref o)])) (fun t k => XS.iconst X486.here hx rfl (hb hby d4_191) k) ?_
          refine own_by (T' := T486) (f' := (mkF m 196 #[.val (.ref o), .val (.ref ca), .val (.int iv0), .val (.int lv), .val (.int r1), .val (.int (f (own_p1 f j0 lim))), .unset, .unset, .unset] [(.int (1 : Int32)), (.ref o)])) (fun t k => XS.goto X486.here hx rfl (pc0 := 192) (pc' := 196) rfl (hb hby d4_192) (by decide) (by decide) k) ?_
          have f513 := (F477.other W482 (Or.inr (sn_54 hw)))
          have f514 := (f481.wr W482)
          refine own_putF (host := "") X486 hx hZ hown e486 (hb hby d4_196) (Or.inl (own_w hw 49 rfl)) Via.refl f513 f514 (Or.inl (own_w hw 50 rfl)) (own_w hw 7 rfl) (ty := .boolean) (by decide) rfl rfl ?_
          intro T515 h515 X515 e515 W515
          show own_Go p e below _ T515 (mkF m 199 #[.val (.ref o), .val (.ref ca), .val (.int iv0), .val (.int lv), .val (.int r1), .val (.int (f (own_p1 f j0 lim))), .unset, .unset, .unset] [])
          have F515 := f513.same W515
          have sz516 : n0 ≤ h515.size := by rw [W515.size]; exact sz483
          have K517 := K484.wr W515 (Or.inl (List.mem_of_getElem? (i := 0) rfl))
          have N515 := Fr.snoc X515 N482 go
          refine own_by (T' := T515) (f' := (mkF m 200 #[.val (.ref o), .val (.ref ca), .val (.int iv0), .val (.int lv), .val (.int r1), .val (.int (f (own_p1 f j0 lim))), .unset, .unset, .unset] [(.ref o)])) (fun t k => XS.aloadN X515.here hx rfl (hb hby d4_199) rfl rfl k) ?_
          refine own_getF (host := "") X515 hx hZ hown e515 (hb hby d4_200) (Or.inl (own_w hw 49 rfl)) Via.refl F515 ?_
          intro T518 X518 e518
          show own_Go p e below _ T518 (mkF m 203 #[.val (.ref o), .val (.ref ca), .val (.int iv0), .val (.int lv), .val (.int r1), .val (.int (f (own_p1 f j0 lim))), .unset, .unset, .unset] [(.int (1 : Int32))])
          refine own_by (T' := T518) (f' := (mkF m 206 #[.val (.ref o), .val (.ref ca), .val (.int iv0), .val (.int lv), .val (.int r1), .val (.int (f (own_p1 f j0 lim))), .unset, .unset, .unset] [])) (fun t k => XS.ifNo X518.here hx rfl (hb hby d4_203) rfl ((if0 _ _).trans (feq (by decide)).1) k) ?_
          refine own_by (T' := T518) (f' := (mkF m 209 #[.val (.ref o), .val (.ref ca), .val (.int iv0), .val (.int lv), .val (.int (r1 + (1 : Int32))), .val (.int (f (own_p1 f j0 lim))), .unset, .unset, .unset] [])) (fun t k => XS.iinc X518.here hx rfl (hb hby d4_206) rfl (l' := #[.val (.ref o), .val (.ref ca), .val (.int iv0), .val (.int lv), .val (.int (r1 + (1 : Int32))), .val (.int (f (own_p1 f j0 lim))), .unset, .unset, .unset]) rfl k) ?_
          refine own_by (T' := T518) (f' := (mkF m 211 #[.val (.ref o), .val (.ref ca), .val (.int iv0), .val (.int lv), .val (.int (r1 + (1 : Int32))), .val (.int (f (own_p1 f j0 lim))), .unset, .unset, .unset] [(.int (r1 + (1 : Int32)))])) (fun t k => XS.iload X518.here hx rfl (hb hby d4_209) rfl k) ?_
          refine own_by (T' := T518) (f' := (mkF m 212 #[.val (.ref o), .val (.ref ca), .val (.int iv0), .val (.int lv), .val (.int (r1 + (1 : Int32))), .val (.int (f (own_p1 f j0 lim))), .unset, .unset, .unset] [(.int lv), (.int (r1 + (1 : Int32)))])) (fun t k => XS.iloadN X518.here hx rfl (hb hby d4_211) rfl k) ?_
          by_cases hc212_519 : (r1 + (1 : Int32)) < lv
          · have _ := X518
            refine own_by (T' := T518) (f' := (mkF m 215 #[.val (.ref o), .val (.ref ca), .val (.int iv0), .val (.int lv), .val (.int (r1 + (1 : Int32))), .val (.int (f (own_p1 f j0 lim))), .unset, .unset, .unset] [])) (fun t k => XS.icmpNo X518.here hx rfl (hb hby d4_212) rfl (tlt hc212_519).2.1 k) ?_
            refine own_by (T' := T518) (f' := (mkF m 216 #[.val (.ref o), .val (.ref ca), .val (.int iv0), .val (.int lv), .val (.int (r1 + (1 : Int32))), .val (.int (f (own_p1 f j0 lim))), .unset, .unset, .unset] [(.ref ca)])) (fun t k => XS.aloadN X518.here hx rfl (hb hby d4_215) rfl rfl k) ?_
            refine own_by (T' := T518) (f' := (mkF m 218 #[.val (.ref o), .val (.ref ca), .val (.int iv0), .val (.int lv), .val (.int (r1 + (1 : Int32))), .val (.int (f (own_p1 f j0 lim))), .unset, .unset, .unset] [(.int (r1 + (1 : Int32))), (.ref ca)])) (fun t k => XS.iload X518.here hx rfl (hb hby d4_216) rfl k) ?_
            have lt520 := own_ltn hr1 hl hc66_167
            have hi520 := own_inc hr1 lt520 (by omega)
            have le520 : (own_p1 f j0 lim) + 1 ≤ lim := lt520
            have lq218 := own_ltn hi520 hl hc212_519
            have f521 := (f511.other W515 nco)
            have _ : (1 : Int32).toInt = 1 := by decide
            refine own_ldC X518 hx hZ e518 (hb hby d4_218) f521 (by omega) (by omega) ?_
            rw [show (r1 + (1 : Int32)).toInt.toNat = ((own_p1 f j0 lim) + 1) from by omega]
            show own_Go p e below _ T518 (mkF m 219 #[.val (.ref o), .val (.ref ca), .val (.int iv0), .val (.int lv), .val (.int (r1 + (1 : Int32))), .val (.int (f (own_p1 f j0 lim))), .unset, .unset, .unset] [(.int (f ((own_p1 f j0 lim) + 1)))])
            refine own_by (T' := T518) (f' := (mkF m 223 #[.val (.ref o), .val (.ref ca), .val (.int iv0), .val (.int lv), .val (.int (r1 + (1 : Int32))), .val (.int (f (own_p1 f j0 lim))), .unset, .unset, .unset] [(.int (f ((own_p1 f j0 lim) + 1)))])) (fun t k => XS.goto X518.here hx rfl (pc0 := 219) (pc' := 223) rfl (hb hby d4_219) (by decide) (by decide) k) ?_
            refine own_by (T' := T518) (f' := (mkF m 225 #[.val (.ref o), .val (.ref ca), .val (.int iv0), .val (.int lv), .val (.int (r1 + (1 : Int32))), .val (.int (f (own_p1 f j0 lim))), .val (.int (f ((own_p1 f j0 lim) + 1))), .unset, .unset] [])) (fun t k => XS.istore X518.here hx rfl (hb hby d4_223) rfl (l' := #[.val (.ref o), .val (.ref ca), .val (.int iv0), .val (.int lv), .val (.int (r1 + (1 : Int32))), .val (.int (f (own_p1 f j0 lim))), .val (.int (f ((own_p1 f j0 lim) + 1))), .unset, .unset]) rfl k) ?_
            refine own_by (T' := T518) (f' := (mkF m 227 #[.val (.ref o), .val (.ref ca), .val (.int iv0), .val (.int lv), .val (.int (r1 + (1 : Int32))), .val (.int (f (own_p1 f j0 lim))), .val (.int (f ((own_p1 f j0 lim) + 1))), .unset, .unset] [(.int (f ((own_p1 f j0 lim) + 1)))])) (fun t k => XS.iload X518.here hx rfl (hb hby d4_225) rfl k) ?_
            refine own_by (T' := T518) (f' := (mkF m 229 #[.val (.ref o), .val (.ref ca), .val (.int iv0), .val (.int lv), .val (.int (r1 + (1 : Int32))), .val (.int (f (own_p1 f j0 lim))), .val (.int (f ((own_p1 f j0 lim) + 1))), .unset, .unset] [(.int (45 : Int32)), (.int (f ((own_p1 f j0 lim) + 1)))])) (fun t k => XS.bipush X518.here hx rfl (hb hby d4_227) k) ?_
            by_cases hc229_522 : (f ((own_p1 f j0 lim) + 1)) = (45 : Int32)
            · have _ := X518
              refine own_by (T' := T518) (f' := (mkF m 232 #[.val (.ref o), .val (.ref ca), .val (.int iv0), .val (.int lv), .val (.int (r1 + (1 : Int32))), .val (.int (f (own_p1 f j0 lim))), .val (.int (f ((own_p1 f j0 lim) + 1))), .unset, .unset] [])) (fun t k => XS.icmpNo X518.here hx rfl (hb hby d4_229) rfl (teq hc229_522).2 k) ?_
              refine own_by (T' := T518) (f' := (mkF m 233 #[.val (.ref o), .val (.ref ca), .val (.int iv0), .val (.int lv), .val (.int (r1 + (1 : Int32))), .val (.int (f (own_p1 f j0 lim))), .val (.int (f ((own_p1 f j0 lim) + 1))), .unset, .unset] [(.int (1 : Int32))])) (fun t k => XS.iconst X518.here hx rfl (hb hby d4_232) k) ?_
              refine own_by (T' := T518) (f' := (mkF m 237 #[.val (.ref o), .val (.ref ca), .val (.int iv0), .val (.int lv), .val (.int (r1 + (1 : Int32))), .val (.int (f (own_p1 f j0 lim))), .val (.int (f ((own_p1 f j0 lim) + 1))), .unset, .unset] [(.int (1 : Int32))])) (fun t k => XS.goto X518.here hx rfl (pc0 := 233) (pc' := 237) rfl (hb hby d4_233) (by decide) (by decide) k) ?_
              refine own_by (T' := T518) (f' := (mkF m 239 #[.val (.ref o), .val (.ref ca), .val (.int iv0), .val (.int lv), .val (.int (r1 + (1 : Int32))), .val (.int (f (own_p1 f j0 lim))), .val (.int (f ((own_p1 f j0 lim) + 1))), .val (.int (1 : Int32)), .unset] [])) (fun t k => XS.istore X518.here hx rfl (hb hby d4_237) rfl (l' := #[.val (.ref o), .val (.ref ca), .val (.int iv0), .val (.int lv), .val (.int (r1 + (1 : Int32))), .val (.int (f (own_p1 f j0 lim))), .val (.int (f ((own_p1 f j0 lim) + 1))), .val (.int (1 : Int32)), .unset]) rfl k) ?_
              refine own_by (T' := T518) (f' := (mkF m 241 #[.val (.ref o), .val (.ref ca), .val (.int iv0), .val (.int lv), .val (.int (r1 + (1 : Int32))), .val (.int (f (own_p1 f j0 lim))), .val (.int (f ((own_p1 f j0 lim) + 1))), .val (.int (1 : Int32)), .unset] [(.int (f ((own_p1 f j0 lim) + 1)))])) (fun t k => XS.iload X518.here hx rfl (hb hby d4_239) rfl k) ?_
              refine own_by (T' := T518) (f' := (mkF m 243 #[.val (.ref o), .val (.ref ca), .val (.int iv0), .val (.int lv), .val (.int (r1 + (1 : Int32))), .val (.int (f (own_p1 f j0 lim))), .val (.int (f ((own_p1 f j0 lim) + 1))), .val (.int (1 : Int32)), .unset] [(.int (43 : Int32)), (.int (f ((own_p1 f j0 lim) + 1)))])) (fun t k => XS.bipush X518.here hx rfl (hb hby d4_241) k) ?_
              by_cases hc243_523 : (f ((own_p1 f j0 lim) + 1)) = (43 : Int32)
              · have _ := X518
                refine own_by (T' := T518) (f' := (mkF m 251 #[.val (.ref o), .val (.ref ca), .val (.int iv0), .val (.int lv), .val (.int (r1 + (1 : Int32))), .val (.int (f (own_p1 f j0 lim))), .val (.int (f ((own_p1 f j0 lim) + 1))), .val (.int (1 : Int32)), .unset] [])) (fun t k => XS.icmpYes X518.here hx rfl (pc0 := 243) (pc' := 251) rfl (hb hby d4_243) rfl (teq hc243_523).1 (by decide) (by decide) k) ?_
                refine own_by (T' := T518) (f' := (mkF m 254 #[.val (.ref o), .val (.ref ca), .val (.int iv0), .val (.int lv), .val (.int ((r1 + (1 : Int32)) + (1 : Int32))), .val (.int (f (own_p1 f j0 lim))), .val (.int (f ((own_p1 f j0 lim) + 1))), .val (.int (1 : Int32)), .unset] [])) (fun t k => XS.iinc X518.here hx rfl (hb hby d4_251) rfl (l' := #[.val (.ref o), .val (.ref ca), .val (.int iv0), .val (.int lv), .val (.int ((r1 + (1 : Int32)) + (1 : Int32))), .val (.int (f (own_p1 f j0 lim))), .val (.int (f ((own_p1 f j0 lim) + 1))), .val (.int (1 : Int32)), .unset]) rfl k) ?_
                refine own_by (T' := T518) (f' := (mkF m 256 #[.val (.ref o), .val (.ref ca), .val (.int iv0), .val (.int lv), .val (.int ((r1 + (1 : Int32)) + (1 : Int32))), .val (.int (f (own_p1 f j0 lim))), .val (.int (f ((own_p1 f j0 lim) + 1))), .val (.int (1 : Int32)), .unset] [(.int ((r1 + (1 : Int32)) + (1 : Int32)))])) (fun t k => XS.iload X518.here hx rfl (hb hby d4_254) rfl k) ?_
                refine own_by (T' := T518) (f' := (mkF m 258 #[.val (.ref o), .val (.ref ca), .val (.int iv0), .val (.int lv), .val (.int ((r1 + (1 : Int32)) + (1 : Int32))), .val (.int (f (own_p1 f j0 lim))), .val (.int (f ((own_p1 f j0 lim) + 1))), .val (.int (1 : Int32)), .val (.int ((r1 + (1 : Int32)) + (1 : Int32)))] [])) (fun t k => XS.istore X518.here hx rfl (hb hby d4_256) rfl (l' := #[.val (.ref o), .val (.ref ca), .val (.int iv0), .val (.int lv), .val (.int ((r1 + (1 : Int32)) + (1 : Int32))), .val (.int (f (own_p1 f j0 lim))), .val (.int (f ((own_p1 f j0 lim) + 1))), .val (.int (1 : Int32)), .val (.int ((r1 + (1 : Int32)) + (1 : Int32)))]) rfl k) ?_
                have hpt : ¬ own_pnt f j0 lim := fun q => hc75_169 q.2
                have ep2 : own_p2 f j0 lim = (own_p1 f j0 lim) := if_neg hpt
                have es2 : own_s2 f j0 lim = (own_s1 f j0 lim) := if_neg hpt
                have hV : sv1.toInt = ((own_s2 f j0 lim : Nat) : Int) := by rw [es2]; exact hsv1
                have hD : dv1.toInt = ((own_dgs f j0 lim : Nat) : Int) := by rw [own_dgs, if_neg hpt]; exact hd1
                have z0 : (0 : Int32).toInt = ((0 : Nat) : Int) := by decide
                have lt524 := own_ltn hi520 hl hc212_519
                have hi524 := own_inc hi520 lt524 (by omega)
                have le524 : ((own_p1 f j0 lim) + 1) + 1 ≤ lim := lt524
                have f525 := (f514.wr W515)
                have f526 := (((((P1_0.other W164 (Or.inr (sn_144 hw))).other W471 (Or.inr (sn_145 hw))).other W477 (Or.inr (sn_173 hw))).other W482 (Or.inr (sn_42 hw))).other W515 (Or.inr (sn_173 hw)))
                have f527 := (((((P1_1.other W164 (Or.inr (sn_146 hw))).other W471 (Or.inr (sn_147 hw))).other W477 (Or.inr (sn_174 hw))).other W482 (Or.inr (sn_45 hw))).other W515 (Or.inr (sn_174 hw)))
                have f528 := (((((P1_2.other W164 (Or.inr (sn_148 hw))).other W471 (Or.inr (sn_149 hw))).other W477 (Or.inr (sn_172 hw))).other W482 (Or.inr (sn_40 hw))).other W515 (Or.inr (sn_172 hw)))
                have f529 := (f485.other W515 (Or.inr (sn_170 hw)))
                have f530 := (((F471.other W477 (Or.inr (sn_171 hw))).other W482 (Or.inr (sn_51 hw))).other W515 (Or.inr (sn_171 hw)))
                have f531 := (F482.other W515 (Or.inr (sn_169 hw)))
                have f532 := (((((P1_7.other W164 (Or.inr (sn_155 hw))).other W471 (Or.inr (sn_156 hw))).other W477 (Or.inr (sn_175 hw))).other W482 (Or.inr (sn_59 hw))).other W515 (Or.inr (sn_175 hw)))
                have f533 := (((((P1_8.other W164 (Or.inr (sn_157 hw))).other W471 (Or.inr (sn_158 hw))).other W477 (Or.inr (sn_176 hw))).other W482 (Or.inr (sn_62 hw))).other W515 (Or.inr (sn_176 hw)))
                have f534 := (((((P1_9.other W164 (Or.inr (sn_159 hw))).other W471 (Or.inr (sn_160 hw))).other W477 (Or.inr (sn_177 hw))).other W482 (Or.inr (sn_65 hw))).other W515 (Or.inr (sn_177 hw)))
                have f535 := (((((P1_10.other W164 (Or.inr (sn_161 hw))).other W471 (Or.inr (sn_162 hw))).other W477 (Or.inr (sn_178 hw))).other W482 (Or.inr (sn_68 hw))).other W515 (Or.inr (sn_178 hw)))
                have f536 := (((((P1_11.other W164 (Or.inr (sn_163 hw))).other W471 (Or.inr (sn_164 hw))).other W477 (Or.inr (sn_179 hw))).other W482 (Or.inr (sn_71 hw))).other W515 (Or.inr (sn_179 hw)))
                have f537 := (((((P1_12.other W164 (Or.inr (sn_165 hw))).other W471 (Or.inr (sn_166 hw))).other W477 (Or.inr (sn_180 hw))).other W482 (Or.inr (sn_74 hw))).other W515 (Or.inr (sn_180 hw)))
                have f538 := (((((P1_13.other W164 (Or.inr (sn_167 hw))).other W471 (Or.inr (sn_168 hw))).other W477 (Or.inr (sn_181 hw))).other W482 (Or.inr (sn_39 hw))).other W515 (Or.inr (sn_181 hw)))
                exact eloop dv1 sv1 ((if_pos ⟨own_neqn hD z0 hc145_487, by rw [ep2]; exact own_ltn hr1 hl hc66_167, by rw [ep2]; exact Or.inl hc181_512⟩).symm) hD hV (lim - (((own_p1 f j0 lim) + 1) + 1)) (((own_p1 f j0 lim) + 1) + 1) ((r1 + (1 : Int32)) + (1 : Int32)) (0 : Int32) (f (own_p1 f j0 lim)) (f ((own_p1 f j0 lim) + 1)) (1 : Int32) ((r1 + (1 : Int32)) + (1 : Int32)) (.ref ca) (.int iv0) u2 (.int (0 : Int32)) (.int (0 : Int32)) (.int (-1 : Int32)) (.int (0 : Int32)) (.long y9_1) (.long y10_1) (.int (0 : Int32)) T518 h515 _ (by omega) hi524 X518 e518 f521 f525 f526 f527 f528 f529 f530 F515 f531 f532 f533 f534 f535 f536 f537 f538 K517 N515 sz516
              · have _ := X518
                refine own_by (T' := T518) (f' := (mkF m 246 #[.val (.ref o), .val (.ref ca), .val (.int iv0), .val (.int lv), .val (.int (r1 + (1 : Int32))), .val (.int (f (own_p1 f j0 lim))), .val (.int (f ((own_p1 f j0 lim) + 1))), .val (.int (1 : Int32)), .unset] [])) (fun t k => XS.icmpNo X518.here hx rfl (hb hby d4_243) rfl (feq hc243_523).1 k) ?_
                refine own_by (T' := T518) (f' := (mkF m 248 #[.val (.ref o), .val (.ref ca), .val (.int iv0), .val (.int lv), .val (.int (r1 + (1 : Int32))), .val (.int (f (own_p1 f j0 lim))), .val (.int (f ((own_p1 f j0 lim) + 1))), .val (.int (1 : Int32)), .unset] [(.int (1 : Int32))])) (fun t k => XS.iload X518.here hx rfl (hb hby d4_246) rfl k) ?_
                refine own_by (T' := T518) (f' := (mkF m 251 #[.val (.ref o), .val (.ref ca), .val (.int iv0), .val (.int lv), .val (.int (r1 + (1 : Int32))), .val (.int (f (own_p1 f j0 lim))), .val (.int (f ((own_p1 f j0 lim) + 1))), .val (.int (1 : Int32)), .unset] [])) (fun t k => XS.ifNo X518.here hx rfl (hb hby d4_248) rfl ((if0 _ _).trans (feq (by decide)).1) k) ?_
                refine own_by (T' := T518) (f' := (mkF m 254 #[.val (.ref o), .val (.ref ca), .val (.int iv0), .val (.int lv), .val (.int ((r1 + (1 : Int32)) + (1 : Int32))), .val (.int (f (own_p1 f j0 lim))), .val (.int (f ((own_p1 f j0 lim) + 1))), .val (.int (1 : Int32)), .unset] [])) (fun t k => XS.iinc X518.here hx rfl (hb hby d4_251) rfl (l' := #[.val (.ref o), .val (.ref ca), .val (.int iv0), .val (.int lv), .val (.int ((r1 + (1 : Int32)) + (1 : Int32))), .val (.int (f (own_p1 f j0 lim))), .val (.int (f ((own_p1 f j0 lim) + 1))), .val (.int (1 : Int32)), .unset]) rfl k) ?_
                refine own_by (T' := T518) (f' := (mkF m 256 #[.val (.ref o), .val (.ref ca), .val (.int iv0), .val (.int lv), .val (.int ((r1 + (1 : Int32)) + (1 : Int32))), .val (.int (f (own_p1 f j0 lim))), .val (.int (f ((own_p1 f j0 lim) + 1))), .val (.int (1 : Int32)), .unset] [(.int ((r1 + (1 : Int32)) + (1 : Int32)))])) (fun t k => XS.iload X518.here hx rfl (hb hby d4_254) rfl k) ?_
                refine own_by (T' := T518) (f' := (mkF m 258 #[.val (.ref o), .val (.ref ca), .val (.int iv0), .val (.int lv), .val (.int ((r1 + (1 : Int32)) + (1 : Int32))), .val (.int (f (own_p1 f j0 lim))), .val (.int (f ((own_p1 f j0 lim) + 1))), .val (.int (1 : Int32)), .val (.int ((r1 + (1 : Int32)) + (1 : Int32)))] [])) (fun t k => XS.istore X518.here hx rfl (hb hby d4_256) rfl (l' := #[.val (.ref o), .val (.ref ca), .val (.int iv0), .val (.int lv), .val (.int ((r1 + (1 : Int32)) + (1 : Int32))), .val (.int (f (own_p1 f j0 lim))), .val (.int (f ((own_p1 f j0 lim) + 1))), .val (.int (1 : Int32)), .val (.int ((r1 + (1 : Int32)) + (1 : Int32)))]) rfl k) ?_
                have hpt : ¬ own_pnt f j0 lim := fun q => hc75_169 q.2
                have ep2 : own_p2 f j0 lim = (own_p1 f j0 lim) := if_neg hpt
                have es2 : own_s2 f j0 lim = (own_s1 f j0 lim) := if_neg hpt
                have hV : sv1.toInt = ((own_s2 f j0 lim : Nat) : Int) := by rw [es2]; exact hsv1
                have hD : dv1.toInt = ((own_dgs f j0 lim : Nat) : Int) := by rw [own_dgs, if_neg hpt]; exact hd1
                have z0 : (0 : Int32).toInt = ((0 : Nat) : Int) := by decide
                have lt539 := own_ltn hi520 hl hc212_519
                have hi539 := own_inc hi520 lt539 (by omega)
                have le539 : ((own_p1 f j0 lim) + 1) + 1 ≤ lim := lt539
                have f540 := (f514.wr W515)
                have f541 := (((((P1_0.other W164 (Or.inr (sn_144 hw))).other W471 (Or.inr (sn_145 hw))).other W477 (Or.inr (sn_173 hw))).other W482 (Or.inr (sn_42 hw))).other W515 (Or.inr (sn_173 hw)))
                have f542 := (((((P1_1.other W164 (Or.inr (sn_146 hw))).other W471 (Or.inr (sn_147 hw))).other W477 (Or.inr (sn_174 hw))).other W482 (Or.inr (sn_45 hw))).other W515 (Or.inr (sn_174 hw)))
                have f543 := (((((P1_2.other W164 (Or.inr (sn_148 hw))).other W471 (Or.inr (sn_149 hw))).other W477 (Or.inr (sn_172 hw))).other W482 (Or.inr (sn_40 hw))).other W515 (Or.inr (sn_172 hw)))
                have f544 := (f485.other W515 (Or.inr (sn_170 hw)))
                have f545 := (((F471.other W477 (Or.inr (sn_171 hw))).other W482 (Or.inr (sn_51 hw))).other W515 (Or.inr (sn_171 hw)))
                have f546 := (F482.other W515 (Or.inr (sn_169 hw)))
                have f547 := (((((P1_7.other W164 (Or.inr (sn_155 hw))).other W471 (Or.inr (sn_156 hw))).other W477 (Or.inr (sn_175 hw))).other W482 (Or.inr (sn_59 hw))).other W515 (Or.inr (sn_175 hw)))
                have f548 := (((((P1_8.other W164 (Or.inr (sn_157 hw))).other W471 (Or.inr (sn_158 hw))).other W477 (Or.inr (sn_176 hw))).other W482 (Or.inr (sn_62 hw))).other W515 (Or.inr (sn_176 hw)))
                have f549 := (((((P1_9.other W164 (Or.inr (sn_159 hw))).other W471 (Or.inr (sn_160 hw))).other W477 (Or.inr (sn_177 hw))).other W482 (Or.inr (sn_65 hw))).other W515 (Or.inr (sn_177 hw)))
                have f550 := (((((P1_10.other W164 (Or.inr (sn_161 hw))).other W471 (Or.inr (sn_162 hw))).other W477 (Or.inr (sn_178 hw))).other W482 (Or.inr (sn_68 hw))).other W515 (Or.inr (sn_178 hw)))
                have f551 := (((((P1_11.other W164 (Or.inr (sn_163 hw))).other W471 (Or.inr (sn_164 hw))).other W477 (Or.inr (sn_179 hw))).other W482 (Or.inr (sn_71 hw))).other W515 (Or.inr (sn_179 hw)))
                have f552 := (((((P1_12.other W164 (Or.inr (sn_165 hw))).other W471 (Or.inr (sn_166 hw))).other W477 (Or.inr (sn_180 hw))).other W482 (Or.inr (sn_74 hw))).other W515 (Or.inr (sn_180 hw)))
                have f553 := (((((P1_13.other W164 (Or.inr (sn_167 hw))).other W471 (Or.inr (sn_168 hw))).other W477 (Or.inr (sn_181 hw))).other W482 (Or.inr (sn_39 hw))).other W515 (Or.inr (sn_181 hw)))
                exact eloop dv1 sv1 ((if_pos ⟨own_neqn hD z0 hc145_487, by rw [ep2]; exact own_ltn hr1 hl hc66_167, by rw [ep2]; exact Or.inl hc181_512⟩).symm) hD hV (lim - (((own_p1 f j0 lim) + 1) + 1)) (((own_p1 f j0 lim) + 1) + 1) ((r1 + (1 : Int32)) + (1 : Int32)) (0 : Int32) (f (own_p1 f j0 lim)) (f ((own_p1 f j0 lim) + 1)) (1 : Int32) ((r1 + (1 : Int32)) + (1 : Int32)) (.ref ca) (.int iv0) u2 (.int (0 : Int32)) (.int (0 : Int32)) (.int (-1 : Int32)) (.int (0 : Int32)) (.long y9_1) (.long y10_1) (.int (0 : Int32)) T518 h515 _ (by omega) hi539 X518 e518 f521 f540 f541 f542 f543 f544 f545 F515 f546 f547 f548 f549 f550 f551 f552 f553 K517 N515 sz516
            · have _ := X518
              refine own_by (T' := T518) (f' := (mkF m 236 #[.val (.ref o), .val (.ref ca), .val (.int iv0), .val (.int lv), .val (.int (r1 + (1 : Int32))), .val (.int (f (own_p1 f j0 lim))), .val (.int (f ((own_p1 f j0 lim) + 1))), .unset, .unset] [])) (fun t k => XS.icmpYes X518.here hx rfl (pc0 := 229) (pc' := 236) rfl (hb hby d4_229) rfl (feq hc229_522).2 (by decide) (by decide) k) ?_
              refine own_by (T' := T518) (f' := (mkF m 237 #[.val (.ref o), .val (.ref ca), .val (.int iv0), .val (.int lv), .val (.int (r1 + (1 : Int32))), .val (.int (f (own_p1 f j0 lim))), .val (.int (f ((own_p1 f j0 lim) + 1))), .unset, .unset] [(.int (0 : Int32))])) (fun t k => XS.iconst X518.here hx rfl (hb hby d4_236) k) ?_
              refine own_by (T' := T518) (f' := (mkF m 239 #[.val (.ref o), .val (.ref ca), .val (.int iv0), .val (.int lv), .val (.int (r1 + (1 : Int32))), .val (.int (f (own_p1 f j0 lim))), .val (.int (f ((own_p1 f j0 lim) + 1))), .val (.int (0 : Int32)), .unset] [])) (fun t k => XS.istore X518.here hx rfl (hb hby d4_237) rfl (l' := #[.val (.ref o), .val (.ref ca), .val (.int iv0), .val (.int lv), .val (.int (r1 + (1 : Int32))), .val (.int (f (own_p1 f j0 lim))), .val (.int (f ((own_p1 f j0 lim) + 1))), .val (.int (0 : Int32)), .unset]) rfl k) ?_
              refine own_by (T' := T518) (f' := (mkF m 241 #[.val (.ref o), .val (.ref ca), .val (.int iv0), .val (.int lv), .val (.int (r1 + (1 : Int32))), .val (.int (f (own_p1 f j0 lim))), .val (.int (f ((own_p1 f j0 lim) + 1))), .val (.int (0 : Int32)), .unset] [(.int (f ((own_p1 f j0 lim) + 1)))])) (fun t k => XS.iload X518.here hx rfl (hb hby d4_239) rfl k) ?_
              refine own_by (T' := T518) (f' := (mkF m 243 #[.val (.ref o), .val (.ref ca), .val (.int iv0), .val (.int lv), .val (.int (r1 + (1 : Int32))), .val (.int (f (own_p1 f j0 lim))), .val (.int (f ((own_p1 f j0 lim) + 1))), .val (.int (0 : Int32)), .unset] [(.int (43 : Int32)), (.int (f ((own_p1 f j0 lim) + 1)))])) (fun t k => XS.bipush X518.here hx rfl (hb hby d4_241) k) ?_
              by_cases hc243_554 : (f ((own_p1 f j0 lim) + 1)) = (43 : Int32)
              · have _ := X518
                refine own_by (T' := T518) (f' := (mkF m 251 #[.val (.ref o), .val (.ref ca), .val (.int iv0), .val (.int lv), .val (.int (r1 + (1 : Int32))), .val (.int (f (own_p1 f j0 lim))), .val (.int (f ((own_p1 f j0 lim) + 1))), .val (.int (0 : Int32)), .unset] [])) (fun t k => XS.icmpYes X518.here hx rfl (pc0 := 243) (pc' := 251) rfl (hb hby d4_243) rfl (teq hc243_554).1 (by decide) (by decide) k) ?_
                refine own_by (T' := T518) (f' := (mkF m 254 #[.val (.ref o), .val (.ref ca), .val (.int iv0), .val (.int lv), .val (.int ((r1 + (1 : Int32)) + (1 : Int32))), .val (.int (f (own_p1 f j0 lim))), .val (.int (f ((own_p1 f j0 lim) + 1))), .val (.int (0 : Int32)), .unset] [])) (fun t k => XS.iinc X518.here hx rfl (hb hby d4_251) rfl (l' := #[.val (.ref o), .val (.ref ca), .val (.int iv0), .val (.int lv), .val (.int ((r1 + (1 : Int32)) + (1 : Int32))), .val (.int (f (own_p1 f j0 lim))), .val (.int (f ((own_p1 f j0 lim) + 1))), .val (.int (0 : Int32)), .unset]) rfl k) ?_
                refine own_by (T' := T518) (f' := (mkF m 256 #[.val (.ref o), .val (.ref ca), .val (.int iv0), .val (.int lv), .val (.int ((r1 + (1 : Int32)) + (1 : Int32))), .val (.int (f (own_p1 f j0 lim))), .val (.int (f ((own_p1 f j0 lim) + 1))), .val (.int (0 : Int32)), .unset] [(.int ((r1 + (1 : Int32)) + (1 : Int32)))])) (fun t k => XS.iload X518.here hx rfl (hb hby d4_254) rfl k) ?_
                refine own_by (T' := T518) (f' := (mkF m 258 #[.val (.ref o), .val (.ref ca), .val (.int iv0), .val (.int lv), .val (.int ((r1 + (1 : Int32)) + (1 : Int32))), .val (.int (f (own_p1 f j0 lim))), .val (.int (f ((own_p1 f j0 lim) + 1))), .val (.int (0 : Int32)), .val (.int ((r1 + (1 : Int32)) + (1 : Int32)))] [])) (fun t k => XS.istore X518.here hx rfl (hb hby d4_256) rfl (l' := #[.val (.ref o), .val (.ref ca), .val (.int iv0), .val (.int lv), .val (.int ((r1 + (1 : Int32)) + (1 : Int32))), .val (.int (f (own_p1 f j0 lim))), .val (.int (f ((own_p1 f j0 lim) + 1))), .val (.int (0 : Int32)), .val (.int ((r1 + (1 : Int32)) + (1 : Int32)))]) rfl k) ?_
                have hpt : ¬ own_pnt f j0 lim := fun q => hc75_169 q.2
                have ep2 : own_p2 f j0 lim = (own_p1 f j0 lim) := if_neg hpt
                have es2 : own_s2 f j0 lim = (own_s1 f j0 lim) := if_neg hpt
                have hV : sv1.toInt = ((own_s2 f j0 lim : Nat) : Int) := by rw [es2]; exact hsv1
                have hD : dv1.toInt = ((own_dgs f j0 lim : Nat) : Int) := by rw [own_dgs, if_neg hpt]; exact hd1
                have z0 : (0 : Int32).toInt = ((0 : Nat) : Int) := by decide
                have lt555 := own_ltn hi520 hl hc212_519
                have hi555 := own_inc hi520 lt555 (by omega)
                have le555 : ((own_p1 f j0 lim) + 1) + 1 ≤ lim := lt555
                have f556 := (f514.wr W515)
                have f557 := (((((P1_0.other W164 (Or.inr (sn_144 hw))).other W471 (Or.inr (sn_145 hw))).other W477 (Or.inr (sn_173 hw))).other W482 (Or.inr (sn_42 hw))).other W515 (Or.inr (sn_173 hw)))
                have f558 := (((((P1_1.other W164 (Or.inr (sn_146 hw))).other W471 (Or.inr (sn_147 hw))).other W477 (Or.inr (sn_174 hw))).other W482 (Or.inr (sn_45 hw))).other W515 (Or.inr (sn_174 hw)))
                have f559 := (((((P1_2.other W164 (Or.inr (sn_148 hw))).other W471 (Or.inr (sn_149 hw))).other W477 (Or.inr (sn_172 hw))).other W482 (Or.inr (sn_40 hw))).other W515 (Or.inr (sn_172 hw)))
                have f560 := (f485.other W515 (Or.inr (sn_170 hw)))
                have f561 := (((F471.other W477 (Or.inr (sn_171 hw))).other W482 (Or.inr (sn_51 hw))).other W515 (Or.inr (sn_171 hw)))
                have f562 := (F482.other W515 (Or.inr (sn_169 hw)))
                have f563 := (((((P1_7.other W164 (Or.inr (sn_155 hw))).other W471 (Or.inr (sn_156 hw))).other W477 (Or.inr (sn_175 hw))).other W482 (Or.inr (sn_59 hw))).other W515 (Or.inr (sn_175 hw)))
                have f564 := (((((P1_8.other W164 (Or.inr (sn_157 hw))).other W471 (Or.inr (sn_158 hw))).other W477 (Or.inr (sn_176 hw))).other W482 (Or.inr (sn_62 hw))).other W515 (Or.inr (sn_176 hw)))
                have f565 := (((((P1_9.other W164 (Or.inr (sn_159 hw))).other W471 (Or.inr (sn_160 hw))).other W477 (Or.inr (sn_177 hw))).other W482 (Or.inr (sn_65 hw))).other W515 (Or.inr (sn_177 hw)))
                have f566 := (((((P1_10.other W164 (Or.inr (sn_161 hw))).other W471 (Or.inr (sn_162 hw))).other W477 (Or.inr (sn_178 hw))).other W482 (Or.inr (sn_68 hw))).other W515 (Or.inr (sn_178 hw)))
                have f567 := (((((P1_11.other W164 (Or.inr (sn_163 hw))).other W471 (Or.inr (sn_164 hw))).other W477 (Or.inr (sn_179 hw))).other W482 (Or.inr (sn_71 hw))).other W515 (Or.inr (sn_179 hw)))
                have f568 := (((((P1_12.other W164 (Or.inr (sn_165 hw))).other W471 (Or.inr (sn_166 hw))).other W477 (Or.inr (sn_180 hw))).other W482 (Or.inr (sn_74 hw))).other W515 (Or.inr (sn_180 hw)))
                have f569 := (((((P1_13.other W164 (Or.inr (sn_167 hw))).other W471 (Or.inr (sn_168 hw))).other W477 (Or.inr (sn_181 hw))).other W482 (Or.inr (sn_39 hw))).other W515 (Or.inr (sn_181 hw)))
                exact eloop dv1 sv1 ((if_pos ⟨own_neqn hD z0 hc145_487, by rw [ep2]; exact own_ltn hr1 hl hc66_167, by rw [ep2]; exact Or.inl hc181_512⟩).symm) hD hV (lim - (((own_p1 f j0 lim) + 1) + 1)) (((own_p1 f j0 lim) + 1) + 1) ((r1 + (1 : Int32)) + (1 : Int32)) (0 : Int32) (f (own_p1 f j0 lim)) (f ((own_p1 f j0 lim) + 1)) (0 : Int32) ((r1 + (1 : Int32)) + (1 : Int32)) (.ref ca) (.int iv0) u2 (.int (0 : Int32)) (.int (0 : Int32)) (.int (-1 : Int32)) (.int (0 : Int32)) (.long y9_1) (.long y10_1) (.int (0 : Int32)) T518 h515 _ (by omega) hi555 X518 e518 f521 f556 f557 f558 f559 f560 f561 F515 f562 f563 f564 f565 f566 f567 f568 f569 K517 N515 sz516
              · have _ := X518
                refine own_by (T' := T518) (f' := (mkF m 246 #[.val (.ref o), .val (.ref ca), .val (.int iv0), .val (.int lv), .val (.int (r1 + (1 : Int32))), .val (.int (f (own_p1 f j0 lim))), .val (.int (f ((own_p1 f j0 lim) + 1))), .val (.int (0 : Int32)), .unset] [])) (fun t k => XS.icmpNo X518.here hx rfl (hb hby d4_243) rfl (feq hc243_554).1 k) ?_
                refine own_by (T' := T518) (f' := (mkF m 248 #[.val (.ref o), .val (.ref ca), .val (.int iv0), .val (.int lv), .val (.int (r1 + (1 : Int32))), .val (.int (f (own_p1 f j0 lim))), .val (.int (f ((own_p1 f j0 lim) + 1))), .val (.int (0 : Int32)), .unset] [(.int (0 : Int32))])) (fun t k => XS.iload X518.here hx rfl (hb hby d4_246) rfl k) ?_
                refine own_by (T' := T518) (f' := (mkF m 254 #[.val (.ref o), .val (.ref ca), .val (.int iv0), .val (.int lv), .val (.int (r1 + (1 : Int32))), .val (.int (f (own_p1 f j0 lim))), .val (.int (f ((own_p1 f j0 lim) + 1))), .val (.int (0 : Int32)), .unset] [])) (fun t k => XS.ifYes X518.here hx rfl (pc0 := 248) (pc' := 254) rfl (hb hby d4_248) rfl ((if0 _ _).trans (teq rfl).1) (by decide) (by decide) k) ?_
                refine own_by (T' := T518) (f' := (mkF m 256 #[.val (.ref o), .val (.ref ca), .val (.int iv0), .val (.int lv), .val (.int (r1 + (1 : Int32))), .val (.int (f (own_p1 f j0 lim))), .val (.int (f ((own_p1 f j0 lim) + 1))), .val (.int (0 : Int32)), .unset] [(.int (r1 + (1 : Int32)))])) (fun t k => XS.iload X518.here hx rfl (hb hby d4_254) rfl k) ?_
                refine own_by (T' := T518) (f' := (mkF m 258 #[.val (.ref o), .val (.ref ca), .val (.int iv0), .val (.int lv), .val (.int (r1 + (1 : Int32))), .val (.int (f (own_p1 f j0 lim))), .val (.int (f ((own_p1 f j0 lim) + 1))), .val (.int (0 : Int32)), .val (.int (r1 + (1 : Int32)))] [])) (fun t k => XS.istore X518.here hx rfl (hb hby d4_256) rfl (l' := #[.val (.ref o), .val (.ref ca), .val (.int iv0), .val (.int lv), .val (.int (r1 + (1 : Int32))), .val (.int (f (own_p1 f j0 lim))), .val (.int (f ((own_p1 f j0 lim) + 1))), .val (.int (0 : Int32)), .val (.int (r1 + (1 : Int32)))]) rfl k) ?_
                have hpt : ¬ own_pnt f j0 lim := fun q => hc75_169 q.2
                have ep2 : own_p2 f j0 lim = (own_p1 f j0 lim) := if_neg hpt
                have es2 : own_s2 f j0 lim = (own_s1 f j0 lim) := if_neg hpt
                have hV : sv1.toInt = ((own_s2 f j0 lim : Nat) : Int) := by rw [es2]; exact hsv1
                have hD : dv1.toInt = ((own_dgs f j0 lim : Nat) : Int) := by rw [own_dgs, if_neg hpt]; exact hd1
                have z0 : (0 : Int32).toInt = ((0 : Nat) : Int) := by decide
                have f570 := (f514.wr W515)
                have f571 := (((((P1_0.other W164 (Or.inr (sn_144 hw))).other W471 (Or.inr (sn_145 hw))).other W477 (Or.inr (sn_173 hw))).other W482 (Or.inr (sn_42 hw))).other W515 (Or.inr (sn_173 hw)))
                have f572 := (((((P1_1.other W164 (Or.inr (sn_146 hw))).other W471 (Or.inr (sn_147 hw))).other W477 (Or.inr (sn_174 hw))).other W482 (Or.inr (sn_45 hw))).other W515 (Or.inr (sn_174 hw)))
                have f573 := (((((P1_2.other W164 (Or.inr (sn_148 hw))).other W471 (Or.inr (sn_149 hw))).other W477 (Or.inr (sn_172 hw))).other W482 (Or.inr (sn_40 hw))).other W515 (Or.inr (sn_172 hw)))
                have f574 := (f485.other W515 (Or.inr (sn_170 hw)))
                have f575 := (((F471.other W477 (Or.inr (sn_171 hw))).other W482 (Or.inr (sn_51 hw))).other W515 (Or.inr (sn_171 hw)))
                have f576 := (F482.other W515 (Or.inr (sn_169 hw)))
                have f577 := (((((P1_7.other W164 (Or.inr (sn_155 hw))).other W471 (Or.inr (sn_156 hw))).other W477 (Or.inr (sn_175 hw))).other W482 (Or.inr (sn_59 hw))).other W515 (Or.inr (sn_175 hw)))
                have f578 := (((((P1_8.other W164 (Or.inr (sn_157 hw))).other W471 (Or.inr (sn_158 hw))).other W477 (Or.inr (sn_176 hw))).other W482 (Or.inr (sn_62 hw))).other W515 (Or.inr (sn_176 hw)))
                have f579 := (((((P1_9.other W164 (Or.inr (sn_159 hw))).other W471 (Or.inr (sn_160 hw))).other W477 (Or.inr (sn_177 hw))).other W482 (Or.inr (sn_65 hw))).other W515 (Or.inr (sn_177 hw)))
                have f580 := (((((P1_10.other W164 (Or.inr (sn_161 hw))).other W471 (Or.inr (sn_162 hw))).other W477 (Or.inr (sn_178 hw))).other W482 (Or.inr (sn_68 hw))).other W515 (Or.inr (sn_178 hw)))
                have f581 := (((((P1_11.other W164 (Or.inr (sn_163 hw))).other W471 (Or.inr (sn_164 hw))).other W477 (Or.inr (sn_179 hw))).other W482 (Or.inr (sn_71 hw))).other W515 (Or.inr (sn_179 hw)))
                have f582 := (((((P1_12.other W164 (Or.inr (sn_165 hw))).other W471 (Or.inr (sn_166 hw))).other W477 (Or.inr (sn_180 hw))).other W482 (Or.inr (sn_74 hw))).other W515 (Or.inr (sn_180 hw)))
                have f583 := (((((P1_13.other W164 (Or.inr (sn_167 hw))).other W471 (Or.inr (sn_168 hw))).other W477 (Or.inr (sn_181 hw))).other W482 (Or.inr (sn_39 hw))).other W515 (Or.inr (sn_181 hw)))
                exact eloop dv1 sv1 ((if_pos ⟨own_neqn hD z0 hc145_487, by rw [ep2]; exact own_ltn hr1 hl hc66_167, by rw [ep2]; exact Or.inl hc181_512⟩).symm) hD hV (lim - ((own_p1 f j0 lim) + 1)) ((own_p1 f j0 lim) + 1) (r1 + (1 : Int32)) (0 : Int32) (f (own_p1 f j0 lim)) (f ((own_p1 f j0 lim) + 1)) (0 : Int32) (r1 + (1 : Int32)) (.ref ca) (.int iv0) u2 (.int (0 : Int32)) (.int (0 : Int32)) (.int (-1 : Int32)) (.int (0 : Int32)) (.long y9_1) (.long y10_1) (.int (0 : Int32)) T518 h515 _ (by omega) hi520 X518 e518 f521 f570 f571 f572 f573 f574 f575 F515 f576 f577 f578 f579 f580 f581 f582 f583 K517 N515 sz516
          · have _ := X518
            refine own_by (T' := T518) (f' := (mkF m 222 #[.val (.ref o), .val (.ref ca), .val (.int iv0), .val (.int lv), .val (.int (r1 + (1 : Int32))), .val (.int (f (own_p1 f j0 lim))), .unset, .unset, .unset] [])) (fun t k => XS.icmpYes X518.here hx rfl (pc0 := 212) (pc' := 222) rfl (hb hby d4_212) rfl (flt hc212_519).2.1 (by decide) (by decide) k) ?_
            refine own_by (T' := T518) (f' := (mkF m 223 #[.val (.ref o), .val (.ref ca), .val (.int iv0), .val (.int lv), .val (.int (r1 + (1 : Int32))), .val (.int (f (own_p1 f j0 lim))), .unset, .unset, .unset] [(.int (0 : Int32))])) (fun t k => XS.iconst X518.here hx rfl (hb hby d4_222) k) ?_
            refine own_by (T' := T518) (f' := (mkF m 225 #[.val (.ref o), .val (.ref ca), .val (.int iv0), .val (.int lv), .val (.int (r1 + (1 : Int32))), .val (.int (f (own_p1 f j0 lim))), .val (.int (0 : Int32)), .unset, .unset] [])) (fun t k => XS.istore X518.here hx rfl (hb hby d4_223) rfl (l' := #[.val (.ref o), .val (.ref ca), .val (.int iv0), .val (.int lv), .val (.int (r1 + (1 : Int32))), .val (.int (f (own_p1 f j0 lim))), .val (.int (0 : Int32)), .unset, .unset]) rfl k) ?_
            refine own_by (T' := T518) (f' := (mkF m 227 #[.val (.ref o), .val (.ref ca), .val (.int iv0), .val (.int lv), .val (.int (r1 + (1 : Int32))), .val (.int (f (own_p1 f j0 lim))), .val (.int (0 : Int32)), .unset, .unset] [(.int (0 : Int32))])) (fun t k => XS.iload X518.here hx rfl (hb hby d4_225) rfl k) ?_
            refine own_by (T' := T518) (f' := (mkF m 229 #[.val (.ref o), .val (.ref ca), .val (.int iv0), .val (.int lv), .val (.int (r1 + (1 : Int32))), .val (.int (f (own_p1 f j0 lim))), .val (.int (0 : Int32)), .unset, .unset] [(.int (45 : Int32)), (.int (0 : Int32))])) (fun t k => XS.bipush X518.here hx rfl (hb hby d4_227) k) ?_
            refine own_by (T' := T518) (f' := (mkF m 236 #[.val (.ref o), .val (.ref ca), .val (.int iv0), .val (.int lv), .val (.int (r1 + (1 : Int32))), .val (.int (f (own_p1 f j0 lim))), .val (.int (0 : Int32)), .unset, .unset] [])) (fun t k => XS.icmpYes X518.here hx rfl (pc0 := 229) (pc' := 236) rfl (hb hby d4_229) rfl (feq (by decide)).2 (by decide) (by decide) k) ?_
            refine own_by (T' := T518) (f' := (mkF m 237 #[.val (.ref o), .val (.ref ca), .val (.int iv0), .val (.int lv), .val (.int (r1 + (1 : Int32))), .val (.int (f (own_p1 f j0 lim))), .val (.int (0 : Int32)), .unset, .unset] [(.int (0 : Int32))])) (fun t k => XS.iconst X518.here hx rfl (hb hby d4_236) k) ?_
            refine own_by (T' := T518) (f' := (mkF m 239 #[.val (.ref o), .val (.ref ca), .val (.int iv0), .val (.int lv), .val (.int (r1 + (1 : Int32))), .val (.int (f (own_p1 f j0 lim))), .val (.int (0 : Int32)), .val (.int (0 : Int32)), .unset] [])) (fun t k => XS.istore X518.here hx rfl (hb hby d4_237) rfl (l' := #[.val (.ref o), .val (.ref ca), .val (.int iv0), .val (.int lv), .val (.int (r1 + (1 : Int32))), .val (.int (f (own_p1 f j0 lim))), .val (.int (0 : Int32)), .val (.int (0 : Int32)), .unset]) rfl k) ?_
            refine own_by (T' := T518) (f' := (mkF m 241 #[.val (.ref o), .val (.ref ca), .val (.int iv0), .val (.int lv), .val (.int (r1 + (1 : Int32))), .val (.int (f (own_p1 f j0 lim))), .val (.int (0 : Int32)), .val (.int (0 : Int32)), .unset] [(.int (0 : Int32))])) (fun t k => XS.iload X518.here hx rfl (hb hby d4_239) rfl k) ?_
            refine own_by (T' := T518) (f' := (mkF m 243 #[.val (.ref o), .val (.ref ca), .val (.int iv0), .val (.int lv), .val (.int (r1 + (1 : Int32))), .val (.int (f (own_p1 f j0 lim))), .val (.int (0 : Int32)), .val (.int (0 : Int32)), .unset] [(.int (43 : Int32)), (.int (0 : Int32))])) (fun t k => XS.bipush X518.here hx rfl (hb hby d4_241) k) ?_
            refine own_by (T' := T518) (f' := (mkF m 246 #[.val (.ref o), .val (.ref ca), .val (.int iv0), .val (.int lv), .val (.int (r1 + (1 : Int32))), .val (.int (f (own_p1 f j0 lim))), .val (.int (0 : Int32)), .val (.int (0 : Int32)), .unset] [])) (fun t k => XS.icmpNo X518.here hx rfl (hb hby d4_243) rfl (feq (by decide)).1 k) ?_
            refine own_by (T' := T518) (f' := (mkF m 248 #[.val (.ref o), .val (.ref ca), .val (.int iv0), .val (.int lv), .val (.int (r1 + (1 : Int32))), .val (.int (f (own_p1 f j0 lim))), .val (.int (0 : Int32)), .val (.int (0 : Int32)), .unset] [(.int (0 : Int32))])) (fun t k => XS.iload X518.here hx rfl (hb hby d4_246) rfl k) ?_
            refine own_by (T' := T518) (f' := (mkF m 254 #[.val (.ref o), .val (.ref ca), .val (.int iv0), .val (.int lv), .val (.int (r1 + (1 : Int32))), .val (.int (f (own_p1 f j0 lim))), .val (.int (0 : Int32)), .val (.int (0 : Int32)), .unset] [])) (fun t k => XS.ifYes X518.here hx rfl (pc0 := 248) (pc' := 254) rfl (hb hby d4_248) rfl ((if0 _ _).trans (teq rfl).1) (by decide) (by decide) k) ?_
            refine own_by (T' := T518) (f' := (mkF m 256 #[.val (.ref o), .val (.ref ca), .val (.int iv0), .val (.int lv), .val (.int (r1 + (1 : Int32))), .val (.int (f (own_p1 f j0 lim))), .val (.int (0 : Int32)), .val (.int (0 : Int32)), .unset] [(.int (r1 + (1 : Int32)))])) (fun t k => XS.iload X518.here hx rfl (hb hby d4_254) rfl k) ?_
            refine own_by (T' := T518) (f' := (mkF m 258 #[.val (.ref o), .val (.ref ca), .val (.int iv0), .val (.int lv), .val (.int (r1 + (1 : Int32))), .val (.int (f (own_p1 f j0 lim))), .val (.int (0 : Int32)), .val (.int (0 : Int32)), .val (.int (r1 + (1 : Int32)))] [])) (fun t k => XS.istore X518.here hx rfl (hb hby d4_256) rfl (l' := #[.val (.ref o), .val (.ref ca), .val (.int iv0), .val (.int lv), .val (.int (r1 + (1 : Int32))), .val (.int (f (own_p1 f j0 lim))), .val (.int (0 : Int32)), .val (.int (0 : Int32)), .val (.int (r1 + (1 : Int32)))]) rfl k) ?_
            have hpt : ¬ own_pnt f j0 lim := fun q => hc75_169 q.2
            have ep2 : own_p2 f j0 lim = (own_p1 f j0 lim) := if_neg hpt
            have es2 : own_s2 f j0 lim = (own_s1 f j0 lim) := if_neg hpt
            have hV : sv1.toInt = ((own_s2 f j0 lim : Nat) : Int) := by rw [es2]; exact hsv1
            have hD : dv1.toInt = ((own_dgs f j0 lim : Nat) : Int) := by rw [own_dgs, if_neg hpt]; exact hd1
            have z0 : (0 : Int32).toInt = ((0 : Nat) : Int) := by decide
            have lt584 := own_ltn hr1 hl hc66_167
            have hi584 := own_inc hr1 lt584 (by omega)
            have le584 : (own_p1 f j0 lim) + 1 ≤ lim := lt584
            have f585 := (f511.other W515 nco)
            have f586 := (f514.wr W515)
            have f587 := (((((P1_0.other W164 (Or.inr (sn_144 hw))).other W471 (Or.inr (sn_145 hw))).other W477 (Or.inr (sn_173 hw))).other W482 (Or.inr (sn_42 hw))).other W515 (Or.inr (sn_173 hw)))
            have f588 := (((((P1_1.other W164 (Or.inr (sn_146 hw))).other W471 (Or.inr (sn_147 hw))).other W477 (Or.inr (sn_174 hw))).other W482 (Or.inr (sn_45 hw))).other W515 (Or.inr (sn_174 hw)))
            have f589 := (((((P1_2.other W164 (Or.inr (sn_148 hw))).other W471 (Or.inr (sn_149 hw))).other W477 (Or.inr (sn_172 hw))).other W482 (Or.inr (sn_40 hw))).other W515 (Or.inr (sn_172 hw)))
            have f590 := (f485.other W515 (Or.inr (sn_170 hw)))
            have f591 := (((F471.other W477 (Or.inr (sn_171 hw))).other W482 (Or.inr (sn_51 hw))).other W515 (Or.inr (sn_171 hw)))
            have f592 := (F482.other W515 (Or.inr (sn_169 hw)))
            have f593 := (((((P1_7.other W164 (Or.inr (sn_155 hw))).other W471 (Or.inr (sn_156 hw))).other W477 (Or.inr (sn_175 hw))).other W482 (Or.inr (sn_59 hw))).other W515 (Or.inr (sn_175 hw)))
            have f594 := (((((P1_8.other W164 (Or.inr (sn_157 hw))).other W471 (Or.inr (sn_158 hw))).other W477 (Or.inr (sn_176 hw))).other W482 (Or.inr (sn_62 hw))).other W515 (Or.inr (sn_176 hw)))
            have f595 := (((((P1_9.other W164 (Or.inr (sn_159 hw))).other W471 (Or.inr (sn_160 hw))).other W477 (Or.inr (sn_177 hw))).other W482 (Or.inr (sn_65 hw))).other W515 (Or.inr (sn_177 hw)))
            have f596 := (((((P1_10.other W164 (Or.inr (sn_161 hw))).other W471 (Or.inr (sn_162 hw))).other W477 (Or.inr (sn_178 hw))).other W482 (Or.inr (sn_68 hw))).other W515 (Or.inr (sn_178 hw)))
            have f597 := (((((P1_11.other W164 (Or.inr (sn_163 hw))).other W471 (Or.inr (sn_164 hw))).other W477 (Or.inr (sn_179 hw))).other W482 (Or.inr (sn_71 hw))).other W515 (Or.inr (sn_179 hw)))
            have f598 := (((((P1_12.other W164 (Or.inr (sn_165 hw))).other W471 (Or.inr (sn_166 hw))).other W477 (Or.inr (sn_180 hw))).other W482 (Or.inr (sn_74 hw))).other W515 (Or.inr (sn_180 hw)))
            have f599 := (((((P1_13.other W164 (Or.inr (sn_167 hw))).other W471 (Or.inr (sn_168 hw))).other W477 (Or.inr (sn_181 hw))).other W482 (Or.inr (sn_39 hw))).other W515 (Or.inr (sn_181 hw)))
            exact eloop dv1 sv1 ((if_pos ⟨own_neqn hD z0 hc145_487, by rw [ep2]; exact own_ltn hr1 hl hc66_167, by rw [ep2]; exact Or.inl hc181_512⟩).symm) hD hV (lim - ((own_p1 f j0 lim) + 1)) ((own_p1 f j0 lim) + 1) (r1 + (1 : Int32)) (0 : Int32) (f (own_p1 f j0 lim)) (0 : Int32) (0 : Int32) (r1 + (1 : Int32)) (.ref ca) (.int iv0) u2 (.int (0 : Int32)) (.int (0 : Int32)) (.int (-1 : Int32)) (.int (0 : Int32)) (.long y9_1) (.long y10_1) (.int (0 : Int32)) T518 h515 _ (by omega) hi584 X518 e518 f585 f586 f587 f588 f589 f590 f591 F515 f592 f593 f594 f595 f596 f597 f598 f599 K517 N515 sz516
        · have _ := X486
          refine own_by (T' := T486) (f' := (mkF m 184 #[.val (.ref o), .val (.ref ca), .val (.int iv0), .val (.int lv), .val (.int r1), .val (.int (f (own_p1 f j0 lim))), .unset, .unset, .unset] [(.ref o)])) (fun t k => XS.icmpNo X486.here hx rfl (hb hby d4_181) rfl (feq hc181_512).1 k) ?_
          refine own_by (T' := T486) (f' := (mkF m 186 #[.val (.ref o), .val (.ref ca), .val (.int iv0), .val (.int lv), .val (.int r1), .val (.int (f (own_p1 f j0 lim))), .unset, .unset, .unset] [(.int (f (own_p1 f j0 lim))), (.ref o)])) (fun t k => XS.iload X486.here hx rfl (hb hby d4_184) rfl k) ?_
          refine own_by (T' := T486) (f' := (mkF m 188 #[.val (.ref o), .val (.ref ca), .val (.int iv0), .val (.int lv), .val (.int r1), .val (.int (f (own_p1 f j0 lim))), .unset, .unset, .unset] [(.int (69 : Int32)), (.int (f (own_p1 f j0 lim))), (.ref o)])) (fun t k => XS.bipush X486.here hx rfl (hb hby d4_186) k) ?_
          by_cases hc188_600 : (f (own_p1 f j0 lim)) = (69 : Int32)
          · have _ := X486
            refine own_by (T' := T486) (f' := (mkF m 191 #[.val (.ref o), .val (.ref ca), .val (.int iv0), .val (.int lv), .val (.int r1), .val (.int (f (own_p1 f j0 lim))), .unset, .unset, .unset] [(.ref o)])) (fun t k => XS.icmpNo X486.here hx rfl (hb hby d4_188) rfl (teq hc188_600).2 k) ?_
            refine own_by (T' := T486) (f' := (mkF m 192 #[.val (.ref o), .val (.ref ca), .val (.int iv0), .val (.int lv), .val (.int r1), .val (.int (f (own_p1 f j0 lim))), .unset, .unset, .unset] [(.int (1 : Int32)), (.ref o)])) (fun t k => XS.iconst X486.here hx rfl (hb hby d4_191) k) ?_
            refine own_by (T' := T486) (f' := (mkF m 196 #[.val (.ref o), .val (.ref ca), .val (.int iv0), .val (.int lv), .val (.int r1), .val (.int (f (own_p1 f j0 lim))), .unset, .unset, .unset] [(.int (1 : Int32)), (.ref o)])) (fun t k => XS.goto X486.here hx rfl (pc0 := 192) (pc' := 196) rfl (hb hby d4_192) (by decide) (by decide) k) ?_
            have f601 := (F477.other W482 (Or.inr (sn_54 hw)))
            have f602 := (f481.wr W482)
            refine own_putF (host := "") X486 hx hZ hown e486 (hb hby d4_196) (Or.inl (own_w hw 49 rfl)) Via.refl f601 f602 (Or.inl (own_w hw 50 rfl)) (own_w hw 7 rfl) (ty := .boolean) (by decide) rfl rfl ?_
            intro T603 h603 X603 e603 W603
            show own_Go p e below _ T603 (mkF m 199 #[.val (.ref o), .val (.ref ca), .val (.int iv0), .val (.int lv), .val (.int r1), .val (.int (f (own_p1 f j0 lim))), .unset, .unset, .unset] [])
            have F603 := f601.same W603
            have sz604 : n0 ≤ h603.size := by rw [W603.size]; exact sz483
            have K605 := K484.wr W603 (Or.inl (List.mem_of_getElem? (i := 0) rfl))
            have N603 := Fr.snoc X603 N482 go
            refine own_by (T' := T603) (f' := (mkF m 200 #[.val (.ref o), .val (.ref ca), .val (.int iv0), .val (.int lv), .val (.int r1), .val (.int (f (own_p1 f j0 lim))), .unset, .unset, .unset] [(.ref o)])) (fun t k => XS.aloadN X603.here hx rfl (hb hby d4_199) rfl rfl k) ?_
            refine own_getF (host := "") X603 hx hZ hown e603 (hb hby d4_200) (Or.inl (own_w hw 49 rfl)) Via.refl F603 ?_
            intro T606 X606 e606
            show own_Go p e below _ T606 (mkF m 203 #[.val (.ref o), .val (.ref ca), .val (.int iv0), .val (.int lv), .val (.int r1), .val (.int (f (own_p1 f j0 lim))), .unset, .unset, .unset] [(.int (1 : Int32))])
            refine own_by (T' := T606) (f' := (mkF m 206 #[.val (.ref o), .val (.ref ca), .val (.int iv0), .val (.int lv), .val (.int r1), .val (.int (f (own_p1 f j0 lim))), .unset, .unset, .unset] [])) (fun t k => XS.ifNo X606.here hx rfl (hb hby d4_203) rfl ((if0 _ _).trans (feq (by decide)).1) k) ?_
            refine own_by (T' := T606) (f' := (mkF m 209 #[.val (.ref o), .val (.ref ca), .val (.int iv0), .val (.int lv), .val (.int (r1 + (1 : Int32))), .val (.int (f (own_p1 f j0 lim))), .unset, .unset, .unset] [])) (fun t k => XS.iinc X606.here hx rfl (hb hby d4_206) rfl (l' := #[.val (.ref o), .val (.ref ca), .val (.int iv0), .val (.int lv), .val (.int (r1 + (1 : Int32))), .val (.int (f (own_p1 f j0 lim))), .unset, .unset, .unset]) rfl k) ?_
            refine own_by (T' := T606) (f' := (mkF m 211 #[.val (.ref o), .val (.ref ca), .val (.int iv0), .val (.int lv), .val (.int (r1 + (1 : Int32))), .val (.int (f (own_p1 f j0 lim))), .unset, .unset, .unset] [(.int (r1 + (1 : Int32)))])) (fun t k => XS.iload X606.here hx rfl (hb hby d4_209) rfl k) ?_
            refine own_by (T' := T606) (f' := (mkF m 212 #[.val (.ref o), .val (.ref ca), .val (.int iv0), .val (.int lv), .val (.int (r1 + (1 : Int32))), .val (.int (f (own_p1 f j0 lim))), .unset, .unset, .unset] [(.int lv), (.int (r1 + (1 : Int32)))])) (fun t k => XS.iloadN X606.here hx rfl (hb hby d4_211) rfl k) ?_
            by_cases hc212_607 : (r1 + (1 : Int32)) < lv
            · have _ := X606
              refine own_by (T' := T606) (f' := (mkF m 215 #[.val (.ref o), .val (.ref ca), .val (.int iv0), .val (.int lv), .val (.int (r1 + (1 : Int32))), .val (.int (f (own_p1 f j0 lim))), .unset, .unset, .unset] [])) (fun t k => XS.icmpNo X606.here hx rfl (hb hby d4_212) rfl (tlt hc212_607).2.1 k) ?_
              refine own_by (T' := T606) (f' := (mkF m 216 #[.val (.ref o), .val (.ref ca), .val (.int iv0), .val (.int lv), .val (.int (r1 + (1 : Int32))), .val (.int (f (own_p1 f j0 lim))), .unset, .unset, .unset] [(.ref ca)])) (fun t k => XS.aloadN X606.here hx rfl (hb hby d4_215) rfl rfl k) ?_
              refine own_by (T' := T606) (f' := (mkF m 218 #[.val (.ref o), .val (.ref ca), .val (.int iv0), .val (.int lv), .val (.int (r1 + (1 : Int32))), .val (.int (f (own_p1 f j0 lim))), .unset, .unset, .unset] [(.int (r1 + (1 : Int32))), (.ref ca)])) (fun t k => XS.iload X606.here hx rfl (hb hby d4_216) rfl k) ?_
              have lt608 := own_ltn hr1 hl hc66_167
              have hi608 := own_inc hr1 lt608 (by omega)
              have le608 : (own_p1 f j0 lim) + 1 ≤ lim := lt608
              have lq218 := own_ltn hi608 hl hc212_607
              have f609 := (f511.other W603 nco)
              have _ : (1 : Int32).toInt = 1 := by decide
              refine own_ldC X606 hx hZ e606 (hb hby d4_218) f609 (by omega) (by omega) ?_
              rw [show (r1 + (1 : Int32)).toInt.toNat = ((own_p1 f j0 lim) + 1) from by omega]
              show own_Go p e below _ T606 (mkF m 219 #[.val (.ref o), .val (.ref ca), .val (.int iv0), .val (.int lv), .val (.int (r1 + (1 : Int32))), .val (.int (f (own_p1 f j0 lim))), .unset, .unset, .unset] [(.int (f ((own_p1 f j0 lim) + 1)))])
              refine own_by (T' := T606) (f' := (mkF m 223 #[.val (.ref o), .val (.ref ca), .val (.int iv0), .val (.int lv), .val (.int (r1 + (1 : Int32))), .val (.int (f (own_p1 f j0 lim))), .unset, .unset, .unset] [(.int (f ((own_p1 f j0 lim) + 1)))])) (fun t k => XS.goto X606.here hx rfl (pc0 := 219) (pc' := 223) rfl (hb hby d4_219) (by decide) (by decide) k) ?_
              refine own_by (T' := T606) (f' := (mkF m 225 #[.val (.ref o), .val (.ref ca), .val (.int iv0), .val (.int lv), .val (.int (r1 + (1 : Int32))), .val (.int (f (own_p1 f j0 lim))), .val (.int (f ((own_p1 f j0 lim) + 1))), .unset, .unset] [])) (fun t k => XS.istore X606.here hx rfl (hb hby d4_223) rfl (l' := #[.val (.ref o), .val (.ref ca), .val (.int iv0), .val (.int lv), .val (.int (r1 + (1 : Int32))), .val (.int (f (own_p1 f j0 lim))), .val (.int (f ((own_p1 f j0 lim) + 1))), .unset, .unset]) rfl k) ?_
              refine own_by (T' := T606) (f' := (mkF m 227 #[.val (.ref o), .val (.ref ca), .val (.int iv0), .val (.int lv), .val (.int (r1 + (1 : Int32))), .val (.int (f (own_p1 f j0 lim))), .val (.int (f ((own_p1 f j0 lim) + 1))), .unset, .unset] [(.int (f ((own_p1 f j0 lim) + 1)))])) (fun t k => XS.iload X606.here hx rfl (hb hby d4_225) rfl k) ?_
              refine own_by (T' := T606) (f' := (mkF m 229 #[.val (.ref o), .val (.ref ca), .val (.int iv0), .val (.int lv), .val (.int (r1 + (1 : Int32))), .val (.int (f (own_p1 f j0 lim))), .val (.int (f ((own_p1 f j0 lim) + 1))), .unset, .unset] [(.int (45 : Int32)), (.int (f ((own_p1 f j0 lim) + 1)))])) (fun t k => XS.bipush X606.here hx rfl (hb hby d4_227) k) ?_
              by_cases hc229_610 : (f ((own_p1 f j0 lim) + 1)) = (45 : Int32)
              · have _ := X606
                refine own_by (T' := T606) (f' := (mkF m 232 #[.val (.ref o), .val (.ref ca), .val (.int iv0), .val (.int lv), .val (.int (r1 + (1 : Int32))), .val (.int (f (own_p1 f j0 lim))), .val (.int (f ((own_p1 f j0 lim) + 1))), .unset, .unset] [])) (fun t k => XS.icmpNo X606.here hx rfl (hb hby d4_229) rfl (teq hc229_610).2 k) ?_
                refine own_by (T' := T606) (f' := (mkF m 233 #[.val (.ref o), .val (.ref ca), .val (.int iv0), .val (.int lv), .val (.int (r1 + (1 : Int32))), .val (.int (f (own_p1 f j0 lim))), .val (.int (f ((own_p1 f j0 lim) + 1))), .unset, .unset] [(.int (1 : Int32))])) (fun t k => XS.iconst X606.here hx rfl (hb hby d4_232) k) ?_
                refine own_by (T' := T606) (f' := (mkF m 237 #[.val (.ref o), .val (.ref ca), .val (.int iv0), .val (.int lv), .val (.int (r1 + (1 : Int32))), .val (.int (f (own_p1 f j0 lim))), .val (.int (f ((own_p1 f j0 lim) + 1))), .unset, .unset] [(.int (1 : Int32))])) (fun t k => XS.goto X606.here hx rfl (pc0 := 233) (pc' := 237) rfl (hb hby d4_233) (by decide) (by decide) k) ?_
                refine own_by (T' := T606) (f' := (mkF m 239 #[.val (.ref o), .val (.ref ca), .val (.int iv0), .val (.int lv), .val (.int (r1 + (1 : Int32))), .val (.int (f (own_p1 f j0 lim))), .val (.int (f ((own_p1 f j0 lim) + 1))), .val (.int (1 : Int32)), .unset] [])) (fun t k => XS.istore X606.here hx rfl (hb hby d4_237) rfl (l' := #[.val (.ref o), .val (.ref ca), .val (.int iv0), .val (.int lv), .val (.int (r1 + (1 : Int32))), .val (.int (f (own_p1 f j0 lim))), .val (.int (f ((own_p1 f j0 lim) + 1))), .val (.int (1 : Int32)), .unset]) rfl k) ?_
                refine own_by (T' := T606) (f' := (mkF m 241 #[.val (.ref o), .val (.ref ca), .val (.int iv0), .val (.int lv), .val (.int (r1 + (1 : Int32))), .val (.int (f (own_p1 f j0 lim))), .val (.int (f ((own_p1 f j0 lim) + 1))), .val (.int (1 : Int32)), .unset] [(.int (f ((own_p1 f j0 lim) + 1)))])) (fun t k => XS.iload X606.here hx rfl (hb hby d4_239) rfl k) ?_
                refine own_by (T' := T606) (f' := (mkF m 243 #[.val (.ref o), .val (.ref ca), .val (.int iv0), .val (.int lv), .val (.int (r1 + (1 : Int32))), .val (.int (f (own_p1 f j0 lim))), .val (.int (f ((own_p1 f j0 lim) + 1))), .val (.int (1 : Int32)), .unset] [(.int (43 : Int32)), (.int (f ((own_p1 f j0 lim) + 1)))])) (fun t k => XS.bipush X606.here hx rfl (hb hby d4_241) k) ?_
                by_cases hc243_611 : (f ((own_p1 f j0 lim) + 1)) = (43 : Int32)
                · have _ := X606
                  refine own_by (T' := T606) (f' := (mkF m 251 #[.val (.ref o), .val (.ref ca), .val (.int iv0), .val (.int lv), .val (.int (r1 + (1 : Int32))), .val (.int (f (own_p1 f j0 lim))), .val (.int (f ((own_p1 f j0 lim) + 1))), .val (.int (1 : Int32)), .unset] [])) (fun t k => XS.icmpYes X606.here hx rfl (pc0 := 243) (pc' := 251) rfl (hb hby d4_243) rfl (teq hc243_611).1 (by decide) (by decide) k) ?_
                  refine own_by (T' := T606) (f' := (mkF m 254 #[.val (.ref o), .val (.ref ca), .val (.int iv0), .val (.int lv), .val (.int ((r1 + (1 : Int32)) + (1 : Int32))), .val (.int (f (own_p1 f j0 lim))), .val (.int (f ((own_p1 f j0 lim) + 1))), .val (.int (1 : Int32)), .unset] [])) (fun t k => XS.iinc X606.here hx rfl (hb hby d4_251) rfl (l' := #[.val (.ref o), .val (.ref ca), .val (.int iv0), .val (.int lv), .val (.int ((r1 + (1 : Int32)) + (1 : Int32))), .val (.int (f (own_p1 f j0 lim))), .val (.int (f ((own_p1 f j0 lim) + 1))), .val (.int (1 : Int32)), .unset]) rfl k) ?_
                  refine own_by (T' := T606) (f' := (mkF m 256 #[.val (.ref o), .val (.ref ca), .val (.int iv0), .val (.int lv), .val (.int ((r1 + (1 : Int32)) + (1 : Int32))), .val (.int (f (own_p1 f j0 lim))), .val (.int (f ((own_p1 f j0 lim) + 1))), .val (.int (1 : Int32)), .unset] [(.int ((r1 + (1 : Int32)) + (1 : Int32)))])) (fun t k => XS.iload X606.here hx rfl (hb hby d4_254) rfl k) ?_
                  refine own_by (T' := T606) (f' := (mkF m 258 #[.val (.ref o), .val (.ref ca), .val (.int iv0), .val (.int lv), .val (.int ((r1 + (1 : Int32)) + (1 : Int32))), .val (.int (f (own_p1 f j0 lim))), .val (.int (f ((own_p1 f j0 lim) + 1))), .val (.int (1 : Int32)), .val (.int ((r1 + (1 : Int32)) + (1 : Int32)))] [])) (fun t k => XS.istore X606.here hx rfl (hb hby d4_256) rfl (l' := #[.val (.ref o), .val (.ref ca), .val (.int iv0), .val (.int lv), .val (.int ((r1 + (1 : Int32)) + (1 : Int32))), .val (.int (f (own_p1 f j0 lim))), .val (.int (f ((own_p1 f j0 lim) + 1))), .val (.int (1 : Int32)), .val (.int ((r1 + (1 : Int32)) + (1 : Int32)))]) rfl k) ?_
                  have hpt : ¬ own_pnt f j0 lim := fun q => hc75_169 q.2
                  have ep2 : own_p2 f j0 lim = (own_p1 f j0 lim) := if_neg hpt
                  have es2 : own_s2 f j0 lim = (own_s1 f j0 lim) := if_neg hpt
                  have hV : sv1.toInt = ((own_s2 f j0 lim : Nat) : Int) := by rw [es2]; exact hsv1
                  have hD : dv1.toInt = ((own_dgs f j0 lim : Nat) : Int) := by rw [own_dgs, if_neg hpt]; exact hd1
                  have z0 : (0 : Int32).toInt = ((0 : Nat) : Int) := by decide
                  have lt612 := own_ltn hi608 hl hc212_607
                  have hi612 := own_inc hi608 lt612 (by omega)
                  have le612 : ((own_p1 f j0 lim) + 1) + 1 ≤ lim := lt612
                  have f613 := (f602.wr W603)
                  have f614 := (((((P1_0.other W164 (Or.inr (sn_144 hw))).other W471 (Or.inr (sn_145 hw))).other W477 (Or.inr (sn_173 hw))).other W482 (Or.inr (sn_42 hw))).other W603 (Or.inr (sn_173 hw)))
                  have f615 := (((((P1_1.other W164 (Or.inr (sn_146 hw))).other W471 (Or.inr (sn_147 hw))).other W477 (Or.inr (sn_174 hw))).other W482 (Or.inr (sn_45 hw))).other W603 (Or.inr (sn_174 hw)))
                  have f616 := (((((P1_2.other W164 (Or.inr (sn_148 hw))).other W471 (Or.inr (sn_149 hw))).other W477 (Or.inr (sn_172 hw))).other W482 (Or.inr (sn_40 hw))).other W603 (Or.inr (sn_172 hw)))
                  have f617 := (f485.other W603 (Or.inr (sn_170 hw)))
                  have f618 := (((F471.other W477 (Or.inr (sn_171 hw))).other W482 (Or.inr (sn_51 hw))).other W603 (Or.inr (sn_171 hw)))
                  have f619 := (F482.other W603 (Or.inr (sn_169 hw)))
                  have f620 := (((((P1_7.other W164 (Or.inr (sn_155 hw))).other W471 (Or.inr (sn_156 hw))).other W477 (Or.inr (sn_175 hw))).other W482 (Or.inr (sn_59 hw))).other W603 (Or.inr (sn_175 hw)))
                  have f621 := (((((P1_8.other W164 (Or.inr (sn_157 hw))).other W471 (Or.inr (sn_158 hw))).other W477 (Or.inr (sn_176 hw))).other W482 (Or.inr (sn_62 hw))).other W603 (Or.inr (sn_176 hw)))
                  have f622 := (((((P1_9.other W164 (Or.inr (sn_159 hw))).other W471 (Or.inr (sn_160 hw))).other W477 (Or.inr (sn_177 hw))).other W482 (Or.inr (sn_65 hw))).other W603 (Or.inr (sn_177 hw)))
                  have f623 := (((((P1_10.other W164 (Or.inr (sn_161 hw))).other W471 (Or.inr (sn_162 hw))).other W477 (Or.inr (sn_178 hw))).other W482 (Or.inr (sn_68 hw))).other W603 (Or.inr (sn_178 hw)))
                  have f624 := (((((P1_11.other W164 (Or.inr (sn_163 hw))).other W471 (Or.inr (sn_164 hw))).other W477 (Or.inr (sn_179 hw))).other W482 (Or.inr (sn_71 hw))).other W603 (Or.inr (sn_179 hw)))
                  have f625 := (((((P1_12.other W164 (Or.inr (sn_165 hw))).other W471 (Or.inr (sn_166 hw))).other W477 (Or.inr (sn_180 hw))).other W482 (Or.inr (sn_74 hw))).other W603 (Or.inr (sn_180 hw)))
                  have f626 := (((((P1_13.other W164 (Or.inr (sn_167 hw))).other W471 (Or.inr (sn_168 hw))).other W477 (Or.inr (sn_181 hw))).other W482 (Or.inr (sn_39 hw))).other W603 (Or.inr (sn_181 hw)))
                  exact eloop dv1 sv1 ((if_pos ⟨own_neqn hD z0 hc145_487, by rw [ep2]; exact own_ltn hr1 hl hc66_167, by rw [ep2]; exact Or.inr hc188_600⟩).symm) hD hV (lim - (((own_p1 f j0 lim) + 1) + 1)) (((own_p1 f j0 lim) + 1) + 1) ((r1 + (1 : Int32)) + (1 : Int32)) (0 : Int32) (f (own_p1 f j0 lim)) (f ((own_p1 f j0 lim) + 1)) (1 : Int32) ((r1 + (1 : Int32)) + (1 : Int32)) (.ref ca) (.int iv0) u2 (.int (0 : Int32)) (.int (0 : Int32)) (.int (-1 : Int32)) (.int (0 : Int32)) (.long y9_1) (.long y10_1) (.int (0 : Int32)) T606 h603 _ (by omega) hi612 X606 e606 f609 f613 f614 f615 f616 f617 f618 F603 f619 f620 f621 f622 f623 f624 f625 f626 K605 N603 sz604
                · have _ := X606
                  refine own_by (T' := T606) (f' := (mkF m 246 #[.val (.ref o), .val (.ref ca), .val (.int iv0), .val (.int lv), .val (.int (r1 + (1 : Int32))), .val (.int (f (own_p1 f j0 lim))), .val (.int (f ((own_p1 f j0 lim) + 1))), .val (.int (1 : Int32)), .unset] [])) (fun t k => XS.icmpNo X606.here hx rfl (hb hby d4_243) rfl (feq hc243_611).1 k) ?_
                  refine own_by (T' := T606) (f' := (mkF m 248 #[.val (.ref o), .val (.ref ca), .val (.int iv0), .val (.int lv), .val (.int (r1 + (1 : Int32))), .val (.int (f (own_p1 f j0 lim))), .val (.int (f ((own_p1 f j0 lim) + 1))), .val (.int (1 : Int32)), .unset] [(.int (1 : Int32))])) (fun t k => XS.iload X606.here hx rfl (hb hby d4_246) rfl k) ?_
                  refine own_by (T' := T606) (f' := (mkF m 251 #[.val (.ref o), .val (.ref ca), .val (.int iv0), .val (.int lv), .val (.int (r1 + (1 : Int32))), .val (.int (f (own_p1 f j0 lim))), .val (.int (f ((own_p1 f j0 lim) + 1))), .val (.int (1 : Int32)), .unset] [])) (fun t k => XS.ifNo X606.here hx rfl (hb hby d4_248) rfl ((if0 _ _).trans (feq (by decide)).1) k) ?_
                  refine own_by (T' := T606) (f' := (mkF m 254 #[.val (.ref o), .val (.ref ca), .val (.int iv0), .val (.int lv), .val (.int ((r1 + (1 : Int32)) + (1 : Int32))), .val (.int (f (own_p1 f j0 lim))), .val (.int (f ((own_p1 f j0 lim) + 1))), .val (.int (1 : Int32)), .unset] [])) (fun t k => XS.iinc X606.here hx rfl (hb hby d4_251) rfl (l' := #[.val (.ref o), .val (.ref ca), .val (.int iv0), .val (.int lv), .val (.int ((r1 + (1 : Int32)) + (1 : Int32))), .val (.int (f (own_p1 f j0 lim))), .val (.int (f ((own_p1 f j0 lim) + 1))), .val (.int (1 : Int32)), .unset]) rfl k) ?_
                  refine own_by (T' := T606) (f' := (mkF m 256 #[.val (.ref o), .val (.ref ca), .val (.int iv0), .val (.int lv), .val (.int ((r1 + (1 : Int32)) + (1 : Int32))), .val (.int (f (own_p1 f j0 lim))), .val (.int (f ((own_p1 f j0 lim) + 1))), .val (.int (1 : Int32)), .unset] [(.int ((r1 + (1 : Int32)) + (1 : Int32)))])) (fun t k => XS.iload X606.here hx rfl (hb hby d4_254) rfl k) ?_
                  refine own_by (T' := T606) (f' := (mkF m 258 #[.val (.ref o), .val (.ref ca), .val (.int iv0), .val (.int lv), .val (.int ((r1 + (1 : Int32)) + (1 : Int32))), .val (.int (f (own_p1 f j0 lim))), .val (.int (f ((own_p1 f j0 lim) + 1))), .val (.int (1 : Int32)), .val (.int ((r1 + (1 : Int32)) + (1 : Int32)))] [])) (fun t k => XS.istore X606.here hx rfl (hb hby d4_256) rfl (l' := #[.val (.ref o), .val (.ref ca), .val (.int iv0), .val (.int lv), .val (.int ((r1 + (1 : Int32)) + (1 : Int32))), .val (.int (f (own_p1 f j0 lim))), .val (.int (f ((own_p1 f j0 lim) + 1))), .val (.int (1 : Int32)), .val (.int ((r1 + (1 : Int32)) + (1 : Int32)))]) rfl k) ?_
                  have hpt : ¬ own_pnt f j0 lim := fun q => hc75_169 q.2
                  have ep2 : own_p2 f j0 lim = (own_p1 f j0 lim) := if_neg hpt
                  have es2 : own_s2 f j0 lim = (own_s1 f j0 lim) := if_neg hpt
                  have hV : sv1.toInt = ((own_s2 f j0 lim : Nat) : Int) := by rw [es2]; exact hsv1
                  have hD : dv1.toInt = ((own_dgs f j0 lim : Nat) : Int) := by rw [own_dgs, if_neg hpt]; exact hd1
                  have z0 : (0 : Int32).toInt = ((0 : Nat) : Int) := by decide
                  have lt627 := own_ltn hi608 hl hc212_607
                  have hi627 := own_inc hi608 lt627 (by omega)
                  have le627 : ((own_p1 f j0 lim) + 1) + 1 ≤ lim := lt627
                  have f628 := (f602.wr W603)
                  have f629 := (((((P1_0.other W164 (Or.inr (sn_144 hw))).other W471 (Or.inr (sn_145 hw))).other W477 (Or.inr (sn_173 hw))).other W482 (Or.inr (sn_42 hw))).other W603 (Or.inr (sn_173 hw)))
                  have f630 := (((((P1_1.other W164 (Or.inr (sn_146 hw))).other W471 (Or.inr (sn_147 hw))).other W477 (Or.inr (sn_174 hw))).other W482 (Or.inr (sn_45 hw))).other W603 (Or.inr (sn_174 hw)))
                  have f631 := (((((P1_2.other W164 (Or.inr (sn_148 hw))).other W471 (Or.inr (sn_149 hw))).other W477 (Or.inr (sn_172 hw))).other W482 (Or.inr (sn_40 hw))).other W603 (Or.inr (sn_172 hw)))
                  have f632 := (f485.other W603 (Or.inr (sn_170 hw)))
                  have f633 := (((F471.other W477 (Or.inr (sn_171 hw))).other W482 (Or.inr (sn_51 hw))).other W603 (Or.inr (sn_171 hw)))
                  have f634 := (F482.other W603 (Or.inr (sn_169 hw)))
                  have f635 := (((((P1_7.other W164 (Or.inr (sn_155 hw))).other W471 (Or.inr (sn_156 hw))).other W477 (Or.inr (sn_175 hw))).other W482 (Or.inr (sn_59 hw))).other W603 (Or.inr (sn_175 hw)))
                  have f636 := (((((P1_8.other W164 (Or.inr (sn_157 hw))).other W471 (Or.inr (sn_158 hw))).other W477 (Or.inr (sn_176 hw))).other W482 (Or.inr (sn_62 hw))).other W603 (Or.inr (sn_176 hw)))
                  have f637 := (((((P1_9.other W164 (Or.inr (sn_159 hw))).other W471 (Or.inr (sn_160 hw))).other W477 (Or.inr (sn_177 hw))).other W482 (Or.inr (sn_65 hw))).other W603 (Or.inr (sn_177 hw)))
                  have f638 := (((((P1_10.other W164 (Or.inr (sn_161 hw))).other W471 (Or.inr (sn_162 hw))).other W477 (Or.inr (sn_178 hw))).other W482 (Or.inr (sn_68 hw))).other W603 (Or.inr (sn_178 hw)))
                  have f639 := (((((P1_11.other W164 (Or.inr (sn_163 hw))).other W471 (Or.inr (sn_164 hw))).other W477 (Or.inr (sn_179 hw))).other W482 (Or.inr (sn_71 hw))).other W603 (Or.inr (sn_179 hw)))
                  have f640 := (((((P1_12.other W164 (Or.inr (sn_165 hw))).other W471 (Or.inr (sn_166 hw))).other W477 (Or.inr (sn_180 hw))).other W482 (Or.inr (sn_74 hw))).other W603 (Or.inr (sn_180 hw)))
                  have f641 := (((((P1_13.other W164 (Or.inr (sn_167 hw))).other W471 (Or.inr (sn_168 hw))).other W477 (Or.inr (sn_181 hw))).other W482 (Or.inr (sn_39 hw))).other W603 (Or.inr (sn_181 hw)))
                  exact eloop dv1 sv1 ((if_pos ⟨own_neqn hD z0 hc145_487, by rw [ep2]; exact own_ltn hr1 hl hc66_167, by rw [ep2]; exact Or.inr hc188_600⟩).symm) hD hV (lim - (((own_p1 f j0 lim) + 1) + 1)) (((own_p1 f j0 lim) + 1) + 1) ((r1 + (1 : Int32)) + (1 : Int32)) (0 : Int32) (f (own_p1 f j0 lim)) (f ((own_p1 f j0 lim) + 1)) (1 : Int32) ((r1 + (1 : Int32)) + (1 : Int32)) (.ref ca) (.int iv0) u2 (.int (0 : Int32)) (.int (0 : Int32)) (.int (-1 : Int32)) (.int (0 : Int32)) (.long y9_1) (.long y10_1) (.int (0 : Int32)) T606 h603 _ (by omega) hi627 X606 e606 f609 f628 f629 f630 f631 f632 f633 F603 f634 f635 f636 f637 f638 f639 f640 f641 K605 N603 sz604
              · have _ := X606
                refine own_by (T' := T606) (f' := (mkF m 236 #[.val (.ref o), .val (.ref ca), .val (.int iv0), .val (.int lv), .val (.int (r1 + (1 : Int32))), .val (.int (f (own_p1 f j0 lim))), .val (.int (f ((own_p1 f j0 lim) + 1))), .unset, .unset] [])) (fun t k => XS.icmpYes X606.here hx rfl (pc0 := 229) (pc' := 236) rfl (hb hby d4_229) rfl (feq hc229_610).2 (by decide) (by decide) k) ?_
                refine own_by (T' := T606) (f' := (mkF m 237 #[.val (.ref o), .val (.ref ca), .val (.int iv0), .val (.int lv), .val (.int (r1 + (1 : Int32))), .val (.int (f (own_p1 f j0 lim))), .val (.int (f ((own_p1 f j0 lim) + 1))), .unset, .unset] [(.int (0 : Int32))])) (fun t k => XS.iconst X606.here hx rfl (hb hby d4_236) k) ?_
                refine own_by (T' := T606) (f' := (mkF m 239 #[.val (.ref o), .val (.ref ca), .val (.int iv0), .val (.int lv), .val (.int (r1 + (1 : Int32))), .val (.int (f (own_p1 f j0 lim))), .val (.int (f ((own_p1 f j0 lim) + 1))), .val (.int (0 : Int32)), .unset] [])) (fun t k => XS.istore X606.here hx rfl (hb hby d4_237) rfl (l' := #[.val (.ref o), .val (.ref ca), .val (.int iv0), .val (.int lv), .val (.int (r1 + (1 : Int32))), .val (.int (f (own_p1 f j0 lim))), .val (.int (f ((own_p1 f j0 lim) + 1))), .val (.int (0 : Int32)), .unset]) rfl k) ?_
                refine own_by (T' := T606) (f' := (mkF m 241 #[.val (.ref o), .val (.ref ca), .val (.int iv0), .val (.int lv), .val (.int (r1 + (1 : Int32))), .val (.int (f (own_p1 f j0 lim))), .val (.int (f ((own_p1 f j0 lim) + 1))), .val (.int (0 : Int32)), .unset] [(.int (f ((own_p1 f j0 lim) + 1)))])) (fun t k => XS.iload X606.here hx rfl (hb hby d4_239) rfl k) ?_
                refine own_by (T' := T606) (f' := (mkF m 243 #[.val (.ref o), .val (.ref ca), .val (.int iv0), .val (.int lv), .val (.int (r1 + (1 : Int32))), .val (.int (f (own_p1 f j0 lim))), .val (.int (f ((own_p1 f j0 lim) + 1))), .val (.int (0 : Int32)), .unset] [(.int (43 : Int32)), (.int (f ((own_p1 f j0 lim) + 1)))])) (fun t k => XS.bipush X606.here hx rfl (hb hby d4_241) k) ?_
                by_cases hc243_642 : (f ((own_p1 f j0 lim) + 1)) = (43 : Int32)
                · have _ := X606
                  refine own_by (T' := T606) (f' := (mkF m 251 #[.val (.ref o), .val (.ref ca), .val (.int iv0), .val (.int lv), .val (.int (r1 + (1 : Int32))), .val (.int (f (own_p1 f j0 lim))), .val (.int (f ((own_p1 f j0 lim) + 1))), .val (.int (0 : Int32)), .unset] [])) (fun t k => XS.icmpYes X606.here hx rfl (pc0 := 243) (pc' := 251) rfl (hb hby d4_243) rfl (teq hc243_642).1 (by decide) (by decide) k) ?_
                  refine own_by (T' := T606) (f' := (mkF m 254 #[.val (.ref o), .val (.ref ca), .val (.int iv0), .val (.int lv), .val (.int ((r1 + (1 : Int32)) + (1 : Int32))), .val (.int (f (own_p1 f j0 lim))), .val (.int (f ((own_p1 f j0 lim) + 1))), .val (.int (0 : Int32)), .unset] [])) (fun t k => XS.iinc X606.here hx rfl (hb hby d4_251) rfl (l' := #[.val (.ref o), .val (.ref ca), .val (.int iv0), .val (.int lv), .val (.int ((r1 + (1 : Int32)) + (1 : Int32))), .val (.int (f (own_p1 f j0 lim))), .val (.int (f ((own_p1 f j0 lim) + 1))), .val (.int (0 : Int32)), .unset]) rfl k) ?_
                  refine own_by (T' := T606) (f' := (mkF m 256 #[.val (.ref o), .val (.ref ca), .val (.int iv0), .val (.int lv), .val (.int ((r1 + (1 : Int32)) + (1 : Int32))), .val (.int (f (own_p1 f j0 lim))), .val (.int (f ((own_p1 f j0 lim) + 1))), .val (.int (0 : Int32)), .unset] [(.int ((r1 + (1 : Int32)) + (1 : Int32)))])) (fun t k => XS.iload X606.here hx rfl (hb hby d4_254) rfl k) ?_
                  refine own_by (T' := T606) (f' := (mkF m 258 #[.val (.ref o), .val (.ref ca), .val (.int iv0), .val (.int lv), .val (.int ((r1 + (1 : Int32)) + (1 : Int32))), .val (.int (f (own_p1 f j0 lim))), .val (.int (f ((own_p1 f j0 lim) + 1))), .val (.int (0 : Int32)), .val (.int ((r1 + (1 : Int32)) + (1 : Int32)))] [])) (fun t k => XS.istore X606.here hx rfl (hb hby d4_256) rfl (l' := #[.val (.ref o), .val (.ref ca), .val (.int iv0), .val (.int lv), .val (.int ((r1 + (1 : Int32)) + (1 : Int32))), .val (.int (f (own_p1 f j0 lim))), .val (.int (f ((own_p1 f j0 lim) + 1))), .val (.int (0 : Int32)), .val (.int ((r1 + (1 : Int32)) + (1 : Int32)))]) rfl k) ?_
                  have hpt : ¬ own_pnt f j0 lim := fun q => hc75_169 q.2
                  have ep2 : own_p2 f j0 lim = (own_p1 f j0 lim) := if_neg hpt
                  have es2 : own_s2 f j0 lim = (own_s1 f j0 lim) := if_neg hpt
                  have hV : sv1.toInt = ((own_s2 f j0 lim : Nat) : Int) := by rw [es2]; exact hsv1
                  have hD : dv1.toInt = ((own_dgs f j0 lim : Nat) : Int) := by rw [own_dgs, if_neg hpt]; exact hd1
                  have z0 : (0 : Int32).toInt = ((0 : Nat) : Int) := by decide
                  have lt643 := own_ltn hi608 hl hc212_607
                  have hi643 := own_inc hi608 lt643 (by omega)
                  have le643 : ((own_p1 f j0 lim) + 1) + 1 ≤ lim := lt643
                  have f644 := (f602.wr W603)
                  have f645 := (((((P1_0.other W164 (Or.inr (sn_144 hw))).other W471 (Or.inr (sn_145 hw))).other W477 (Or.inr (sn_173 hw))).other W482 (Or.inr (sn_42 hw))).other W603 (Or.inr (sn_173 hw)))
                  have f646 := (((((P1_1.other W164 (Or.inr (sn_146 hw))).other W471 (Or.inr (sn_147 hw))).other W477 (Or.inr (sn_174 hw))).other W482 (Or.inr (sn_45 hw))).other W603 (Or.inr (sn_174 hw)))
                  have f647 := (((((P1_2.other W164 (Or.inr (sn_148 hw))).other W471 (Or.inr (sn_149 hw))).other W477 (Or.inr (sn_172 hw))).other W482 (Or.inr (sn_40 hw))).other W603 (Or.inr (sn_172 hw)))
                  have f648 := (f485.other W603 (Or.inr (sn_170 hw)))
                  have f649 := (((F471.other W477 (Or.inr (sn_171 hw))).other W482 (Or.inr (sn_51 hw))).other W603 (Or.inr (sn_171 hw)))
                  have f650 := (F482.other W603 (Or.inr (sn_169 hw)))
                  have f651 := (((((P1_7.other W164 (Or.inr (sn_155 hw))).other W471 (Or.inr (sn_156 hw))).other W477 (Or.inr (sn_175 hw))).other W482 (Or.inr (sn_59 hw))).other W603 (Or.inr (sn_175 hw)))
                  have f652 := (((((P1_8.other W164 (Or.inr (sn_157 hw))).other W471 (Or.inr (sn_158 hw))).other W477 (Or.inr (sn_176 hw))).other W482 (Or.inr (sn_62 hw))).other W603 (Or.inr (sn_176 hw)))
                  have f653 := (((((P1_9.other W164 (Or.inr (sn_159 hw))).other W471 (Or.inr (sn_160 hw))).other W477 (Or.inr (sn_177 hw))).other W482 (Or.inr (sn_65 hw))).other W603 (Or.inr (sn_177 hw)))
                  have f654 := (((((P1_10.other W164 (Or.inr (sn_161 hw))).other W471 (Or.inr (sn_162 hw))).other W477 (Or.inr (sn_178 hw))).other W482 (Or.inr (sn_68 hw))).other W603 (Or.inr (sn_178 hw)))
                  have f655 := (((((P1_11.other W164 (Or.inr (sn_163 hw))).other W471 (Or.inr (sn_164 hw))).other W477 (Or.inr (sn_179 hw))).other W482 (Or.inr (sn_71 hw))).other W603 (Or.inr (sn_179 hw)))
                  have f656 := (((((P1_12.other W164 (Or.inr (sn_165 hw))).other W471 (Or.inr (sn_166 hw))).other W477 (Or.inr (sn_180 hw))).other W482 (Or.inr (sn_74 hw))).other W603 (Or.inr (sn_180 hw)))
                  have f657 := (((((P1_13.other W164 (Or.inr (sn_167 hw))).other W471 (Or.inr (sn_168 hw))).other W477 (Or.inr (sn_181 hw))).other W482 (Or.inr (sn_39 hw))).other W603 (Or.inr (sn_181 hw)))
                  exact eloop dv1 sv1 ((if_pos ⟨own_neqn hD z0 hc145_487, by rw [ep2]; exact own_ltn hr1 hl hc66_167, by rw [ep2]; exact Or.inr hc188_600⟩).symm) hD hV (lim - (((own_p1 f j0 lim) + 1) + 1)) (((own_p1 f j0 lim) + 1) + 1) ((r1 + (1 : Int32)) + (1 : Int32)) (0 : Int32) (f (own_p1 f j0 lim)) (f ((own_p1 f j0 lim) + 1)) (0 : Int32) ((r1 + (1 : Int32)) + (1 : Int32)) (.ref ca) (.int iv0) u2 (.int (0 : Int32)) (.int (0 : Int32)) (.int (-1 : Int32)) (.int (0 : Int32)) (.long y9_1) (.long y10_1) (.int (0 : Int32)) T606 h603 _ (by omega) hi643 X606 e606 f609 f644 f645 f646 f647 f648 f649 F603 f650 f651 f652 f653 f654 f655 f656 f657 K605 N603 sz604
                · have _ := X606
                  refine own_by (T' := T606) (f' := (mkF m 246 #[.val (.ref o), .val (.ref ca), .val (.int iv0), .val (.int lv), .val (.int (r1 + (1 : Int32))), .val (.int (f (own_p1 f j0 lim))), .val (.int (f ((own_p1 f j0 lim) + 1))), .val (.int (0 : Int32)), .unset] [])) (fun t k => XS.icmpNo X606.here hx rfl (hb hby d4_243) rfl (feq hc243_642).1 k) ?_
                  refine own_by (T' := T606) (f' := (mkF m 248 #[.val (.ref o), .val (.ref ca), .val (.int iv0), .val (.int lv), .val (.int (r1 + (1 : Int32))), .val (.int (f (own_p1 f j0 lim))), .val (.int (f ((own_p1 f j0 lim) + 1))), .val (.int (0 : Int32)), .unset] [(.int (0 : Int32))])) (fun t k => XS.iload X606.here hx rfl (hb hby d4_246) rfl k) ?_
                  refine own_by (T' := T606) (f' := (mkF m 254 #[.val (.ref o), .val (.ref ca), .val (.int iv0), .val (.int lv), .val (.int (r1 + (1 : Int32))), .val (.int (f (own_p1 f j0 lim))), .val (.int (f ((own_p1 f j0 lim) + 1))), .val (.int (0 : Int32)), .unset] [])) (fun t k => XS.ifYes X606.here hx rfl (pc0 := 248) (pc' := 254) rfl (hb hby d4_248) rfl ((if0 _ _).trans (teq rfl).1) (by decide) (by decide) k) ?_
                  refine own_by (T' := T606) (f' := (mkF m 256 #[.val (.ref o), .val (.ref ca), .val (.int iv0), .val (.int lv), .val (.int (r1 + (1 : Int32))), .val (.int (f (own_p1 f j0 lim))), .val (.int (f ((own_p1 f j0 lim) + 1))), .val (.int (0 : Int32)), .unset] [(.int (r1 + (1 : Int32)))])) (fun t k => XS.iload X606.here hx rfl (hb hby d4_254) rfl k) ?_
                  refine own_by (T' := T606) (f' := (mkF m 258 #[.val (.ref o), .val (.ref ca), .val (.int iv0), .val (.int lv), .val (.int (r1 + (1 : Int32))), .val (.int (f (own_p1 f j0 lim))), .val (.int (f ((own_p1 f j0 lim) + 1))), .val (.int (0 : Int32)), .val (.int (r1 + (1 : Int32)))] [])) (fun t k => XS.istore X606.here hx rfl (hb hby d4_256) rfl (l' := #[.val (.ref o), .val (.ref ca), .val (.int iv0), .val (.int lv), .val (.int (r1 + (1 : Int32))), .val (.int (f (own_p1 f j0 lim))), .val (.int (f ((own_p1 f j0 lim) + 1))), .val (.int (0 : Int32)), .val (.int (r1 + (1 : Int32)))]) rfl k) ?_
                  have hpt : ¬ own_pnt f j0 lim := fun q => hc75_169 q.2
                  have ep2 : own_p2 f j0 lim = (own_p1 f j0 lim) := if_neg hpt
                  have es2 : own_s2 f j0 lim = (own_s1 f j0 lim) := if_neg hpt
                  have hV : sv1.toInt = ((own_s2 f j0 lim : Nat) : Int) := by rw [es2]; exact hsv1
                  have hD : dv1.toInt = ((own_dgs f j0 lim : Nat) : Int) := by rw [own_dgs, if_neg hpt]; exact hd1
                  have z0 : (0 : Int32).toInt = ((0 : Nat) : Int) := by decide
                  have f658 := (f602.wr W603)
                  have f659 := (((((P1_0.other W164 (Or.inr (sn_144 hw))).other W471 (Or.inr (sn_145 hw))).other W477 (Or.inr (sn_173 hw))).other W482 (Or.inr (sn_42 hw))).other W603 (Or.inr (sn_173 hw)))
                  have f660 := (((((P1_1.other W164 (Or.inr (sn_146 hw))).other W471 (Or.inr (sn_147 hw))).other W477 (Or.inr (sn_174 hw))).other W482 (Or.inr (sn_45 hw))).other W603 (Or.inr (sn_174 hw)))
                  have f661 := (((((P1_2.other W164 (Or.inr (sn_148 hw))).other W471 (Or.inr (sn_149 hw))).other W477 (Or.inr (sn_172 hw))).other W482 (Or.inr (sn_40 hw))).other W603 (Or.inr (sn_172 hw)))
                  have f662 := (f485.other W603 (Or.inr (sn_170 hw)))
                  have f663 := (((F471.other W477 (Or.inr (sn_171 hw))).other W482 (Or.inr (sn_51 hw))).other W603 (Or.inr (sn_171 hw)))
                  have f664 := (F482.other W603 (Or.inr (sn_169 hw)))
                  have f665 := (((((P1_7.other W164 (Or.inr (sn_155 hw))).other W471 (Or.inr (sn_156 hw))).other W477 (Or.inr (sn_175 hw))).other W482 (Or.inr (sn_59 hw))).other W603 (Or.inr (sn_175 hw)))
                  have f666 := (((((P1_8.other W164 (Or.inr (sn_157 hw))).other W471 (Or.inr (sn_158 hw))).other W477 (Or.inr (sn_176 hw))).other W482 (Or.inr (sn_62 hw))).other W603 (Or.inr (sn_176 hw)))
                  have f667 := (((((P1_9.other W164 (Or.inr (sn_159 hw))).other W471 (Or.inr (sn_160 hw))).other W477 (Or.inr (sn_177 hw))).other W482 (Or.inr (sn_65 hw))).other W603 (Or.inr (sn_177 hw)))
                  have f668 := (((((P1_10.other W164 (Or.inr (sn_161 hw))).other W471 (Or.inr (sn_162 hw))).other W477 (Or.inr (sn_178 hw))).other W482 (Or.inr (sn_68 hw))).other W603 (Or.inr (sn_178 hw)))
                  have f669 := (((((P1_11.other W164 (Or.inr (sn_163 hw))).other W471 (Or.inr (sn_164 hw))).other W477 (Or.inr (sn_179 hw))).other W482 (Or.inr (sn_71 hw))).other W603 (Or.inr (sn_179 hw)))
                  have f670 := (((((P1_12.other W164 (Or.inr (sn_165 hw))).other W471 (Or.inr (sn_166 hw))).other W477 (Or.inr (sn_180 hw))).other W482 (Or.inr (sn_74 hw))).other W603 (Or.inr (sn_180 hw)))
                  have f671 := (((((P1_13.other W164 (Or.inr (sn_167 hw))).other W471 (Or.inr (sn_168 hw))).other W477 (Or.inr (sn_181 hw))).other W482 (Or.inr (sn_39 hw))).other W603 (Or.inr (sn_181 hw)))
                  exact eloop dv1 sv1 ((if_pos ⟨own_neqn hD z0 hc145_487, by rw [ep2]; exact own_ltn hr1 hl hc66_167, by rw [ep2]; exact Or.inr hc188_600⟩).symm) hD hV (lim - ((own_p1 f j0 lim) + 1)) ((own_p1 f j0 lim) + 1) (r1 + (1 : Int32)) (0 : Int32) (f (own_p1 f j0 lim)) (f ((own_p1 f j0 lim) + 1)) (0 : Int32) (r1 + (1 : Int32)) (.ref ca) (.int iv0) u2 (.int (0 : Int32)) (.int (0 : Int32)) (.int (-1 : Int32)) (.int (0 : Int32)) (.long y9_1) (.long y10_1) (.int (0 : Int32)) T606 h603 _ (by omega) hi608 X606 e606 f609 f658 f659 f660 f661 f662 f663 F603 f664 f665 f666 f667 f668 f669 f670 f671 K605 N603 sz604
            · have _ := X606
              refine own_by (T' := T606) (f' := (mkF m 222 #[.val (.ref o), .val (.ref ca), .val (.int iv0), .val (.int lv), .val (.int (r1 + (1 : Int32))), .val (.int (f (own_p1 f j0 lim))), .unset, .unset, .unset] [])) (fun t k => XS.icmpYes X606.here hx rfl (pc0 := 212) (pc' := 222) rfl (hb hby d4_212) rfl (flt hc212_607).2.1 (by decide) (by decide) k) ?_
              refine own_by (T' := T606) (f' := (mkF m 223 #[.val (.ref o), .val (.ref ca), .val (.int iv0), .val (.int lv), .val (.int (r1 + (1 : Int32))), .val (.int (f (own_p1 f j0 lim))), .unset, .unset, .unset] [(.int (0 : Int32))])) (fun t k => XS.iconst X606.here hx rfl (hb hby d4_222) k) ?_
              refine own_by (T' := T606) (f' := (mkF m 225 #[.val (.ref o), .val (.ref ca), .val (.int iv0), .val (.int lv), .val (.int (r1 + (1 : Int32))), .val (.int (f (own_p1 f j0 lim))), .val (.int (0 : Int32)), .unset, .unset] [])) (fun t k => XS.istore X606.here hx rfl (hb hby d4_223) rfl (l' := #[.val (.ref o), .val (.ref ca), .val (.int iv0), .val (.int lv), .val (.int (r1 + (1 : Int32))), .val (.int (f (own_p1 f j0 lim))), .val (.int (0 : Int32)), .unset, .unset]) rfl k) ?_
              refine own_by (T' := T606) (f' := (mkF m 227 #[.val (.ref o), .val (.ref ca), .val (.int iv0), .val (.int lv), .val (.int (r1 + (1 : Int32))), .val (.int (f (own_p1 f j0 lim))), .val (.int (0 : Int32)), .unset, .unset] [(.int (0 : Int32))])) (fun t k => XS.iload X606.here hx rfl (hb hby d4_225) rfl k) ?_
              refine own_by (T' := T606) (f' := (mkF m 229 #[.val (.ref o), .val (.ref ca), .val (.int iv0), .val (.int lv), .val (.int (r1 + (1 : Int32))), .val (.int (f (own_p1 f j0 lim))), .val (.int (0 : Int32)), .unset, .unset] [(.int (45 : Int32)), (.int (0 : Int32))])) (fun t k => XS.bipush X606.here hx rfl (hb hby d4_227) k) ?_
              refine own_by (T' := T606) (f' := (mkF m 236 #[.val (.ref o), .val (.ref ca), .val (.int iv0), .val (.int lv), .val (.int (r1 + (1 : Int32))), .val (.int (f (own_p1 f j0 lim))), .val (.int (0 : Int32)), .unset, .unset] [])) (fun t k => XS.icmpYes X606.here hx rfl (pc0 := 229) (pc' := 236) rfl (hb hby d4_229) rfl (feq (by decide)).2 (by decide) (by decide) k) ?_
              refine own_by (T' := T606) (f' := (mkF m 237 #[.val (.ref o), .val (.ref ca), .val (.int iv0), .val (.int lv), .val (.int (r1 + (1 : Int32))), .val (.int (f (own_p1 f j0 lim))), .val (.int (0 : Int32)), .unset, .unset] [(.int (0 : Int32))])) (fun t k => XS.iconst X606.here hx rfl (hb hby d4_236) k) ?_
              refine own_by (T' := T606) (f' := (mkF m 239 #[.val (.ref o), .val (.ref ca), .val (.int iv0), .val (.int lv), .val (.int (r1 + (1 : Int32))), .val (.int (f (own_p1 f j0 lim))), .val (.int (0 : Int32)), .val (.int (0 : Int32)), .unset] [])) (fun t k => XS.istore X606.here hx rfl (hb hby d4_237) rfl (l' := #[.val (.ref o), .val (.ref ca), .val (.int iv0), .val (.int lv), .val (.int (r1 + (1 : Int32))), .val (.int (f (own_p1 f j0 lim))), .val (.int (0 : Int32)), .val (.int (0 : Int32)), .unset]) rfl k) ?_
              refine own_by (T' := T606) (f' := (mkF m 241 #[.val (.ref o), .val (.ref ca), .val (.int iv0), .val (.int lv), .val (.int (r1 + (1 : Int32))), .val (.int (f (own_p1 f j0 lim))), .val (.int (0 : Int32)), .val (.int (0 : Int32)), .unset] [(.int (0 : Int32))])) (fun t k => XS.iload X606.here hx rfl (hb hby d4_239) rfl k) ?_
              refine own_by (T' := T606) (f' := (mkF m 243 #[.val (.ref o), .val (.ref ca), .val (.int iv0), .val (.int lv), .val (.int (r1 + (1 : Int32))), .val (.int (f (own_p1 f j0 lim))), .val (.int (0 : Int32)), .val (.int (0 : Int32)), .unset] [(.int (43 : Int32)), (.int (0 : Int32))])) (fun t k => XS.bipush X606.here hx rfl (hb hby d4_241) k) ?_
              refine own_by (T' := T606) (f' := (mkF m 246 #[.val (.ref o), .val (.ref ca), .val (.int iv0), .val (.int lv), .val (.int (r1 + (1 : Int32))), .val (.int (f (own_p1 f j0 lim))), .val (.int (0 : Int32)), .val (.int (0 : Int32)), .unset] [])) (fun t k => XS.icmpNo X606.here hx rfl (hb hby d4_243) rfl (feq (by decide)).1 k) ?_
              refine own_by (T' := T606) (f' := (mkF m 248 #[.val (.ref o), .val (.ref ca), .val (.int iv0), .val (.int lv), .val (.int (r1 + (1 : Int32))), .val (.int (f (own_p1 f j0 lim))), .val (.int (0 : Int32)), .val (.int (0 : Int32)), .unset] [(.int (0 : Int32))])) (fun t k => XS.iload X606.here hx rfl (hb hby d4_246) rfl k) ?_
              refine own_by (T' := T606) (f' := (mkF m 254 #[.val (.ref o), .val (.ref ca), .val (.int iv0), .val (.int lv), .val (.int (r1 + (1 : Int32))), .val (.int (f (own_p1 f j0 lim))), .val (.int (0 : Int32)), .val (.int (0 : Int32)), .unset] [])) (fun t k => XS.ifYes X606.here hx rfl (pc0 := 248) (pc' := 254) rfl (hb hby d4_248) rfl ((if0 _ _).trans (teq rfl).1) (by decide) (by decide) k) ?_
              refine own_by (T' := T606) (f' := (mkF m 256 #[.val (.ref o), .val (.ref ca), .val (.int iv0), .val (.int lv), .val (.int (r1 + (1 : Int32))), .val (.int (f (own_p1 f j0 lim))), .val (.int (0 : Int32)), .val (.int (0 : Int32)), .unset] [(.int (r1 + (1 : Int32)))])) (fun t k => XS.iload X606.here hx rfl (hb hby d4_254) rfl k) ?_
              refine own_by (T' := T606) (f' := (mkF m 258 #[.val (.ref o), .val (.ref ca), .val (.int iv0), .val (.int lv), .val (.int (r1 + (1 : Int32))), .val (.int (f (own_p1 f j0 lim))), .val (.int (0 : Int32)), .val (.int (0 : Int32)), .val (.int (r1 + (1 : Int32)))] [])) (fun t k => XS.istore X606.here hx rfl (hb hby d4_256) rfl (l' := #[.val (.ref o), .val (.ref ca), .val (.int iv0), .val (.int lv), .val (.int (r1 + (1 : Int32))), .val (.int (f (own_p1 f j0 lim))), .val (.int (0 : Int32)), .val (.int (0 : Int32)), .val (.int (r1 + (1 : Int32)))]) rfl k) ?_
              have hpt : ¬ own_pnt f j0 lim := fun q => hc75_169 q.2
              have ep2 : own_p2 f j0 lim = (own_p1 f j0 lim) := if_neg hpt
              have es2 : own_s2 f j0 lim = (own_s1 f j0 lim) := if_neg hpt
              have hV : sv1.toInt = ((own_s2 f j0 lim : Nat) : Int) := by rw [es2]; exact hsv1
              have hD : dv1.toInt = ((own_dgs f j0 lim : Nat) : Int) := by rw [own_dgs, if_neg hpt]; exact hd1
              have z0 : (0 : Int32).toInt = ((0 : Nat) : Int) := by decide
              have lt672 := own_ltn hr1 hl hc66_167
              have hi672 := own_inc hr1 lt672 (by omega)
              have le672 : (own_p1 f j0 lim) + 1 ≤ lim := lt672
              have f673 := (f511.other W603 nco)
              have f674 := (f602.wr W603)
              have f675 := (((((P1_0.other W164 (Or.inr (sn_144 hw))).other W471 (Or.inr (sn_145 hw))).other W477 (Or.inr (sn_173 hw))).other W482 (Or.inr (sn_42 hw))).other W603 (Or.inr (sn_173 hw)))
              have f676 := (((((P1_1.other W164 (Or.inr (sn_146 hw))).other W471 (Or.inr (sn_147 hw))).other W477 (Or.inr (sn_174 hw))).other W482 (Or.inr (sn_45 hw))).other W603 (Or.inr (sn_174 hw)))
              have f677 := (((((P1_2.other W164 (Or.inr (sn_148 hw))).other W471 (Or.inr (sn_149 hw))).other W477 (Or.inr (sn_172 hw))).other W482 (Or.inr (sn_40 hw))).other W603 (Or.inr (sn_172 hw)))
              have f678 := (f485.other W603 (Or.inr (sn_170 hw)))
              have f679 := (((F471.other W477 (Or.inr (sn_171 hw))).other W482 (Or.inr (sn_51 hw))).other W603 (Or.inr (sn_171 hw)))
              have f680 := (F482.other W603 (Or.inr (sn_169 hw)))
              have f681 := (((((P1_7.other W164 (Or.inr (sn_155 hw))).other W471 (Or.inr (sn_156 hw))).other W477 (Or.inr (sn_175 hw))).other W482 (Or.inr (sn_59 hw))).other W603 (Or.inr (sn_175 hw)))
              have f682 := (((((P1_8.other W164 (Or.inr (sn_157 hw))).other W471 (Or.inr (sn_158 hw))).other W477 (Or.inr (sn_176 hw))).other W482 (Or.inr (sn_62 hw))).other W603 (Or.inr (sn_176 hw)))
              have f683 := (((((P1_9.other W164 (Or.inr (sn_159 hw))).other W471 (Or.inr (sn_160 hw))).other W477 (Or.inr (sn_177 hw))).other W482 (Or.inr (sn_65 hw))).other W603 (Or.inr (sn_177 hw)))
              have f684 := (((((P1_10.other W164 (Or.inr (sn_161 hw))).other W471 (Or.inr (sn_162 hw))).other W477 (Or.inr (sn_178 hw))).other W482 (Or.inr (sn_68 hw))).other W603 (Or.inr (sn_178 hw)))
              have f685 := (((((P1_11.other W164 (Or.inr (sn_163 hw))).other W471 (Or.inr (sn_164 hw))).other W477 (Or.inr (sn_179 hw))).other W482 (Or.inr (sn_71 hw))).other W603 (Or.inr (sn_179 hw)))
              have f686 := (((((P1_12.other W164 (Or.inr (sn_165 hw))).other W471 (Or.inr (sn_166 hw))).other W477 (Or.inr (sn_180 hw))).other W482 (Or.inr (sn_74 hw))).other W603 (Or.inr (sn_180 hw)))
              have f687 := (((((P1_13.other W164 (Or.inr (sn_167 hw))).other W471 (Or.inr (sn_168 hw))).other W477 (Or.inr (sn_181 hw))).other W482 (Or.inr (sn_39 hw))).other W603 (Or.inr (sn_181 hw)))
              exact eloop dv1 sv1 ((if_pos ⟨own_neqn hD z0 hc145_487, by rw [ep2]; exact own_ltn hr1 hl hc66_167, by rw [ep2]; exact Or.inr hc188_600⟩).symm) hD hV (lim - ((own_p1 f j0 lim) + 1)) ((own_p1 f j0 lim) + 1) (r1 + (1 : Int32)) (0 : Int32) (f (own_p1 f j0 lim)) (0 : Int32) (0 : Int32) (r1 + (1 : Int32)) (.ref ca) (.int iv0) u2 (.int (0 : Int32)) (.int (0 : Int32)) (.int (-1 : Int32)) (.int (0 : Int32)) (.long y9_1) (.long y10_1) (.int (0 : Int32)) T606 h603 _ (by omega) hi672 X606 e606 f673 f674 f675 f676 f677 f678 f679 F603 f680 f681 f682 f683 f684 f685 f686 f687 K605 N603 sz604
          · have _ := X486
            refine own_by (T' := T486) (f' := (mkF m 195 #[.val (.ref o), .val (.ref ca), .val (.int iv0), .val (.int lv), .val (.int r1), .val (.int (f (own_p1 f j0 lim))), .unset, .unset, .unset] [(.ref o)])) (fun t k => XS.icmpYes X486.here hx rfl (pc0 := 188) (pc' := 195) rfl (hb hby d4_188) rfl (feq hc188_600).2 (by decide) (by decide) k) ?_
            refine own_by (T' := T486) (f' := (mkF m 196 #[.val (.ref o), .val (.ref ca), .val (.int iv0), .val (.int lv), .val (.int r1), .val (.int (f (own_p1 f j0 lim))), .unset, .unset, .unset] [(.int (0 : Int32)), (.ref o)])) (fun t k => XS.iconst X486.here hx rfl (hb hby d4_195) k) ?_
            have f688 := (F477.other W482 (Or.inr (sn_54 hw)))
            have f689 := (f481.wr W482)
            refine own_putF (host := "") X486 hx hZ hown e486 (hb hby d4_196) (Or.inl (own_w hw 49 rfl)) Via.refl f688 f689 (Or.inl (own_w hw 50 rfl)) (own_w hw 7 rfl) (ty := .boolean) (by decide) rfl rfl ?_
            intro T690 h690 X690 e690 W690
            show own_Go p e below _ T690 (mkF m 199 #[.val (.ref o), .val (.ref ca), .val (.int iv0), .val (.int lv), .val (.int r1), .val (.int (f (own_p1 f j0 lim))), .unset, .unset, .unset] [])
            have F690 := f688.same W690
            have sz691 : n0 ≤ h690.size := by rw [W690.size]; exact sz483
            have K692 := K484.wr W690 (Or.inl (List.mem_of_getElem? (i := 0) rfl))
            have N690 := Fr.snoc X690 N482 go
            refine own_by (T' := T690) (f' := (mkF m 200 #[.val (.ref o), .val (.ref ca), .val (.int iv0), .val (.int lv), .val (.int r1), .val (.int (f (own_p1 f j0 lim))), .unset, .unset, .unset] [(.ref o)])) (fun t k => XS.aloadN X690.here hx rfl (hb hby d4_199) rfl rfl k) ?_
            refine own_getF (host := "") X690 hx hZ hown e690 (hb hby d4_200) (Or.inl (own_w hw 49 rfl)) Via.refl F690 ?_
            intro T693 X693 e693
            show own_Go p e below _ T693 (mkF m 203 #[.val (.ref o), .val (.ref ca), .val (.int iv0), .val (.int lv), .val (.int r1), .val (.int (f (own_p1 f j0 lim))), .unset, .unset, .unset] [(.int (0 : Int32))])
            refine own_by (T' := T693) (f' := (mkF m 341 #[.val (.ref o), .val (.ref ca), .val (.int iv0), .val (.int lv), .val (.int r1), .val (.int (f (own_p1 f j0 lim))), .unset, .unset, .unset] [])) (fun t k => XS.ifYes X693.here hx rfl (pc0 := 203) (pc' := 341) rfl (hb hby d4_203) rfl ((if0 _ _).trans (teq rfl).1) (by decide) (by decide) k) ?_
            refine own_by (T' := T693) (f' := (mkF m 342 #[.val (.ref o), .val (.ref ca), .val (.int iv0), .val (.int lv), .val (.int r1), .val (.int (f (own_p1 f j0 lim))), .unset, .unset, .unset] [(.ref o)])) (fun t k => XS.aloadN X693.here hx rfl (hb hby d4_341) rfl rfl k) ?_
            refine own_by (T' := T693) (f' := (mkF m 344 #[.val (.ref o), .val (.ref ca), .val (.int iv0), .val (.int lv), .val (.int r1), .val (.int (f (own_p1 f j0 lim))), .unset, .unset, .unset] [(.int r1), (.ref o)])) (fun t k => XS.iload X693.here hx rfl (hb hby d4_342) rfl k) ?_
            have f694 := (((((P1_2.other W164 (Or.inr (sn_148 hw))).other W471 (Or.inr (sn_149 hw))).other W477 (Or.inr (sn_172 hw))).other W482 (Or.inr (sn_40 hw))).other W690 (Or.inr (sn_172 hw)))
            have f695 := (f689.wr W690)
            refine own_putF (host := "") X693 hx hZ hown e693 (hb hby d4_344) (Or.inl (own_w hw 53 rfl)) Via.refl f694 f695 (Or.inl (own_w hw 54 rfl)) (own_w hw 7 rfl) (ty := .int) (by decide) rfl rfl ?_
            intro T696 h696 X696 e696 W696
            show own_Go p e below _ T696 (mkF m 347 #[.val (.ref o), .val (.ref ca), .val (.int iv0), .val (.int lv), .val (.int r1), .val (.int (f (own_p1 f j0 lim))), .unset, .unset, .unset] [])
            have F696 := f694.same W696
            have sz697 : n0 ≤ h696.size := by rw [W696.size]; exact sz691
            have K698 := K692.wr W696 (Or.inl (List.mem_of_getElem? (i := 0) rfl))
            have N696 := Fr.snoc X696 N690 go
            refine own_by (T' := T696) (f' := (mkF m 348 #[.val (.ref o), .val (.ref ca), .val (.int iv0), .val (.int lv), .val (.int r1), .val (.int (f (own_p1 f j0 lim))), .unset, .unset, .unset] [(.ref o)])) (fun t k => XS.aloadN X696.here hx rfl (hb hby d4_347) rfl rfl k) ?_
            have hpt : ¬ own_pnt f j0 lim := fun q => hc75_169 q.2
            have ep2 : own_p2 f j0 lim = (own_p1 f j0 lim) := if_neg hpt
            have es2 : own_s2 f j0 lim = (own_s1 f j0 lim) := if_neg hpt
            have hV : sv1.toInt = ((own_s2 f j0 lim : Nat) : Int) := by rw [es2]; exact hsv1
            have hD : dv1.toInt = ((own_dgs f j0 lim : Nat) : Int) := by rw [own_dgs, if_neg hpt]; exact hd1
            have z0 : (0 : Int32).toInt = ((0 : Nat) : Int) := by decide
            have f699 := ((((((P1_0.other W164 (Or.inr (sn_144 hw))).other W471 (Or.inr (sn_145 hw))).other W477 (Or.inr (sn_173 hw))).other W482 (Or.inr (sn_42 hw))).other W690 (Or.inr (sn_173 hw))).other W696 (Or.inr (sn_44 hw)))
            have f700 := ((((((P1_1.other W164 (Or.inr (sn_146 hw))).other W471 (Or.inr (sn_147 hw))).other W477 (Or.inr (sn_174 hw))).other W482 (Or.inr (sn_45 hw))).other W690 (Or.inr (sn_174 hw))).other W696 (Or.inr (sn_47 hw)))
            have f701 := ((f485.other W690 (Or.inr (sn_170 hw))).other W696 (Or.inr (sn_50 hw)))
            have f702 := ((((F471.other W477 (Or.inr (sn_171 hw))).other W482 (Or.inr (sn_51 hw))).other W690 (Or.inr (sn_171 hw))).other W696 (Or.inr (sn_53 hw)))
            have f703 := (F690.other W696 (Or.inr (sn_56 hw)))
            have f704 := ((F482.other W690 (Or.inr (sn_169 hw))).other W696 (Or.inr (sn_58 hw)))
            have f705 := ((((((P1_7.other W164 (Or.inr (sn_155 hw))).other W471 (Or.inr (sn_156 hw))).other W477 (Or.inr (sn_175 hw))).other W482 (Or.inr (sn_59 hw))).other W690 (Or.inr (sn_175 hw))).other W696 (Or.inr (sn_61 hw)))
            have f706 := ((((((P1_8.other W164 (Or.inr (sn_157 hw))).other W471 (Or.inr (sn_158 hw))).other W477 (Or.inr (sn_176 hw))).other W482 (Or.inr (sn_62 hw))).other W690 (Or.inr (sn_176 hw))).other W696 (Or.inr (sn_64 hw)))
            have f707 := ((((((P1_9.other W164 (Or.inr (sn_159 hw))).other W471 (Or.inr (sn_160 hw))).other W477 (Or.inr (sn_177 hw))).other W482 (Or.inr (sn_65 hw))).other W690 (Or.inr (sn_177 hw))).other W696 (Or.inr (sn_67 hw)))
            have f708 := ((((((P1_10.other W164 (Or.inr (sn_161 hw))).other W471 (Or.inr (sn_162 hw))).other W477 (Or.inr (sn_178 hw))).other W482 (Or.inr (sn_68 hw))).other W690 (Or.inr (sn_178 hw))).other W696 (Or.inr (sn_70 hw)))
            have f709 := ((((((P1_11.other W164 (Or.inr (sn_163 hw))).other W471 (Or.inr (sn_164 hw))).other W477 (Or.inr (sn_179 hw))).other W482 (Or.inr (sn_71 hw))).other W690 (Or.inr (sn_179 hw))).other W696 (Or.inr (sn_73 hw)))
            have f710 := ((((((P1_12.other W164 (Or.inr (sn_165 hw))).other W471 (Or.inr (sn_166 hw))).other W477 (Or.inr (sn_180 hw))).other W482 (Or.inr (sn_74 hw))).other W690 (Or.inr (sn_180 hw))).other W696 (Or.inr (sn_76 hw)))
            have f711 := ((((((P1_13.other W164 (Or.inr (sn_167 hw))).other W471 (Or.inr (sn_168 hw))).other W477 (Or.inr (sn_181 hw))).other W482 (Or.inr (sn_39 hw))).other W690 (Or.inr (sn_181 hw))).other W696 (Or.inr (sn_77 hw)))
            refine own_retA X696 hx hret hlk (hb hby d4_348) rfl rfl rfl (by decide) (by decide) ?_
            try rw [e696]
            exact ⟨rfl, N696, K698, _, _, _, (if_neg (fun q => (ep2 ▸ q.2.2 : f (own_p1 f j0 lim) = (101 : Int32) ∨ f (own_p1 f j0 lim) = (69 : Int32)).elim hc181_512 hc188_600)).symm, hD, hV, _, _, _, _, _, _, _, _, _, _, _, f699, f700, F696, f701, f702, f703, f704, f705, f706, f707, f708, f709, f710, f711⟩
  · have _ := X164
    refine own_by (T' := T164) (f' := (mkF m 82 #[.val (.ref o), .val (.ref ca), .val (.int iv0), .val (.int lv), .val (.int r1), .unset, .unset, .unset, .unset] [(.ref o)])) (fun t k => XS.icmpYes X164.here hx rfl (pc0 := 66) (pc' := 82) rfl (hb hby d4_66) rfl (flt hc66_167).2.1 (by decide) (by decide) k) ?_
    refine own_by (T' := T164) (f' := (mkF m 83 #[.val (.ref o), .val (.ref ca), .val (.int iv0), .val (.int lv), .val (.int r1), .unset, .unset, .unset, .unset] [(.int (0 : Int32)), (.ref o)])) (fun t k => XS.iconst X164.here hx rfl (hb hby d4_82) k) ?_
    have f712 := (P1_4.other W164 (Or.inr (sn_143 hw)))
    have f713 := (f163.wr W164)
    refine own_putF (host := "") X164 hx hZ hown e164 (hb hby d4_83) (Or.inl (own_w hw 47 rfl)) Via.refl f712 f713 (Or.inl (own_w hw 48 rfl)) (own_w hw 7 rfl) (ty := .boolean) (by decide) rfl rfl ?_
    intro T714 h714 X714 e714 W714
    show own_Go p e below _ T714 (mkF m 86 #[.val (.ref o), .val (.ref ca), .val (.int iv0), .val (.int lv), .val (.int r1), .unset, .unset, .unset, .unset] [])
    have F714 := f712.same W714
    have sz715 : n0 ≤ h714.size := by rw [W714.size]; exact sz165
    have K716 := K166.wr W714 (Or.inl (List.mem_of_getElem? (i := 0) rfl))
    have N714 := Fr.snoc X714 N164 go
    refine own_by (T' := T714) (f' := (mkF m 87 #[.val (.ref o), .val (.ref ca), .val (.int iv0), .val (.int lv), .val (.int r1), .unset, .unset, .unset, .unset] [(.ref o)])) (fun t k => XS.aloadN X714.here hx rfl (hb hby d4_86) rfl rfl k) ?_
    refine own_getF (host := "") X714 hx hZ hown e714 (hb hby d4_87) (Or.inl (own_w hw 47 rfl)) Via.refl F714 ?_
    intro T717 X717 e717
    show own_Go p e below _ T717 (mkF m 90 #[.val (.ref o), .val (.ref ca), .val (.int iv0), .val (.int lv), .val (.int r1), .unset, .unset, .unset, .unset] [(.int (0 : Int32))])
    refine own_by (T' := T717) (f' := (mkF m 131 #[.val (.ref o), .val (.ref ca), .val (.int iv0), .val (.int lv), .val (.int r1), .unset, .unset, .unset, .unset] [])) (fun t k => XS.ifYes X717.here hx rfl (pc0 := 90) (pc' := 131) rfl (hb hby d4_90) rfl ((if0 _ _).trans (teq rfl).1) (by decide) (by decide) k) ?_
    refine own_by (T' := T717) (f' := (mkF m 132 #[.val (.ref o), .val (.ref ca), .val (.int iv0), .val (.int lv), .val (.int r1), .unset, .unset, .unset, .unset] [(.ref o)])) (fun t k => XS.aloadN X717.here hx rfl (hb hby d4_131) rfl rfl k) ?_
    refine own_by (T' := T717) (f' := (mkF m 133 #[.val (.ref o), .val (.ref ca), .val (.int iv0), .val (.int lv), .val (.int r1), .unset, .unset, .unset, .unset] [(.int (0 : Int32)), (.ref o)])) (fun t k => XS.iconst X717.here hx rfl (hb hby d4_132) k) ?_
    have f718 := ((P1_5.other W164 (Or.inr (sn_151 hw))).other W714 (Or.inr (sn_152 hw)))
    have f719 := (f713.wr W714)
    refine own_putF (host := "") X717 hx hZ hown e717 (hb hby d4_133) (Or.inl (own_w hw 49 rfl)) Via.refl f718 f719 (Or.inl (own_w hw 50 rfl)) (own_w hw 7 rfl) (ty := .boolean) (by decide) rfl rfl ?_
    intro T720 h720 X720 e720 W720
    show own_Go p e below _ T720 (mkF m 136 #[.val (.ref o), .val (.ref ca), .val (.int iv0), .val (.int lv), .val (.int r1), .unset, .unset, .unset, .unset] [])
    have F720 := f718.same W720
    have sz721 : n0 ≤ h720.size := by rw [W720.size]; exact sz715
    have K722 := K716.wr W720 (Or.inl (List.mem_of_getElem? (i := 0) rfl))
    have N720 := Fr.snoc X720 N714 go
    refine own_by (T' := T720) (f' := (mkF m 137 #[.val (.ref o), .val (.ref ca), .val (.int iv0), .val (.int lv), .val (.int r1), .unset, .unset, .unset, .unset] [(.ref o)])) (fun t k => XS.aloadN X720.here hx rfl (hb hby d4_136) rfl rfl k) ?_
    refine own_by (T' := T720) (f' := (mkF m 138 #[.val (.ref o), .val (.ref ca), .val (.int iv0), .val (.int lv), .val (.int r1), .unset, .unset, .unset, .unset] [(.int (0 : Int32)), (.ref o)])) (fun t k => XS.iconst X720.here hx rfl (hb hby d4_137) k) ?_
    have f723 := (((P1_6.other W164 (Or.inr (sn_153 hw))).other W714 (Or.inr (sn_154 hw))).other W720 (Or.inr (sn_169 hw)))
    have f724 := (f719.wr W720)
    refine own_putF (host := "") X720 hx hZ hown e720 (hb hby d4_138) (Or.inl (own_w hw 51 rfl)) Via.refl f723 f724 (Or.inl (own_w hw 52 rfl)) (own_w hw 7 rfl) (ty := .boolean) (by decide) rfl rfl ?_
    intro T725 h725 X725 e725 W725
    show own_Go p e below _ T725 (mkF m 141 #[.val (.ref o), .val (.ref ca), .val (.int iv0), .val (.int lv), .val (.int r1), .unset, .unset, .unset, .unset] [])
    have F725 := f723.same W725
    have sz726 : n0 ≤ h725.size := by rw [W725.size]; exact sz721
    have K727 := K722.wr W725 (Or.inl (List.mem_of_getElem? (i := 0) rfl))
    have N725 := Fr.snoc X725 N720 go
    refine own_by (T' := T725) (f' := (mkF m 142 #[.val (.ref o), .val (.ref ca), .val (.int iv0), .val (.int lv), .val (.int r1), .unset, .unset, .unset, .unset] [(.ref o)])) (fun t k => XS.aloadN X725.here hx rfl (hb hby d4_141) rfl rfl k) ?_
    have f728 := (((F164.other W714 (Or.inr (sn_150 hw))).other W720 (Or.inr (sn_170 hw))).other W725 (Or.inr (sn_48 hw)))
    refine own_getF (host := "") X725 hx hZ hown e725 (hb hby d4_142) (Or.inl (own_w hw 45 rfl)) Via.refl f728 ?_
    intro T729 X729 e729
    show own_Go p e below _ T729 (mkF m 145 #[.val (.ref o), .val (.ref ca), .val (.int iv0), .val (.int lv), .val (.int r1), .unset, .unset, .unset, .unset] [(.int dv1)])
    by_cases hc145_730 : dv1 = (0 : Int32)
    · have _ := X729
      refine own_by (T' := T729) (f' := (mkF m 148 #[.val (.ref o), .val (.ref ca), .val (.int iv0), .val (.int lv), .val (.int r1), .unset, .unset, .unset, .unset] [])) (fun t k => XS.ifNo X729.here hx rfl (hb hby d4_145) rfl ((if0 _ _).trans (teq hc145_730).2) k) ?_
      refine own_by (T' := T729) (f' := (mkF m 149 #[.val (.ref o), .val (.ref ca), .val (.int iv0), .val (.int lv), .val (.int r1), .unset, .unset, .unset, .unset] [(.ref o)])) (fun t k => XS.aloadN X729.here hx rfl (hb hby d4_148) rfl rfl k) ?_
      refine own_by (T' := T729) (f' := (mkF m 150 #[.val (.ref o), .val (.ref ca), .val (.int iv0), .val (.int lv), .val (.int r1), .unset, .unset, .unset, .unset] [(.int (0 : Int32)), (.ref o)])) (fun t k => XS.iconst X729.here hx rfl (hb hby d4_149) k) ?_
      have f731 := ((F714.other W720 (Or.inr (sn_171 hw))).other W725 (Or.inr (sn_51 hw)))
      have f732 := (f724.wr W725)
      refine own_putF (host := "") X729 hx hZ hown e729 (hb hby d4_150) (Or.inl (own_w hw 47 rfl)) Via.refl f731 f732 (Or.inl (own_w hw 48 rfl)) (own_w hw 7 rfl) (ty := .boolean) (by decide) rfl rfl ?_
      intro T733 h733 X733 e733 W733
      show own_Go p e below _ T733 (mkF m 153 #[.val (.ref o), .val (.ref ca), .val (.int iv0), .val (.int lv), .val (.int r1), .unset, .unset, .unset, .unset] [])
      have F733 := f731.same W733
      have sz734 : n0 ≤ h733.size := by rw [W733.size]; exact sz726
      have K735 := K727.wr W733 (Or.inl (List.mem_of_getElem? (i := 0) rfl))
      have N733 := Fr.snoc X733 N725 go
      refine own_by (T' := T733) (f' := (mkF m 154 #[.val (.ref o), .val (.ref ca), .val (.int iv0), .val (.int lv), .val (.int r1), .unset, .unset, .unset, .unset] [(.ref o)])) (fun t k => XS.aloadN X733.here hx rfl (hb hby d4_153) rfl rfl k) ?_
      refine own_by (T' := T733) (f' := (mkF m 155 #[.val (.ref o), .val (.ref ca), .val (.int iv0), .val (.int lv), .val (.int r1), .unset, .unset, .unset, .unset] [(.int iv0), (.ref o)])) (fun t k => XS.iloadN X733.here hx rfl (hb hby d4_154) rfl k) ?_
      have f736 := (((((P1_2.other W164 (Or.inr (sn_148 hw))).other W714 (Or.inr (sn_149 hw))).other W720 (Or.inr (sn_172 hw))).other W725 (Or.inr (sn_40 hw))).other W733 (Or.inr (sn_149 hw)))
      have f737 := (f732.wr W733)
      refine own_putF (host := "") X733 hx hZ hown e733 (hb hby d4_155) (Or.inl (own_w hw 53 rfl)) Via.refl f736 f737 (Or.inl (own_w hw 54 rfl)) (own_w hw 7 rfl) (ty := .int) (by decide) rfl rfl ?_
      intro T738 h738 X738 e738 W738
      show own_Go p e below _ T738 (mkF m 158 #[.val (.ref o), .val (.ref ca), .val (.int iv0), .val (.int lv), .val (.int r1), .unset, .unset, .unset, .unset] [])
      have F738 := f736.same W738
      have sz739 : n0 ≤ h738.size := by rw [W738.size]; exact sz734
      have K740 := K735.wr W738 (Or.inl (List.mem_of_getElem? (i := 0) rfl))
      have N738 := Fr.snoc X738 N733 go
      refine own_by (T' := T738) (f' := (mkF m 159 #[.val (.ref o), .val (.ref ca), .val (.int iv0), .val (.int lv), .val (.int r1), .unset, .unset, .unset, .unset] [(.ref o)])) (fun t k => XS.aloadN X738.here hx rfl (hb hby d4_158) rfl rfl k) ?_
      have hpt : ¬ own_pnt f j0 lim := fun q => own_nltn hr1 hl hc66_167 q.1
      have ep2 : own_p2 f j0 lim = (own_p1 f j0 lim) := if_neg hpt
      have es2 : own_s2 f j0 lim = (own_s1 f j0 lim) := if_neg hpt
      have hV : sv1.toInt = ((own_s2 f j0 lim : Nat) : Int) := by rw [es2]; exact hsv1
      have hD : dv1.toInt = ((own_dgs f j0 lim : Nat) : Int) := by rw [own_dgs, if_neg hpt]; exact hd1
      have z0 : (0 : Int32).toInt = ((0 : Nat) : Int) := by decide
      have f741 := ((((((P1_0.other W164 (Or.inr (sn_144 hw))).other W714 (Or.inr (sn_145 hw))).other W720 (Or.inr (sn_173 hw))).other W725 (Or.inr (sn_42 hw))).other W733 (Or.inr (sn_145 hw))).other W738 (Or.inr (sn_44 hw)))
      have f742 := ((((((P1_1.other W164 (Or.inr (sn_146 hw))).other W714 (Or.inr (sn_147 hw))).other W720 (Or.inr (sn_174 hw))).other W725 (Or.inr (sn_45 hw))).other W733 (Or.inr (sn_147 hw))).other W738 (Or.inr (sn_47 hw)))
      have f743 := ((f728.other W733 (Or.inr (sn_150 hw))).other W738 (Or.inr (sn_50 hw)))
      have f744 := (F733.other W738 (Or.inr (sn_53 hw)))
      have f745 := (((F720.other W725 (Or.inr (sn_54 hw))).other W733 (Or.inr (sn_152 hw))).other W738 (Or.inr (sn_56 hw)))
      have f746 := ((F725.other W733 (Or.inr (sn_154 hw))).other W738 (Or.inr (sn_58 hw)))
      have f747 := ((((((P1_7.other W164 (Or.inr (sn_155 hw))).other W714 (Or.inr (sn_156 hw))).other W720 (Or.inr (sn_175 hw))).other W725 (Or.inr (sn_59 hw))).other W733 (Or.inr (sn_156 hw))).other W738 (Or.inr (sn_61 hw)))
      have f748 := ((((((P1_8.other W164 (Or.inr (sn_157 hw))).other W714 (Or.inr (sn_158 hw))).other W720 (Or.inr (sn_176 hw))).other W725 (Or.inr (sn_62 hw))).other W733 (Or.inr (sn_158 hw))).other W738 (Or.inr (sn_64 hw)))
      have f749 := ((((((P1_9.other W164 (Or.inr (sn_159 hw))).other W714 (Or.inr (sn_160 hw))).other W720 (Or.inr (sn_177 hw))).other W725 (Or.inr (sn_65 hw))).other W733 (Or.inr (sn_160 hw))).other W738 (Or.inr (sn_67 hw)))
      have f750 := ((((((P1_10.other W164 (Or.inr (sn_161 hw))).other W714 (Or.inr (sn_162 hw))).other W720 (Or.inr (sn_178 hw))).other W725 (Or.inr (sn_68 hw))).other W733 (Or.inr (sn_162 hw))).other W738 (Or.inr (sn_70 hw)))
      have f751 := ((((((P1_11.other W164 (Or.inr (sn_163 hw))).other W714 (Or.inr (sn_164 hw))).other W720 (Or.inr (sn_179 hw))).other W725 (Or.inr (sn_71 hw))).other W733 (Or.inr (sn_164 hw))).other W738 (Or.inr (sn_73 hw)))
      have f752 := ((((((P1_12.other W164 (Or.inr (sn_165 hw))).other W714 (Or.inr (sn_166 hw))).other W720 (Or.inr (sn_180 hw))).other W725 (Or.inr (sn_74 hw))).other W733 (Or.inr (sn_166 hw))).other W738 (Or.inr (sn_76 hw)))
      have f753 := ((((((P1_13.other W164 (Or.inr (sn_167 hw))).other W714 (Or.inr (sn_168 hw))).other W720 (Or.inr (sn_181 hw))).other W725 (Or.inr (sn_39 hw))).other W733 (Or.inr (sn_168 hw))).other W738 (Or.inr (sn_77 hw)))
      refine own_retA X738 hx hret hlk (hb hby d4_159) rfl rfl rfl (by decide) (by decide) ?_
      try rw [e738]
      exact ⟨rfl, N738, K740, _, _, _, (if_neg (fun q => q.1 (own_eqn hD z0 hc145_730))).symm, hD, hV, _, _, _, _, _, _, _, _, _, _, _, f741, f742, F738, f743, f744, f745, f746, f747, f748, f749, f750, f751, f752, f753⟩
    · have _ := X729
      refine own_by (T' := T729) (f' := (mkF m 160 #[.val (.ref o), .val (.ref ca), .val (.int iv0), .val (.int lv), .val (.int r1), .unset, .unset, .unset, .unset] [])) (fun t k => XS.ifYes X729.here hx rfl (pc0 := 145) (pc' := 160) rfl (hb hby d4_145) rfl ((if0 _ _).trans (feq hc145_730).2) (by decide) (by decide) k) ?_
      refine own_by (T' := T729) (f' := (mkF m 162 #[.val (.ref o), .val (.ref ca), .val (.int iv0), .val (.int lv), .val (.int r1), .unset, .unset, .unset, .unset] [(.int r1)])) (fun t k => XS.iload X729.here hx rfl (hb hby d4_160) rfl k) ?_
      refine own_by (T' := T729) (f' := (mkF m 163 #[.val (.ref o), .val (.ref ca), .val (.int iv0), .val (.int lv), .val (.int r1), .unset, .unset, .unset, .unset] [(.int lv), (.int r1)])) (fun t k => XS.iloadN X729.here hx rfl (hb hby d4_162) rfl k) ?_
      refine own_by (T' := T729) (f' := (mkF m 173 #[.val (.ref o), .val (.ref ca), .val (.int iv0), .val (.int lv), .val (.int r1), .unset, .unset, .unset, .unset] [])) (fun t k => XS.icmpYes X729.here hx rfl (pc0 := 163) (pc' := 173) rfl (hb hby d4_163) rfl (flt hc66_167).2.1 (by decide) (by decide) k) ?_
      refine own_by (T' := T729) (f' := (mkF m 174 #[.val (.ref o), .val (.ref ca), .val (.int iv0), .val (.int lv), .val (.int r1), .unset, .unset, .unset, .unset] [(.int (0 : Int32))])) (fun t k => XS.iconst X729.here hx rfl (hb hby d4_173) k) ?_
      refine own_by (T' := T729) (f' := (mkF m 176 #[.val (.ref o), .val (.ref ca), .val (.int iv0), .val (.int lv), .val (.int r1), .val (.int (0 : Int32)), .unset, .unset, .unset] [])) (fun t k => XS.istore X729.here hx rfl (hb hby d4_174) rfl (l' := #[.val (.ref o), .val (.ref ca), .val (.int iv0), .val (.int lv), .val (.int r1), .val (.int (0 : Int32)), .unset, .unset, .unset]) rfl k) ?_
      refine own_by (T' := T729) (f' := (mkF m 177 #[.val (.ref o), .val (.ref ca), .val (.int iv0), .val (.int lv), .val (.int r1), .val (.int (0 : Int32)), .unset, .unset, .unset] [(.ref o)])) (fun t k => XS.aloadN X729.here hx rfl (hb hby d4_176) rfl rfl k) ?_
      refine own_by (T' := T729) (f' := (mkF m 179 #[.val (.ref o), .val (.ref ca), .val (.int iv0), .val (.int lv), .val (.int r1), .val (.int (0 : Int32)), .unset, .unset, .unset] [(.int (0 : Int32)), (.ref o)])) (fun t k => XS.iload X729.here hx rfl (hb hby d4_177) rfl k) ?_
      refine own_by (T' := T729) (f' := (mkF m 181 #[.val (.ref o), .val (.ref ca), .val (.int iv0), .val (.int lv), .val (.int r1), .val (.int (0 : Int32)), .unset, .unset, .unset] [(.int (101 : Int32)), (.int (0 : Int32)), (.ref o)])) (fun t k => XS.bipush X729.here hx rfl (hb hby d4_179) k) ?_
      refine own_by (T' := T729) (f' := (mkF m 184 #[.val (.ref o), .val (.ref ca), .val (.int iv0), .val (.int lv), .val (.int r1), .val (.int (0 : Int32)), .unset, .unset, .unset] [(.ref o)])) (fun t k => XS.icmpNo X729.here hx rfl (hb hby d4_181) rfl (feq (by decide)).1 k) ?_
      refine own_by (T' := T729) (f' := (mkF m 186 #[.val (.ref o), .val (.ref ca), .val (.int iv0), .val (.int lv), .val (.int r1), .val (.int (0 : Int32)), .unset, .unset, .unset] [(.int (0 : Int32)), (.ref o)])) (fun t k => XS.iload X729.here hx rfl (hb hby d4_184) rfl k) ?_
      refine own_by (T' := T729) (f' := (mkF m 188 #[.val (.ref o), .val (.ref ca), .val (.int iv0), .val (.int lv), .val (.int r1), .val (.int (0 : Int32)), .unset, .unset, .unset] [(.int (69 : Int32)), (.int (0 : Int32)), (.ref o)])) (fun t k => XS.bipush X729.here hx rfl (hb hby d4_186) k) ?_
      refine own_by (T' := T729) (f' := (mkF m 195 #[.val (.ref o), .val (.ref ca), .val (.int iv0), .val (.int lv), .val (.int r1), .val (.int (0 : Int32)), .unset, .unset, .unset] [(.ref o)])) (fun t k => XS.icmpYes X729.here hx rfl (pc0 := 188) (pc' := 195) rfl (hb hby d4_188) rfl (feq (by decide)).2 (by decide) (by decide) k) ?_
      refine own_by (T' := T729) (f' := (mkF m 196 #[.val (.ref o), .val (.ref ca), .val (.int iv0), .val (.int lv), .val (.int r1), .val (.int (0 : Int32)), .unset, .unset, .unset] [(.int (0 : Int32)), (.ref o)])) (fun t k => XS.iconst X729.here hx rfl (hb hby d4_195) k) ?_
      have f754 := (F720.other W725 (Or.inr (sn_54 hw)))
      have f755 := (f724.wr W725)
      refine own_putF (host := "") X729 hx hZ hown e729 (hb hby d4_196) (Or.inl (own_w hw 49 rfl)) Via.refl f754 f755 (Or.inl (own_w hw 50 rfl)) (own_w hw 7 rfl) (ty := .boolean) (by decide) rfl rfl ?_
      intro T756 h756 X756 e756 W756
      show own_Go p e below _ T756 (mkF m 199 #[.val (.ref o), .val (.ref ca), .val (.int iv0), .val (.int lv), .val (.int r1), .val (.int (0 : Int32)), .unset, .unset, .unset] [])
      have F756 := f754.same W756
      have sz757 : n0 ≤ h756.size := by rw [W756.size]; exact sz726
      have K758 := K727.wr W756 (Or.inl (List.mem_of_getElem? (i := 0) rfl))
      have N756 := Fr.snoc X756 N725 go
      refine own_by (T' := T756) (f' := (mkF m 200 #[.val (.ref o), .val (.ref ca), .val (.int iv0), .val (.int lv), .val (.int r1), .val (.int (0 : Int32)), .unset, .unset, .unset] [(.ref o)])) (fun t k => XS.aloadN X756.here hx rfl (hb hby d4_199) rfl rfl k) ?_
      refine own_getF (host := "") X756 hx hZ hown e756 (hb hby d4_200) (Or.inl (own_w hw 49 rfl)) Via.refl F756 ?_
      intro T759 X759 e759
      show own_Go p e below _ T759 (mkF m 203 #[.val (.ref o), .val (.ref ca), .val (.int iv0), .val (.int lv), .val (.int r1), .val (.int (0 : Int32)), .unset, .unset, .unset] [(.int (0 : Int32))])
      refine own_by (T' := T759) (f' := (mkF m 341 #[.val (.ref o), .val (.ref ca), .val (.int iv0), .val (.int lv), .val (.int r1), .val (.int (0 : Int32)), .unset, .unset, .unset] [])) (fun t k => XS.ifYes X759.here hx rfl (pc0 := 203) (pc' := 341) rfl (hb hby d4_203) rfl ((if0 _ _).trans (teq rfl).1) (by decide) (by decide) k) ?_
      refine own_by (T' := T759) (f' := (mkF m 342 #[.val (.ref o), .val (.ref ca), .val (.int iv0), .val (.int lv), .val (.int r1), .val (.int (0 : Int32)), .unset, .unset, .unset] [(.ref o)])) (fun t k => XS.aloadN X759.here hx rfl (hb hby d4_341) rfl rfl k) ?_
      refine own_by (T' := T759) (f' := (mkF m 344 #[.val (.ref o), .val (.ref ca), .val (.int iv0), .val (.int lv), .val (.int r1), .val (.int (0 : Int32)), .unset, .unset, .unset] [(.int r1), (.ref o)])) (fun t k => XS.iload X759.here hx rfl (hb hby d4_342) rfl k) ?_
      have f760 := (((((P1_2.other W164 (Or.inr (sn_148 hw))).other W714 (Or.inr (sn_149 hw))).other W720 (Or.inr (sn_172 hw))).other W725 (Or.inr (sn_40 hw))).other W756 (Or.inr (sn_172 hw)))
      have f761 := (f755.wr W756)
      refine own_putF (host := "") X759 hx hZ hown e759 (hb hby d4_344) (Or.inl (own_w hw 53 rfl)) Via.refl f760 f761 (Or.inl (own_w hw 54 rfl)) (own_w hw 7 rfl) (ty := .int) (by decide) rfl rfl ?_
      intro T762 h762 X762 e762 W762
      show own_Go p e below _ T762 (mkF m 347 #[.val (.ref o), .val (.ref ca), .val (.int iv0), .val (.int lv), .val (.int r1), .val (.int (0 : Int32)), .unset, .unset, .unset] [])
      have F762 := f760.same W762
      have sz763 : n0 ≤ h762.size := by rw [W762.size]; exact sz757
      have K764 := K758.wr W762 (Or.inl (List.mem_of_getElem? (i := 0) rfl))
      have N762 := Fr.snoc X762 N756 go
      refine own_by (T' := T762) (f' := (mkF m 348 #[.val (.ref o), .val (.ref ca), .val (.int iv0), .val (.int lv), .val (.int r1), .val (.int (0 : Int32)), .unset, .unset, .unset] [(.ref o)])) (fun t k => XS.aloadN X762.here hx rfl (hb hby d4_347) rfl rfl k) ?_
      have hpt : ¬ own_pnt f j0 lim := fun q => own_nltn hr1 hl hc66_167 q.1
      have ep2 : own_p2 f j0 lim = (own_p1 f j0 lim) := if_neg hpt
      have es2 : own_s2 f j0 lim = (own_s1 f j0 lim) := if_neg hpt
      have hV : sv1.toInt = ((own_s2 f j0 lim : Nat) : Int) := by rw [es2]; exact hsv1
      have hD : dv1.toInt = ((own_dgs f j0 lim : Nat) : Int) := by rw [own_dgs, if_neg hpt]; exact hd1
      have z0 : (0 : Int32).toInt = ((0 : Nat) : Int) := by decide
      have f765 := ((((((P1_0.other W164 (Or.inr (sn_144 hw))).other W714 (Or.inr (sn_145 hw))).other W720 (Or.inr (sn_173 hw))).other W725 (Or.inr (sn_42 hw))).other W756 (Or.inr (sn_173 hw))).other W762 (Or.inr (sn_44 hw)))
      have f766 := ((((((P1_1.other W164 (Or.inr (sn_146 hw))).other W714 (Or.inr (sn_147 hw))).other W720 (Or.inr (sn_174 hw))).other W725 (Or.inr (sn_45 hw))).other W756 (Or.inr (sn_174 hw))).other W762 (Or.inr (sn_47 hw)))
      have f767 := ((f728.other W756 (Or.inr (sn_170 hw))).other W762 (Or.inr (sn_50 hw)))
      have f768 := ((((F714.other W720 (Or.inr (sn_171 hw))).other W725 (Or.inr (sn_51 hw))).other W756 (Or.inr (sn_171 hw))).other W762 (Or.inr (sn_53 hw)))
      have f769 := (F756.other W762 (Or.inr (sn_56 hw)))
      have f770 := ((F725.other W756 (Or.inr (sn_169 hw))).other W762 (Or.inr (sn_58 hw)))
      have f771 := ((((((P1_7.other W164 (Or.inr (sn_155 hw))).other W714 (Or.inr (sn_156 hw))).other W720 (Or.inr (sn_175 hw))).other W725 (Or.inr (sn_59 hw))).other W756 (Or.inr (sn_175 hw))).other W762 (Or.inr (sn_61 hw)))
      have f772 := ((((((P1_8.other W164 (Or.inr (sn_157 hw))).other W714 (Or.inr (sn_158 hw))).other W720 (Or.inr (sn_176 hw))).other W725 (Or.inr (sn_62 hw))).other W756 (Or.inr (sn_176 hw))).other W762 (Or.inr (sn_64 hw)))
      have f773 := ((((((P1_9.other W164 (Or.inr (sn_159 hw))).other W714 (Or.inr (sn_160 hw))).other W720 (Or.inr (sn_177 hw))).other W725 (Or.inr (sn_65 hw))).other W756 (Or.inr (sn_177 hw))).other W762 (Or.inr (sn_67 hw)))
      have f774 := ((((((P1_10.other W164 (Or.inr (sn_161 hw))).other W714 (Or.inr (sn_162 hw))).other W720 (Or.inr (sn_178 hw))).other W725 (Or.inr (sn_68 hw))).other W756 (Or.inr (sn_178 hw))).other W762 (Or.inr (sn_70 hw)))
      have f775 := ((((((P1_11.other W164 (Or.inr (sn_163 hw))).other W714 (Or.inr (sn_164 hw))).other W720 (Or.inr (sn_179 hw))).other W725 (Or.inr (sn_71 hw))).other W756 (Or.inr (sn_179 hw))).other W762 (Or.inr (sn_73 hw)))
      have f776 := ((((((P1_12.other W164 (Or.inr (sn_165 hw))).other W714 (Or.inr (sn_166 hw))).other W720 (Or.inr (sn_180 hw))).other W725 (Or.inr (sn_74 hw))).other W756 (Or.inr (sn_180 hw))).other W762 (Or.inr (sn_76 hw)))
      have f777 := ((((((P1_13.other W164 (Or.inr (sn_167 hw))).other W714 (Or.inr (sn_168 hw))).other W720 (Or.inr (sn_181 hw))).other W725 (Or.inr (sn_39 hw))).other W756 (Or.inr (sn_181 hw))).other W762 (Or.inr (sn_77 hw)))
      refine own_retA X762 hx hret hlk (hb hby d4_348) rfl rfl rfl (by decide) (by decide) ?_
      try rw [e762]
      exact ⟨rfl, N762, K764, _, _, _, (if_neg (fun q => own_nltn hr1 hl hc66_167 (ep2 ▸ q.2.1))).symm, hD, hV, _, _, _, _, _, _, _, _, _, _, _, f765, f766, F762, f767, f768, f769, f770, f771, f772, f773, f774, f775, f776, f777⟩
theorem ef_rmFB (m : MethodId) (x0 : Addr) : entryFrame m #[(.ref x0)] 1 = mkF m 0 #[.val (.ref x0)] [] := by first | (simp [entryFrame, mkF, argsToLocals, Value.category]; done) | rfl
set_option maxRecDepth 65536 in
set_option maxHeartbeats 40000000 in
theorem rmFB (l : Launch) (Z : State) (a0 : Array Value) (hw : ∀ d ∈ tables_1, d.before a0 Z = true) (ws : List Jvm.Cond) (o : Addr) (xv dv sv : Int32) (h0 : Heap) (F5 : Fld Z h0 o "com/example/tally_of_atoms/tallyofatoms/Numeral" "exponent" "Z" (.int xv)) (F3 : Fld Z h0 o "com/example/tally_of_atoms/tallyofatoms/Numeral" "digits" "I" (.int dv)) (F11 : Fld Z h0 o "com/example/tally_of_atoms/tallyofatoms/Numeral" "significantDigits" "I" (.int sv)) :
    own_Ct l Z (⟨"com/example/tally_of_atoms/tallyofatoms/Numeral", "fits128Bits", "()Z"⟩ : MethodName) prog_102_method_12_code 1 (some .boolean) ws ({ frames := 0, cells := 0, slots := 0, locals := 0 } : Room) #[(.ref o)] h0 (fun v h L => v = some (.int (own_fits xv dv sv)) ∧ L = [] ∧ h = h0) := by
  refine own_of (plainFor_of_name pn_com_example_tally_of_atoms_tallyofatoms_Numeral) ?_
  intro p e s m below meth c s₁ hx hby hml hown hnm hret hlk hZ X0 e0
  rw [ef_rmFB]
  refine own_by (T' := s₁) (f' := (mkF m 1 #[.val (.ref o)] [(.ref o)])) (fun t k => XS.aloadN X0.here hx rfl (hb hby d7_0) rfl rfl k) ?_
  refine own_getF (host := "") X0 hx hZ hown e0 (hb hby d7_1) (Or.inl (own_w hw 49 rfl)) Via.refl F5 ?_
  intro T101 X101 e101
  show own_Go p e below _ T101 (mkF m 4 #[.val (.ref o)] [(.int xv)])
  by_cases hc4_102 : xv = (0 : Int32)
  · have _ := X101
    refine own_by (T' := T101) (f' := (mkF m 7 #[.val (.ref o)] [])) (fun t k => XS.ifNo X101.here hx rfl (hb hby d7_4) rfl ((if0 _ _).trans (teq hc4_102).2) k) ?_
    refine own_by (T' := T101) (f' := (mkF m 8 #[.val (.ref o)] [(.ref o)])) (fun t k => XS.aloadN X101.here hx rfl (hb hby d7_7) rfl rfl k) ?_
    refine own_getF (host := "") X101 hx hZ hown e101 (hb hby d7_8) (Or.inl (own_w hw 45 rfl)) Via.refl F3 ?_
    intro T103 X103 e103
    show own_Go p e below _ T103 (mkF m 11 #[.val (.ref o)] [(.int dv)])
    by_cases hc11_104 : (0 : Int32) < dv
    · have _ := X103
      refine own_by (T' := T103) (f' := (mkF m 14 #[.val (.ref o)] [])) (fun t k => XS.ifNo X103.here hx rfl (hb hby d7_11) rfl ((if0 _ _).trans (tlt hc11_104).2.2.2) k) ?_
      refine own_by (T' := T103) (f' := (mkF m 15 #[.val (.ref o)] [(.ref o)])) (fun t k => XS.aloadN X103.here hx rfl (hb hby d7_14) rfl rfl k) ?_
      refine own_getF (host := "") X103 hx hZ hown e103 (hb hby d7_15) (Or.inl (own_w hw 32 rfl)) Via.refl F11 ?_
      intro T105 X105 e105
      show own_Go p e below _ T105 (mkF m 18 #[.val (.ref o)] [(.int sv)])
      refine own_by (T' := T105) (f' := (mkF m 20 #[.val (.ref o)] [(.int (38 : Int32)), (.int sv)])) (fun t k => XS.bipush X105.here hx rfl (hb hby d7_18) k) ?_
      by_cases hc20_106 : (38 : Int32) < sv
      · have _ := X105
        refine own_by (T' := T105) (f' := (mkF m 27 #[.val (.ref o)] [])) (fun t k => XS.icmpYes X105.here hx rfl (pc0 := 20) (pc' := 27) rfl (hb hby d7_20) rfl (tlt hc20_106).2.2.1 (by decide) (by decide) k) ?_
        refine own_by (T' := T105) (f' := (mkF m 28 #[.val (.ref o)] [(.int (0 : Int32))])) (fun t k => XS.iconst X105.here hx rfl (hb hby d7_27) k) ?_
        refine own_retZ X105 hx hret hlk (hb hby d7_28) (Or.inl rfl) (by decide) (by decide) ?_
        try rw [e105]
        exact ⟨by rw [own_fits, if_pos hc4_102, if_pos hc11_104, if_pos hc20_106], rfl, rfl⟩
      · have _ := X105
        refine own_by (T' := T105) (f' := (mkF m 23 #[.val (.ref o)] [])) (fun t k => XS.icmpNo X105.here hx rfl (hb hby d7_20) rfl (flt hc20_106).2.2.1 k) ?_
        refine own_by (T' := T105) (f' := (mkF m 24 #[.val (.ref o)] [(.int (1 : Int32))])) (fun t k => XS.iconst X105.here hx rfl (hb hby d7_23) k) ?_
        refine own_by (T' := T105) (f' := (mkF m 28 #[.val (.ref o)] [(.int (1 : Int32))])) (fun t k => XS.goto X105.here hx rfl (pc0 := 24) (pc' := 28) rfl (hb hby d7_24) (by decide) (by decide) k) ?_
        refine own_retZ X105 hx hret hlk (hb hby d7_28) (Or.inr rfl) (by decide) (by decide) ?_
        try rw [e105]
        exact ⟨by rw [own_fits, if_pos hc4_102, if_pos hc11_104, if_neg hc20_106], rfl, rfl⟩
    · have _ := X103
      refine own_by (T' := T103) (f' := (mkF m 27 #[.val (.ref o)] [])) (fun t k => XS.ifYes X103.here hx rfl (pc0 := 11) (pc' := 27) rfl (hb hby d7_11) rfl ((if0 _ _).trans (flt hc11_104).2.2.2) (by decide) (by decide) k) ?_
      refine own_by (T' := T103) (f' := (mkF m 28 #[.val (.ref o)] [(.int (0 : Int32))])) (fun t k => XS.iconst X103.here hx rfl (hb hby d7_27) k) ?_
      refine own_retZ X103 hx hret hlk (hb hby d7_28) (Or.inl rfl) (by decide) (by decide) ?_
      try rw [e103]
      exact ⟨by rw [own_fits, if_pos hc4_102, if_neg hc11_104], rfl, rfl⟩
  · have _ := X101
    refine own_by (T' := T101) (f' := (mkF m 27 #[.val (.ref o)] [])) (fun t k => XS.ifYes X101.here hx rfl (pc0 := 4) (pc' := 27) rfl (hb hby d7_4) rfl ((if0 _ _).trans (feq hc4_102).2) (by decide) (by decide) k) ?_
    refine own_by (T' := T101) (f' := (mkF m 28 #[.val (.ref o)] [(.int (0 : Int32))])) (fun t k => XS.iconst X101.here hx rfl (hb hby d7_27) k) ?_
    refine own_retZ X101 hx hret hlk (hb hby d7_28) (Or.inl rfl) (by decide) (by decide) ?_
    try rw [e101]
    exact ⟨by rw [own_fits, if_neg hc4_102], rfl, rfl⟩
theorem ef_rmIN (m : MethodId) (x0 : Addr) : entryFrame m #[(.ref x0)] 1 = mkF m 0 #[.val (.ref x0)] [] := by first | (simp [entryFrame, mkF, argsToLocals, Value.category]; done) | rfl
set_option maxRecDepth 65536 in
set_option maxHeartbeats 40000000 in
theorem rmIN (l : Launch) (Z : State) (a0 : Array Value) (hw : ∀ d ∈ tables_1, d.before a0 Z = true) (ws : List Jvm.Cond) (o : Addr) (h0 : Heap)  :
    own_Ct l Z (⟨"com/example/tally_of_atoms/tallyofatoms/Numeral", "<init>", "()V"⟩ : MethodName) prog_102_method_1_code 1 none ws ({ frames := 1, cells := 0, slots := 0, locals := 20 } : Room) #[(.ref o)] h0 (fun v h L => v = none ∧ L = [] ∧ h = h0) := by
  refine own_of (plainFor_of_name pn_com_example_tally_of_atoms_tallyofatoms_Numeral) ?_
  intro p e s m below meth c s₁ hx hby hml hown hnm hret hlk hZ X0 e0
  rw [ef_rmIN]
  refine own_by (T' := s₁) (f' := (mkF m 1 #[.val (.ref o)] [(.ref o)])) (fun t k => XS.aloadN X0.here hx rfl (hb hby d2_0) rfl rfl k) ?_
  refine own_init X0 hx hZ hown e0 (hb hby d2_1) 0 (own_w hw 12 rfl) (own_w hw 13 rfl) (own_w hw 14 rfl) (by rw [hml]; rfl) (Nat.le_of_eq rfl) (by decide) (by decide) ?_
  intro T1 X1 e1
  show own_Go p e below _ T1 (mkF m 4 #[.val (.ref o)] [])
  refine own_retV X1 hx hret hlk (hb hby d2_4) (by decide) (by decide) ?_
  try rw [e1]
  exact ⟨rfl, rfl, rfl⟩
theorem ef_rmST (m : MethodId) (x0 : Addr) (x1 : Int32) (x2 : Int32) (x3 : Int32) (x4 : Int32) : entryFrame m #[(.ref x0), (.int x1), (.int x2), (.int x3), (.int x4)] 6 = mkF m 0 #[.val (.ref x0), .val (.int x1), .val (.int x2), .val (.int x3), .val (.int x4), .unset] [] := by first | (simp [entryFrame, mkF, argsToLocals, Value.category]; done) | rfl
set_option maxRecDepth 65536 in
set_option maxHeartbeats 40000000 in
theorem rmST (l : Launch) (Z : State) (a0 : Array Value) (hw : ∀ d ∈ tables_1, d.before a0 Z = true) (ws : List Jvm.Cond) (ca : Addr) (fv lv pv qv : Int32) (nf nl np nq : Nat) (f : Nat → Int32) (h0 : Heap) (hf : fv.toInt = (nf : Nat)) (hl : lv.toInt = (nl : Nat)) (hp : pv.toInt = (np : Nat)) (hq : qv.toInt = (nq : Nat)) (hp48 : np < 48) (hq48 : nq < 48) (A1 : own_A Z h0 ca .char 48 f) :
    own_Ct l Z (⟨"com/example/tally_of_atoms/tallyofatoms/NumeralFits128BitsPinLaw", "stop", "([CIIII)I"⟩ : MethodName) method_3_code 6 (some .int) ws ({ frames := 1, cells := 0, slots := 0, locals := 20 } : Room) #[(.ref ca), (.int fv), (.int lv), (.int pv), (.int qv)] h0 (fun v h L => ∃ r : Int32, v = some (.int r) ∧ r.toInt = ((own_st f nf nl np nq : Nat) : Int) ∧ L = [] ∧ h = h0) := by
  refine own_of (plainFor_of_name pn_com_example_tally_of_atoms_tallyofatoms_NumeralFits128BitsPinLaw) ?_
  intro p e s m below meth c s₁ hx hby hml hown hnm hret hlk hZ X0 e0
  rw [ef_rmST]
  refine own_by (T' := s₁) (f' := (mkF m 1 #[.val (.ref ca), .val (.int fv), .val (.int lv), .val (.int pv), .val (.int qv), .unset] [(.int lv)])) (fun t k => XS.iloadN X0.here hx rfl (hb hby d8_0) rfl k) ?_
  refine own_by (T' := s₁) (f' := (mkF m 3 #[.val (.ref ca), .val (.int fv), .val (.int lv), .val (.int pv), .val (.int qv), .val (.int lv)] [])) (fun t k => XS.istore X0.here hx rfl (hb hby d8_1) rfl (l' := #[.val (.ref ca), .val (.int fv), .val (.int lv), .val (.int pv), .val (.int qv), .val (.int lv)]) rfl k) ?_
  refine own_by (T' := s₁) (f' := (mkF m 4 #[.val (.ref ca), .val (.int fv), .val (.int lv), .val (.int pv), .val (.int qv), .val (.int lv)] [(.int pv)])) (fun t k => XS.iloadN X0.here hx rfl (hb hby d8_3) rfl k) ?_
  refine own_by (T' := s₁) (f' := (mkF m 5 #[.val (.ref ca), .val (.int fv), .val (.int lv), .val (.int pv), .val (.int qv), .val (.int lv)] [(.int fv), (.int pv)])) (fun t k => XS.iloadN X0.here hx rfl (hb hby d8_4) rfl k) ?_
  by_cases hc5_11 : pv < fv
  · have _ := X0
    refine own_by (T' := s₁) (f' := (mkF m 26 #[.val (.ref ca), .val (.int fv), .val (.int lv), .val (.int pv), .val (.int qv), .val (.int lv)] [])) (fun t k => XS.icmpYes X0.here hx rfl (pc0 := 5) (pc' := 26) rfl (hb hby d8_5) rfl (tlt hc5_11).1 (by decide) (by decide) k) ?_
    have e1 : own_st1 f nf nl np = nl := if_neg (fun z => absurd z.1 (Nat.not_le.mpr (own_ltn hp hf hc5_11)))
    have g1 : lv.toInt = ((own_st1 f nf nl np : Nat) : Int) := by rw [e1]; exact hl
    refine own_by (T' := s₁) (f' := (mkF m 28 #[.val (.ref ca), .val (.int fv), .val (.int lv), .val (.int pv), .val (.int qv), .val (.int lv)] [(.int qv)])) (fun t k => XS.iload X0.here hx rfl (hb hby d8_26) rfl k) ?_
    refine own_by (T' := s₁) (f' := (mkF m 29 #[.val (.ref ca), .val (.int fv), .val (.int lv), .val (.int pv), .val (.int qv), .val (.int lv)] [(.int fv), (.int qv)])) (fun t k => XS.iloadN X0.here hx rfl (hb hby d8_28) rfl k) ?_
    by_cases hc29_12 : qv < fv
    · have _ := X0
      refine own_by (T' := s₁) (f' := (mkF m 53 #[.val (.ref ca), .val (.int fv), .val (.int lv), .val (.int pv), .val (.int qv), .val (.int lv)] [])) (fun t k => XS.icmpYes X0.here hx rfl (pc0 := 29) (pc' := 53) rfl (hb hby d8_29) rfl (tlt hc29_12).1 (by decide) (by decide) k) ?_
      refine own_by (T' := s₁) (f' := (mkF m 55 #[.val (.ref ca), .val (.int fv), .val (.int lv), .val (.int pv), .val (.int qv), .val (.int lv)] [(.int lv)])) (fun t k => XS.iload X0.here hx rfl (hb hby d8_53) rfl k) ?_
      have e2 : own_st1 f nf (own_st1 f nf nl np) nq = (own_st1 f nf nl np) := if_neg (fun z => absurd z.1 (Nat.not_le.mpr (own_ltn hq hf hc29_12)))
      have g2 : lv.toInt = ((own_st1 f nf (own_st1 f nf nl np) nq : Nat) : Int) := by rw [e2]; exact g1
      refine own_retI X0 hx hret hlk (hb hby d8_55) (by decide) (by decide) ?_
      try rw [e0]
      exact ⟨_, rfl, g2, rfl, rfl⟩
    · have _ := X0
      refine own_by (T' := s₁) (f' := (mkF m 32 #[.val (.ref ca), .val (.int fv), .val (.int lv), .val (.int pv), .val (.int qv), .val (.int lv)] [])) (fun t k => XS.icmpNo X0.here hx rfl (hb hby d8_29) rfl (flt hc29_12).1 k) ?_
      refine own_by (T' := s₁) (f' := (mkF m 33 #[.val (.ref ca), .val (.int fv), .val (.int lv), .val (.int pv), .val (.int qv), .val (.int lv)] [(.ref ca)])) (fun t k => XS.aloadN X0.here hx rfl (hb hby d8_32) rfl rfl k) ?_
      refine own_by (T' := s₁) (f' := (mkF m 35 #[.val (.ref ca), .val (.int fv), .val (.int lv), .val (.int pv), .val (.int qv), .val (.int lv)] [(.int qv), (.ref ca)])) (fun t k => XS.iload X0.here hx rfl (hb hby d8_33) rfl k) ?_
      refine own_ldC X0 hx hZ e0 (hb hby d8_35) A1 (by omega) (by omega) ?_
      rw [show qv.toInt.toNat = nq from by omega]
      show own_Go p e below _ s₁ (mkF m 36 #[.val (.ref ca), .val (.int fv), .val (.int lv), .val (.int pv), .val (.int qv), .val (.int lv)] [(.int (f nq))])
      refine own_callS X0 hx hZ hown e0 (hb hby d8_36) [(.int (f nq))] [] 0 (rmDL l Z a0 hw [] (f nq) h0) (own_w hw 63 rfl) (own_w hw 64 rfl) (own_w hw 4 rfl) (own_w hw 65 rfl) (by decide) pd__C_Z (by rw [hml]; rfl) rfl rfl (Nat.le_of_eq rfl) (by decide) (by decide) (by decide) (by decide) ?_
      rintro T13 _ L13 X13 ⟨rfl, rfl, e13⟩
      show own_Go p e below _ T13 (mkF m 39 #[.val (.ref ca), .val (.int fv), .val (.int lv), .val (.int pv), .val (.int qv), .val (.int lv)] [(.int (own_dig (f nq)))])
      rw [List.append_nil] at X13
      by_cases hc39_14 : (own_dig (f nq)) = (0 : Int32)
      · have _ := X13
        refine own_by (T' := T13) (f' := (mkF m 42 #[.val (.ref ca), .val (.int fv), .val (.int lv), .val (.int pv), .val (.int qv), .val (.int lv)] [])) (fun t k => XS.ifNo X13.here hx rfl (hb hby d8_39) rfl ((if0 _ _).trans (teq hc39_14).2) k) ?_
        refine own_by (T' := T13) (f' := (mkF m 44 #[.val (.ref ca), .val (.int fv), .val (.int lv), .val (.int pv), .val (.int qv), .val (.int lv)] [(.int qv)])) (fun t k => XS.iload X13.here hx rfl (hb hby d8_42) rfl k) ?_
        refine own_by (T' := T13) (f' := (mkF m 46 #[.val (.ref ca), .val (.int fv), .val (.int lv), .val (.int pv), .val (.int qv), .val (.int lv)] [(.int lv), (.int qv)])) (fun t k => XS.iload X13.here hx rfl (hb hby d8_44) rfl k) ?_
        by_cases hc46_15 : qv < lv
        · have _ := X13
          refine own_by (T' := T13) (f' := (mkF m 49 #[.val (.ref ca), .val (.int fv), .val (.int lv), .val (.int pv), .val (.int qv), .val (.int lv)] [])) (fun t k => XS.icmpNo X13.here hx rfl (hb hby d8_46) rfl (tlt hc46_15).2.1 k) ?_
          refine own_by (T' := T13) (f' := (mkF m 51 #[.val (.ref ca), .val (.int fv), .val (.int lv), .val (.int pv), .val (.int qv), .val (.int lv)] [(.int qv)])) (fun t k => XS.iload X13.here hx rfl (hb hby d8_49) rfl k) ?_
          refine own_by (T' := T13) (f' := (mkF m 53 #[.val (.ref ca), .val (.int fv), .val (.int lv), .val (.int pv), .val (.int qv), .val (.int qv)] [])) (fun t k => XS.istore X13.here hx rfl (hb hby d8_51) rfl (l' := #[.val (.ref ca), .val (.int fv), .val (.int lv), .val (.int pv), .val (.int qv), .val (.int qv)]) rfl k) ?_
          refine own_by (T' := T13) (f' := (mkF m 55 #[.val (.ref ca), .val (.int fv), .val (.int lv), .val (.int pv), .val (.int qv), .val (.int qv)] [(.int qv)])) (fun t k => XS.iload X13.here hx rfl (hb hby d8_53) rfl k) ?_
          have e2 : own_st1 f nf (own_st1 f nf nl np) nq = nq := if_pos ⟨Nat.le_of_not_lt (own_nltn hq hf hc29_12), hc39_14, own_ltn hq g1 hc46_15⟩
          have g2 : qv.toInt = ((own_st1 f nf (own_st1 f nf nl np) nq : Nat) : Int) := by rw [e2]; exact hq
          refine own_retI X13 hx hret hlk (hb hby d8_55) (by decide) (by decide) ?_
          try rw [e13]
          exact ⟨_, rfl, g2, rfl, rfl⟩
        · have _ := X13
          refine own_by (T' := T13) (f' := (mkF m 53 #[.val (.ref ca), .val (.int fv), .val (.int lv), .val (.int pv), .val (.int qv), .val (.int lv)] [])) (fun t k => XS.icmpYes X13.here hx rfl (pc0 := 46) (pc' := 53) rfl (hb hby d8_46) rfl (flt hc46_15).2.1 (by decide) (by decide) k) ?_
          refine own_by (T' := T13) (f' := (mkF m 55 #[.val (.ref ca), .val (.int fv), .val (.int lv), .val (.int pv), .val (.int qv), .val (.int lv)] [(.int lv)])) (fun t k => XS.iload X13.here hx rfl (hb hby d8_53) rfl k) ?_
          have e2 : own_st1 f nf (own_st1 f nf nl np) nq = (own_st1 f nf nl np) := if_neg (fun z => own_nltn hq g1 hc46_15 z.2.2)
          have g2 : lv.toInt = ((own_st1 f nf (own_st1 f nf nl np) nq : Nat) : Int) := by rw [e2]; exact g1
          refine own_retI X13 hx hret hlk (hb hby d8_55) (by decide) (by decide) ?_
          try rw [e13]
          exact ⟨_, rfl, g2, rfl, rfl⟩
      · have _ := X13
        refine own_by (T' := T13) (f' := (mkF m 53 #[.val (.ref ca), .val (.int fv), .val (.int lv), .val (.int pv), .val (.int qv), .val (.int lv)] [])) (fun t k => XS.ifYes X13.here hx rfl (pc0 := 39) (pc' := 53) rfl (hb hby d8_39) rfl ((if0 _ _).trans (feq hc39_14).2) (by decide) (by decide) k) ?_
        refine own_by (T' := T13) (f' := (mkF m 55 #[.val (.ref ca), .val (.int fv), .val (.int lv), .val (.int pv), .val (.int qv), .val (.int lv)] [(.int lv)])) (fun t k => XS.iload X13.here hx rfl (hb hby d8_53) rfl k) ?_
        have e2 : own_st1 f nf (own_st1 f nf nl np) nq = (own_st1 f nf nl np) := if_neg (fun z => hc39_14 z.2.1)
        have g2 : lv.toInt = ((own_st1 f nf (own_st1 f nf nl np) nq : Nat) : Int) := by rw [e2]; exact g1
        refine own_retI X13 hx hret hlk (hb hby d8_55) (by decide) (by decide) ?_
        try rw [e13]
        exact ⟨_, rfl, g2, rfl, rfl⟩
  · have _ := X0
    refine own_by (T' := s₁) (f' := (mkF m 8 #[.val (.ref ca), .val (.int fv), .val (.int lv), .val (.int pv), .val (.int qv), .val (.int lv)] [])) (fun t k => XS.icmpNo X0.here hx rfl (hb hby d8_5) rfl (flt hc5_11).1 k) ?_
    refine own_by (T' := s₁) (f' := (mkF m 9 #[.val (.ref ca), .val (.int fv), .val (.int lv), .val (.int pv), .val (.int qv), .val (.int lv)] [(.ref ca)])) (fun t k => XS.aloadN X0.here hx rfl (hb hby d8_8) rfl rfl k) ?_
    refine own_by (T' := s₁) (f' := (mkF m 10 #[.val (.ref ca), .val (.int fv), .val (.int lv), .val (.int pv), .val (.int qv), .val (.int lv)] [(.int pv), (.ref ca)])) (fun t k => XS.iloadN X0.here hx rfl (hb hby d8_9) rfl k) ?_
    refine own_ldC X0 hx hZ e0 (hb hby d8_10) A1 (by omega) (by omega) ?_
    rw [show pv.toInt.toNat = np from by omega]
    show own_Go p e below _ s₁ (mkF m 11 #[.val (.ref ca), .val (.int fv), .val (.int lv), .val (.int pv), .val (.int qv), .val (.int lv)] [(.int (f np))])
    refine own_callS X0 hx hZ hown e0 (hb hby d8_11) [(.int (f np))] [] 0 (rmDL l Z a0 hw [] (f np) h0) (own_w hw 63 rfl) (own_w hw 64 rfl) (own_w hw 4 rfl) (own_w hw 65 rfl) (by decide) pd__C_Z (by rw [hml]; rfl) rfl rfl (Nat.le_of_eq rfl) (by decide) (by decide) (by decide) (by decide) ?_
    rintro T16 _ L16 X16 ⟨rfl, rfl, e16⟩
    show own_Go p e below _ T16 (mkF m 14 #[.val (.ref ca), .val (.int fv), .val (.int lv), .val (.int pv), .val (.int qv), .val (.int lv)] [(.int (own_dig (f np)))])
    rw [List.append_nil] at X16
    by_cases hc14_17 : (own_dig (f np)) = (0 : Int32)
    · have _ := X16
      refine own_by (T' := T16) (f' := (mkF m 17 #[.val (.ref ca), .val (.int fv), .val (.int lv), .val (.int pv), .val (.int qv), .val (.int lv)] [])) (fun t k => XS.ifNo X16.here hx rfl (hb hby d8_14) rfl ((if0 _ _).trans (teq hc14_17).2) k) ?_
      refine own_by (T' := T16) (f' := (mkF m 18 #[.val (.ref ca), .val (.int fv), .val (.int lv), .val (.int pv), .val (.int qv), .val (.int lv)] [(.int pv)])) (fun t k => XS.iloadN X16.here hx rfl (hb hby d8_17) rfl k) ?_
      refine own_by (T' := T16) (f' := (mkF m 20 #[.val (.ref ca), .val (.int fv), .val (.int lv), .val (.int pv), .val (.int qv), .val (.int lv)] [(.int lv), (.int pv)])) (fun t k => XS.iload X16.here hx rfl (hb hby d8_18) rfl k) ?_
      by_cases hc20_18 : pv < lv
      · have _ := X16
        refine own_by (T' := T16) (f' := (mkF m 23 #[.val (.ref ca), .val (.int fv), .val (.int lv), .val (.int pv), .val (.int qv), .val (.int lv)] [])) (fun t k => XS.icmpNo X16.here hx rfl (hb hby d8_20) rfl (tlt hc20_18).2.1 k) ?_
        refine own_by (T' := T16) (f' := (mkF m 24 #[.val (.ref ca), .val (.int fv), .val (.int lv), .val (.int pv), .val (.int qv), .val (.int lv)] [(.int pv)])) (fun t k => XS.iloadN X16.here hx rfl (hb hby d8_23) rfl k) ?_
        refine own_by (T' := T16) (f' := (mkF m 26 #[.val (.ref ca), .val (.int fv), .val (.int lv), .val (.int pv), .val (.int qv), .val (.int pv)] [])) (fun t k => XS.istore X16.here hx rfl (hb hby d8_24) rfl (l' := #[.val (.ref ca), .val (.int fv), .val (.int lv), .val (.int pv), .val (.int qv), .val (.int pv)]) rfl k) ?_
        have e1 : own_st1 f nf nl np = np := if_pos ⟨Nat.le_of_not_lt (own_nltn hp hf hc5_11), hc14_17, own_ltn hp hl hc20_18⟩
        have g1 : pv.toInt = ((own_st1 f nf nl np : Nat) : Int) := by rw [e1]; exact hp
        refine own_by (T' := T16) (f' := (mkF m 28 #[.val (.ref ca), .val (.int fv), .val (.int lv), .val (.int pv), .val (.int qv), .val (.int pv)] [(.int qv)])) (fun t k => XS.iload X16.here hx rfl (hb hby d8_26) rfl k) ?_
        refine own_by (T' := T16) (f' := (mkF m 29 #[.val (.ref ca), .val (.int fv), .val (.int lv), .val (.int pv), .val (.int qv), .val (.int pv)] [(.int fv), (.int qv)])) (fun t k => XS.iloadN X16.here hx rfl (hb hby d8_28) rfl k) ?_
        by_cases hc29_19 : qv < fv
        · have _ := X16
          refine own_by (T' := T16) (f' := (mkF m 53 #[.val (.ref ca), .val (.int fv), .val (.int lv), .val (.int pv), .val (.int qv), .val (.int pv)] [])) (fun t k => XS.icmpYes X16.here hx rfl (pc0 := 29) (pc' := 53) rfl (hb hby d8_29) rfl (tlt hc29_19).1 (by decide) (by decide) k) ?_
          refine own_by (T' := T16) (f' := (mkF m 55 #[.val (.ref ca), .val (.int fv), .val (.int lv), .val (.int pv), .val (.int qv), .val (.int pv)] [(.int pv)])) (fun t k => XS.iload X16.here hx rfl (hb hby d8_53) rfl k) ?_
          have e2 : own_st1 f nf (own_st1 f nf nl np) nq = (own_st1 f nf nl np) := if_neg (fun z => absurd z.1 (Nat.not_le.mpr (own_ltn hq hf hc29_19)))
          have g2 : pv.toInt = ((own_st1 f nf (own_st1 f nf nl np) nq : Nat) : Int) := by rw [e2]; exact g1
          refine own_retI X16 hx hret hlk (hb hby d8_55) (by decide) (by decide) ?_
          try rw [e16]
          exact ⟨_, rfl, g2, rfl, rfl⟩
        · have _ := X16
          refine own_by (T' := T16) (f' := (mkF m 32 #[.val (.ref ca), .val (.int fv), .val (.int lv), .val (.int pv), .val (.int qv), .val (.int pv)] [])) (fun t k => XS.icmpNo X16.here hx rfl (hb hby d8_29) rfl (flt hc29_19).1 k) ?_
          refine own_by (T' := T16) (f' := (mkF m 33 #[.val (.ref ca), .val (.int fv), .val (.int lv), .val (.int pv), .val (.int qv), .val (.int pv)] [(.ref ca)])) (fun t k => XS.aloadN X16.here hx rfl (hb hby d8_32) rfl rfl k) ?_
          refine own_by (T' := T16) (f' := (mkF m 35 #[.val (.ref ca), .val (.int fv), .val (.int lv), .val (.int pv), .val (.int qv), .val (.int pv)] [(.int qv), (.ref ca)])) (fun t k => XS.iload X16.here hx rfl (hb hby d8_33) rfl k) ?_
          refine own_ldC X16 hx hZ e16 (hb hby d8_35) A1 (by omega) (by omega) ?_
          rw [show qv.toInt.toNat = nq from by omega]
          show own_Go p e below _ T16 (mkF m 36 #[.val (.ref ca), .val (.int fv), .val (.int lv), .val (.int pv), .val (.int qv), .val (.int pv)] [(.int (f nq))])
          refine own_callS X16 hx hZ hown e16 (hb hby d8_36) [(.int (f nq))] [] 0 (rmDL l Z a0 hw [] (f nq) h0) (own_w hw 63 rfl) (own_w hw 64 rfl) (own_w hw 4 rfl) (own_w hw 65 rfl) (by decide) pd__C_Z (by rw [hml]; rfl) rfl rfl (Nat.le_of_eq rfl) (by decide) (by decide) (by decide) (by decide) ?_
          rintro T20 _ L20 X20 ⟨rfl, rfl, e20⟩
          show own_Go p e below _ T20 (mkF m 39 #[.val (.ref ca), .val (.int fv), .val (.int lv), .val (.int pv), .val (.int qv), .val (.int pv)] [(.int (own_dig (f nq)))])
          rw [List.append_nil] at X20
          by_cases hc39_21 : (own_dig (f nq)) = (0 : Int32)
          · have _ := X20
            refine own_by (T' := T20) (f' := (mkF m 42 #[.val (.ref ca), .val (.int fv), .val (.int lv), .val (.int pv), .val (.int qv), .val (.int pv)] [])) (fun t k => XS.ifNo X20.here hx rfl (hb hby d8_39) rfl ((if0 _ _).trans (teq hc39_21).2) k) ?_
            refine own_by (T' := T20) (f' := (mkF m 44 #[.val (.ref ca), .val (.int fv), .val (.int lv), .val (.int pv), .val (.int qv), .val (.int pv)] [(.int qv)])) (fun t k => XS.iload X20.here hx rfl (hb hby d8_42) rfl k) ?_
            refine own_by (T' := T20) (f' := (mkF m 46 #[.val (.ref ca), .val (.int fv), .val (.int lv), .val (.int pv), .val (.int qv), .val (.int pv)] [(.int pv), (.int qv)])) (fun t k => XS.iload X20.here hx rfl (hb hby d8_44) rfl k) ?_
            by_cases hc46_22 : qv < pv
            · have _ := X20
              refine own_by (T' := T20) (f' := (mkF m 49 #[.val (.ref ca), .val (.int fv), .val (.int lv), .val (.int pv), .val (.int qv), .val (.int pv)] [])) (fun t k => XS.icmpNo X20.here hx rfl (hb hby d8_46) rfl (tlt hc46_22).2.1 k) ?_
              refine own_by (T' := T20) (f' := (mkF m 51 #[.val (.ref ca), .val (.int fv), .val (.int lv), .val (.int pv), .val (.int qv), .val (.int pv)] [(.int qv)])) (fun t k => XS.iload X20.here hx rfl (hb hby d8_49) rfl k) ?_
              refine own_by (T' := T20) (f' := (mkF m 53 #[.val (.ref ca), .val (.int fv), .val (.int lv), .val (.int pv), .val (.int qv), .val (.int qv)] [])) (fun t k => XS.istore X20.here hx rfl (hb hby d8_51) rfl (l' := #[.val (.ref ca), .val (.int fv), .val (.int lv), .val (.int pv), .val (.int qv), .val (.int qv)]) rfl k) ?_
              refine own_by (T' := T20) (f' := (mkF m 55 #[.val (.ref ca), .val (.int fv), .val (.int lv), .val (.int pv), .val (.int qv), .val (.int qv)] [(.int qv)])) (fun t k => XS.iload X20.here hx rfl (hb hby d8_53) rfl k) ?_
              have e2 : own_st1 f nf (own_st1 f nf nl np) nq = nq := if_pos ⟨Nat.le_of_not_lt (own_nltn hq hf hc29_19), hc39_21, own_ltn hq g1 hc46_22⟩
              have g2 : qv.toInt = ((own_st1 f nf (own_st1 f nf nl np) nq : Nat) : Int) := by rw [e2]; exact hq
              refine own_retI X20 hx hret hlk (hb hby d8_55) (by decide) (by decide) ?_
              try rw [e20]
              exact ⟨_, rfl, g2, rfl, rfl⟩
            · have _ := X20
              refine own_by (T' := T20) (f' := (mkF m 53 #[.val (.ref ca), .val (.int fv), .val (.int lv), .val (.int pv), .val (.int qv), .val (.int pv)] [])) (fun t k => XS.icmpYes X20.here hx rfl (pc0 := 46) (pc' := 53) rfl (hb hby d8_46) rfl (flt hc46_22).2.1 (by decide) (by decide) k) ?_
              refine own_by (T' := T20) (f' := (mkF m 55 #[.val (.ref ca), .val (.int fv), .val (.int lv), .val (.int pv), .val (.int qv), .val (.int pv)] [(.int pv)])) (fun t k => XS.iload X20.here hx rfl (hb hby d8_53) rfl k) ?_
              have e2 : own_st1 f nf (own_st1 f nf nl np) nq = (own_st1 f nf nl np) := if_neg (fun z => own_nltn hq g1 hc46_22 z.2.2)
              have g2 : pv.toInt = ((own_st1 f nf (own_st1 f nf nl np) nq : Nat) : Int) := by rw [e2]; exact g1
              refine own_retI X20 hx hret hlk (hb hby d8_55) (by decide) (by decide) ?_
              try rw [e20]
              exact ⟨_, rfl, g2, rfl, rfl⟩
          · have _ := X20
            refine own_by (T' := T20) (f' := (mkF m 53 #[.val (.ref ca), .val (.int fv), .val (.int lv), .val (.int pv), .val (.int qv), .val (.int pv)] [])) (fun t k => XS.ifYes X20.here hx rfl (pc0 := 39) (pc' := 53) rfl (hb hby d8_39) rfl ((if0 _ _).trans (feq hc39_21).2) (by decide) (by decide) k) ?_
            refine own_by (T' := T20) (f' := (mkF m 55 #[.val (.ref ca), .val (.int fv), .val (.int lv), .val (.int pv), .val (.int qv), .val (.int pv)] [(.int pv)])) (fun t k => XS.iload X20.here hx rfl (hb hby d8_53) rfl k) ?_
            have e2 : own_st1 f nf (own_st1 f nf nl np) nq = (own_st1 f nf nl np) := if_neg (fun z => hc39_21 z.2.1)
            have g2 : pv.toInt = ((own_st1 f nf (own_st1 f nf nl np) nq : Nat) : Int) := by rw [e2]; exact g1
            refine own_retI X20 hx hret hlk (hb hby d8_55) (by decide) (by decide) ?_
            try rw [e20]
            exact ⟨_, rfl, g2, rfl, rfl⟩
      · have _ := X16
        refine own_by (T' := T16) (f' := (mkF m 26 #[.val (.ref ca), .val (.int fv), .val (.int lv), .val (.int pv), .val (.int qv), .val (.int lv)] [])) (fun t k => XS.icmpYes X16.here hx rfl (pc0 := 20) (pc' := 26) rfl (hb hby d8_20) rfl (flt hc20_18).2.1 (by decide) (by decide) k) ?_
        have e1 : own_st1 f nf nl np = nl := if_neg (fun z => own_nltn hp hl hc20_18 z.2.2)
        have g1 : lv.toInt = ((own_st1 f nf nl np : Nat) : Int) := by rw [e1]; exact hl
        refine own_by (T' := T16) (f' := (mkF m 28 #[.val (.ref ca), .val (.int fv), .val (.int lv), .val (.int pv), .val (.int qv), .val (.int lv)] [(.int qv)])) (fun t k => XS.iload X16.here hx rfl (hb hby d8_26) rfl k) ?_
        refine own_by (T' := T16) (f' := (mkF m 29 #[.val (.ref ca), .val (.int fv), .val (.int lv), .val (.int pv), .val (.int qv), .val (.int lv)] [(.int fv), (.int qv)])) (fun t k => XS.iloadN X16.here hx rfl (hb hby d8_28) rfl k) ?_
        by_cases hc29_23 : qv < fv
        · have _ := X16
          refine own_by (T' := T16) (f' := (mkF m 53 #[.val (.ref ca), .val (.int fv), .val (.int lv), .val (.int pv), .val (.int qv), .val (.int lv)] [])) (fun t k => XS.icmpYes X16.here hx rfl (pc0 := 29) (pc' := 53) rfl (hb hby d8_29) rfl (tlt hc29_23).1 (by decide) (by decide) k) ?_
          refine own_by (T' := T16) (f' := (mkF m 55 #[.val (.ref ca), .val (.int fv), .val (.int lv), .val (.int pv), .val (.int qv), .val (.int lv)] [(.int lv)])) (fun t k => XS.iload X16.here hx rfl (hb hby d8_53) rfl k) ?_
          have e2 : own_st1 f nf (own_st1 f nf nl np) nq = (own_st1 f nf nl np) := if_neg (fun z => absurd z.1 (Nat.not_le.mpr (own_ltn hq hf hc29_23)))
          have g2 : lv.toInt = ((own_st1 f nf (own_st1 f nf nl np) nq : Nat) : Int) := by rw [e2]; exact g1
          refine own_retI X16 hx hret hlk (hb hby d8_55) (by decide) (by decide) ?_
          try rw [e16]
          exact ⟨_, rfl, g2, rfl, rfl⟩
        · have _ := X16
          refine own_by (T' := T16) (f' := (mkF m 32 #[.val (.ref ca), .val (.int fv), .val (.int lv), .val (.int pv), .val (.int qv), .val (.int lv)] [])) (fun t k => XS.icmpNo X16.here hx rfl (hb hby d8_29) rfl (flt hc29_23).1 k) ?_
          refine own_by (T' := T16) (f' := (mkF m 33 #[.val (.ref ca), .val (.int fv), .val (.int lv), .val (.int pv), .val (.int qv), .val (.int lv)] [(.ref ca)])) (fun t k => XS.aloadN X16.here hx rfl (hb hby d8_32) rfl rfl k) ?_
          refine own_by (T' := T16) (f' := (mkF m 35 #[.val (.ref ca), .val (.int fv), .val (.int lv), .val (.int pv), .val (.int qv), .val (.int lv)] [(.int qv), (.ref ca)])) (fun t k => XS.iload X16.here hx rfl (hb hby d8_33) rfl k) ?_
          refine own_ldC X16 hx hZ e16 (hb hby d8_35) A1 (by omega) (by omega) ?_
          rw [show qv.toInt.toNat = nq from by omega]
          show own_Go p e below _ T16 (mkF m 36 #[.val (.ref ca), .val (.int fv), .val (.int lv), .val (.int pv), .val (.int qv), .val (.int lv)] [(.int (f nq))])
          refine own_callS X16 hx hZ hown e16 (hb hby d8_36) [(.int (f nq))] [] 0 (rmDL l Z a0 hw [] (f nq) h0) (own_w hw 63 rfl) (own_w hw 64 rfl) (own_w hw 4 rfl) (own_w hw 65 rfl) (by decide) pd__C_Z (by rw [hml]; rfl) rfl rfl (Nat.le_of_eq rfl) (by decide) (by decide) (by decide) (by decide) ?_
          rintro T24 _ L24 X24 ⟨rfl, rfl, e24⟩
          show own_Go p e below _ T24 (mkF m 39 #[.val (.ref ca), .val (.int fv), .val (.int lv), .val (.int pv), .val (.int qv), .val (.int lv)] [(.int (own_dig (f nq)))])
          rw [List.append_nil] at X24
          by_cases hc39_25 : (own_dig (f nq)) = (0 : Int32)
          · have _ := X24
            refine own_by (T' := T24) (f' := (mkF m 42 #[.val (.ref ca), .val (.int fv), .val (.int lv), .val (.int pv), .val (.int qv), .val (.int lv)] [])) (fun t k => XS.ifNo X24.here hx rfl (hb hby d8_39) rfl ((if0 _ _).trans (teq hc39_25).2) k) ?_
            refine own_by (T' := T24) (f' := (mkF m 44 #[.val (.ref ca), .val (.int fv), .val (.int lv), .val (.int pv), .val (.int qv), .val (.int lv)] [(.int qv)])) (fun t k => XS.iload X24.here hx rfl (hb hby d8_42) rfl k) ?_
            refine own_by (T' := T24) (f' := (mkF m 46 #[.val (.ref ca), .val (.int fv), .val (.int lv), .val (.int pv), .val (.int qv), .val (.int lv)] [(.int lv), (.int qv)])) (fun t k => XS.iload X24.here hx rfl (hb hby d8_44) rfl k) ?_
            by_cases hc46_26 : qv < lv
            · have _ := X24
              refine own_by (T' := T24) (f' := (mkF m 49 #[.val (.ref ca), .val (.int fv), .val (.int lv), .val (.int pv), .val (.int qv), .val (.int lv)] [])) (fun t k => XS.icmpNo X24.here hx rfl (hb hby d8_46) rfl (tlt hc46_26).2.1 k) ?_
              refine own_by (T' := T24) (f' := (mkF m 51 #[.val (.ref ca), .val (.int fv), .val (.int lv), .val (.int pv), .val (.int qv), .val (.int lv)] [(.int qv)])) (fun t k => XS.iload X24.here hx rfl (hb hby d8_49) rfl k) ?_
              refine own_by (T' := T24) (f' := (mkF m 53 #[.val (.ref ca), .val (.int fv), .val (.int lv), .val (.int pv), .val (.int qv), .val (.int qv)] [])) (fun t k => XS.istore X24.here hx rfl (hb hby d8_51) rfl (l' := #[.val (.ref ca), .val (.int fv), .val (.int lv), .val (.int pv), .val (.int qv), .val (.int qv)]) rfl k) ?_
              refine own_by (T' := T24) (f' := (mkF m 55 #[.val (.ref ca), .val (.int fv), .val (.int lv), .val (.int pv), .val (.int qv), .val (.int qv)] [(.int qv)])) (fun t k => XS.iload X24.here hx rfl (hb hby d8_53) rfl k) ?_
              have e2 : own_st1 f nf (own_st1 f nf nl np) nq = nq := if_pos ⟨Nat.le_of_not_lt (own_nltn hq hf hc29_23), hc39_25, own_ltn hq g1 hc46_26⟩
              have g2 : qv.toInt = ((own_st1 f nf (own_st1 f nf nl np) nq : Nat) : Int) := by rw [e2]; exact hq
              refine own_retI X24 hx hret hlk (hb hby d8_55) (by decide) (by decide) ?_
              try rw [e24]
              exact ⟨_, rfl, g2, rfl, rfl⟩
            · have _ := X24
              refine own_by (T' := T24) (f' := (mkF m 53 #[.val (.ref ca), .val (.int fv), .val (.int lv), .val (.int pv), .val (.int qv), .val (.int lv)] [])) (fun t k => XS.icmpYes X24.here hx rfl (pc0 := 46) (pc' := 53) rfl (hb hby d8_46) rfl (flt hc46_26).2.1 (by decide) (by decide) k) ?_
              refine own_by (T' := T24) (f' := (mkF m 55 #[.val (.ref ca), .val (.int fv), .val (.int lv), .val (.int pv), .val (.int qv), .val (.int lv)] [(.int lv)])) (fun t k => XS.iload X24.here hx rfl (hb hby d8_53) rfl k) ?_
              have e2 : own_st1 f nf (own_st1 f nf nl np) nq = (own_st1 f nf nl np) := if_neg (fun z => own_nltn hq g1 hc46_26 z.2.2)
              have g2 : lv.toInt = ((own_st1 f nf (own_st1 f nf nl np) nq : Nat) : Int) := by rw [e2]; exact g1
              refine own_retI X24 hx hret hlk (hb hby d8_55) (by decide) (by decide) ?_
              try rw [e24]
              exact ⟨_, rfl, g2, rfl, rfl⟩
          · have _ := X24
            refine own_by (T' := T24) (f' := (mkF m 53 #[.val (.ref ca), .val (.int fv), .val (.int lv), .val (.int pv), .val (.int qv), .val (.int lv)] [])) (fun t k => XS.ifYes X24.here hx rfl (pc0 := 39) (pc' := 53) rfl (hb hby d8_39) rfl ((if0 _ _).trans (feq hc39_25).2) (by decide) (by decide) k) ?_
            refine own_by (T' := T24) (f' := (mkF m 55 #[.val (.ref ca), .val (.int fv), .val (.int lv), .val (.int pv), .val (.int qv), .val (.int lv)] [(.int lv)])) (fun t k => XS.iload X24.here hx rfl (hb hby d8_53) rfl k) ?_
            have e2 : own_st1 f nf (own_st1 f nf nl np) nq = (own_st1 f nf nl np) := if_neg (fun z => hc39_25 z.2.1)
            have g2 : lv.toInt = ((own_st1 f nf (own_st1 f nf nl np) nq : Nat) : Int) := by rw [e2]; exact g1
            refine own_retI X24 hx hret hlk (hb hby d8_55) (by decide) (by decide) ?_
            try rw [e24]
            exact ⟨_, rfl, g2, rfl, rfl⟩
    · have _ := X16
      refine own_by (T' := T16) (f' := (mkF m 26 #[.val (.ref ca), .val (.int fv), .val (.int lv), .val (.int pv), .val (.int qv), .val (.int lv)] [])) (fun t k => XS.ifYes X16.here hx rfl (pc0 := 14) (pc' := 26) rfl (hb hby d8_14) rfl ((if0 _ _).trans (feq hc14_17).2) (by decide) (by decide) k) ?_
      have e1 : own_st1 f nf nl np = nl := if_neg (fun z => hc14_17 z.2.1)
      have g1 : lv.toInt = ((own_st1 f nf nl np : Nat) : Int) := by rw [e1]; exact hl
      refine own_by (T' := T16) (f' := (mkF m 28 #[.val (.ref ca), .val (.int fv), .val (.int lv), .val (.int pv), .val (.int qv), .val (.int lv)] [(.int qv)])) (fun t k => XS.iload X16.here hx rfl (hb hby d8_26) rfl k) ?_
      refine own_by (T' := T16) (f' := (mkF m 29 #[.val (.ref ca), .val (.int fv), .val (.int lv), .val (.int pv), .val (.int qv), .val (.int lv)] [(.int fv), (.int qv)])) (fun t k => XS.iloadN X16.here hx rfl (hb hby d8_28) rfl k) ?_
      by_cases hc29_27 : qv < fv
      · have _ := X16
        refine own_by (T' := T16) (f' := (mkF m 53 #[.val (.ref ca), .val (.int fv), .val (.int lv), .val (.int pv), .val (.int qv), .val (.int lv)] [])) (fun t k => XS.icmpYes X16.here hx rfl (pc0 := 29) (pc' := 53) rfl (hb hby d8_29) rfl (tlt hc29_27).1 (by decide) (by decide) k) ?_
        refine own_by (T' := T16) (f' := (mkF m 55 #[.val (.ref ca), .val (.int fv), .val (.int lv), .val (.int pv), .val (.int qv), .val (.int lv)] [(.int lv)])) (fun t k => XS.iload X16.here hx rfl (hb hby d8_53) rfl k) ?_
        have e2 : own_st1 f nf (own_st1 f nf nl np) nq = (own_st1 f nf nl np) := if_neg (fun z => absurd z.1 (Nat.not_le.mpr (own_ltn hq hf hc29_27)))
        have g2 : lv.toInt = ((own_st1 f nf (own_st1 f nf nl np) nq : Nat) : Int) := by rw [e2]; exact g1
        refine own_retI X16 hx hret hlk (hb hby d8_55) (by decide) (by decide) ?_
        try rw [e16]
        exact ⟨_, rfl, g2, rfl, rfl⟩
      · have _ := X16
        refine own_by (T' := T16) (f' := (mkF m 32 #[.val (.ref ca), .val (.int fv), .val (.int lv), .val (.int pv), .val (.int qv), .val (.int lv)] [])) (fun t k => XS.icmpNo X16.here hx rfl (hb hby d8_29) rfl (flt hc29_27).1 k) ?_
        refine own_by (T' := T16) (f' := (mkF m 33 #[.val (.ref ca), .val (.int fv), .val (.int lv), .val (.int pv), .val (.int qv), .val (.int lv)] [(.ref ca)])) (fun t k => XS.aloadN X16.here hx rfl (hb hby d8_32) rfl rfl k) ?_
        refine own_by (T' := T16) (f' := (mkF m 35 #[.val (.ref ca), .val (.int fv), .val (.int lv), .val (.int pv), .val (.int qv), .val (.int lv)] [(.int qv), (.ref ca)])) (fun t k => XS.iload X16.here hx rfl (hb hby d8_33) rfl k) ?_
        refine own_ldC X16 hx hZ e16 (hb hby d8_35) A1 (by omega) (by omega) ?_
        rw [show qv.toInt.toNat = nq from by omega]
        show own_Go p e below _ T16 (mkF m 36 #[.val (.ref ca), .val (.int fv), .val (.int lv), .val (.int pv), .val (.int qv), .val (.int lv)] [(.int (f nq))])
        refine own_callS X16 hx hZ hown e16 (hb hby d8_36) [(.int (f nq))] [] 0 (rmDL l Z a0 hw [] (f nq) h0) (own_w hw 63 rfl) (own_w hw 64 rfl) (own_w hw 4 rfl) (own_w hw 65 rfl) (by decide) pd__C_Z (by rw [hml]; rfl) rfl rfl (Nat.le_of_eq rfl) (by decide) (by decide) (by decide) (by decide) ?_
        rintro T28 _ L28 X28 ⟨rfl, rfl, e28⟩
        show own_Go p e below _ T28 (mkF m 39 #[.val (.ref ca), .val (.int fv), .val (.int lv), .val (.int pv), .val (.int qv), .val (.int lv)] [(.int (own_dig (f nq)))])
        rw [List.append_nil] at X28
        by_cases hc39_29 : (own_dig (f nq)) = (0 : Int32)
        · have _ := X28
          refine own_by (T' := T28) (f' := (mkF m 42 #[.val (.ref ca), .val (.int fv), .val (.int lv), .val (.int pv), .val (.int qv), .val (.int lv)] [])) (fun t k => XS.ifNo X28.here hx rfl (hb hby d8_39) rfl ((if0 _ _).trans (teq hc39_29).2) k) ?_
          refine own_by (T' := T28) (f' := (mkF m 44 #[.val (.ref ca), .val (.int fv), .val (.int lv), .val (.int pv), .val (.int qv), .val (.int lv)] [(.int qv)])) (fun t k => XS.iload X28.here hx rfl (hb hby d8_42) rfl k) ?_
          refine own_by (T' := T28) (f' := (mkF m 46 #[.val (.ref ca), .val (.int fv), .val (.int lv), .val (.int pv), .val (.int qv), .val (.int lv)] [(.int lv), (.int qv)])) (fun t k => XS.iload X28.here hx rfl (hb hby d8_44) rfl k) ?_
          by_cases hc46_30 : qv < lv
          · have _ := X28
            refine own_by (T' := T28) (f' := (mkF m 49 #[.val (.ref ca), .val (.int fv), .val (.int lv), .val (.int pv), .val (.int qv), .val (.int lv)] [])) (fun t k => XS.icmpNo X28.here hx rfl (hb hby d8_46) rfl (tlt hc46_30).2.1 k) ?_
            refine own_by (T' := T28) (f' := (mkF m 51 #[.val (.ref ca), .val (.int fv), .val (.int lv), .val (.int pv), .val (.int qv), .val (.int lv)] [(.int qv)])) (fun t k => XS.iload X28.here hx rfl (hb hby d8_49) rfl k) ?_
            refine own_by (T' := T28) (f' := (mkF m 53 #[.val (.ref ca), .val (.int fv), .val (.int lv), .val (.int pv), .val (.int qv), .val (.int qv)] [])) (fun t k => XS.istore X28.here hx rfl (hb hby d8_51) rfl (l' := #[.val (.ref ca), .val (.int fv), .val (.int lv), .val (.int pv), .val (.int qv), .val (.int qv)]) rfl k) ?_
            refine own_by (T' := T28) (f' := (mkF m 55 #[.val (.ref ca), .val (.int fv), .val (.int lv), .val (.int pv), .val (.int qv), .val (.int qv)] [(.int qv)])) (fun t k => XS.iload X28.here hx rfl (hb hby d8_53) rfl k) ?_
            have e2 : own_st1 f nf (own_st1 f nf nl np) nq = nq := if_pos ⟨Nat.le_of_not_lt (own_nltn hq hf hc29_27), hc39_29, own_ltn hq g1 hc46_30⟩
            have g2 : qv.toInt = ((own_st1 f nf (own_st1 f nf nl np) nq : Nat) : Int) := by rw [e2]; exact hq
            refine own_retI X28 hx hret hlk (hb hby d8_55) (by decide) (by decide) ?_
            try rw [e28]
            exact ⟨_, rfl, g2, rfl, rfl⟩
          · have _ := X28
            refine own_by (T' := T28) (f' := (mkF m 53 #[.val (.ref ca), .val (.int fv), .val (.int lv), .val (.int pv), .val (.int qv), .val (.int lv)] [])) (fun t k => XS.icmpYes X28.here hx rfl (pc0 := 46) (pc' := 53) rfl (hb hby d8_46) rfl (flt hc46_30).2.1 (by decide) (by decide) k) ?_
            refine own_by (T' := T28) (f' := (mkF m 55 #[.val (.ref ca), .val (.int fv), .val (.int lv), .val (.int pv), .val (.int qv), .val (.int lv)] [(.int lv)])) (fun t k => XS.iload X28.here hx rfl (hb hby d8_53) rfl k) ?_
            have e2 : own_st1 f nf (own_st1 f nf nl np) nq = (own_st1 f nf nl np) := if_neg (fun z => own_nltn hq g1 hc46_30 z.2.2)
            have g2 : lv.toInt = ((own_st1 f nf (own_st1 f nf nl np) nq : Nat) : Int) := by rw [e2]; exact g1
            refine own_retI X28 hx hret hlk (hb hby d8_55) (by decide) (by decide) ?_
            try rw [e28]
            exact ⟨_, rfl, g2, rfl, rfl⟩
        · have _ := X28
          refine own_by (T' := T28) (f' := (mkF m 53 #[.val (.ref ca), .val (.int fv), .val (.int lv), .val (.int pv), .val (.int qv), .val (.int lv)] [])) (fun t k => XS.ifYes X28.here hx rfl (pc0 := 39) (pc' := 53) rfl (hb hby d8_39) rfl ((if0 _ _).trans (feq hc39_29).2) (by decide) (by decide) k) ?_
          refine own_by (T' := T28) (f' := (mkF m 55 #[.val (.ref ca), .val (.int fv), .val (.int lv), .val (.int pv), .val (.int qv), .val (.int lv)] [(.int lv)])) (fun t k => XS.iload X28.here hx rfl (hb hby d8_53) rfl k) ?_
          have e2 : own_st1 f nf (own_st1 f nf nl np) nq = (own_st1 f nf nl np) := if_neg (fun z => hc39_29 z.2.1)
          have g2 : lv.toInt = ((own_st1 f nf (own_st1 f nf nl np) nq : Nat) : Int) := by rw [e2]; exact g1
          refine own_retI X28 hx hret hlk (hb hby d8_55) (by decide) (by decide) ?_
          try rw [e28]
          exact ⟨_, rfl, g2, rfl, rfl⟩
abbrev own_L2 (i0 i1 i2 i3 i4 i5 : Int32) (ca : Addr) (pv qv s0 lv : Int32) (o : Addr) (av : Int32) (y13 y14 y15 y16 y17 y18 y19 y20 y21 : Slot) : Array Slot := #[.val (.int i0), .val (.int i1), .val (.int i2), .val (.int i3), .val (.int i4), .val (.int i5), .val (.ref ca), .val (.int pv), .val (.int qv), .val (.int s0), .val (.int lv), .val (.ref o), .val (.int av), y13, y14, y15, y16, y17, y18, y19, y20, y21]
abbrev own_L0 (i0 i1 i2 i3 i4 i5 : Int32) : Array Slot := #[.val (.int i0), .val (.int i1), .val (.int i2), .val (.int i3), .val (.int i4), .val (.int i5), .unset, .unset, .unset, .unset, .unset, .unset, .unset, .unset, .unset, .unset, .unset, .unset, .unset, .unset, .unset, .unset]
theorem ef_rm0 (m : MethodId) (x0 : Int32) (x1 : Int32) (x2 : Int32) (x3 : Int32) (x4 : Int32) (x5 : Int32) : entryFrame m #[(.int x0), (.int x1), (.int x2), (.int x3), (.int x4), (.int x5)] maxLocals = mkF m 0 #[.val (.int x0), .val (.int x1), .val (.int x2), .val (.int x3), .val (.int x4), .val (.int x5), .unset, .unset, .unset, .unset, .unset, .unset, .unset, .unset, .unset, .unset, .unset, .unset, .unset, .unset, .unset, .unset] [] := by first | (simp [entryFrame, mkF, argsToLocals, Value.category, maxLocals]; done) | rfl
set_option maxRecDepth 65536 in
set_option maxHeartbeats 40000000 in
theorem rm0 (l : Launch) (Z : State) (a0 : Array Value) (hw : ∀ d ∈ tables_1, d.before a0 Z = true) (ws : List Jvm.Cond) (i0 i1 i2 i3 i4 i5 : Int32) (h0 : Heap) (n0 : Nat) (Z0 : n0 ≤ h0.size) :
    own_Ct l Z x code maxLocals ret ws room_1 #[(.int i0), (.int i1), (.int i2), (.int i3), (.int i4), (.int i5)] h0 (fun v h L => v = some (.int 1) ∧ Fr n0 L) := by
  refine own_of (plainFor_of_name pn_com_example_tally_of_atoms_tallyofatoms_NumeralFits128BitsPinLaw) ?_
  intro p e s m below meth c s₁ hx hby hml hown hnm hret hlk hZ X0 e0
  have N0 := Fr.nil n0
  rw [ef_rm0]
  refine own_by (T' := s₁) (f' := (mkF m 2 (own_L0 i0 i1 i2 i3 i4 i5) [(.int (48 : Int32))])) (fun t k => XS.bipush X0.here hx rfl (hb hby at_0) k) ?_
  refine own_mkA X0 hx hZ e0 (hb hby at_2) (own_w hw 0 rfl) (v := 0) rfl (by decide) 48 (by decide) (by decide) (by decide) (by decide) ?_
  intro T11 h11 b11 X11 e11 g11 E11 A11r
  have gn11 : n0 ≤ b11 := by rw [g11]; exact Z0
  show own_Go p e below _ T11 (mkF m 4 (own_L0 i0 i1 i2 i3 i4 i5) [(.ref b11)])
  have A11 : own_A Z h11 b11 .char 48 (fun _ => 0) := A11r
  have sz12 : n0 ≤ h11.size := Nat.le_trans Z0 E11.1
  have A13 : own_A Z h11 b11 .char 48 (own_bs 0) := A11.congr (fun i hi => by show (0 : Int32) = own_bs 0 i; unfold own_bs; rw [if_neg (by omega)])
  refine own_by (T' := T11) (f' := (mkF m 5 (own_L0 i0 i1 i2 i3 i4 i5) [(.ref b11), (.ref b11)])) (fun t k => XS.dup X11.here hx rfl (hb hby at_4) rfl rfl k) ?_
  refine own_by (T' := T11) (f' := (mkF m 6 (own_L0 i0 i1 i2 i3 i4 i5) [(.int (0 : Int32)), (.ref b11), (.ref b11)])) (fun t k => XS.iconst X11.here hx rfl (hb hby at_5) k) ?_
  refine own_by (T' := T11) (f' := (mkF m 8 (own_L0 i0 i1 i2 i3 i4 i5) [(.int (48 : Int32)), (.int (0 : Int32)), (.ref b11), (.ref b11)])) (fun t k => XS.bipush X11.here hx rfl (hb hby at_6) k) ?_
  have _ : (0 : Int32).toInt = 0 := by decide
  refine own_stC X11 hx hZ e11 (hb hby at_8) A13 (by first | decide | omega) (by first | decide | omega) ?_
  intro T14 h14 X14 e14 W14 A14
  show own_Go p e below _ T14 (mkF m 9 (own_L0 i0 i1 i2 i3 i4 i5) [(.ref b11)])
  have sz15 : n0 ≤ h14.size := by rw [W14.size]; exact sz12
  have N14 := Fr.snoc X14 N0 gn11
  have A16 : own_A Z h14 b11 .char 48 (own_bs 1) := own_bsA (k := 0) A14 (by decide) rfl
  refine own_by (T' := T14) (f' := (mkF m 10 (own_L0 i0 i1 i2 i3 i4 i5) [(.ref b11), (.ref b11)])) (fun t k => XS.dup X14.here hx rfl (hb hby at_9) rfl rfl k) ?_
  refine own_by (T' := T14) (f' := (mkF m 11 (own_L0 i0 i1 i2 i3 i4 i5) [(.int (1 : Int32)), (.ref b11), (.ref b11)])) (fun t k => XS.iconst X14.here hx rfl (hb hby at_10) k) ?_
  refine own_by (T' := T14) (f' := (mkF m 13 (own_L0 i0 i1 i2 i3 i4 i5) [(.int (48 : Int32)), (.int (1 : Int32)), (.ref b11), (.ref b11)])) (fun t k => XS.bipush X14.here hx rfl (hb hby at_11) k) ?_
  have _ : (1 : Int32).toInt = 1 := by decide
  refine own_stC X14 hx hZ e14 (hb hby at_13) A16 (by first | decide | omega) (by first | decide | omega) ?_
  intro T17 h17 X17 e17 W17 A17
  show own_Go p e below _ T17 (mkF m 14 (own_L0 i0 i1 i2 i3 i4 i5) [(.ref b11)])
  have sz18 : n0 ≤ h17.size := by rw [W17.size]; exact sz15
  have N17 := Fr.snoc X17 N14 gn11
  have A19 : own_A Z h17 b11 .char 48 (own_bs 2) := own_bsA (k := 1) A17 (by decide) rfl
  refine own_by (T' := T17) (f' := (mkF m 15 (own_L0 i0 i1 i2 i3 i4 i5) [(.ref b11), (.ref b11)])) (fun t k => XS.dup X17.here hx rfl (hb hby at_14) rfl rfl k) ?_
  refine own_by (T' := T17) (f' := (mkF m 16 (own_L0 i0 i1 i2 i3 i4 i5) [(.int (2 : Int32)), (.ref b11), (.ref b11)])) (fun t k => XS.iconst X17.here hx rfl (hb hby at_15) k) ?_
  refine own_by (T' := T17) (f' := (mkF m 18 (own_L0 i0 i1 i2 i3 i4 i5) [(.int (48 : Int32)), (.int (2 : Int32)), (.ref b11), (.ref b11)])) (fun t k => XS.bipush X17.here hx rfl (hb hby at_16) k) ?_
  have _ : (2 : Int32).toInt = 2 := by decide
  refine own_stC X17 hx hZ e17 (hb hby at_18) A19 (by first | decide | omega) (by first | decide | omega) ?_
  intro T20 h20 X20 e20 W20 A20
  show own_Go p e below _ T20 (mkF m 19 (own_L0 i0 i1 i2 i3 i4 i5) [(.ref b11)])
  have sz21 : n0 ≤ h20.size := by rw [W20.size]; exact sz18
  have N20 := Fr.snoc X20 N17 gn11
  have A22 : own_A Z h20 b11 .char 48 (own_bs 3) := own_bsA (k := 2) A20 (by decide) rfl
  refine own_by (T' := T20) (f' := (mkF m 20 (own_L0 i0 i1 i2 i3 i4 i5) [(.ref b11), (.ref b11)])) (fun t k => XS.dup X20.here hx rfl (hb hby at_19) rfl rfl k) ?_
  refine own_by (T' := T20) (f' := (mkF m 21 (own_L0 i0 i1 i2 i3 i4 i5) [(.int (3 : Int32)), (.ref b11), (.ref b11)])) (fun t k => XS.iconst X20.here hx rfl (hb hby at_20) k) ?_
  refine own_by (T' := T20) (f' := (mkF m 23 (own_L0 i0 i1 i2 i3 i4 i5) [(.int (48 : Int32)), (.int (3 : Int32)), (.ref b11), (.ref b11)])) (fun t k => XS.bipush X20.here hx rfl (hb hby at_21) k) ?_
  have _ : (3 : Int32).toInt = 3 := by decide
  refine own_stC X20 hx hZ e20 (hb hby at_23) A22 (by first | decide | omega) (by first | decide | omega) ?_
  intro T23 h23 X23 e23 W23 A23
  show own_Go p e below _ T23 (mkF m 24 (own_L0 i0 i1 i2 i3 i4 i5) [(.ref b11)])
  have sz24 : n0 ≤ h23.size := by rw [W23.size]; exact sz21
  have N23 := Fr.snoc X23 N20 gn11
  have A25 : own_A Z h23 b11 .char 48 (own_bs 4) := own_bsA (k := 3) A23 (by decide) rfl
  refine own_by (T' := T23) (f' := (mkF m 25 (own_L0 i0 i1 i2 i3 i4 i5) [(.ref b11), (.ref b11)])) (fun t k => XS.dup X23.here hx rfl (hb hby at_24) rfl rfl k) ?_
  refine own_by (T' := T23) (f' := (mkF m 26 (own_L0 i0 i1 i2 i3 i4 i5) [(.int (4 : Int32)), (.ref b11), (.ref b11)])) (fun t k => XS.iconst X23.here hx rfl (hb hby at_25) k) ?_
  refine own_by (T' := T23) (f' := (mkF m 28 (own_L0 i0 i1 i2 i3 i4 i5) [(.int (57 : Int32)), (.int (4 : Int32)), (.ref b11), (.ref b11)])) (fun t k => XS.bipush X23.here hx rfl (hb hby at_26) k) ?_
  have _ : (4 : Int32).toInt = 4 := by decide
  refine own_stC X23 hx hZ e23 (hb hby at_28) A25 (by first | decide | omega) (by first | decide | omega) ?_
  intro T26 h26 X26 e26 W26 A26
  show own_Go p e below _ T26 (mkF m 29 (own_L0 i0 i1 i2 i3 i4 i5) [(.ref b11)])
  have sz27 : n0 ≤ h26.size := by rw [W26.size]; exact sz24
  have N26 := Fr.snoc X26 N23 gn11
  have A28 : own_A Z h26 b11 .char 48 (own_bs 5) := own_bsA (k := 4) A26 (by decide) rfl
  refine own_by (T' := T26) (f' := (mkF m 30 (own_L0 i0 i1 i2 i3 i4 i5) [(.ref b11), (.ref b11)])) (fun t k => XS.dup X26.here hx rfl (hb hby at_29) rfl rfl k) ?_
  refine own_by (T' := T26) (f' := (mkF m 31 (own_L0 i0 i1 i2 i3 i4 i5) [(.int (5 : Int32)), (.ref b11), (.ref b11)])) (fun t k => XS.iconst X26.here hx rfl (hb hby at_30) k) ?_
  refine own_by (T' := T26) (f' := (mkF m 33 (own_L0 i0 i1 i2 i3 i4 i5) [(.int (57 : Int32)), (.int (5 : Int32)), (.ref b11), (.ref b11)])) (fun t k => XS.bipush X26.here hx rfl (hb hby at_31) k) ?_
  have _ : (5 : Int32).toInt = 5 := by decide
  refine own_stC X26 hx hZ e26 (hb hby at_33) A28 (by first | decide | omega) (by first | decide | omega) ?_
  intro T29 h29 X29 e29 W29 A29
  show own_Go p e below _ T29 (mkF m 34 (own_L0 i0 i1 i2 i3 i4 i5) [(.ref b11)])
  have sz30 : n0 ≤ h29.size := by rw [W29.size]; exact sz27
  have N29 := Fr.snoc X29 N26 gn11
  have A31 : own_A Z h29 b11 .char 48 (own_bs 6) := own_bsA (k := 5) A29 (by decide) rfl
  refine own_by (T' := T29) (f' := (mkF m 35 (own_L0 i0 i1 i2 i3 i4 i5) [(.ref b11), (.ref b11)])) (fun t k => XS.dup X29.here hx rfl (hb hby at_34) rfl rfl k) ?_
  refine own_by (T' := T29) (f' := (mkF m 37 (own_L0 i0 i1 i2 i3 i4 i5) [(.int (6 : Int32)), (.ref b11), (.ref b11)])) (fun t k => XS.bipush X29.here hx rfl (hb hby at_35) k) ?_
  refine own_by (T' := T29) (f' := (mkF m 39 (own_L0 i0 i1 i2 i3 i4 i5) [(.int (57 : Int32)), (.int (6 : Int32)), (.ref b11), (.ref b11)])) (fun t k => XS.bipush X29.here hx rfl (hb hby at_37) k) ?_
  have _ : (6 : Int32).toInt = 6 := by decide
  refine own_stC X29 hx hZ e29 (hb hby at_39) A31 (by first | decide | omega) (by first | decide | omega) ?_
  intro T32 h32 X32 e32 W32 A32
  show own_Go p e below _ T32 (mkF m 40 (own_L0 i0 i1 i2 i3 i4 i5) [(.ref b11)])
  have sz33 : n0 ≤ h32.size := by rw [W32.size]; exact sz30
  have N32 := Fr.snoc X32 N29 gn11
  have A34 : own_A Z h32 b11 .char 48 (own_bs 7) := own_bsA (k := 6) A32 (by decide) rfl
  refine own_by (T' := T32) (f' := (mkF m 41 (own_L0 i0 i1 i2 i3 i4 i5) [(.ref b11), (.ref b11)])) (fun t k => XS.dup X32.here hx rfl (hb hby at_40) rfl rfl k) ?_
  refine own_by (T' := T32) (f' := (mkF m 43 (own_L0 i0 i1 i2 i3 i4 i5) [(.int (7 : Int32)), (.ref b11), (.ref b11)])) (fun t k => XS.bipush X32.here hx rfl (hb hby at_41) k) ?_
  refine own_by (T' := T32) (f' := (mkF m 45 (own_L0 i0 i1 i2 i3 i4 i5) [(.int (57 : Int32)), (.int (7 : Int32)), (.ref b11), (.ref b11)])) (fun t k => XS.bipush X32.here hx rfl (hb hby at_43) k) ?_
  have _ : (7 : Int32).toInt = 7 := by decide
  refine own_stC X32 hx hZ e32 (hb hby at_45) A34 (by first | decide | omega) (by first | decide | omega) ?_
  intro T35 h35 X35 e35 W35 A35
  show own_Go p e below _ T35 (mkF m 46 (own_L0 i0 i1 i2 i3 i4 i5) [(.ref b11)])
  have sz36 : n0 ≤ h35.size := by rw [W35.size]; exact sz33
  have N35 := Fr.snoc X35 N32 gn11
  have A37 : own_A Z h35 b11 .char 48 (own_bs 8) := own_bsA (k := 7) A35 (by decide) rfl
  refine own_by (T' := T35) (f' := (mkF m 47 (own_L0 i0 i1 i2 i3 i4 i5) [(.ref b11), (.ref b11)])) (fun t k => XS.dup X35.here hx rfl (hb hby at_46) rfl rfl k) ?_
  refine own_by (T' := T35) (f' := (mkF m 49 (own_L0 i0 i1 i2 i3 i4 i5) [(.int (8 : Int32)), (.ref b11), (.ref b11)])) (fun t k => XS.bipush X35.here hx rfl (hb hby at_47) k) ?_
  refine own_by (T' := T35) (f' := (mkF m 51 (own_L0 i0 i1 i2 i3 i4 i5) [(.int (57 : Int32)), (.int (8 : Int32)), (.ref b11), (.ref b11)])) (fun t k => XS.bipush X35.here hx rfl (hb hby at_49) k) ?_
  have _ : (8 : Int32).toInt = 8 := by decide
  refine own_stC X35 hx hZ e35 (hb hby at_51) A37 (by first | decide | omega) (by first | decide | omega) ?_
  intro T38 h38 X38 e38 W38 A38
  show own_Go p e below _ T38 (mkF m 52 (own_L0 i0 i1 i2 i3 i4 i5) [(.ref b11)])
  have sz39 : n0 ≤ h38.size := by rw [W38.size]; exact sz36
  have N38 := Fr.snoc X38 N35 gn11
  have A40 : own_A Z h38 b11 .char 48 (own_bs 9) := own_bsA (k := 8) A38 (by decide) rfl
  refine own_by (T' := T38) (f' := (mkF m 53 (own_L0 i0 i1 i2 i3 i4 i5) [(.ref b11), (.ref b11)])) (fun t k => XS.dup X38.here hx rfl (hb hby at_52) rfl rfl k) ?_
  refine own_by (T' := T38) (f' := (mkF m 55 (own_L0 i0 i1 i2 i3 i4 i5) [(.int (9 : Int32)), (.ref b11), (.ref b11)])) (fun t k => XS.bipush X38.here hx rfl (hb hby at_53) k) ?_
  refine own_by (T' := T38) (f' := (mkF m 57 (own_L0 i0 i1 i2 i3 i4 i5) [(.int (57 : Int32)), (.int (9 : Int32)), (.ref b11), (.ref b11)])) (fun t k => XS.bipush X38.here hx rfl (hb hby at_55) k) ?_
  have _ : (9 : Int32).toInt = 9 := by decide
  refine own_stC X38 hx hZ e38 (hb hby at_57) A40 (by first | decide | omega) (by first | decide | omega) ?_
  intro T41 h41 X41 e41 W41 A41
  show own_Go p e below _ T41 (mkF m 58 (own_L0 i0 i1 i2 i3 i4 i5) [(.ref b11)])
  have sz42 : n0 ≤ h41.size := by rw [W41.size]; exact sz39
  have N41 := Fr.snoc X41 N38 gn11
  have A43 : own_A Z h41 b11 .char 48 (own_bs 10) := own_bsA (k := 9) A41 (by decide) rfl
  refine own_by (T' := T41) (f' := (mkF m 59 (own_L0 i0 i1 i2 i3 i4 i5) [(.ref b11), (.ref b11)])) (fun t k => XS.dup X41.here hx rfl (hb hby at_58) rfl rfl k) ?_
  refine own_by (T' := T41) (f' := (mkF m 61 (own_L0 i0 i1 i2 i3 i4 i5) [(.int (10 : Int32)), (.ref b11), (.ref b11)])) (fun t k => XS.bipush X41.here hx rfl (hb hby at_59) k) ?_
  refine own_by (T' := T41) (f' := (mkF m 63 (own_L0 i0 i1 i2 i3 i4 i5) [(.int (57 : Int32)), (.int (10 : Int32)), (.ref b11), (.ref b11)])) (fun t k => XS.bipush X41.here hx rfl (hb hby at_61) k) ?_
  have _ : (10 : Int32).toInt = 10 := by decide
  refine own_stC X41 hx hZ e41 (hb hby at_63) A43 (by first | decide | omega) (by first | decide | omega) ?_
  intro T44 h44 X44 e44 W44 A44
  show own_Go p e below _ T44 (mkF m 64 (own_L0 i0 i1 i2 i3 i4 i5) [(.ref b11)])
  have sz45 : n0 ≤ h44.size := by rw [W44.size]; exact sz42
  have N44 := Fr.snoc X44 N41 gn11
  have A46 : own_A Z h44 b11 .char 48 (own_bs 11) := own_bsA (k := 10) A44 (by decide) rfl
  refine own_by (T' := T44) (f' := (mkF m 65 (own_L0 i0 i1 i2 i3 i4 i5) [(.ref b11), (.ref b11)])) (fun t k => XS.dup X44.here hx rfl (hb hby at_64) rfl rfl k) ?_
  refine own_by (T' := T44) (f' := (mkF m 67 (own_L0 i0 i1 i2 i3 i4 i5) [(.int (11 : Int32)), (.ref b11), (.ref b11)])) (fun t k => XS.bipush X44.here hx rfl (hb hby at_65) k) ?_
  refine own_by (T' := T44) (f' := (mkF m 69 (own_L0 i0 i1 i2 i3 i4 i5) [(.int (57 : Int32)), (.int (11 : Int32)), (.ref b11), (.ref b11)])) (fun t k => XS.bipush X44.here hx rfl (hb hby at_67) k) ?_
  have _ : (11 : Int32).toInt = 11 := by decide
  refine own_stC X44 hx hZ e44 (hb hby at_69) A46 (by first | decide | omega) (by first | decide | omega) ?_
  intro T47 h47 X47 e47 W47 A47
  show own_Go p e below _ T47 (mkF m 70 (own_L0 i0 i1 i2 i3 i4 i5) [(.ref b11)])
  have sz48 : n0 ≤ h47.size := by rw [W47.size]; exact sz45
  have N47 := Fr.snoc X47 N44 gn11
  have A49 : own_A Z h47 b11 .char 48 (own_bs 12) := own_bsA (k := 11) A47 (by decide) rfl
  refine own_by (T' := T47) (f' := (mkF m 71 (own_L0 i0 i1 i2 i3 i4 i5) [(.ref b11), (.ref b11)])) (fun t k => XS.dup X47.here hx rfl (hb hby at_70) rfl rfl k) ?_
  refine own_by (T' := T47) (f' := (mkF m 73 (own_L0 i0 i1 i2 i3 i4 i5) [(.int (12 : Int32)), (.ref b11), (.ref b11)])) (fun t k => XS.bipush X47.here hx rfl (hb hby at_71) k) ?_
  refine own_by (T' := T47) (f' := (mkF m 75 (own_L0 i0 i1 i2 i3 i4 i5) [(.int (57 : Int32)), (.int (12 : Int32)), (.ref b11), (.ref b11)])) (fun t k => XS.bipush X47.here hx rfl (hb hby at_73) k) ?_
  have _ : (12 : Int32).toInt = 12 := by decide
  refine own_stC X47 hx hZ e47 (hb hby at_75) A49 (by first | decide | omega) (by first | decide | omega) ?_
  intro T50 h50 X50 e50 W50 A50
  show own_Go p e below _ T50 (mkF m 76 (own_L0 i0 i1 i2 i3 i4 i5) [(.ref b11)])
  have sz51 : n0 ≤ h50.size := by rw [W50.size]; exact sz48
  have N50 := Fr.snoc X50 N47 gn11
  have A52 : own_A Z h50 b11 .char 48 (own_bs 13) := own_bsA (k := 12) A50 (by decide) rfl
  refine own_by (T' := T50) (f' := (mkF m 77 (own_L0 i0 i1 i2 i3 i4 i5) [(.ref b11), (.ref b11)])) (fun t k => XS.dup X50.here hx rfl (hb hby at_76) rfl rfl k) ?_
  refine own_by (T' := T50) (f' := (mkF m 79 (own_L0 i0 i1 i2 i3 i4 i5) [(.int (13 : Int32)), (.ref b11), (.ref b11)])) (fun t k => XS.bipush X50.here hx rfl (hb hby at_77) k) ?_
  refine own_by (T' := T50) (f' := (mkF m 81 (own_L0 i0 i1 i2 i3 i4 i5) [(.int (57 : Int32)), (.int (13 : Int32)), (.ref b11), (.ref b11)])) (fun t k => XS.bipush X50.here hx rfl (hb hby at_79) k) ?_
  have _ : (13 : Int32).toInt = 13 := by decide
  refine own_stC X50 hx hZ e50 (hb hby at_81) A52 (by first | decide | omega) (by first | decide | omega) ?_
  intro T53 h53 X53 e53 W53 A53
  show own_Go p e below _ T53 (mkF m 82 (own_L0 i0 i1 i2 i3 i4 i5) [(.ref b11)])
  have sz54 : n0 ≤ h53.size := by rw [W53.size]; exact sz51
  have N53 := Fr.snoc X53 N50 gn11
  have A55 : own_A Z h53 b11 .char 48 (own_bs 14) := own_bsA (k := 13) A53 (by decide) rfl
  refine own_by (T' := T53) (f' := (mkF m 83 (own_L0 i0 i1 i2 i3 i4 i5) [(.ref b11), (.ref b11)])) (fun t k => XS.dup X53.here hx rfl (hb hby at_82) rfl rfl k) ?_
  refine own_by (T' := T53) (f' := (mkF m 85 (own_L0 i0 i1 i2 i3 i4 i5) [(.int (14 : Int32)), (.ref b11), (.ref b11)])) (fun t k => XS.bipush X53.here hx rfl (hb hby at_83) k) ?_
  refine own_by (T' := T53) (f' := (mkF m 87 (own_L0 i0 i1 i2 i3 i4 i5) [(.int (57 : Int32)), (.int (14 : Int32)), (.ref b11), (.ref b11)])) (fun t k => XS.bipush X53.here hx rfl (hb hby at_85) k) ?_
  have _ : (14 : Int32).toInt = 14 := by decide
  refine own_stC X53 hx hZ e53 (hb hby at_87) A55 (by first | decide | omega) (by first | decide | omega) ?_
  intro T56 h56 X56 e56 W56 A56
  show own_Go p e below _ T56 (mkF m 88 (own_L0 i0 i1 i2 i3 i4 i5) [(.ref b11)])
  have sz57 : n0 ≤ h56.size := by rw [W56.size]; exact sz54
  have N56 := Fr.snoc X56 N53 gn11
  have A58 : own_A Z h56 b11 .char 48 (own_bs 15) := own_bsA (k := 14) A56 (by decide) rfl
  refine own_by (T' := T56) (f' := (mkF m 89 (own_L0 i0 i1 i2 i3 i4 i5) [(.ref b11), (.ref b11)])) (fun t k => XS.dup X56.here hx rfl (hb hby at_88) rfl rfl k) ?_
  refine own_by (T' := T56) (f' := (mkF m 91 (own_L0 i0 i1 i2 i3 i4 i5) [(.int (15 : Int32)), (.ref b11), (.ref b11)])) (fun t k => XS.bipush X56.here hx rfl (hb hby at_89) k) ?_
  refine own_by (T' := T56) (f' := (mkF m 93 (own_L0 i0 i1 i2 i3 i4 i5) [(.int (57 : Int32)), (.int (15 : Int32)), (.ref b11), (.ref b11)])) (fun t k => XS.bipush X56.here hx rfl (hb hby at_91) k) ?_
  have _ : (15 : Int32).toInt = 15 := by decide
  refine own_stC X56 hx hZ e56 (hb hby at_93) A58 (by first | decide | omega) (by first | decide | omega) ?_
  intro T59 h59 X59 e59 W59 A59
  show own_Go p e below _ T59 (mkF m 94 (own_L0 i0 i1 i2 i3 i4 i5) [(.ref b11)])
  have sz60 : n0 ≤ h59.size := by rw [W59.size]; exact sz57
  have N59 := Fr.snoc X59 N56 gn11
  have A61 : own_A Z h59 b11 .char 48 (own_bs 16) := own_bsA (k := 15) A59 (by decide) rfl
  refine own_by (T' := T59) (f' := (mkF m 95 (own_L0 i0 i1 i2 i3 i4 i5) [(.ref b11), (.ref b11)])) (fun t k => XS.dup X59.here hx rfl (hb hby at_94) rfl rfl k) ?_
  refine own_by (T' := T59) (f' := (mkF m 97 (own_L0 i0 i1 i2 i3 i4 i5) [(.int (16 : Int32)), (.ref b11), (.ref b11)])) (fun t k => XS.bipush X59.here hx rfl (hb hby at_95) k) ?_
  refine own_by (T' := T59) (f' := (mkF m 99 (own_L0 i0 i1 i2 i3 i4 i5) [(.int (57 : Int32)), (.int (16 : Int32)), (.ref b11), (.ref b11)])) (fun t k => XS.bipush X59.here hx rfl (hb hby at_97) k) ?_
  have _ : (16 : Int32).toInt = 16 := by decide
  refine own_stC X59 hx hZ e59 (hb hby at_99) A61 (by first | decide | omega) (by first | decide | omega) ?_
  intro T62 h62 X62 e62 W62 A62
  show own_Go p e below _ T62 (mkF m 100 (own_L0 i0 i1 i2 i3 i4 i5) [(.ref b11)])
  have sz63 : n0 ≤ h62.size := by rw [W62.size]; exact sz60
  have N62 := Fr.snoc X62 N59 gn11
  have A64 : own_A Z h62 b11 .char 48 (own_bs 17) := own_bsA (k := 16) A62 (by decide) rfl
  refine own_by (T' := T62) (f' := (mkF m 101 (own_L0 i0 i1 i2 i3 i4 i5) [(.ref b11), (.ref b11)])) (fun t k => XS.dup X62.here hx rfl (hb hby at_100) rfl rfl k) ?_
  refine own_by (T' := T62) (f' := (mkF m 103 (own_L0 i0 i1 i2 i3 i4 i5) [(.int (17 : Int32)), (.ref b11), (.ref b11)])) (fun t k => XS.bipush X62.here hx rfl (hb hby at_101) k) ?_
  refine own_by (T' := T62) (f' := (mkF m 105 (own_L0 i0 i1 i2 i3 i4 i5) [(.int (57 : Int32)), (.int (17 : Int32)), (.ref b11), (.ref b11)])) (fun t k => XS.bipush X62.here hx rfl (hb hby at_103) k) ?_
  have _ : (17 : Int32).toInt = 17 := by decide
  refine own_stC X62 hx hZ e62 (hb hby at_105) A64 (by first | decide | omega) (by first | decide | omega) ?_
  intro T65 h65 X65 e65 W65 A65
  show own_Go p e below _ T65 (mkF m 106 (own_L0 i0 i1 i2 i3 i4 i5) [(.ref b11)])
  have sz66 : n0 ≤ h65.size := by rw [W65.size]; exact sz63
  have N65 := Fr.snoc X65 N62 gn11
  have A67 : own_A Z h65 b11 .char 48 (own_bs 18) := own_bsA (k := 17) A65 (by decide) rfl
  refine own_by (T' := T65) (f' := (mkF m 107 (own_L0 i0 i1 i2 i3 i4 i5) [(.ref b11), (.ref b11)])) (fun t k => XS.dup X65.here hx rfl (hb hby at_106) rfl rfl k) ?_
  refine own_by (T' := T65) (f' := (mkF m 109 (own_L0 i0 i1 i2 i3 i4 i5) [(.int (18 : Int32)), (.ref b11), (.ref b11)])) (fun t k => XS.bipush X65.here hx rfl (hb hby at_107) k) ?_
  refine own_by (T' := T65) (f' := (mkF m 111 (own_L0 i0 i1 i2 i3 i4 i5) [(.int (57 : Int32)), (.int (18 : Int32)), (.ref b11), (.ref b11)])) (fun t k => XS.bipush X65.here hx rfl (hb hby at_109) k) ?_
  have _ : (18 : Int32).toInt = 18 := by decide
  refine own_stC X65 hx hZ e65 (hb hby at_111) A67 (by first | decide | omega) (by first | decide | omega) ?_
  intro T68 h68 X68 e68 W68 A68
  show own_Go p e below _ T68 (mkF m 112 (own_L0 i0 i1 i2 i3 i4 i5) [(.ref b11)])
  have sz69 : n0 ≤ h68.size := by rw [W68.size]; exact sz66
  have N68 := Fr.snoc X68 N65 gn11
  have A70 : own_A Z h68 b11 .char 48 (own_bs 19) := own_bsA (k := 18) A68 (by decide) rfl
  refine own_by (T' := T68) (f' := (mkF m 113 (own_L0 i0 i1 i2 i3 i4 i5) [(.ref b11), (.ref b11)])) (fun t k => XS.dup X68.here hx rfl (hb hby at_112) rfl rfl k) ?_
  refine own_by (T' := T68) (f' := (mkF m 115 (own_L0 i0 i1 i2 i3 i4 i5) [(.int (19 : Int32)), (.ref b11), (.ref b11)])) (fun t k => XS.bipush X68.here hx rfl (hb hby at_113) k) ?_
  refine own_by (T' := T68) (f' := (mkF m 117 (own_L0 i0 i1 i2 i3 i4 i5) [(.int (57 : Int32)), (.int (19 : Int32)), (.ref b11), (.ref b11)])) (fun t k => XS.bipush X68.here hx rfl (hb hby at_115) k) ?_
  have _ : (19 : Int32).toInt = 19 := by decide
  refine own_stC X68 hx hZ e68 (hb hby at_117) A70 (by first | decide | omega) (by first | decide | omega) ?_
  intro T71 h71 X71 e71 W71 A71
  show own_Go p e below _ T71 (mkF m 118 (own_L0 i0 i1 i2 i3 i4 i5) [(.ref b11)])
  have sz72 : n0 ≤ h71.size := by rw [W71.size]; exact sz69
  have N71 := Fr.snoc X71 N68 gn11
  have A73 : own_A Z h71 b11 .char 48 (own_bs 20) := own_bsA (k := 19) A71 (by decide) rfl
  refine own_by (T' := T71) (f' := (mkF m 119 (own_L0 i0 i1 i2 i3 i4 i5) [(.ref b11), (.ref b11)])) (fun t k => XS.dup X71.here hx rfl (hb hby at_118) rfl rfl k) ?_
  refine own_by (T' := T71) (f' := (mkF m 121 (own_L0 i0 i1 i2 i3 i4 i5) [(.int (20 : Int32)), (.ref b11), (.ref b11)])) (fun t k => XS.bipush X71.here hx rfl (hb hby at_119) k) ?_
  refine own_by (T' := T71) (f' := (mkF m 123 (own_L0 i0 i1 i2 i3 i4 i5) [(.int (57 : Int32)), (.int (20 : Int32)), (.ref b11), (.ref b11)])) (fun t k => XS.bipush X71.here hx rfl (hb hby at_121) k) ?_
  have _ : (20 : Int32).toInt = 20 := by decide
  refine own_stC X71 hx hZ e71 (hb hby at_123) A73 (by first | decide | omega) (by first | decide | omega) ?_
  intro T74 h74 X74 e74 W74 A74
  show own_Go p e below _ T74 (mkF m 124 (own_L0 i0 i1 i2 i3 i4 i5) [(.ref b11)])
  have sz75 : n0 ≤ h74.size := by rw [W74.size]; exact sz72
  have N74 := Fr.snoc X74 N71 gn11
  have A76 : own_A Z h74 b11 .char 48 (own_bs 21) := own_bsA (k := 20) A74 (by decide) rfl
  refine own_by (T' := T74) (f' := (mkF m 125 (own_L0 i0 i1 i2 i3 i4 i5) [(.ref b11), (.ref b11)])) (fun t k => XS.dup X74.here hx rfl (hb hby at_124) rfl rfl k) ?_
  refine own_by (T' := T74) (f' := (mkF m 127 (own_L0 i0 i1 i2 i3 i4 i5) [(.int (21 : Int32)), (.ref b11), (.ref b11)])) (fun t k => XS.bipush X74.here hx rfl (hb hby at_125) k) ?_
  refine own_by (T' := T74) (f' := (mkF m 129 (own_L0 i0 i1 i2 i3 i4 i5) [(.int (57 : Int32)), (.int (21 : Int32)), (.ref b11), (.ref b11)])) (fun t k => XS.bipush X74.here hx rfl (hb hby at_127) k) ?_
  have _ : (21 : Int32).toInt = 21 := by decide
  refine own_stC X74 hx hZ e74 (hb hby at_129) A76 (by first | decide | omega) (by first | decide | omega) ?_
  intro T77 h77 X77 e77 W77 A77
  show own_Go p e below _ T77 (mkF m 130 (own_L0 i0 i1 i2 i3 i4 i5) [(.ref b11)])
  have sz78 : n0 ≤ h77.size := by rw [W77.size]; exact sz75
  have N77 := Fr.snoc X77 N74 gn11
  have A79 : own_A Z h77 b11 .char 48 (own_bs 22) := own_bsA (k := 21) A77 (by decide) rfl
  refine own_by (T' := T77) (f' := (mkF m 131 (own_L0 i0 i1 i2 i3 i4 i5) [(.ref b11), (.ref b11)])) (fun t k => XS.dup X77.here hx rfl (hb hby at_130) rfl rfl k) ?_
  refine own_by (T' := T77) (f' := (mkF m 133 (own_L0 i0 i1 i2 i3 i4 i5) [(.int (22 : Int32)), (.ref b11), (.ref b11)])) (fun t k => XS.bipush X77.here hx rfl (hb hby at_131) k) ?_
  refine own_by (T' := T77) (f' := (mkF m 135 (own_L0 i0 i1 i2 i3 i4 i5) [(.int (57 : Int32)), (.int (22 : Int32)), (.ref b11), (.ref b11)])) (fun t k => XS.bipush X77.here hx rfl (hb hby at_133) k) ?_
  have _ : (22 : Int32).toInt = 22 := by decide
  refine own_stC X77 hx hZ e77 (hb hby at_135) A79 (by first | decide | omega) (by first | decide | omega) ?_
  intro T80 h80 X80 e80 W80 A80
  show own_Go p e below _ T80 (mkF m 136 (own_L0 i0 i1 i2 i3 i4 i5) [(.ref b11)])
  have sz81 : n0 ≤ h80.size := by rw [W80.size]; exact sz78
  have N80 := Fr.snoc X80 N77 gn11
  have A82 : own_A Z h80 b11 .char 48 (own_bs 23) := own_bsA (k := 22) A80 (by decide) rfl
  refine own_by (T' := T80) (f' := (mkF m 137 (own_L0 i0 i1 i2 i3 i4 i5) [(.ref b11), (.ref b11)])) (fun t k => XS.dup X80.here hx rfl (hb hby at_136) rfl rfl k) ?_
  refine own_by (T' := T80) (f' := (mkF m 139 (own_L0 i0 i1 i2 i3 i4 i5) [(.int (23 : Int32)), (.ref b11), (.ref b11)])) (fun t k => XS.bipush X80.here hx rfl (hb hby at_137) k) ?_
  refine own_by (T' := T80) (f' := (mkF m 141 (own_L0 i0 i1 i2 i3 i4 i5) [(.int (57 : Int32)), (.int (23 : Int32)), (.ref b11), (.ref b11)])) (fun t k => XS.bipush X80.here hx rfl (hb hby at_139) k) ?_
  have _ : (23 : Int32).toInt = 23 := by decide
  refine own_stC X80 hx hZ e80 (hb hby at_141) A82 (by first | decide | omega) (by first | decide | omega) ?_
  intro T83 h83 X83 e83 W83 A83
  show own_Go p e below _ T83 (mkF m 142 (own_L0 i0 i1 i2 i3 i4 i5) [(.ref b11)])
  have sz84 : n0 ≤ h83.size := by rw [W83.size]; exact sz81
  have N83 := Fr.snoc X83 N80 gn11
  have A85 : own_A Z h83 b11 .char 48 (own_bs 24) := own_bsA (k := 23) A83 (by decide) rfl
  refine own_by (T' := T83) (f' := (mkF m 143 (own_L0 i0 i1 i2 i3 i4 i5) [(.ref b11), (.ref b11)])) (fun t k => XS.dup X83.here hx rfl (hb hby at_142) rfl rfl k) ?_
  refine own_by (T' := T83) (f' := (mkF m 145 (own_L0 i0 i1 i2 i3 i4 i5) [(.int (24 : Int32)), (.ref b11), (.ref b11)])) (fun t k => XS.bipush X83.here hx rfl (hb hby at_143) k) ?_
  refine own_by (T' := T83) (f' := (mkF m 147 (own_L0 i0 i1 i2 i3 i4 i5) [(.int (57 : Int32)), (.int (24 : Int32)), (.ref b11), (.ref b11)])) (fun t k => XS.bipush X83.here hx rfl (hb hby at_145) k) ?_
  have _ : (24 : Int32).toInt = 24 := by decide
  refine own_stC X83 hx hZ e83 (hb hby at_147) A85 (by first | decide | omega) (by first | decide | omega) ?_
  intro T86 h86 X86 e86 W86 A86
  show own_Go p e below _ T86 (mkF m 148 (own_L0 i0 i1 i2 i3 i4 i5) [(.ref b11)])
  have sz87 : n0 ≤ h86.size := by rw [W86.size]; exact sz84
  have N86 := Fr.snoc X86 N83 gn11
  have A88 : own_A Z h86 b11 .char 48 (own_bs 25) := own_bsA (k := 24) A86 (by decide) rfl
  refine own_by (T' := T86) (f' := (mkF m 149 (own_L0 i0 i1 i2 i3 i4 i5) [(.ref b11), (.ref b11)])) (fun t k => XS.dup X86.here hx rfl (hb hby at_148) rfl rfl k) ?_
  refine own_by (T' := T86) (f' := (mkF m 151 (own_L0 i0 i1 i2 i3 i4 i5) [(.int (25 : Int32)), (.ref b11), (.ref b11)])) (fun t k => XS.bipush X86.here hx rfl (hb hby at_149) k) ?_
  refine own_by (T' := T86) (f' := (mkF m 153 (own_L0 i0 i1 i2 i3 i4 i5) [(.int (57 : Int32)), (.int (25 : Int32)), (.ref b11), (.ref b11)])) (fun t k => XS.bipush X86.here hx rfl (hb hby at_151) k) ?_
  have _ : (25 : Int32).toInt = 25 := by decide
  refine own_stC X86 hx hZ e86 (hb hby at_153) A88 (by first | decide | omega) (by first | decide | omega) ?_
  intro T89 h89 X89 e89 W89 A89
  show own_Go p e below _ T89 (mkF m 154 (own_L0 i0 i1 i2 i3 i4 i5) [(.ref b11)])
  have sz90 : n0 ≤ h89.size := by rw [W89.size]; exact sz87
  have N89 := Fr.snoc X89 N86 gn11
  have A91 : own_A Z h89 b11 .char 48 (own_bs 26) := own_bsA (k := 25) A89 (by decide) rfl
  refine own_by (T' := T89) (f' := (mkF m 155 (own_L0 i0 i1 i2 i3 i4 i5) [(.ref b11), (.ref b11)])) (fun t k => XS.dup X89.here hx rfl (hb hby at_154) rfl rfl k) ?_
  refine own_by (T' := T89) (f' := (mkF m 157 (own_L0 i0 i1 i2 i3 i4 i5) [(.int (26 : Int32)), (.ref b11), (.ref b11)])) (fun t k => XS.bipush X89.here hx rfl (hb hby at_155) k) ?_
  refine own_by (T' := T89) (f' := (mkF m 159 (own_L0 i0 i1 i2 i3 i4 i5) [(.int (57 : Int32)), (.int (26 : Int32)), (.ref b11), (.ref b11)])) (fun t k => XS.bipush X89.here hx rfl (hb hby at_157) k) ?_
  have _ : (26 : Int32).toInt = 26 := by decide
  refine own_stC X89 hx hZ e89 (hb hby at_159) A91 (by first | decide | omega) (by first | decide | omega) ?_
  intro T92 h92 X92 e92 W92 A92
  show own_Go p e below _ T92 (mkF m 160 (own_L0 i0 i1 i2 i3 i4 i5) [(.ref b11)])
  have sz93 : n0 ≤ h92.size := by rw [W92.size]; exact sz90
  have N92 := Fr.snoc X92 N89 gn11
  have A94 : own_A Z h92 b11 .char 48 (own_bs 27) := own_bsA (k := 26) A92 (by decide) rfl
  refine own_by (T' := T92) (f' := (mkF m 161 (own_L0 i0 i1 i2 i3 i4 i5) [(.ref b11), (.ref b11)])) (fun t k => XS.dup X92.here hx rfl (hb hby at_160) rfl rfl k) ?_
  refine own_by (T' := T92) (f' := (mkF m 163 (own_L0 i0 i1 i2 i3 i4 i5) [(.int (27 : Int32)), (.ref b11), (.ref b11)])) (fun t k => XS.bipush X92.here hx rfl (hb hby at_161) k) ?_
  refine own_by (T' := T92) (f' := (mkF m 165 (own_L0 i0 i1 i2 i3 i4 i5) [(.int (57 : Int32)), (.int (27 : Int32)), (.ref b11), (.ref b11)])) (fun t k => XS.bipush X92.here hx rfl (hb hby at_163) k) ?_
  have _ : (27 : Int32).toInt = 27 := by decide
  refine own_stC X92 hx hZ e92 (hb hby at_165) A94 (by first | decide | omega) (by first | decide | omega) ?_
  intro T95 h95 X95 e95 W95 A95
  show own_Go p e below _ T95 (mkF m 166 (own_L0 i0 i1 i2 i3 i4 i5) [(.ref b11)])
  have sz96 : n0 ≤ h95.size := by rw [W95.size]; exact sz93
  have N95 := Fr.snoc X95 N92 gn11
  have A97 : own_A Z h95 b11 .char 48 (own_bs 28) := own_bsA (k := 27) A95 (by decide) rfl
  refine own_by (T' := T95) (f' := (mkF m 167 (own_L0 i0 i1 i2 i3 i4 i5) [(.ref b11), (.ref b11)])) (fun t k => XS.dup X95.here hx rfl (hb hby at_166) rfl rfl k) ?_
  refine own_by (T' := T95) (f' := (mkF m 169 (own_L0 i0 i1 i2 i3 i4 i5) [(.int (28 : Int32)), (.ref b11), (.ref b11)])) (fun t k => XS.bipush X95.here hx rfl (hb hby at_167) k) ?_
  refine own_by (T' := T95) (f' := (mkF m 171 (own_L0 i0 i1 i2 i3 i4 i5) [(.int (57 : Int32)), (.int (28 : Int32)), (.ref b11), (.ref b11)])) (fun t k => XS.bipush X95.here hx rfl (hb hby at_169) k) ?_
  have _ : (28 : Int32).toInt = 28 := by decide
  refine own_stC X95 hx hZ e95 (hb hby at_171) A97 (by first | decide | omega) (by first | decide | omega) ?_
  intro T98 h98 X98 e98 W98 A98
  show own_Go p e below _ T98 (mkF m 172 (own_L0 i0 i1 i2 i3 i4 i5) [(.ref b11)])
  have sz99 : n0 ≤ h98.size := by rw [W98.size]; exact sz96
  have N98 := Fr.snoc X98 N95 gn11
  have A100 : own_A Z h98 b11 .char 48 (own_bs 29) := own_bsA (k := 28) A98 (by decide) rfl
  refine own_by (T' := T98) (f' := (mkF m 173 (own_L0 i0 i1 i2 i3 i4 i5) [(.ref b11), (.ref b11)])) (fun t k => XS.dup X98.here hx rfl (hb hby at_172) rfl rfl k) ?_
  refine own_by (T' := T98) (f' := (mkF m 175 (own_L0 i0 i1 i2 i3 i4 i5) [(.int (29 : Int32)), (.ref b11), (.ref b11)])) (fun t k => XS.bipush X98.here hx rfl (hb hby at_173) k) ?_
  refine own_by (T' := T98) (f' := (mkF m 177 (own_L0 i0 i1 i2 i3 i4 i5) [(.int (57 : Int32)), (.int (29 : Int32)), (.ref b11), (.ref b11)])) (fun t k => XS.bipush X98.here hx rfl (hb hby at_175) k) ?_
  have _ : (29 : Int32).toInt = 29 := by decide
  refine own_stC X98 hx hZ e98 (hb hby at_177) A100 (by first | decide | omega) (by first | decide | omega) ?_
  intro T101 h101 X101 e101 W101 A101
  show own_Go p e below _ T101 (mkF m 178 (own_L0 i0 i1 i2 i3 i4 i5) [(.ref b11)])
  have sz102 : n0 ≤ h101.size := by rw [W101.size]; exact sz99
  have N101 := Fr.snoc X101 N98 gn11
  have A103 : own_A Z h101 b11 .char 48 (own_bs 30) := own_bsA (k := 29) A101 (by decide) rfl
  refine own_by (T' := T101) (f' := (mkF m 179 (own_L0 i0 i1 i2 i3 i4 i5) [(.ref b11), (.ref b11)])) (fun t k => XS.dup X101.here hx rfl (hb hby at_178) rfl rfl k) ?_
  refine own_by (T' := T101) (f' := (mkF m 181 (own_L0 i0 i1 i2 i3 i4 i5) [(.int (30 : Int32)), (.ref b11), (.ref b11)])) (fun t k => XS.bipush X101.here hx rfl (hb hby at_179) k) ?_
  refine own_by (T' := T101) (f' := (mkF m 183 (own_L0 i0 i1 i2 i3 i4 i5) [(.int (57 : Int32)), (.int (30 : Int32)), (.ref b11), (.ref b11)])) (fun t k => XS.bipush X101.here hx rfl (hb hby at_181) k) ?_
  have _ : (30 : Int32).toInt = 30 := by decide
  refine own_stC X101 hx hZ e101 (hb hby at_183) A103 (by first | decide | omega) (by first | decide | omega) ?_
  intro T104 h104 X104 e104 W104 A104
  show own_Go p e below _ T104 (mkF m 184 (own_L0 i0 i1 i2 i3 i4 i5) [(.ref b11)])
  have sz105 : n0 ≤ h104.size := by rw [W104.size]; exact sz102
  have N104 := Fr.snoc X104 N101 gn11
  have A106 : own_A Z h104 b11 .char 48 (own_bs 31) := own_bsA (k := 30) A104 (by decide) rfl
  refine own_by (T' := T104) (f' := (mkF m 185 (own_L0 i0 i1 i2 i3 i4 i5) [(.ref b11), (.ref b11)])) (fun t k => XS.dup X104.here hx rfl (hb hby at_184) rfl rfl k) ?_
  refine own_by (T' := T104) (f' := (mkF m 187 (own_L0 i0 i1 i2 i3 i4 i5) [(.int (31 : Int32)), (.ref b11), (.ref b11)])) (fun t k => XS.bipush X104.here hx rfl (hb hby at_185) k) ?_
  refine own_by (T' := T104) (f' := (mkF m 189 (own_L0 i0 i1 i2 i3 i4 i5) [(.int (57 : Int32)), (.int (31 : Int32)), (.ref b11), (.ref b11)])) (fun t k => XS.bipush X104.here hx rfl (hb hby at_187) k) ?_
  have _ : (31 : Int32).toInt = 31 := by decide
  refine own_stC X104 hx hZ e104 (hb hby at_189) A106 (by first | decide | omega) (by first | decide | omega) ?_
  intro T107 h107 X107 e107 W107 A107
  show own_Go p e below _ T107 (mkF m 190 (own_L0 i0 i1 i2 i3 i4 i5) [(.ref b11)])
  have sz108 : n0 ≤ h107.size := by rw [W107.size]; exact sz105
  have N107 := Fr.snoc X107 N104 gn11
  have A109 : own_A Z h107 b11 .char 48 (own_bs 32) := own_bsA (k := 31) A107 (by decide) rfl
  refine own_by (T' := T107) (f' := (mkF m 191 (own_L0 i0 i1 i2 i3 i4 i5) [(.ref b11), (.ref b11)])) (fun t k => XS.dup X107.here hx rfl (hb hby at_190) rfl rfl k) ?_
  refine own_by (T' := T107) (f' := (mkF m 193 (own_L0 i0 i1 i2 i3 i4 i5) [(.int (32 : Int32)), (.ref b11), (.ref b11)])) (fun t k => XS.bipush X107.here hx rfl (hb hby at_191) k) ?_
  refine own_by (T' := T107) (f' := (mkF m 195 (own_L0 i0 i1 i2 i3 i4 i5) [(.int (57 : Int32)), (.int (32 : Int32)), (.ref b11), (.ref b11)])) (fun t k => XS.bipush X107.here hx rfl (hb hby at_193) k) ?_
  have _ : (32 : Int32).toInt = 32 := by decide
  refine own_stC X107 hx hZ e107 (hb hby at_195) A109 (by first | decide | omega) (by first | decide | omega) ?_
  intro T110 h110 X110 e110 W110 A110
  show own_Go p e below _ T110 (mkF m 196 (own_L0 i0 i1 i2 i3 i4 i5) [(.ref b11)])
  have sz111 : n0 ≤ h110.size := by rw [W110.size]; exact sz108
  have N110 := Fr.snoc X110 N107 gn11
  have A112 : own_A Z h110 b11 .char 48 (own_bs 33) := own_bsA (k := 32) A110 (by decide) rfl
  refine own_by (T' := T110) (f' := (mkF m 197 (own_L0 i0 i1 i2 i3 i4 i5) [(.ref b11), (.ref b11)])) (fun t k => XS.dup X110.here hx rfl (hb hby at_196) rfl rfl k) ?_
  refine own_by (T' := T110) (f' := (mkF m 199 (own_L0 i0 i1 i2 i3 i4 i5) [(.int (33 : Int32)), (.ref b11), (.ref b11)])) (fun t k => XS.bipush X110.here hx rfl (hb hby at_197) k) ?_
  refine own_by (T' := T110) (f' := (mkF m 201 (own_L0 i0 i1 i2 i3 i4 i5) [(.int (57 : Int32)), (.int (33 : Int32)), (.ref b11), (.ref b11)])) (fun t k => XS.bipush X110.here hx rfl (hb hby at_199) k) ?_
  have _ : (33 : Int32).toInt = 33 := by decide
  refine own_stC X110 hx hZ e110 (hb hby at_201) A112 (by first | decide | omega) (by first | decide | omega) ?_
  intro T113 h113 X113 e113 W113 A113
  show own_Go p e below _ T113 (mkF m 202 (own_L0 i0 i1 i2 i3 i4 i5) [(.ref b11)])
  have sz114 : n0 ≤ h113.size := by rw [W113.size]; exact sz111
  have N113 := Fr.snoc X113 N110 gn11
  have A115 : own_A Z h113 b11 .char 48 (own_bs 34) := own_bsA (k := 33) A113 (by decide) rfl
  refine own_by (T' := T113) (f' := (mkF m 203 (own_L0 i0 i1 i2 i3 i4 i5) [(.ref b11), (.ref b11)])) (fun t k => XS.dup X113.here hx rfl (hb hby at_202) rfl rfl k) ?_
  refine own_by (T' := T113) (f' := (mkF m 205 (own_L0 i0 i1 i2 i3 i4 i5) [(.int (34 : Int32)), (.ref b11), (.ref b11)])) (fun t k => XS.bipush X113.here hx rfl (hb hby at_203) k) ?_
  refine own_by (T' := T113) (f' := (mkF m 207 (own_L0 i0 i1 i2 i3 i4 i5) [(.int (57 : Int32)), (.int (34 : Int32)), (.ref b11), (.ref b11)])) (fun t k => XS.bipush X113.here hx rfl (hb hby at_205) k) ?_
  have _ : (34 : Int32).toInt = 34 := by decide
  refine own_stC X113 hx hZ e113 (hb hby at_207) A115 (by first | decide | omega) (by first | decide | omega) ?_
  intro T116 h116 X116 e116 W116 A116
  show own_Go p e below _ T116 (mkF m 208 (own_L0 i0 i1 i2 i3 i4 i5) [(.ref b11)])
  have sz117 : n0 ≤ h116.size := by rw [W116.size]; exact sz114
  have N116 := Fr.snoc X116 N113 gn11
  have A118 : own_A Z h116 b11 .char 48 (own_bs 35) := own_bsA (k := 34) A116 (by decide) rfl
  refine own_by (T' := T116) (f' := (mkF m 209 (own_L0 i0 i1 i2 i3 i4 i5) [(.ref b11), (.ref b11)])) (fun t k => XS.dup X116.here hx rfl (hb hby at_208) rfl rfl k) ?_
  refine own_by (T' := T116) (f' := (mkF m 211 (own_L0 i0 i1 i2 i3 i4 i5) [(.int (35 : Int32)), (.ref b11), (.ref b11)])) (fun t k => XS.bipush X116.here hx rfl (hb hby at_209) k) ?_
  refine own_by (T' := T116) (f' := (mkF m 213 (own_L0 i0 i1 i2 i3 i4 i5) [(.int (57 : Int32)), (.int (35 : Int32)), (.ref b11), (.ref b11)])) (fun t k => XS.bipush X116.here hx rfl (hb hby at_211) k) ?_
  have _ : (35 : Int32).toInt = 35 := by decide
  refine own_stC X116 hx hZ e116 (hb hby at_213) A118 (by first | decide | omega) (by first | decide | omega) ?_
  intro T119 h119 X119 e119 W119 A119
  show own_Go p e below _ T119 (mkF m 214 (own_L0 i0 i1 i2 i3 i4 i5) [(.ref b11)])
  have sz120 : n0 ≤ h119.size := by rw [W119.size]; exact sz117
  have N119 := Fr.snoc X119 N116 gn11
  have A121 : own_A Z h119 b11 .char 48 (own_bs 36) := own_bsA (k := 35) A119 (by decide) rfl
  refine own_by (T' := T119) (f' := (mkF m 215 (own_L0 i0 i1 i2 i3 i4 i5) [(.ref b11), (.ref b11)])) (fun t k => XS.dup X119.here hx rfl (hb hby at_214) rfl rfl k) ?_
  refine own_by (T' := T119) (f' := (mkF m 217 (own_L0 i0 i1 i2 i3 i4 i5) [(.int (36 : Int32)), (.ref b11), (.ref b11)])) (fun t k => XS.bipush X119.here hx rfl (hb hby at_215) k) ?_
  refine own_by (T' := T119) (f' := (mkF m 219 (own_L0 i0 i1 i2 i3 i4 i5) [(.int (57 : Int32)), (.int (36 : Int32)), (.ref b11), (.ref b11)])) (fun t k => XS.bipush X119.here hx rfl (hb hby at_217) k) ?_
  have _ : (36 : Int32).toInt = 36 := by decide
  refine own_stC X119 hx hZ e119 (hb hby at_219) A121 (by first | decide | omega) (by first | decide | omega) ?_
  intro T122 h122 X122 e122 W122 A122
  show own_Go p e below _ T122 (mkF m 220 (own_L0 i0 i1 i2 i3 i4 i5) [(.ref b11)])
  have sz123 : n0 ≤ h122.size := by rw [W122.size]; exact sz120
  have N122 := Fr.snoc X122 N119 gn11
  have A124 : own_A Z h122 b11 .char 48 (own_bs 37) := own_bsA (k := 36) A122 (by decide) rfl
  refine own_by (T' := T122) (f' := (mkF m 221 (own_L0 i0 i1 i2 i3 i4 i5) [(.ref b11), (.ref b11)])) (fun t k => XS.dup X122.here hx rfl (hb hby at_220) rfl rfl k) ?_
  refine own_by (T' := T122) (f' := (mkF m 223 (own_L0 i0 i1 i2 i3 i4 i5) [(.int (37 : Int32)), (.ref b11), (.ref b11)])) (fun t k => XS.bipush X122.here hx rfl (hb hby at_221) k) ?_
  refine own_by (T' := T122) (f' := (mkF m 225 (own_L0 i0 i1 i2 i3 i4 i5) [(.int (57 : Int32)), (.int (37 : Int32)), (.ref b11), (.ref b11)])) (fun t k => XS.bipush X122.here hx rfl (hb hby at_223) k) ?_
  have _ : (37 : Int32).toInt = 37 := by decide
  refine own_stC X122 hx hZ e122 (hb hby at_225) A124 (by first | decide | omega) (by first | decide | omega) ?_
  intro T125 h125 X125 e125 W125 A125
  show own_Go p e below _ T125 (mkF m 226 (own_L0 i0 i1 i2 i3 i4 i5) [(.ref b11)])
  have sz126 : n0 ≤ h125.size := by rw [W125.size]; exact sz123
  have N125 := Fr.snoc X125 N122 gn11
  have A127 : own_A Z h125 b11 .char 48 (own_bs 38) := own_bsA (k := 37) A125 (by decide) rfl
  refine own_by (T' := T125) (f' := (mkF m 227 (own_L0 i0 i1 i2 i3 i4 i5) [(.ref b11), (.ref b11)])) (fun t k => XS.dup X125.here hx rfl (hb hby at_226) rfl rfl k) ?_
  refine own_by (T' := T125) (f' := (mkF m 229 (own_L0 i0 i1 i2 i3 i4 i5) [(.int (38 : Int32)), (.ref b11), (.ref b11)])) (fun t k => XS.bipush X125.here hx rfl (hb hby at_227) k) ?_
  refine own_by (T' := T125) (f' := (mkF m 231 (own_L0 i0 i1 i2 i3 i4 i5) [(.int (57 : Int32)), (.int (38 : Int32)), (.ref b11), (.ref b11)])) (fun t k => XS.bipush X125.here hx rfl (hb hby at_229) k) ?_
  have _ : (38 : Int32).toInt = 38 := by decide
  refine own_stC X125 hx hZ e125 (hb hby at_231) A127 (by first | decide | omega) (by first | decide | omega) ?_
  intro T128 h128 X128 e128 W128 A128
  show own_Go p e below _ T128 (mkF m 232 (own_L0 i0 i1 i2 i3 i4 i5) [(.ref b11)])
  have sz129 : n0 ≤ h128.size := by rw [W128.size]; exact sz126
  have N128 := Fr.snoc X128 N125 gn11
  have A130 : own_A Z h128 b11 .char 48 (own_bs 39) := own_bsA (k := 38) A128 (by decide) rfl
  refine own_by (T' := T128) (f' := (mkF m 233 (own_L0 i0 i1 i2 i3 i4 i5) [(.ref b11), (.ref b11)])) (fun t k => XS.dup X128.here hx rfl (hb hby at_232) rfl rfl k) ?_
  refine own_by (T' := T128) (f' := (mkF m 235 (own_L0 i0 i1 i2 i3 i4 i5) [(.int (39 : Int32)), (.ref b11), (.ref b11)])) (fun t k => XS.bipush X128.here hx rfl (hb hby at_233) k) ?_
  refine own_by (T' := T128) (f' := (mkF m 237 (own_L0 i0 i1 i2 i3 i4 i5) [(.int (57 : Int32)), (.int (39 : Int32)), (.ref b11), (.ref b11)])) (fun t k => XS.bipush X128.here hx rfl (hb hby at_235) k) ?_
  have _ : (39 : Int32).toInt = 39 := by decide
  refine own_stC X128 hx hZ e128 (hb hby at_237) A130 (by first | decide | omega) (by first | decide | omega) ?_
  intro T131 h131 X131 e131 W131 A131
  show own_Go p e below _ T131 (mkF m 238 (own_L0 i0 i1 i2 i3 i4 i5) [(.ref b11)])
  have sz132 : n0 ≤ h131.size := by rw [W131.size]; exact sz129
  have N131 := Fr.snoc X131 N128 gn11
  have A133 : own_A Z h131 b11 .char 48 (own_bs 40) := own_bsA (k := 39) A131 (by decide) rfl
  refine own_by (T' := T131) (f' := (mkF m 239 (own_L0 i0 i1 i2 i3 i4 i5) [(.ref b11), (.ref b11)])) (fun t k => XS.dup X131.here hx rfl (hb hby at_238) rfl rfl k) ?_
  refine own_by (T' := T131) (f' := (mkF m 241 (own_L0 i0 i1 i2 i3 i4 i5) [(.int (40 : Int32)), (.ref b11), (.ref b11)])) (fun t k => XS.bipush X131.here hx rfl (hb hby at_239) k) ?_
  refine own_by (T' := T131) (f' := (mkF m 243 (own_L0 i0 i1 i2 i3 i4 i5) [(.int (57 : Int32)), (.int (40 : Int32)), (.ref b11), (.ref b11)])) (fun t k => XS.bipush X131.here hx rfl (hb hby at_241) k) ?_
  have _ : (40 : Int32).toInt = 40 := by decide
  refine own_stC X131 hx hZ e131 (hb hby at_243) A133 (by first | decide | omega) (by first | decide | omega) ?_
  intro T134 h134 X134 e134 W134 A134
  show own_Go p e below _ T134 (mkF m 244 (own_L0 i0 i1 i2 i3 i4 i5) [(.ref b11)])
  have sz135 : n0 ≤ h134.size := by rw [W134.size]; exact sz132
  have N134 := Fr.snoc X134 N131 gn11
  have A136 : own_A Z h134 b11 .char 48 (own_bs 41) := own_bsA (k := 40) A134 (by decide) rfl
  refine own_by (T' := T134) (f' := (mkF m 245 (own_L0 i0 i1 i2 i3 i4 i5) [(.ref b11), (.ref b11)])) (fun t k => XS.dup X134.here hx rfl (hb hby at_244) rfl rfl k) ?_
  refine own_by (T' := T134) (f' := (mkF m 247 (own_L0 i0 i1 i2 i3 i4 i5) [(.int (41 : Int32)), (.ref b11), (.ref b11)])) (fun t k => XS.bipush X134.here hx rfl (hb hby at_245) k) ?_
  refine own_by (T' := T134) (f' := (mkF m 249 (own_L0 i0 i1 i2 i3 i4 i5) [(.int (57 : Int32)), (.int (41 : Int32)), (.ref b11), (.ref b11)])) (fun t k => XS.bipush X134.here hx rfl (hb hby at_247) k) ?_
  have _ : (41 : Int32).toInt = 41 := by decide
  refine own_stC X134 hx hZ e134 (hb hby at_249) A136 (by first | decide | omega) (by first | decide | omega) ?_
  intro T137 h137 X137 e137 W137 A137
  show own_Go p e below _ T137 (mkF m 250 (own_L0 i0 i1 i2 i3 i4 i5) [(.ref b11)])
  have sz138 : n0 ≤ h137.size := by rw [W137.size]; exact sz135
  have N137 := Fr.snoc X137 N134 gn11
  have A139 : own_A Z h137 b11 .char 48 (own_bs 42) := own_bsA (k := 41) A137 (by decide) rfl
  refine own_by (T' := T137) (f' := (mkF m 251 (own_L0 i0 i1 i2 i3 i4 i5) [(.ref b11), (.ref b11)])) (fun t k => XS.dup X137.here hx rfl (hb hby at_250) rfl rfl k) ?_
  refine own_by (T' := T137) (f' := (mkF m 253 (own_L0 i0 i1 i2 i3 i4 i5) [(.int (42 : Int32)), (.ref b11), (.ref b11)])) (fun t k => XS.bipush X137.here hx rfl (hb hby at_251) k) ?_
  refine own_by (T' := T137) (f' := (mkF m 255 (own_L0 i0 i1 i2 i3 i4 i5) [(.int (57 : Int32)), (.int (42 : Int32)), (.ref b11), (.ref b11)])) (fun t k => XS.bipush X137.here hx rfl (hb hby at_253) k) ?_
  have _ : (42 : Int32).toInt = 42 := by decide
  refine own_stC X137 hx hZ e137 (hb hby at_255) A139 (by first | decide | omega) (by first | decide | omega) ?_
  intro T140 h140 X140 e140 W140 A140
  show own_Go p e below _ T140 (mkF m 256 (own_L0 i0 i1 i2 i3 i4 i5) [(.ref b11)])
  have sz141 : n0 ≤ h140.size := by rw [W140.size]; exact sz138
  have N140 := Fr.snoc X140 N137 gn11
  have A142 : own_A Z h140 b11 .char 48 (own_bs 43) := own_bsA (k := 42) A140 (by decide) rfl
  refine own_by (T' := T140) (f' := (mkF m 257 (own_L0 i0 i1 i2 i3 i4 i5) [(.ref b11), (.ref b11)])) (fun t k => XS.dup X140.here hx rfl (hb hby at_256) rfl rfl k) ?_
  refine own_by (T' := T140) (f' := (mkF m 259 (own_L0 i0 i1 i2 i3 i4 i5) [(.int (43 : Int32)), (.ref b11), (.ref b11)])) (fun t k => XS.bipush X140.here hx rfl (hb hby at_257) k) ?_
  refine own_by (T' := T140) (f' := (mkF m 261 (own_L0 i0 i1 i2 i3 i4 i5) [(.int (57 : Int32)), (.int (43 : Int32)), (.ref b11), (.ref b11)])) (fun t k => XS.bipush X140.here hx rfl (hb hby at_259) k) ?_
  have _ : (43 : Int32).toInt = 43 := by decide
  refine own_stC X140 hx hZ e140 (hb hby at_261) A142 (by first | decide | omega) (by first | decide | omega) ?_
  intro T143 h143 X143 e143 W143 A143
  show own_Go p e below _ T143 (mkF m 262 (own_L0 i0 i1 i2 i3 i4 i5) [(.ref b11)])
  have sz144 : n0 ≤ h143.size := by rw [W143.size]; exact sz141
  have N143 := Fr.snoc X143 N140 gn11
  have A145 : own_A Z h143 b11 .char 48 (own_bs 44) := own_bsA (k := 43) A143 (by decide) rfl
  refine own_by (T' := T143) (f' := (mkF m 263 (own_L0 i0 i1 i2 i3 i4 i5) [(.ref b11), (.ref b11)])) (fun t k => XS.dup X143.here hx rfl (hb hby at_262) rfl rfl k) ?_
  refine own_by (T' := T143) (f' := (mkF m 265 (own_L0 i0 i1 i2 i3 i4 i5) [(.int (44 : Int32)), (.ref b11), (.ref b11)])) (fun t k => XS.bipush X143.here hx rfl (hb hby at_263) k) ?_
  refine own_by (T' := T143) (f' := (mkF m 267 (own_L0 i0 i1 i2 i3 i4 i5) [(.int (57 : Int32)), (.int (44 : Int32)), (.ref b11), (.ref b11)])) (fun t k => XS.bipush X143.here hx rfl (hb hby at_265) k) ?_
  have _ : (44 : Int32).toInt = 44 := by decide
  refine own_stC X143 hx hZ e143 (hb hby at_267) A145 (by first | decide | omega) (by first | decide | omega) ?_
  intro T146 h146 X146 e146 W146 A146
  show own_Go p e below _ T146 (mkF m 268 (own_L0 i0 i1 i2 i3 i4 i5) [(.ref b11)])
  have sz147 : n0 ≤ h146.size := by rw [W146.size]; exact sz144
  have N146 := Fr.snoc X146 N143 gn11
  have A148 : own_A Z h146 b11 .char 48 (own_bs 45) := own_bsA (k := 44) A146 (by decide) rfl
  refine own_by (T' := T146) (f' := (mkF m 269 (own_L0 i0 i1 i2 i3 i4 i5) [(.ref b11), (.ref b11)])) (fun t k => XS.dup X146.here hx rfl (hb hby at_268) rfl rfl k) ?_
  refine own_by (T' := T146) (f' := (mkF m 271 (own_L0 i0 i1 i2 i3 i4 i5) [(.int (45 : Int32)), (.ref b11), (.ref b11)])) (fun t k => XS.bipush X146.here hx rfl (hb hby at_269) k) ?_
  refine own_by (T' := T146) (f' := (mkF m 273 (own_L0 i0 i1 i2 i3 i4 i5) [(.int (57 : Int32)), (.int (45 : Int32)), (.ref b11), (.ref b11)])) (fun t k => XS.bipush X146.here hx rfl (hb hby at_271) k) ?_
  have _ : (45 : Int32).toInt = 45 := by decide
  refine own_stC X146 hx hZ e146 (hb hby at_273) A148 (by first | decide | omega) (by first | decide | omega) ?_
  intro T149 h149 X149 e149 W149 A149
  show own_Go p e below _ T149 (mkF m 274 (own_L0 i0 i1 i2 i3 i4 i5) [(.ref b11)])
  have sz150 : n0 ≤ h149.size := by rw [W149.size]; exact sz147
  have N149 := Fr.snoc X149 N146 gn11
  have A151 : own_A Z h149 b11 .char 48 (own_bs 46) := own_bsA (k := 45) A149 (by decide) rfl
  refine own_by (T' := T149) (f' := (mkF m 275 (own_L0 i0 i1 i2 i3 i4 i5) [(.ref b11), (.ref b11)])) (fun t k => XS.dup X149.here hx rfl (hb hby at_274) rfl rfl k) ?_
  refine own_by (T' := T149) (f' := (mkF m 277 (own_L0 i0 i1 i2 i3 i4 i5) [(.int (46 : Int32)), (.ref b11), (.ref b11)])) (fun t k => XS.bipush X149.here hx rfl (hb hby at_275) k) ?_
  refine own_by (T' := T149) (f' := (mkF m 279 (own_L0 i0 i1 i2 i3 i4 i5) [(.int (57 : Int32)), (.int (46 : Int32)), (.ref b11), (.ref b11)])) (fun t k => XS.bipush X149.here hx rfl (hb hby at_277) k) ?_
  have _ : (46 : Int32).toInt = 46 := by decide
  refine own_stC X149 hx hZ e149 (hb hby at_279) A151 (by first | decide | omega) (by first | decide | omega) ?_
  intro T152 h152 X152 e152 W152 A152
  show own_Go p e below _ T152 (mkF m 280 (own_L0 i0 i1 i2 i3 i4 i5) [(.ref b11)])
  have sz153 : n0 ≤ h152.size := by rw [W152.size]; exact sz150
  have N152 := Fr.snoc X152 N149 gn11
  have A154 : own_A Z h152 b11 .char 48 (own_bs 47) := own_bsA (k := 46) A152 (by decide) rfl
  refine own_by (T' := T152) (f' := (mkF m 281 (own_L0 i0 i1 i2 i3 i4 i5) [(.ref b11), (.ref b11)])) (fun t k => XS.dup X152.here hx rfl (hb hby at_280) rfl rfl k) ?_
  refine own_by (T' := T152) (f' := (mkF m 283 (own_L0 i0 i1 i2 i3 i4 i5) [(.int (47 : Int32)), (.ref b11), (.ref b11)])) (fun t k => XS.bipush X152.here hx rfl (hb hby at_281) k) ?_
  refine own_by (T' := T152) (f' := (mkF m 285 (own_L0 i0 i1 i2 i3 i4 i5) [(.int (57 : Int32)), (.int (47 : Int32)), (.ref b11), (.ref b11)])) (fun t k => XS.bipush X152.here hx rfl (hb hby at_283) k) ?_
  have _ : (47 : Int32).toInt = 47 := by decide
  refine own_stC X152 hx hZ e152 (hb hby at_285) A154 (by first | decide | omega) (by first | decide | omega) ?_
  intro T155 h155 X155 e155 W155 A155
  show own_Go p e below _ T155 (mkF m 286 (own_L0 i0 i1 i2 i3 i4 i5) [(.ref b11)])
  have sz156 : n0 ≤ h155.size := by rw [W155.size]; exact sz153
  have N155 := Fr.snoc X155 N152 gn11
  have A157 : own_A Z h155 b11 .char 48 (own_bs 48) := own_bsA (k := 47) A155 (by decide) rfl
  refine own_by (T' := T155) (f' := (mkF m 288 #[.val (.int i0), .val (.int i1), .val (.int i2), .val (.int i3), .val (.int i4), .val (.int i5), .val (.ref b11), .unset, .unset, .unset, .unset, .unset, .unset, .unset, .unset, .unset, .unset, .unset, .unset, .unset, .unset, .unset] [])) (fun t k => XS.astore X155.here hx rfl (hb hby at_286) rfl rfl (l' := #[.val (.int i0), .val (.int i1), .val (.int i2), .val (.int i3), .val (.int i4), .val (.int i5), .val (.ref b11), .unset, .unset, .unset, .unset, .unset, .unset, .unset, .unset, .unset, .unset, .unset, .unset, .unset, .unset, .unset]) rfl k) ?_
  refine own_by (T' := T155) (f' := (mkF m 289 #[.val (.int i0), .val (.int i1), .val (.int i2), .val (.int i3), .val (.int i4), .val (.int i5), .val (.ref b11), .unset, .unset, .unset, .unset, .unset, .unset, .unset, .unset, .unset, .unset, .unset, .unset, .unset, .unset, .unset] [(.int i2)])) (fun t k => XS.iloadN X155.here hx rfl (hb hby at_288) rfl k) ?_
  refine own_by (T' := T155) (f' := (mkF m 291 #[.val (.int i0), .val (.int i1), .val (.int i2), .val (.int i3), .val (.int i4), .val (.int i5), .val (.ref b11), .unset, .unset, .unset, .unset, .unset, .unset, .unset, .unset, .unset, .unset, .unset, .unset, .unset, .unset, .unset] [(.int (2147483647 : Int32)), (.int i2)])) (fun t k => X155.ldcInt hx hown (mvT hZ (own_w hw 1 rfl)) (g := (mkF m 289 #[.val (.int i0), .val (.int i1), .val (.int i2), .val (.int i3), .val (.int i4), .val (.int i5), .val (.ref b11), .unset, .unset, .unset, .unset, .unset, .unset, .unset, .unset, .unset, .unset, .unset, .unset, .unset, .unset, .unset] [(.int i2)])) rfl (hb hby at_289) _ k) ?_
  refine own_by (T' := T155) (f' := (mkF m 292 #[.val (.int i0), .val (.int i1), .val (.int i2), .val (.int i3), .val (.int i4), .val (.int i5), .val (.ref b11), .unset, .unset, .unset, .unset, .unset, .unset, .unset, .unset, .unset, .unset, .unset, .unset, .unset, .unset, .unset] [(.int (i2 &&& (2147483647 : Int32)))])) (fun t k => XS.iand X155.here hx rfl (hb hby at_291) rfl k) ?_
  refine own_by (T' := T155) (f' := (mkF m 294 #[.val (.int i0), .val (.int i1), .val (.int i2), .val (.int i3), .val (.int i4), .val (.int i5), .val (.ref b11), .unset, .unset, .unset, .unset, .unset, .unset, .unset, .unset, .unset, .unset, .unset, .unset, .unset, .unset, .unset] [(.int (48 : Int32)), (.int (i2 &&& (2147483647 : Int32)))])) (fun t k => XS.bipush X155.here hx rfl (hb hby at_292) k) ?_
  refine own_by (T' := T155) (f' := (mkF m 295 #[.val (.int i0), .val (.int i1), .val (.int i2), .val (.int i3), .val (.int i4), .val (.int i5), .val (.ref b11), .unset, .unset, .unset, .unset, .unset, .unset, .unset, .unset, .unset, .unset, .unset, .unset, .unset, .unset, .unset] [(.int ((i2 &&& (2147483647 : Int32)) % (48 : Int32)))])) (fun t k => iremM X155 hx rfl (hb hby at_294) rfl (by decide) k) ?_
  obtain ⟨pv, hpv⟩ : ∃ z : Int32, z = ((i2 &&& (2147483647 : Int32)) % (48 : Int32)) := ⟨_, rfl⟩
  rw [← hpv]
  show own_Go p e below _ T155 (mkF m 295 #[.val (.int i0), .val (.int i1), .val (.int i2), .val (.int i3), .val (.int i4), .val (.int i5), .val (.ref b11), .unset, .unset, .unset, .unset, .unset, .unset, .unset, .unset, .unset, .unset, .unset, .unset, .unset, .unset, .unset] [(.int pv)])
  obtain ⟨np, hp, hp48⟩ := own_modn i2 (48 : Int32) 48 (by decide) (by decide)
  rw [← hpv] at hp
  refine own_by (T' := T155) (f' := (mkF m 297 #[.val (.int i0), .val (.int i1), .val (.int i2), .val (.int i3), .val (.int i4), .val (.int i5), .val (.ref b11), .val (.int pv), .unset, .unset, .unset, .unset, .unset, .unset, .unset, .unset, .unset, .unset, .unset, .unset, .unset, .unset] [])) (fun t k => XS.istore X155.here hx rfl (hb hby at_295) rfl (l' := #[.val (.int i0), .val (.int i1), .val (.int i2), .val (.int i3), .val (.int i4), .val (.int i5), .val (.ref b11), .val (.int pv), .unset, .unset, .unset, .unset, .unset, .unset, .unset, .unset, .unset, .unset, .unset, .unset, .unset, .unset]) rfl k) ?_
  refine own_by (T' := T155) (f' := (mkF m 299 #[.val (.int i0), .val (.int i1), .val (.int i2), .val (.int i3), .val (.int i4), .val (.int i5), .val (.ref b11), .val (.int pv), .unset, .unset, .unset, .unset, .unset, .unset, .unset, .unset, .unset, .unset, .unset, .unset, .unset, .unset] [(.int i4)])) (fun t k => XS.iload X155.here hx rfl (hb hby at_297) rfl k) ?_
  refine own_by (T' := T155) (f' := (mkF m 301 #[.val (.int i0), .val (.int i1), .val (.int i2), .val (.int i3), .val (.int i4), .val (.int i5), .val (.ref b11), .val (.int pv), .unset, .unset, .unset, .unset, .unset, .unset, .unset, .unset, .unset, .unset, .unset, .unset, .unset, .unset] [(.int (2147483647 : Int32)), (.int i4)])) (fun t k => X155.ldcInt hx hown (mvT hZ (own_w hw 1 rfl)) (g := (mkF m 299 #[.val (.int i0), .val (.int i1), .val (.int i2), .val (.int i3), .val (.int i4), .val (.int i5), .val (.ref b11), .val (.int pv), .unset, .unset, .unset, .unset, .unset, .unset, .unset, .unset, .unset, .unset, .unset, .unset, .unset, .unset] [(.int i4)])) rfl (hb hby at_299) _ k) ?_
  refine own_by (T' := T155) (f' := (mkF m 302 #[.val (.int i0), .val (.int i1), .val (.int i2), .val (.int i3), .val (.int i4), .val (.int i5), .val (.ref b11), .val (.int pv), .unset, .unset, .unset, .unset, .unset, .unset, .unset, .unset, .unset, .unset, .unset, .unset, .unset, .unset] [(.int (i4 &&& (2147483647 : Int32)))])) (fun t k => XS.iand X155.here hx rfl (hb hby at_301) rfl k) ?_
  refine own_by (T' := T155) (f' := (mkF m 304 #[.val (.int i0), .val (.int i1), .val (.int i2), .val (.int i3), .val (.int i4), .val (.int i5), .val (.ref b11), .val (.int pv), .unset, .unset, .unset, .unset, .unset, .unset, .unset, .unset, .unset, .unset, .unset, .unset, .unset, .unset] [(.int (48 : Int32)), (.int (i4 &&& (2147483647 : Int32)))])) (fun t k => XS.bipush X155.here hx rfl (hb hby at_302) k) ?_
  refine own_by (T' := T155) (f' := (mkF m 305 #[.val (.int i0), .val (.int i1), .val (.int i2), .val (.int i3), .val (.int i4), .val (.int i5), .val (.ref b11), .val (.int pv), .unset, .unset, .unset, .unset, .unset, .unset, .unset, .unset, .unset, .unset, .unset, .unset, .unset, .unset] [(.int ((i4 &&& (2147483647 : Int32)) % (48 : Int32)))])) (fun t k => iremM X155 hx rfl (hb hby at_304) rfl (by decide) k) ?_
  obtain ⟨qv, hqv⟩ : ∃ z : Int32, z = ((i4 &&& (2147483647 : Int32)) % (48 : Int32)) := ⟨_, rfl⟩
  rw [← hqv]
  show own_Go p e below _ T155 (mkF m 305 #[.val (.int i0), .val (.int i1), .val (.int i2), .val (.int i3), .val (.int i4), .val (.int i5), .val (.ref b11), .val (.int pv), .unset, .unset, .unset, .unset, .unset, .unset, .unset, .unset, .unset, .unset, .unset, .unset, .unset, .unset] [(.int qv)])
  obtain ⟨nq, hq, hq48⟩ := own_modn i4 (48 : Int32) 48 (by decide) (by decide)
  rw [← hqv] at hq
  refine own_by (T' := T155) (f' := (mkF m 307 #[.val (.int i0), .val (.int i1), .val (.int i2), .val (.int i3), .val (.int i4), .val (.int i5), .val (.ref b11), .val (.int pv), .val (.int qv), .unset, .unset, .unset, .unset, .unset, .unset, .unset, .unset, .unset, .unset, .unset, .unset, .unset] [])) (fun t k => XS.istore X155.here hx rfl (hb hby at_305) rfl (l' := #[.val (.int i0), .val (.int i1), .val (.int i2), .val (.int i3), .val (.int i4), .val (.int i5), .val (.ref b11), .val (.int pv), .val (.int qv), .unset, .unset, .unset, .unset, .unset, .unset, .unset, .unset, .unset, .unset, .unset, .unset, .unset]) rfl k) ?_
  refine own_by (T' := T155) (f' := (mkF m 309 #[.val (.int i0), .val (.int i1), .val (.int i2), .val (.int i3), .val (.int i4), .val (.int i5), .val (.ref b11), .val (.int pv), .val (.int qv), .unset, .unset, .unset, .unset, .unset, .unset, .unset, .unset, .unset, .unset, .unset, .unset, .unset] [(.ref b11)])) (fun t k => XS.aload X155.here hx rfl (hb hby at_307) rfl rfl k) ?_
  refine own_by (T' := T155) (f' := (mkF m 311 #[.val (.int i0), .val (.int i1), .val (.int i2), .val (.int i3), .val (.int i4), .val (.int i5), .val (.ref b11), .val (.int pv), .val (.int qv), .unset, .unset, .unset, .unset, .unset, .unset, .unset, .unset, .unset, .unset, .unset, .unset, .unset] [(.int pv), (.ref b11)])) (fun t k => XS.iload X155.here hx rfl (hb hby at_309) rfl k) ?_
  refine own_by (T' := T155) (f' := (mkF m 312 #[.val (.int i0), .val (.int i1), .val (.int i2), .val (.int i3), .val (.int i4), .val (.int i5), .val (.ref b11), .val (.int pv), .val (.int qv), .unset, .unset, .unset, .unset, .unset, .unset, .unset, .unset, .unset, .unset, .unset, .unset, .unset] [(.int i3), (.int pv), (.ref b11)])) (fun t k => XS.iloadN X155.here hx rfl (hb hby at_311) rfl k) ?_
  refine own_callS X155 hx hZ hown e155 (hb hby at_312) [(.int i3)] [(.int pv), (.ref b11)] 2 (rmPK l Z a0 hw [] i3 h155) (own_w hw 2 rfl) (own_w hw 3 rfl) (own_w hw 4 rfl) (own_w hw 5 rfl) (by decide) pd__I_C (by rw [hml]; rfl) rfl rfl (Nat.le_of_eq rfl) (by decide) (by decide) (by decide) (by decide) ?_
  rintro T158 _ L158 X158 ⟨c158, rfl, hc158, rfl, e158⟩
  rw [List.append_nil] at X158
  show own_Go p e below _ T158 (mkF m 315 #[.val (.int i0), .val (.int i1), .val (.int i2), .val (.int i3), .val (.int i4), .val (.int i5), .val (.ref b11), .val (.int pv), .val (.int qv), .unset, .unset, .unset, .unset, .unset, .unset, .unset, .unset, .unset, .unset, .unset, .unset, .unset] [(.int c158), (.int pv), (.ref b11)])
  refine own_stC X158 hx hZ e158 (hb hby at_315) A157 (by omega) (by omega) ?_
  intro T159 h159 X159 e159 W159 A159
  show own_Go p e below _ T159 (mkF m 316 #[.val (.int i0), .val (.int i1), .val (.int i2), .val (.int i3), .val (.int i4), .val (.int i5), .val (.ref b11), .val (.int pv), .val (.int qv), .unset, .unset, .unset, .unset, .unset, .unset, .unset, .unset, .unset, .unset, .unset, .unset, .unset] [])
  have sz160 : n0 ≤ h159.size := by rw [W159.size]; exact sz156
  have N159 := Fr.snoc X159 N155 gn11
  obtain ⟨f1, hf1⟩ : ∃ z : Nat → Int32, z = (fun i => if i = pv.toInt.toNat then (nar .char c158) else (own_bs 48) i) := ⟨_, rfl⟩
  have A161 : own_A Z h159 b11 .char 48 f1 := A159.congr (fun i hi => by rw [hf1])
  refine own_by (T' := T159) (f' := (mkF m 318 #[.val (.int i0), .val (.int i1), .val (.int i2), .val (.int i3), .val (.int i4), .val (.int i5), .val (.ref b11), .val (.int pv), .val (.int qv), .unset, .unset, .unset, .unset, .unset, .unset, .unset, .unset, .unset, .unset, .unset, .unset, .unset] [(.ref b11)])) (fun t k => XS.aload X159.here hx rfl (hb hby at_316) rfl rfl k) ?_
  refine own_by (T' := T159) (f' := (mkF m 320 #[.val (.int i0), .val (.int i1), .val (.int i2), .val (.int i3), .val (.int i4), .val (.int i5), .val (.ref b11), .val (.int pv), .val (.int qv), .unset, .unset, .unset, .unset, .unset, .unset, .unset, .unset, .unset, .unset, .unset, .unset, .unset] [(.int qv), (.ref b11)])) (fun t k => XS.iload X159.here hx rfl (hb hby at_318) rfl k) ?_
  refine own_by (T' := T159) (f' := (mkF m 322 #[.val (.int i0), .val (.int i1), .val (.int i2), .val (.int i3), .val (.int i4), .val (.int i5), .val (.ref b11), .val (.int pv), .val (.int qv), .unset, .unset, .unset, .unset, .unset, .unset, .unset, .unset, .unset, .unset, .unset, .unset, .unset] [(.int i5), (.int qv), (.ref b11)])) (fun t k => XS.iload X159.here hx rfl (hb hby at_320) rfl k) ?_
  refine own_callS X159 hx hZ hown e159 (hb hby at_322) [(.int i5)] [(.int qv), (.ref b11)] 2 (rmPK l Z a0 hw [] i5 h159) (own_w hw 2 rfl) (own_w hw 3 rfl) (own_w hw 4 rfl) (own_w hw 5 rfl) (by decide) pd__I_C (by rw [hml]; rfl) rfl rfl (Nat.le_of_eq rfl) (by decide) (by decide) (by decide) (by decide) ?_
  rintro T162 _ L162 X162 ⟨c162, rfl, hc162, rfl, e162⟩
  rw [List.append_nil] at X162
  show own_Go p e below _ T162 (mkF m 325 #[.val (.int i0), .val (.int i1), .val (.int i2), .val (.int i3), .val (.int i4), .val (.int i5), .val (.ref b11), .val (.int pv), .val (.int qv), .unset, .unset, .unset, .unset, .unset, .unset, .unset, .unset, .unset, .unset, .unset, .unset, .unset] [(.int c162), (.int qv), (.ref b11)])
  refine own_stC X162 hx hZ e162 (hb hby at_325) A161 (by omega) (by omega) ?_
  intro T163 h163 X163 e163 W163 A163
  show own_Go p e below _ T163 (mkF m 326 #[.val (.int i0), .val (.int i1), .val (.int i2), .val (.int i3), .val (.int i4), .val (.int i5), .val (.ref b11), .val (.int pv), .val (.int qv), .unset, .unset, .unset, .unset, .unset, .unset, .unset, .unset, .unset, .unset, .unset, .unset, .unset] [])
  have sz164 : n0 ≤ h163.size := by rw [W163.size]; exact sz160
  have N163 := Fr.snoc X163 N159 gn11
  obtain ⟨f2, hf2⟩ : ∃ z : Nat → Int32, z = (fun i => if i = qv.toInt.toNat then (nar .char c162) else f1 i) := ⟨_, rfl⟩
  have A165 : own_A Z h163 b11 .char 48 f2 := A163.congr (fun i hi => by rw [hf2])
  have HF : own_ff f2 np nq := by
    intro i hi a b
    rw [hf2]
    show (if i = qv.toInt.toNat then _ else f1 i) = _
    rw [if_neg (by omega), hf1]
    show (if i = pv.toInt.toNat then _ else own_bs 48 i) = _
    rw [if_neg (by omega)]
    exact if_pos hi
  refine own_by (T' := T163) (f' := (mkF m 327 #[.val (.int i0), .val (.int i1), .val (.int i2), .val (.int i3), .val (.int i4), .val (.int i5), .val (.ref b11), .val (.int pv), .val (.int qv), .unset, .unset, .unset, .unset, .unset, .unset, .unset, .unset, .unset, .unset, .unset, .unset, .unset] [(.int i0)])) (fun t k => XS.iloadN X163.here hx rfl (hb hby at_326) rfl k) ?_
  refine own_by (T' := T163) (f' := (mkF m 329 #[.val (.int i0), .val (.int i1), .val (.int i2), .val (.int i3), .val (.int i4), .val (.int i5), .val (.ref b11), .val (.int pv), .val (.int qv), .unset, .unset, .unset, .unset, .unset, .unset, .unset, .unset, .unset, .unset, .unset, .unset, .unset] [(.int (2147483647 : Int32)), (.int i0)])) (fun t k => X163.ldcInt hx hown (mvT hZ (own_w hw 1 rfl)) (g := (mkF m 327 #[.val (.int i0), .val (.int i1), .val (.int i2), .val (.int i3), .val (.int i4), .val (.int i5), .val (.ref b11), .val (.int pv), .val (.int qv), .unset, .unset, .unset, .unset, .unset, .unset, .unset, .unset, .unset, .unset, .unset, .unset, .unset] [(.int i0)])) rfl (hb hby at_327) _ k) ?_
  refine own_by (T' := T163) (f' := (mkF m 330 #[.val (.int i0), .val (.int i1), .val (.int i2), .val (.int i3), .val (.int i4), .val (.int i5), .val (.ref b11), .val (.int pv), .val (.int qv), .unset, .unset, .unset, .unset, .unset, .unset, .unset, .unset, .unset, .unset, .unset, .unset, .unset] [(.int (i0 &&& (2147483647 : Int32)))])) (fun t k => XS.iand X163.here hx rfl (hb hby at_329) rfl k) ?_
  refine own_by (T' := T163) (f' := (mkF m 331 #[.val (.int i0), .val (.int i1), .val (.int i2), .val (.int i3), .val (.int i4), .val (.int i5), .val (.ref b11), .val (.int pv), .val (.int qv), .unset, .unset, .unset, .unset, .unset, .unset, .unset, .unset, .unset, .unset, .unset, .unset, .unset] [(.int (5 : Int32)), (.int (i0 &&& (2147483647 : Int32)))])) (fun t k => XS.iconst X163.here hx rfl (hb hby at_330) k) ?_
  refine own_by (T' := T163) (f' := (mkF m 332 #[.val (.int i0), .val (.int i1), .val (.int i2), .val (.int i3), .val (.int i4), .val (.int i5), .val (.ref b11), .val (.int pv), .val (.int qv), .unset, .unset, .unset, .unset, .unset, .unset, .unset, .unset, .unset, .unset, .unset, .unset, .unset] [(.int ((i0 &&& (2147483647 : Int32)) % (5 : Int32)))])) (fun t k => iremM X163 hx rfl (hb hby at_331) rfl (by decide) k) ?_
  obtain ⟨s0, hs0⟩ : ∃ z : Int32, z = ((i0 &&& (2147483647 : Int32)) % (5 : Int32)) := ⟨_, rfl⟩
  rw [← hs0]
  show own_Go p e below _ T163 (mkF m 332 #[.val (.int i0), .val (.int i1), .val (.int i2), .val (.int i3), .val (.int i4), .val (.int i5), .val (.ref b11), .val (.int pv), .val (.int qv), .unset, .unset, .unset, .unset, .unset, .unset, .unset, .unset, .unset, .unset, .unset, .unset, .unset] [(.int s0)])
  obtain ⟨ns, hs, hs5⟩ := own_modn i0 (5 : Int32) 5 (by decide) (by decide)
  rw [← hs0] at hs
  refine own_by (T' := T163) (f' := (mkF m 334 #[.val (.int i0), .val (.int i1), .val (.int i2), .val (.int i3), .val (.int i4), .val (.int i5), .val (.ref b11), .val (.int pv), .val (.int qv), .val (.int s0), .unset, .unset, .unset, .unset, .unset, .unset, .unset, .unset, .unset, .unset, .unset, .unset] [])) (fun t k => XS.istore X163.here hx rfl (hb hby at_332) rfl (l' := #[.val (.int i0), .val (.int i1), .val (.int i2), .val (.int i3), .val (.int i4), .val (.int i5), .val (.ref b11), .val (.int pv), .val (.int qv), .val (.int s0), .unset, .unset, .unset, .unset, .unset, .unset, .unset, .unset, .unset, .unset, .unset, .unset]) rfl k) ?_
  refine own_by (T' := T163) (f' := (mkF m 336 #[.val (.int i0), .val (.int i1), .val (.int i2), .val (.int i3), .val (.int i4), .val (.int i5), .val (.ref b11), .val (.int pv), .val (.int qv), .val (.int s0), .unset, .unset, .unset, .unset, .unset, .unset, .unset, .unset, .unset, .unset, .unset, .unset] [(.int s0)])) (fun t k => XS.iload X163.here hx rfl (hb hby at_334) rfl k) ?_
  refine own_by (T' := T163) (f' := (mkF m 337 #[.val (.int i0), .val (.int i1), .val (.int i2), .val (.int i3), .val (.int i4), .val (.int i5), .val (.ref b11), .val (.int pv), .val (.int qv), .val (.int s0), .unset, .unset, .unset, .unset, .unset, .unset, .unset, .unset, .unset, .unset, .unset, .unset] [(.int i1), (.int s0)])) (fun t k => XS.iloadN X163.here hx rfl (hb hby at_336) rfl k) ?_
  refine own_by (T' := T163) (f' := (mkF m 339 #[.val (.int i0), .val (.int i1), .val (.int i2), .val (.int i3), .val (.int i4), .val (.int i5), .val (.ref b11), .val (.int pv), .val (.int qv), .val (.int s0), .unset, .unset, .unset, .unset, .unset, .unset, .unset, .unset, .unset, .unset, .unset, .unset] [(.int (2147483647 : Int32)), (.int i1), (.int s0)])) (fun t k => X163.ldcInt hx hown (mvT hZ (own_w hw 1 rfl)) (g := (mkF m 337 #[.val (.int i0), .val (.int i1), .val (.int i2), .val (.int i3), .val (.int i4), .val (.int i5), .val (.ref b11), .val (.int pv), .val (.int qv), .val (.int s0), .unset, .unset, .unset, .unset, .unset, .unset, .unset, .unset, .unset, .unset, .unset, .unset] [(.int i1), (.int s0)])) rfl (hb hby at_337) _ k) ?_
  refine own_by (T' := T163) (f' := (mkF m 340 #[.val (.int i0), .val (.int i1), .val (.int i2), .val (.int i3), .val (.int i4), .val (.int i5), .val (.ref b11), .val (.int pv), .val (.int qv), .val (.int s0), .unset, .unset, .unset, .unset, .unset, .unset, .unset, .unset, .unset, .unset, .unset, .unset] [(.int (i1 &&& (2147483647 : Int32))), (.int s0)])) (fun t k => XS.iand X163.here hx rfl (hb hby at_339) rfl k) ?_
  refine own_by (T' := T163) (f' := (mkF m 342 #[.val (.int i0), .val (.int i1), .val (.int i2), .val (.int i3), .val (.int i4), .val (.int i5), .val (.ref b11), .val (.int pv), .val (.int qv), .val (.int s0), .unset, .unset, .unset, .unset, .unset, .unset, .unset, .unset, .unset, .unset, .unset, .unset] [(.int (49 : Int32)), (.int (i1 &&& (2147483647 : Int32))), (.int s0)])) (fun t k => XS.bipush X163.here hx rfl (hb hby at_340) k) ?_
  refine own_by (T' := T163) (f' := (mkF m 344 #[.val (.int i0), .val (.int i1), .val (.int i2), .val (.int i3), .val (.int i4), .val (.int i5), .val (.ref b11), .val (.int pv), .val (.int qv), .val (.int s0), .unset, .unset, .unset, .unset, .unset, .unset, .unset, .unset, .unset, .unset, .unset, .unset] [(.int s0), (.int (49 : Int32)), (.int (i1 &&& (2147483647 : Int32))), (.int s0)])) (fun t k => XS.iload X163.here hx rfl (hb hby at_342) rfl k) ?_
  refine own_by (T' := T163) (f' := (mkF m 345 #[.val (.int i0), .val (.int i1), .val (.int i2), .val (.int i3), .val (.int i4), .val (.int i5), .val (.ref b11), .val (.int pv), .val (.int qv), .val (.int s0), .unset, .unset, .unset, .unset, .unset, .unset, .unset, .unset, .unset, .unset, .unset, .unset] [(.int ((49 : Int32) - s0)), (.int (i1 &&& (2147483647 : Int32))), (.int s0)])) (fun t k => XS.isub X163.here hx rfl (hb hby at_344) rfl k) ?_
  have h49 := own_sub (x := (49 : Int32)) (a := 49) (by decide) hs (by omega)
  have z49 : (0 : Int32).toInt = 0 := by decide
  refine own_by (T' := T163) (f' := (mkF m 346 #[.val (.int i0), .val (.int i1), .val (.int i2), .val (.int i3), .val (.int i4), .val (.int i5), .val (.ref b11), .val (.int pv), .val (.int qv), .val (.int s0), .unset, .unset, .unset, .unset, .unset, .unset, .unset, .unset, .unset, .unset, .unset, .unset] [(.int ((i1 &&& (2147483647 : Int32)) % ((49 : Int32) - s0))), (.int s0)])) (fun t k => iremM X163 hx rfl (hb hby at_345) rfl (fun z => by rw [z, z49] at h49; omega) k) ?_
  obtain ⟨dl, hdl⟩ : ∃ z : Int32, z = ((i1 &&& (2147483647 : Int32)) % ((49 : Int32) - s0)) := ⟨_, rfl⟩
  rw [← hdl]
  show own_Go p e below _ T163 (mkF m 346 #[.val (.int i0), .val (.int i1), .val (.int i2), .val (.int i3), .val (.int i4), .val (.int i5), .val (.ref b11), .val (.int pv), .val (.int qv), .val (.int s0), .unset, .unset, .unset, .unset, .unset, .unset, .unset, .unset, .unset, .unset, .unset, .unset] [(.int dl), (.int s0)])
  obtain ⟨nd, hd, hdlt⟩ := own_modn i1 ((49 : Int32) - s0) (49 - ns) h49 (by omega)
  rw [← hdl] at hd
  refine own_by (T' := T163) (f' := (mkF m 347 #[.val (.int i0), .val (.int i1), .val (.int i2), .val (.int i3), .val (.int i4), .val (.int i5), .val (.ref b11), .val (.int pv), .val (.int qv), .val (.int s0), .unset, .unset, .unset, .unset, .unset, .unset, .unset, .unset, .unset, .unset, .unset, .unset] [(.int (s0 + dl))])) (fun t k => XS.iadd X163.here hx rfl (hb hby at_346) rfl k) ?_
  obtain ⟨lv, hlv⟩ : ∃ z : Int32, z = (s0 + dl) := ⟨_, rfl⟩
  rw [← hlv]
  show own_Go p e below _ T163 (mkF m 347 #[.val (.int i0), .val (.int i1), .val (.int i2), .val (.int i3), .val (.int i4), .val (.int i5), .val (.ref b11), .val (.int pv), .val (.int qv), .val (.int s0), .unset, .unset, .unset, .unset, .unset, .unset, .unset, .unset, .unset, .unset, .unset, .unset] [(.int lv)])
  have hl0 : lv.toInt = ((ns + nd : Nat) : Int) := by rw [hlv]; exact own_add hs hd (by omega)
  obtain ⟨nl, hnl⟩ : ∃ z : Nat, z = ns + nd := ⟨_, rfl⟩
  have hl : lv.toInt = (nl : Nat) := by rw [hnl]; exact hl0
  have hsl : ns ≤ nl := by omega
  have hl48 : nl ≤ 48 := by omega
  refine own_by (T' := T163) (f' := (mkF m 349 #[.val (.int i0), .val (.int i1), .val (.int i2), .val (.int i3), .val (.int i4), .val (.int i5), .val (.ref b11), .val (.int pv), .val (.int qv), .val (.int s0), .val (.int lv), .unset, .unset, .unset, .unset, .unset, .unset, .unset, .unset, .unset, .unset, .unset] [])) (fun t k => XS.istore X163.here hx rfl (hb hby at_347) rfl (l' := #[.val (.int i0), .val (.int i1), .val (.int i2), .val (.int i3), .val (.int i4), .val (.int i5), .val (.ref b11), .val (.int pv), .val (.int qv), .val (.int s0), .val (.int lv), .unset, .unset, .unset, .unset, .unset, .unset, .unset, .unset, .unset, .unset, .unset]) rfl k) ?_
  refine own_new X163 hx hZ hown e163 (hb hby at_349) (own_w hw 6 rfl) (own_w hw 7 rfl) (own_w hw 8 rfl) (by decide) (by decide) ?_
  intro T166 h166 b166 X166 e166 g166 E166 A166 D166
  have ne166_b11 : b11 ≠ b166 := Nat.ne_of_lt (by rw [g166]; exact A165.lt)
  have gn166 : n0 ≤ b166 := by rw [g166]; exact sz164
  show own_Go p e below _ T166 (mkF m 352 #[.val (.int i0), .val (.int i1), .val (.int i2), .val (.int i3), .val (.int i4), .val (.int i5), .val (.ref b11), .val (.int pv), .val (.int qv), .val (.int s0), .val (.int lv), .unset, .unset, .unset, .unset, .unset, .unset, .unset, .unset, .unset, .unset, .unset] [(.ref b166)])
  have F166_characters : Fld Z h166 b166 "com/example/tally_of_atoms/tallyofatoms/Numeral" "characters" "[C" .null := D166 (Or.inl (own_w hw 21 rfl)) (ty := (.array .char)) (by decide)
  have F166_start : Fld Z h166 b166 "com/example/tally_of_atoms/tallyofatoms/Numeral" "start" "I" (.int (0 : Int32)) := D166 (Or.inl (own_w hw 23 rfl)) (ty := .int) (by decide)
  have F166_special : Fld Z h166 b166 "com/example/tally_of_atoms/tallyofatoms/Numeral" "special" "I" (.int (0 : Int32)) := D166 (Or.inl (own_w hw 25 rfl)) (ty := .int) (by decide)
  have F166_negative : Fld Z h166 b166 "com/example/tally_of_atoms/tallyofatoms/Numeral" "negative" "Z" (.int (0 : Int32)) := D166 (Or.inl (own_w hw 27 rfl)) (ty := .boolean) (by decide)
  have F166_significand : Fld Z h166 b166 "com/example/tally_of_atoms/tallyofatoms/Numeral" "significand" "J" (.long (0 : Int64)) := D166 (Or.inl (own_w hw 29 rfl)) (ty := .long) (by decide)
  have F166_significandHigh : Fld Z h166 b166 "com/example/tally_of_atoms/tallyofatoms/Numeral" "significandHigh" "J" (.long (0 : Int64)) := D166 (Or.inl (own_w hw 31 rfl)) (ty := .long) (by decide)
  have F166_significantDigits : Fld Z h166 b166 "com/example/tally_of_atoms/tallyofatoms/Numeral" "significantDigits" "I" (.int (0 : Int32)) := D166 (Or.inl (own_w hw 33 rfl)) (ty := .int) (by decide)
  have F166_scale : Fld Z h166 b166 "com/example/tally_of_atoms/tallyofatoms/Numeral" "scale" "I" (.int (0 : Int32)) := D166 (Or.inl (own_w hw 35 rfl)) (ty := .int) (by decide)
  have F166_exponentValue : Fld Z h166 b166 "com/example/tally_of_atoms/tallyofatoms/Numeral" "exponentValue" "I" (.int (0 : Int32)) := D166 (Or.inl (own_w hw 37 rfl)) (ty := .int) (by decide)
  have F166_digits : Fld Z h166 b166 "com/example/tally_of_atoms/tallyofatoms/Numeral" "digits" "I" (.int (0 : Int32)) := D166 (Or.inl (own_w hw 46 rfl)) (ty := .int) (by decide)
  have F166_point : Fld Z h166 b166 "com/example/tally_of_atoms/tallyofatoms/Numeral" "point" "Z" (.int (0 : Int32)) := D166 (Or.inl (own_w hw 48 rfl)) (ty := .boolean) (by decide)
  have F166_exponent : Fld Z h166 b166 "com/example/tally_of_atoms/tallyofatoms/Numeral" "exponent" "Z" (.int (0 : Int32)) := D166 (Or.inl (own_w hw 50 rfl)) (ty := .boolean) (by decide)
  have F166_exponentDigits : Fld Z h166 b166 "com/example/tally_of_atoms/tallyofatoms/Numeral" "exponentDigits" "Z" (.int (0 : Int32)) := D166 (Or.inl (own_w hw 52 rfl)) (ty := .boolean) (by decide)
  have F166_end : Fld Z h166 b166 "com/example/tally_of_atoms/tallyofatoms/Numeral" "end" "I" (.int (0 : Int32)) := D166 (Or.inl (own_w hw 54 rfl)) (ty := .int) (by decide)
  have sz167 : n0 ≤ h166.size := Nat.le_trans sz164 E166.1
  refine own_by (T' := T166) (f' := (mkF m 353 #[.val (.int i0), .val (.int i1), .val (.int i2), .val (.int i3), .val (.int i4), .val (.int i5), .val (.ref b11), .val (.int pv), .val (.int qv), .val (.int s0), .val (.int lv), .unset, .unset, .unset, .unset, .unset, .unset, .unset, .unset, .unset, .unset, .unset] [(.ref b166), (.ref b166)])) (fun t k => XS.dup X166.here hx rfl (hb hby at_352) rfl rfl k) ?_
  refine own_callN X166 hx hZ hown e166 (hb hby at_353) [] [(.ref b166)] 1 (rmIN l Z a0 hw [] b166 h166) (own_w hw 9 rfl) (own_w hw 10 rfl) (own_w hw 8 rfl) (own_w hw 11 rfl) rfl (by decide) pd___V (by rw [hml]; rfl) rfl rfl (Nat.le_of_eq rfl) (by decide) (by decide) (by decide) (by decide) ?_
  rintro T168 _ L168 X168 ⟨rfl, rfl, e168⟩
  show own_Go p e below _ T168 (mkF m 356 #[.val (.int i0), .val (.int i1), .val (.int i2), .val (.int i3), .val (.int i4), .val (.int i5), .val (.ref b11), .val (.int pv), .val (.int qv), .val (.int s0), .val (.int lv), .unset, .unset, .unset, .unset, .unset, .unset, .unset, .unset, .unset, .unset, .unset] [(.ref b166)])
  rw [List.append_nil] at X168
  refine own_by (T' := T168) (f' := (mkF m 358 #[.val (.int i0), .val (.int i1), .val (.int i2), .val (.int i3), .val (.int i4), .val (.int i5), .val (.ref b11), .val (.int pv), .val (.int qv), .val (.int s0), .val (.int lv), .val (.ref b166), .unset, .unset, .unset, .unset, .unset, .unset, .unset, .unset, .unset, .unset] [])) (fun t k => XS.astore X168.here hx rfl (hb hby at_356) rfl rfl (l' := #[.val (.int i0), .val (.int i1), .val (.int i2), .val (.int i3), .val (.int i4), .val (.int i5), .val (.ref b11), .val (.int pv), .val (.int qv), .val (.int s0), .val (.int lv), .val (.ref b166), .unset, .unset, .unset, .unset, .unset, .unset, .unset, .unset, .unset, .unset]) rfl k) ?_
  refine own_by (T' := T168) (f' := (mkF m 360 #[.val (.int i0), .val (.int i1), .val (.int i2), .val (.int i3), .val (.int i4), .val (.int i5), .val (.ref b11), .val (.int pv), .val (.int qv), .val (.int s0), .val (.int lv), .val (.ref b166), .unset, .unset, .unset, .unset, .unset, .unset, .unset, .unset, .unset, .unset] [(.ref b166)])) (fun t k => XS.aload X168.here hx rfl (hb hby at_358) rfl rfl k) ?_
  refine own_by (T' := T168) (f' := (mkF m 362 #[.val (.int i0), .val (.int i1), .val (.int i2), .val (.int i3), .val (.int i4), .val (.int i5), .val (.ref b11), .val (.int pv), .val (.int qv), .val (.int s0), .val (.int lv), .val (.ref b166), .unset, .unset, .unset, .unset, .unset, .unset, .unset, .unset, .unset, .unset] [(.ref b11), (.ref b166)])) (fun t k => XS.aload X168.here hx rfl (hb hby at_360) rfl rfl k) ?_
  refine own_by (T' := T168) (f' := (mkF m 364 #[.val (.int i0), .val (.int i1), .val (.int i2), .val (.int i3), .val (.int i4), .val (.int i5), .val (.ref b11), .val (.int pv), .val (.int qv), .val (.int s0), .val (.int lv), .val (.ref b166), .unset, .unset, .unset, .unset, .unset, .unset, .unset, .unset, .unset, .unset] [(.int s0), (.ref b11), (.ref b166)])) (fun t k => XS.iload X168.here hx rfl (hb hby at_362) rfl k) ?_
  refine own_by (T' := T168) (f' := (mkF m 366 #[.val (.int i0), .val (.int i1), .val (.int i2), .val (.int i3), .val (.int i4), .val (.int i5), .val (.ref b11), .val (.int pv), .val (.int qv), .val (.int s0), .val (.int lv), .val (.ref b166), .unset, .unset, .unset, .unset, .unset, .unset, .unset, .unset, .unset, .unset] [(.int lv), (.int s0), (.ref b11), (.ref b166)])) (fun t k => XS.iload X168.here hx rfl (hb hby at_364) rfl k) ?_
  have q169 : ∀ x ∈ [b166], ∃ c : Cell, h166[x]? = some c ∧ c.vm.isStatics = false := (allS (own_ns A166) all0)
  have f170 := (A165.ext E166)
  refine own_callV X168 hx hZ hown e168 (hb hby at_366) [(.ref b11), (.int s0), (.int lv)] [] 0 (rmSC l Z a0 hw [] b166 b11 s0 lv ns nl f2 .null (.int (0 : Int32)) (.int (0 : Int32)) (.int (0 : Int32)) (.int (0 : Int32)) (.int (0 : Int32)) (.int (0 : Int32)) (.int (0 : Int32)) (.int (0 : Int32)) (.long (0 : Int64)) (.long (0 : Int64)) (.int (0 : Int32)) (.int (0 : Int32)) (.int (0 : Int32)) h166 n0 sz167 gn166 ne166_b11 hs hl hsl hl48 f170 A166 F166_characters F166_start F166_end F166_digits F166_point F166_exponent F166_exponentDigits F166_special F166_negative F166_significand F166_significandHigh F166_significantDigits F166_scale F166_exponentValue) A166 (own_w hw 15 rfl) (own_w hw 16 rfl) (notFace_of_selects (args := #[]) (mvT hZ (own_w hw 18 rfl))) (own_w hw 18 rfl) (own_w hw 17 rfl) (own_w hw 8 rfl) (own_w hw 19 rfl) (by decide) pd___CII_Lcom_example_tally_of_atoms_tallyofatoms_Numeral_ (by rw [hml]; rfl) rfl rfl (Nat.le_of_eq rfl) (by decide) (by decide) (by decide) (by decide) ?_
  rintro T171 _ L171 X171 ⟨rfl, N171q, K171, xv, dv, sv, hxv, hdv, hsv, u0, u1, u2, u4, u6, u7, u8, u9, u10, u12, u13, P0, P1, P2, P3, P4, P5, P6, P7, P8, P9, P10, P11, P12, P13⟩
  show own_Go p e below _ T171 (mkF m 369 #[.val (.int i0), .val (.int i1), .val (.int i2), .val (.int i3), .val (.int i4), .val (.int i5), .val (.ref b11), .val (.int pv), .val (.int qv), .val (.int s0), .val (.int lv), .val (.ref b166), .unset, .unset, .unset, .unset, .unset, .unset, .unset, .unset, .unset, .unset] [(.ref b166)])
  have N171 := Fr.app N163 N171q
  have sz172 : n0 ≤ T171.heap.size := Nat.le_trans sz167 K171.1
  refine own_by (T' := T171) (f' := (mkF m 370 #[.val (.int i0), .val (.int i1), .val (.int i2), .val (.int i3), .val (.int i4), .val (.int i5), .val (.ref b11), .val (.int pv), .val (.int qv), .val (.int s0), .val (.int lv), .val (.ref b166), .unset, .unset, .unset, .unset, .unset, .unset, .unset, .unset, .unset, .unset] [])) (fun t k => XS.pop X171.here hx rfl (hb hby at_369) rfl rfl k) ?_
  refine own_by (T' := T171) (f' := (mkF m 372 #[.val (.int i0), .val (.int i1), .val (.int i2), .val (.int i3), .val (.int i4), .val (.int i5), .val (.ref b11), .val (.int pv), .val (.int qv), .val (.int s0), .val (.int lv), .val (.ref b166), .unset, .unset, .unset, .unset, .unset, .unset, .unset, .unset, .unset, .unset] [(.ref b166)])) (fun t k => XS.aload X171.here hx rfl (hb hby at_370) rfl rfl k) ?_
  have f173 := (A166.keep K171)
  refine own_callV X171 hx hZ hown rfl (hb hby at_372) [] [] 0 (rmFB l Z a0 hw [] b166 xv dv sv T171.heap P5 P3 P11) f173 (own_w hw 55 rfl) (own_w hw 56 rfl) (notFace_of_selects (args := #[]) (mvT hZ (own_w hw 58 rfl))) (own_w hw 58 rfl) (own_w hw 57 rfl) (own_w hw 8 rfl) (own_w hw 59 rfl) (by decide) pd___Z (by rw [hml]; rfl) rfl rfl (Nat.le_of_eq rfl) (by decide) (by decide) (by decide) (by decide) ?_
  rintro T174 _ L174 X174 ⟨rfl, rfl, e174⟩
  show own_Go p e below _ T174 (mkF m 375 #[.val (.int i0), .val (.int i1), .val (.int i2), .val (.int i3), .val (.int i4), .val (.int i5), .val (.ref b11), .val (.int pv), .val (.int qv), .val (.int s0), .val (.int lv), .val (.ref b166), .unset, .unset, .unset, .unset, .unset, .unset, .unset, .unset, .unset, .unset] [(.int (own_fits xv dv sv))])
  rw [List.append_nil] at X174
  refine own_by (T' := T174) (f' := (mkF m 377 #[.val (.int i0), .val (.int i1), .val (.int i2), .val (.int i3), .val (.int i4), .val (.int i5), .val (.ref b11), .val (.int pv), .val (.int qv), .val (.int s0), .val (.int lv), .val (.ref b166), .val (.int (own_fits xv dv sv)), .unset, .unset, .unset, .unset, .unset, .unset, .unset, .unset, .unset] [])) (fun t k => XS.istore X174.here hx rfl (hb hby at_375) rfl (l' := #[.val (.int i0), .val (.int i1), .val (.int i2), .val (.int i3), .val (.int i4), .val (.int i5), .val (.ref b11), .val (.int pv), .val (.int qv), .val (.int s0), .val (.int lv), .val (.ref b166), .val (.int (own_fits xv dv sv)), .unset, .unset, .unset, .unset, .unset, .unset, .unset, .unset, .unset]) rfl k) ?_
  have hp12 := own_p2_le f2 ns nl hsl
  have hsig := own_sig_is HF (by omega) hsl hl48
  have z0 : (0 : Int32).toInt = ((0 : Nat) : Int) := by decide
  have z1 : (1 : Int32).toInt = ((1 : Nat) : Int) := by decide
  have f175 := (f170.keep K171 (ninS ne166_b11 nin0))
  obtain ⟨LL, XL0, NL0⟩ : ∃ LL, Stand p l e room_1 s m #[(.int i0), (.int i1), (.int i2), (.int i3), (.int i4), (.int i5)] below meth c T174 LL 2 62 ∧ Fr n0 LL := ⟨_, X174, N171⟩
  have j664 : ∀ (p1v ptv p2v dg xw bv gv sg : Int32) (TL : State), p1v.toInt = ((own_p1 f2 ns nl : Nat) : Int) → ptv = (if own_pnt f2 ns nl then 1 else 0) → p2v.toInt = ((own_p2 f2 ns nl : Nat) : Int) → dg = dv → xw = xv → bv.toInt = ((own_bb np nq : Nat) : Int) → gv.toInt = ((own_g f2 ns (own_p2 f2 ns nl) np nq : Nat) : Int) → sg = sv → Stand p l e room_1 s m #[(.int i0), (.int i1), (.int i2), (.int i3), (.int i4), (.int i5)] below meth c TL LL 2 62 → TL.heap = T171.heap → own_Go p e below (own_Ends s room_1 (fun v h L => v = some (.int 1) ∧ Fr n0 L)) TL (mkF m 664 (own_L2 i0 i1 i2 i3 i4 i5 b11 pv qv s0 lv b166 (own_fits xv dv sv) (.val (.int p1v)) (.val (.int ptv)) (.val (.int p2v)) (.val (.int dg)) (.val (.int xw)) (.val (.int bv)) (.val (.int gv)) (.val (.int sg)) (.unset)) []) := by
    intro p1v ptv p2v dg xw bv gv sg TL hp1 hpt hp2 hdg hxw hbv hgv hsg XL eL
    have hdg1 := hdg.symm
    have hxw1 := hxw.symm
    have hsg1 := hsg.symm
    subst hdg1
    subst hxw1
    subst hsg1
    refine own_by (T' := TL) (f' := (mkF m 666 (own_L2 i0 i1 i2 i3 i4 i5 b11 pv qv s0 lv b166 (own_fits xv dv sv) (.val (.int p1v)) (.val (.int ptv)) (.val (.int p2v)) (.val (.int dv)) (.val (.int xv)) (.val (.int bv)) (.val (.int gv)) (.val (.int sv)) (.unset)) [(.int xv)])) (fun t k => XS.iload XL.here hx rfl (hb hby at_664) rfl k) ?_
    have mg179 : ∀ t, Steps p.tables e below (TL.setTop (mkF m 686 (own_L2 i0 i1 i2 i3 i4 i5 b11 pv qv s0 lv b166 (own_fits xv dv sv) (.val (.int p1v)) (.val (.int ptv)) (.val (.int p2v)) (.val (.int dv)) (.val (.int xv)) (.val (.int bv)) (.val (.int gv)) (.val (.int sv)) (.unset)) [(.int (if xv = (0 : Int32) then (if (0 : Int32) < dv then (if (38 : Int32) < sv then (0 : Int32) else (1 : Int32)) else (0 : Int32)) else (0 : Int32)))])) t → Steps p.tables e below (TL.setTop (mkF m 666 (own_L2 i0 i1 i2 i3 i4 i5 b11 pv qv s0 lv b166 (own_fits xv dv sv) (.val (.int p1v)) (.val (.int ptv)) (.val (.int p2v)) (.val (.int dv)) (.val (.int xv)) (.val (.int bv)) (.val (.int gv)) (.val (.int sv)) (.unset)) [(.int xv)])) t := by
      intro t k0
      by_cases hm176 : xv = (0 : Int32)
      · skip
        refine XS.ifNo XL.here hx rfl (hb hby at_666) rfl ((if0 _ _).trans (teq hm176).2) ?_
        show Steps p.tables e below (TL.setTop (mkF m 669 (own_L2 i0 i1 i2 i3 i4 i5 b11 pv qv s0 lv b166 (own_fits xv dv sv) (.val (.int p1v)) (.val (.int ptv)) (.val (.int p2v)) (.val (.int dv)) (.val (.int xv)) (.val (.int bv)) (.val (.int gv)) (.val (.int sv)) (.unset)) [])) _
        refine XS.iload XL.here hx rfl (hb hby at_669) rfl ?_
        show Steps p.tables e below (TL.setTop (mkF m 671 (own_L2 i0 i1 i2 i3 i4 i5 b11 pv qv s0 lv b166 (own_fits xv dv sv) (.val (.int p1v)) (.val (.int ptv)) (.val (.int p2v)) (.val (.int dv)) (.val (.int xv)) (.val (.int bv)) (.val (.int gv)) (.val (.int sv)) (.unset)) [(.int dv)])) _
        by_cases hm177 : (0 : Int32) < dv
        · skip
          refine XS.ifNo XL.here hx rfl (hb hby at_671) rfl ((if0 _ _).trans (tlt hm177).2.2.2) ?_
          show Steps p.tables e below (TL.setTop (mkF m 674 (own_L2 i0 i1 i2 i3 i4 i5 b11 pv qv s0 lv b166 (own_fits xv dv sv) (.val (.int p1v)) (.val (.int ptv)) (.val (.int p2v)) (.val (.int dv)) (.val (.int xv)) (.val (.int bv)) (.val (.int gv)) (.val (.int sv)) (.unset)) [])) _
          refine XS.iload XL.here hx rfl (hb hby at_674) rfl ?_
          show Steps p.tables e below (TL.setTop (mkF m 676 (own_L2 i0 i1 i2 i3 i4 i5 b11 pv qv s0 lv b166 (own_fits xv dv sv) (.val (.int p1v)) (.val (.int ptv)) (.val (.int p2v)) (.val (.int dv)) (.val (.int xv)) (.val (.int bv)) (.val (.int gv)) (.val (.int sv)) (.unset)) [(.int sv)])) _
          refine XS.bipush XL.here hx rfl (hb hby at_676) ?_
          show Steps p.tables e below (TL.setTop (mkF m 678 (own_L2 i0 i1 i2 i3 i4 i5 b11 pv qv s0 lv b166 (own_fits xv dv sv) (.val (.int p1v)) (.val (.int ptv)) (.val (.int p2v)) (.val (.int dv)) (.val (.int xv)) (.val (.int bv)) (.val (.int gv)) (.val (.int sv)) (.unset)) [(.int (38 : Int32)), (.int sv)])) _
          by_cases hm178 : (38 : Int32) < sv
          · skip
            refine XS.icmpYes XL.here hx rfl (pc0 := 678) (pc' := 685) rfl (hb hby at_678) rfl (tlt hm178).2.2.1 (by decide) (by decide) ?_
            show Steps p.tables e below (TL.setTop (mkF m 685 (own_L2 i0 i1 i2 i3 i4 i5 b11 pv qv s0 lv b166 (own_fits xv dv sv) (.val (.int p1v)) (.val (.int ptv)) (.val (.int p2v)) (.val (.int dv)) (.val (.int xv)) (.val (.int bv)) (.val (.int gv)) (.val (.int sv)) (.unset)) [])) _
            refine XS.iconst XL.here hx rfl (hb hby at_685) ?_
            show Steps p.tables e below (TL.setTop (mkF m 686 (own_L2 i0 i1 i2 i3 i4 i5 b11 pv qv s0 lv b166 (own_fits xv dv sv) (.val (.int p1v)) (.val (.int ptv)) (.val (.int p2v)) (.val (.int dv)) (.val (.int xv)) (.val (.int bv)) (.val (.int gv)) (.val (.int sv)) (.unset)) [(.int (0 : Int32))])) _
            try simp only [if_pos hm176, if_pos hm177, if_pos hm178] at k0
            exact k0
          · skip
            refine XS.icmpNo XL.here hx rfl (hb hby at_678) rfl (flt hm178).2.2.1 ?_
            show Steps p.tables e below (TL.setTop (mkF m 681 (own_L2 i0 i1 i2 i3 i4 i5 b11 pv qv s0 lv b166 (own_fits xv dv sv) (.val (.int p1v)) (.val (.int ptv)) (.val (.int p2v)) (.val (.int dv)) (.val (.int xv)) (.val (.int bv)) (.val (.int gv)) (.val (.int sv)) (.unset)) [])) _
            refine XS.iconst XL.here hx rfl (hb hby at_681) ?_
            show Steps p.tables e below (TL.setTop (mkF m 682 (own_L2 i0 i1 i2 i3 i4 i5 b11 pv qv s0 lv b166 (own_fits xv dv sv) (.val (.int p1v)) (.val (.int ptv)) (.val (.int p2v)) (.val (.int dv)) (.val (.int xv)) (.val (.int bv)) (.val (.int gv)) (.val (.int sv)) (.unset)) [(.int (1 : Int32))])) _
            refine XS.goto XL.here hx rfl (pc0 := 682) (pc' := 686) rfl (hb hby at_682) (by decide) (by decide) ?_
            show Steps p.tables e below (TL.setTop (mkF m 686 (own_L2 i0 i1 i2 i3 i4 i5 b11 pv qv s0 lv b166 (own_fits xv dv sv) (.val (.int p1v)) (.val (.int ptv)) (.val (.int p2v)) (.val (.int dv)) (.val (.int xv)) (.val (.int bv)) (.val (.int gv)) (.val (.int sv)) (.unset)) [(.int (1 : Int32))])) _
            try simp only [if_pos hm176, if_pos hm177, if_neg hm178] at k0
            exact k0
        · skip
          refine XS.ifYes XL.here hx rfl (pc0 := 671) (pc' := 685) rfl (hb hby at_671) rfl ((if0 _ _).trans (flt hm177).2.2.2) (by decide) (by decide) ?_
          show Steps p.tables e below (TL.setTop (mkF m 685 (own_L2 i0 i1 i2 i3 i4 i5 b11 pv qv s0 lv b166 (own_fits xv dv sv) (.val (.int p1v)) (.val (.int ptv)) (.val (.int p2v)) (.val (.int dv)) (.val (.int xv)) (.val (.int bv)) (.val (.int gv)) (.val (.int sv)) (.unset)) [])) _
          refine XS.iconst XL.here hx rfl (hb hby at_685) ?_
          show Steps p.tables e below (TL.setTop (mkF m 686 (own_L2 i0 i1 i2 i3 i4 i5 b11 pv qv s0 lv b166 (own_fits xv dv sv) (.val (.int p1v)) (.val (.int ptv)) (.val (.int p2v)) (.val (.int dv)) (.val (.int xv)) (.val (.int bv)) (.val (.int gv)) (.val (.int sv)) (.unset)) [(.int (0 : Int32))])) _
          try simp only [if_pos hm176, if_neg hm177] at k0
          exact k0
      · skip
        refine XS.ifYes XL.here hx rfl (pc0 := 666) (pc' := 685) rfl (hb hby at_666) rfl ((if0 _ _).trans (feq hm176).2) (by decide) (by decide) ?_
        show Steps p.tables e below (TL.setTop (mkF m 685 (own_L2 i0 i1 i2 i3 i4 i5 b11 pv qv s0 lv b166 (own_fits xv dv sv) (.val (.int p1v)) (.val (.int ptv)) (.val (.int p2v)) (.val (.int dv)) (.val (.int xv)) (.val (.int bv)) (.val (.int gv)) (.val (.int sv)) (.unset)) [])) _
        refine XS.iconst XL.here hx rfl (hb hby at_685) ?_
        show Steps p.tables e below (TL.setTop (mkF m 686 (own_L2 i0 i1 i2 i3 i4 i5 b11 pv qv s0 lv b166 (own_fits xv dv sv) (.val (.int p1v)) (.val (.int ptv)) (.val (.int p2v)) (.val (.int dv)) (.val (.int xv)) (.val (.int bv)) (.val (.int gv)) (.val (.int sv)) (.unset)) [(.int (0 : Int32))])) _
        try simp only [if_neg hm176] at k0
        exact k0
    refine own_by mg179 ?_
    rw [show (if xv = (0 : Int32) then (if (0 : Int32) < dv then (if (38 : Int32) < sv then (0 : Int32) else (1 : Int32)) else (0 : Int32)) else (0 : Int32)) = own_fits xv dv sv from rfl]
    show own_Go p e below _ TL (mkF m 686 (own_L2 i0 i1 i2 i3 i4 i5 b11 pv qv s0 lv b166 (own_fits xv dv sv) (.val (.int p1v)) (.val (.int ptv)) (.val (.int p2v)) (.val (.int dv)) (.val (.int xv)) (.val (.int bv)) (.val (.int gv)) (.val (.int sv)) (.unset)) [(.int (own_fits xv dv sv))])
    refine own_by (T' := TL) (f' := (mkF m 688 (own_L2 i0 i1 i2 i3 i4 i5 b11 pv qv s0 lv b166 (own_fits xv dv sv) (.val (.int p1v)) (.val (.int ptv)) (.val (.int p2v)) (.val (.int dv)) (.val (.int xv)) (.val (.int bv)) (.val (.int gv)) (.val (.int sv)) (.val (.int (own_fits xv dv sv)))) [])) (fun t k => XS.istore XL.here hx rfl (hb hby at_686) rfl (l' := #[.val (.int i0), .val (.int i1), .val (.int i2), .val (.int i3), .val (.int i4), .val (.int i5), .val (.ref b11), .val (.int pv), .val (.int qv), .val (.int s0), .val (.int lv), .val (.ref b166), .val (.int (own_fits xv dv sv)), .val (.int p1v), .val (.int ptv), .val (.int p2v), .val (.int dv), .val (.int xv), .val (.int bv), .val (.int gv), .val (.int sv), .val (.int (own_fits xv dv sv))]) rfl k) ?_
    refine own_by (T' := TL) (f' := (mkF m 690 (own_L2 i0 i1 i2 i3 i4 i5 b11 pv qv s0 lv b166 (own_fits xv dv sv) (.val (.int p1v)) (.val (.int ptv)) (.val (.int p2v)) (.val (.int dv)) (.val (.int xv)) (.val (.int bv)) (.val (.int gv)) (.val (.int sv)) (.val (.int (own_fits xv dv sv)))) [(.int (own_fits xv dv sv))])) (fun t k => XS.iload XL.here hx rfl (hb hby at_688) rfl k) ?_
    refine own_by (T' := TL) (f' := (mkF m 692 (own_L2 i0 i1 i2 i3 i4 i5 b11 pv qv s0 lv b166 (own_fits xv dv sv) (.val (.int p1v)) (.val (.int ptv)) (.val (.int p2v)) (.val (.int dv)) (.val (.int xv)) (.val (.int bv)) (.val (.int gv)) (.val (.int sv)) (.val (.int (own_fits xv dv sv)))) [(.int (own_fits xv dv sv)), (.int (own_fits xv dv sv))])) (fun t k => XS.iload XL.here hx rfl (hb hby at_690) rfl k) ?_
    refine own_by (T' := TL) (f' := (mkF m 695 (own_L2 i0 i1 i2 i3 i4 i5 b11 pv qv s0 lv b166 (own_fits xv dv sv) (.val (.int p1v)) (.val (.int ptv)) (.val (.int p2v)) (.val (.int dv)) (.val (.int xv)) (.val (.int bv)) (.val (.int gv)) (.val (.int sv)) (.val (.int (own_fits xv dv sv)))) [])) (fun t k => XS.icmpNo XL.here hx rfl (hb hby at_692) rfl (teq rfl).2 k) ?_
    refine own_by (T' := TL) (f' := (mkF m 696 (own_L2 i0 i1 i2 i3 i4 i5 b11 pv qv s0 lv b166 (own_fits xv dv sv) (.val (.int p1v)) (.val (.int ptv)) (.val (.int p2v)) (.val (.int dv)) (.val (.int xv)) (.val (.int bv)) (.val (.int gv)) (.val (.int sv)) (.val (.int (own_fits xv dv sv)))) [(.int (1 : Int32))])) (fun t k => XS.iconst XL.here hx rfl (hb hby at_695) k) ?_
    refine own_by (T' := TL) (f' := (mkF m 700 (own_L2 i0 i1 i2 i3 i4 i5 b11 pv qv s0 lv b166 (own_fits xv dv sv) (.val (.int p1v)) (.val (.int ptv)) (.val (.int p2v)) (.val (.int dv)) (.val (.int xv)) (.val (.int bv)) (.val (.int gv)) (.val (.int sv)) (.val (.int (own_fits xv dv sv)))) [(.int (1 : Int32))])) (fun t k => XS.goto XL.here hx rfl (pc0 := 696) (pc' := 700) rfl (hb hby at_696) (by decide) (by decide) k) ?_
    refine own_retZ XL hx hret hlk (hb hby at_700) (Or.inr rfl) (by decide) (by decide) ?_
    try rw [eL]
    exact ⟨rfl, NL0⟩
  have j628 : ∀ (p1v ptv p2v dg xw bv gv : Int32) (TL : State), p1v.toInt = ((own_p1 f2 ns nl : Nat) : Int) → ptv = (if own_pnt f2 ns nl then 1 else 0) → p2v.toInt = ((own_p2 f2 ns nl : Nat) : Int) → dg = dv → xw = xv → bv.toInt = ((own_bb np nq : Nat) : Int) → gv.toInt = ((own_g f2 ns (own_p2 f2 ns nl) np nq : Nat) : Int) → Stand p l e room_1 s m #[(.int i0), (.int i1), (.int i2), (.int i3), (.int i4), (.int i5)] below meth c TL LL 2 62 → TL.heap = T171.heap → own_Go p e below (own_Ends s room_1 (fun v h L => v = some (.int 1) ∧ Fr n0 L)) TL (mkF m 628 (own_L2 i0 i1 i2 i3 i4 i5 b11 pv qv s0 lv b166 (own_fits xv dv sv) (.val (.int p1v)) (.val (.int ptv)) (.val (.int p2v)) (.val (.int dg)) (.val (.int xw)) (.val (.int bv)) (.val (.int gv)) (.unset) (.unset)) []) := by
    intro p1v ptv p2v dg xw bv gv TL hp1 hpt hp2 hdg hxw hbv hgv XL eL
    refine own_by (T' := TL) (f' := (mkF m 630 (own_L2 i0 i1 i2 i3 i4 i5 b11 pv qv s0 lv b166 (own_fits xv dv sv) (.val (.int p1v)) (.val (.int ptv)) (.val (.int p2v)) (.val (.int dg)) (.val (.int xw)) (.val (.int bv)) (.val (.int gv)) (.unset) (.unset)) [(.int gv)])) (fun t k => XS.iload XL.here hx rfl (hb hby at_628) rfl k) ?_
    refine own_by (T' := TL) (f' := (mkF m 632 (own_L2 i0 i1 i2 i3 i4 i5 b11 pv qv s0 lv b166 (own_fits xv dv sv) (.val (.int p1v)) (.val (.int ptv)) (.val (.int p2v)) (.val (.int dg)) (.val (.int xw)) (.val (.int bv)) (.val (.int gv)) (.unset) (.unset)) [(.int p2v), (.int gv)])) (fun t k => XS.iload XL.here hx rfl (hb hby at_630) rfl k) ?_
    by_cases hc632_180 : gv < p2v
    · have _ := XL
      refine own_by (T' := TL) (f' := (mkF m 635 (own_L2 i0 i1 i2 i3 i4 i5 b11 pv qv s0 lv b166 (own_fits xv dv sv) (.val (.int p1v)) (.val (.int ptv)) (.val (.int p2v)) (.val (.int dg)) (.val (.int xw)) (.val (.int bv)) (.val (.int gv)) (.unset) (.unset)) [])) (fun t k => XS.icmpNo XL.here hx rfl (hb hby at_632) rfl (tlt hc632_180).2.1 k) ?_
      refine own_by (T' := TL) (f' := (mkF m 637 (own_L2 i0 i1 i2 i3 i4 i5 b11 pv qv s0 lv b166 (own_fits xv dv sv) (.val (.int p1v)) (.val (.int ptv)) (.val (.int p2v)) (.val (.int dg)) (.val (.int xw)) (.val (.int bv)) (.val (.int gv)) (.unset) (.unset)) [(.int p2v)])) (fun t k => XS.iload XL.here hx rfl (hb hby at_635) rfl k) ?_
      refine own_by (T' := TL) (f' := (mkF m 639 (own_L2 i0 i1 i2 i3 i4 i5 b11 pv qv s0 lv b166 (own_fits xv dv sv) (.val (.int p1v)) (.val (.int ptv)) (.val (.int p2v)) (.val (.int dg)) (.val (.int xw)) (.val (.int bv)) (.val (.int gv)) (.unset) (.unset)) [(.int gv), (.int p2v)])) (fun t k => XS.iload XL.here hx rfl (hb hby at_637) rfl k) ?_
      refine own_by (T' := TL) (f' := (mkF m 640 (own_L2 i0 i1 i2 i3 i4 i5 b11 pv qv s0 lv b166 (own_fits xv dv sv) (.val (.int p1v)) (.val (.int ptv)) (.val (.int p2v)) (.val (.int dg)) (.val (.int xw)) (.val (.int bv)) (.val (.int gv)) (.unset) (.unset)) [(.int (p2v - gv))])) (fun t k => XS.isub XL.here hx rfl (hb hby at_639) rfl k) ?_
      refine own_by (T' := TL) (f' := (mkF m 642 (own_L2 i0 i1 i2 i3 i4 i5 b11 pv qv s0 lv b166 (own_fits xv dv sv) (.val (.int p1v)) (.val (.int ptv)) (.val (.int p2v)) (.val (.int dg)) (.val (.int xw)) (.val (.int bv)) (.val (.int gv)) (.unset) (.unset)) [(.int ptv), (.int (p2v - gv))])) (fun t k => XS.iload XL.here hx rfl (hb hby at_640) rfl k) ?_
      by_cases hc642_181 : ptv = (0 : Int32)
      · have _ := XL
        refine own_by (T' := TL) (f' := (mkF m 656 (own_L2 i0 i1 i2 i3 i4 i5 b11 pv qv s0 lv b166 (own_fits xv dv sv) (.val (.int p1v)) (.val (.int ptv)) (.val (.int p2v)) (.val (.int dg)) (.val (.int xw)) (.val (.int bv)) (.val (.int gv)) (.unset) (.unset)) [(.int (p2v - gv))])) (fun t k => XS.ifYes XL.here hx rfl (pc0 := 642) (pc' := 656) rfl (hb hby at_642) rfl ((if0 _ _).trans (teq hc642_181).1) (by decide) (by decide) k) ?_
        refine own_by (T' := TL) (f' := (mkF m 657 (own_L2 i0 i1 i2 i3 i4 i5 b11 pv qv s0 lv b166 (own_fits xv dv sv) (.val (.int p1v)) (.val (.int ptv)) (.val (.int p2v)) (.val (.int dg)) (.val (.int xw)) (.val (.int bv)) (.val (.int gv)) (.unset) (.unset)) [(.int (0 : Int32)), (.int (p2v - gv))])) (fun t k => XS.iconst XL.here hx rfl (hb hby at_656) k) ?_
        refine own_by (T' := TL) (f' := (mkF m 658 (own_L2 i0 i1 i2 i3 i4 i5 b11 pv qv s0 lv b166 (own_fits xv dv sv) (.val (.int p1v)) (.val (.int ptv)) (.val (.int p2v)) (.val (.int dg)) (.val (.int xw)) (.val (.int bv)) (.val (.int gv)) (.unset) (.unset)) [(.int ((p2v - gv) - (0 : Int32)))])) (fun t k => XS.isub XL.here hx rfl (hb hby at_657) rfl k) ?_
        refine own_by (T' := TL) (f' := (mkF m 662 (own_L2 i0 i1 i2 i3 i4 i5 b11 pv qv s0 lv b166 (own_fits xv dv sv) (.val (.int p1v)) (.val (.int ptv)) (.val (.int p2v)) (.val (.int dg)) (.val (.int xw)) (.val (.int bv)) (.val (.int gv)) (.unset) (.unset)) [(.int ((p2v - gv) - (0 : Int32)))])) (fun t k => XS.goto XL.here hx rfl (pc0 := 658) (pc' := 662) rfl (hb hby at_658) (by decide) (by decide) k) ?_
        refine own_by (T' := TL) (f' := (mkF m 664 (own_L2 i0 i1 i2 i3 i4 i5 b11 pv qv s0 lv b166 (own_fits xv dv sv) (.val (.int p1v)) (.val (.int ptv)) (.val (.int p2v)) (.val (.int dg)) (.val (.int xw)) (.val (.int bv)) (.val (.int gv)) (.val (.int ((p2v - gv) - (0 : Int32)))) (.unset)) [])) (fun t k => XS.istore XL.here hx rfl (hb hby at_662) rfl (l' := #[.val (.int i0), .val (.int i1), .val (.int i2), .val (.int i3), .val (.int i4), .val (.int i5), .val (.ref b11), .val (.int pv), .val (.int qv), .val (.int s0), .val (.int lv), .val (.ref b166), .val (.int (own_fits xv dv sv)), .val (.int p1v), .val (.int ptv), .val (.int p2v), .val (.int dg), .val (.int xw), .val (.int bv), .val (.int gv), .val (.int ((p2v - gv) - (0 : Int32))), .unset]) rfl k) ?_
        have lg := own_ltn hgv hp2 hc632_180
        have esg : ((p2v - gv) - (0 : Int32)) = sv := Int32.toInt_inj.mp (by rw [hsv, ← hsig, own_sig]; rw [if_pos lg, if_neg (fun z => (own_pt0 hpt).1 hc642_181 z.1)]; exact own_sub (own_sub hp2 hgv (by omega)) z0 (by omega))
        exact j664 p1v ptv p2v dg xw bv gv ((p2v - gv) - (0 : Int32)) TL hp1 hpt hp2 hdg hxw hbv hgv esg XL eL
      · have _ := XL
        refine own_by (T' := TL) (f' := (mkF m 645 (own_L2 i0 i1 i2 i3 i4 i5 b11 pv qv s0 lv b166 (own_fits xv dv sv) (.val (.int p1v)) (.val (.int ptv)) (.val (.int p2v)) (.val (.int dg)) (.val (.int xw)) (.val (.int bv)) (.val (.int gv)) (.unset) (.unset)) [(.int (p2v - gv))])) (fun t k => XS.ifNo XL.here hx rfl (hb hby at_642) rfl ((if0 _ _).trans (feq hc642_181).1) k) ?_
        refine own_by (T' := TL) (f' := (mkF m 647 (own_L2 i0 i1 i2 i3 i4 i5 b11 pv qv s0 lv b166 (own_fits xv dv sv) (.val (.int p1v)) (.val (.int ptv)) (.val (.int p2v)) (.val (.int dg)) (.val (.int xw)) (.val (.int bv)) (.val (.int gv)) (.unset) (.unset)) [(.int gv), (.int (p2v - gv))])) (fun t k => XS.iload XL.here hx rfl (hb hby at_645) rfl k) ?_
        refine own_by (T' := TL) (f' := (mkF m 649 (own_L2 i0 i1 i2 i3 i4 i5 b11 pv qv s0 lv b166 (own_fits xv dv sv) (.val (.int p1v)) (.val (.int ptv)) (.val (.int p2v)) (.val (.int dg)) (.val (.int xw)) (.val (.int bv)) (.val (.int gv)) (.unset) (.unset)) [(.int p1v), (.int gv), (.int (p2v - gv))])) (fun t k => XS.iload XL.here hx rfl (hb hby at_647) rfl k) ?_
        by_cases hc649_182 : gv < p1v
        · have _ := XL
          refine own_by (T' := TL) (f' := (mkF m 652 (own_L2 i0 i1 i2 i3 i4 i5 b11 pv qv s0 lv b166 (own_fits xv dv sv) (.val (.int p1v)) (.val (.int ptv)) (.val (.int p2v)) (.val (.int dg)) (.val (.int xw)) (.val (.int bv)) (.val (.int gv)) (.unset) (.unset)) [(.int (p2v - gv))])) (fun t k => XS.icmpNo XL.here hx rfl (hb hby at_649) rfl (tlt hc649_182).2.1 k) ?_
          refine own_by (T' := TL) (f' := (mkF m 653 (own_L2 i0 i1 i2 i3 i4 i5 b11 pv qv s0 lv b166 (own_fits xv dv sv) (.val (.int p1v)) (.val (.int ptv)) (.val (.int p2v)) (.val (.int dg)) (.val (.int xw)) (.val (.int bv)) (.val (.int gv)) (.unset) (.unset)) [(.int (1 : Int32)), (.int (p2v - gv))])) (fun t k => XS.iconst XL.here hx rfl (hb hby at_652) k) ?_
          refine own_by (T' := TL) (f' := (mkF m 657 (own_L2 i0 i1 i2 i3 i4 i5 b11 pv qv s0 lv b166 (own_fits xv dv sv) (.val (.int p1v)) (.val (.int ptv)) (.val (.int p2v)) (.val (.int dg)) (.val (.int xw)) (.val (.int bv)) (.val (.int gv)) (.unset) (.unset)) [(.int (1 : Int32)), (.int (p2v - gv))])) (fun t k => XS.goto XL.here hx rfl (pc0 := 653) (pc' := 657) rfl (hb hby at_653) (by decide) (by decide) k) ?_
          refine own_by (T' := TL) (f' := (mkF m 658 (own_L2 i0 i1 i2 i3 i4 i5 b11 pv qv s0 lv b166 (own_fits xv dv sv) (.val (.int p1v)) (.val (.int ptv)) (.val (.int p2v)) (.val (.int dg)) (.val (.int xw)) (.val (.int bv)) (.val (.int gv)) (.unset) (.unset)) [(.int ((p2v - gv) - (1 : Int32)))])) (fun t k => XS.isub XL.here hx rfl (hb hby at_657) rfl k) ?_
          refine own_by (T' := TL) (f' := (mkF m 662 (own_L2 i0 i1 i2 i3 i4 i5 b11 pv qv s0 lv b166 (own_fits xv dv sv) (.val (.int p1v)) (.val (.int ptv)) (.val (.int p2v)) (.val (.int dg)) (.val (.int xw)) (.val (.int bv)) (.val (.int gv)) (.unset) (.unset)) [(.int ((p2v - gv) - (1 : Int32)))])) (fun t k => XS.goto XL.here hx rfl (pc0 := 658) (pc' := 662) rfl (hb hby at_658) (by decide) (by decide) k) ?_
          refine own_by (T' := TL) (f' := (mkF m 664 (own_L2 i0 i1 i2 i3 i4 i5 b11 pv qv s0 lv b166 (own_fits xv dv sv) (.val (.int p1v)) (.val (.int ptv)) (.val (.int p2v)) (.val (.int dg)) (.val (.int xw)) (.val (.int bv)) (.val (.int gv)) (.val (.int ((p2v - gv) - (1 : Int32)))) (.unset)) [])) (fun t k => XS.istore XL.here hx rfl (hb hby at_662) rfl (l' := #[.val (.int i0), .val (.int i1), .val (.int i2), .val (.int i3), .val (.int i4), .val (.int i5), .val (.ref b11), .val (.int pv), .val (.int qv), .val (.int s0), .val (.int lv), .val (.ref b166), .val (.int (own_fits xv dv sv)), .val (.int p1v), .val (.int ptv), .val (.int p2v), .val (.int dg), .val (.int xw), .val (.int bv), .val (.int gv), .val (.int ((p2v - gv) - (1 : Int32))), .unset]) rfl k) ?_
          have lg := own_ltn hgv hp2 hc632_180
          have esg : ((p2v - gv) - (1 : Int32)) = sv := Int32.toInt_inj.mp (by rw [hsv, ← hsig, own_sig]; rw [if_pos lg, if_pos ⟨(own_pt0 hpt).2 hc642_181, own_ltn hgv hp1 hc649_182⟩]; exact own_sub (own_sub hp2 hgv (by omega)) z1 (by omega))
          exact j664 p1v ptv p2v dg xw bv gv ((p2v - gv) - (1 : Int32)) TL hp1 hpt hp2 hdg hxw hbv hgv esg XL eL
        · have _ := XL
          refine own_by (T' := TL) (f' := (mkF m 656 (own_L2 i0 i1 i2 i3 i4 i5 b11 pv qv s0 lv b166 (own_fits xv dv sv) (.val (.int p1v)) (.val (.int ptv)) (.val (.int p2v)) (.val (.int dg)) (.val (.int xw)) (.val (.int bv)) (.val (.int gv)) (.unset) (.unset)) [(.int (p2v - gv))])) (fun t k => XS.icmpYes XL.here hx rfl (pc0 := 649) (pc' := 656) rfl (hb hby at_649) rfl (flt hc649_182).2.1 (by decide) (by decide) k) ?_
          refine own_by (T' := TL) (f' := (mkF m 657 (own_L2 i0 i1 i2 i3 i4 i5 b11 pv qv s0 lv b166 (own_fits xv dv sv) (.val (.int p1v)) (.val (.int ptv)) (.val (.int p2v)) (.val (.int dg)) (.val (.int xw)) (.val (.int bv)) (.val (.int gv)) (.unset) (.unset)) [(.int (0 : Int32)), (.int (p2v - gv))])) (fun t k => XS.iconst XL.here hx rfl (hb hby at_656) k) ?_
          refine own_by (T' := TL) (f' := (mkF m 658 (own_L2 i0 i1 i2 i3 i4 i5 b11 pv qv s0 lv b166 (own_fits xv dv sv) (.val (.int p1v)) (.val (.int ptv)) (.val (.int p2v)) (.val (.int dg)) (.val (.int xw)) (.val (.int bv)) (.val (.int gv)) (.unset) (.unset)) [(.int ((p2v - gv) - (0 : Int32)))])) (fun t k => XS.isub XL.here hx rfl (hb hby at_657) rfl k) ?_
          refine own_by (T' := TL) (f' := (mkF m 662 (own_L2 i0 i1 i2 i3 i4 i5 b11 pv qv s0 lv b166 (own_fits xv dv sv) (.val (.int p1v)) (.val (.int ptv)) (.val (.int p2v)) (.val (.int dg)) (.val (.int xw)) (.val (.int bv)) (.val (.int gv)) (.unset) (.unset)) [(.int ((p2v - gv) - (0 : Int32)))])) (fun t k => XS.goto XL.here hx rfl (pc0 := 658) (pc' := 662) rfl (hb hby at_658) (by decide) (by decide) k) ?_
          refine own_by (T' := TL) (f' := (mkF m 664 (own_L2 i0 i1 i2 i3 i4 i5 b11 pv qv s0 lv b166 (own_fits xv dv sv) (.val (.int p1v)) (.val (.int ptv)) (.val (.int p2v)) (.val (.int dg)) (.val (.int xw)) (.val (.int bv)) (.val (.int gv)) (.val (.int ((p2v - gv) - (0 : Int32)))) (.unset)) [])) (fun t k => XS.istore XL.here hx rfl (hb hby at_662) rfl (l' := #[.val (.int i0), .val (.int i1), .val (.int i2), .val (.int i3), .val (.int i4), .val (.int i5), .val (.ref b11), .val (.int pv), .val (.int qv), .val (.int s0), .val (.int lv), .val (.ref b166), .val (.int (own_fits xv dv sv)), .val (.int p1v), .val (.int ptv), .val (.int p2v), .val (.int dg), .val (.int xw), .val (.int bv), .val (.int gv), .val (.int ((p2v - gv) - (0 : Int32))), .unset]) rfl k) ?_
          have lg := own_ltn hgv hp2 hc632_180
          have esg : ((p2v - gv) - (0 : Int32)) = sv := Int32.toInt_inj.mp (by rw [hsv, ← hsig, own_sig]; rw [if_pos lg, if_neg (fun z => own_nltn hgv hp1 hc649_182 z.2)]; exact own_sub (own_sub hp2 hgv (by omega)) z0 (by omega))
          exact j664 p1v ptv p2v dg xw bv gv ((p2v - gv) - (0 : Int32)) TL hp1 hpt hp2 hdg hxw hbv hgv esg XL eL
    · have _ := XL
      refine own_by (T' := TL) (f' := (mkF m 661 (own_L2 i0 i1 i2 i3 i4 i5 b11 pv qv s0 lv b166 (own_fits xv dv sv) (.val (.int p1v)) (.val (.int ptv)) (.val (.int p2v)) (.val (.int dg)) (.val (.int xw)) (.val (.int bv)) (.val (.int gv)) (.unset) (.unset)) [])) (fun t k => XS.icmpYes XL.here hx rfl (pc0 := 632) (pc' := 661) rfl (hb hby at_632) rfl (flt hc632_180).2.1 (by decide) (by decide) k) ?_
      refine own_by (T' := TL) (f' := (mkF m 662 (own_L2 i0 i1 i2 i3 i4 i5 b11 pv qv s0 lv b166 (own_fits xv dv sv) (.val (.int p1v)) (.val (.int ptv)) (.val (.int p2v)) (.val (.int dg)) (.val (.int xw)) (.val (.int bv)) (.val (.int gv)) (.unset) (.unset)) [(.int (0 : Int32))])) (fun t k => XS.iconst XL.here hx rfl (hb hby at_661) k) ?_
      refine own_by (T' := TL) (f' := (mkF m 664 (own_L2 i0 i1 i2 i3 i4 i5 b11 pv qv s0 lv b166 (own_fits xv dv sv) (.val (.int p1v)) (.val (.int ptv)) (.val (.int p2v)) (.val (.int dg)) (.val (.int xw)) (.val (.int bv)) (.val (.int gv)) (.val (.int (0 : Int32))) (.unset)) [])) (fun t k => XS.istore XL.here hx rfl (hb hby at_662) rfl (l' := #[.val (.int i0), .val (.int i1), .val (.int i2), .val (.int i3), .val (.int i4), .val (.int i5), .val (.ref b11), .val (.int pv), .val (.int qv), .val (.int s0), .val (.int lv), .val (.ref b166), .val (.int (own_fits xv dv sv)), .val (.int p1v), .val (.int ptv), .val (.int p2v), .val (.int dg), .val (.int xw), .val (.int bv), .val (.int gv), .val (.int (0 : Int32)), .unset]) rfl k) ?_
      have esg : (0 : Int32) = sv := Int32.toInt_inj.mp (by rw [hsv, ← hsig, own_sig]; rw [if_neg (own_nltn hgv hp2 hc632_180)]; exact z0)
      exact j664 p1v ptv p2v dg xw bv gv (0 : Int32) TL hp1 hpt hp2 hdg hxw hbv hgv esg XL eL
  have j592 : ∀ (p1v ptv p2v dg xw bv gv : Int32) (TL : State), p1v.toInt = ((own_p1 f2 ns nl : Nat) : Int) → ptv = (if own_pnt f2 ns nl then 1 else 0) → p2v.toInt = ((own_p2 f2 ns nl : Nat) : Int) → dg = dv → xw = xv → bv.toInt = ((own_bb np nq : Nat) : Int) → gv.toInt = ((own_gx f2 ns (own_p2 f2 ns nl) np (own_g0 np nq (own_p2 f2 ns nl)) : Nat) : Int) → Stand p l e room_1 s m #[(.int i0), (.int i1), (.int i2), (.int i3), (.int i4), (.int i5)] below meth c TL LL 2 62 → TL.heap = T171.heap → own_Go p e below (own_Ends s room_1 (fun v h L => v = some (.int 1) ∧ Fr n0 L)) TL (mkF m 592 (own_L2 i0 i1 i2 i3 i4 i5 b11 pv qv s0 lv b166 (own_fits xv dv sv) (.val (.int p1v)) (.val (.int ptv)) (.val (.int p2v)) (.val (.int dg)) (.val (.int xw)) (.val (.int bv)) (.val (.int gv)) (.unset) (.unset)) []) := by
    intro p1v ptv p2v dg xw bv gv TL hp1 hpt hp2 hdg hxw hbv hgv XL eL
    refine own_by (T' := TL) (f' := (mkF m 594 (own_L2 i0 i1 i2 i3 i4 i5 b11 pv qv s0 lv b166 (own_fits xv dv sv) (.val (.int p1v)) (.val (.int ptv)) (.val (.int p2v)) (.val (.int dg)) (.val (.int xw)) (.val (.int bv)) (.val (.int gv)) (.unset) (.unset)) [(.ref b11)])) (fun t k => XS.aload XL.here hx rfl (hb hby at_592) rfl rfl k) ?_
    refine own_by (T' := TL) (f' := (mkF m 596 (own_L2 i0 i1 i2 i3 i4 i5 b11 pv qv s0 lv b166 (own_fits xv dv sv) (.val (.int p1v)) (.val (.int ptv)) (.val (.int p2v)) (.val (.int dg)) (.val (.int xw)) (.val (.int bv)) (.val (.int gv)) (.unset) (.unset)) [(.int qv), (.ref b11)])) (fun t k => XS.iload XL.here hx rfl (hb hby at_594) rfl k) ?_
    refine own_ldC XL hx hZ eL (hb hby at_596) f175 (by omega) (by omega) ?_
    rw [show qv.toInt.toNat = nq from by omega]
    show own_Go p e below _ TL (mkF m 597 (own_L2 i0 i1 i2 i3 i4 i5 b11 pv qv s0 lv b166 (own_fits xv dv sv) (.val (.int p1v)) (.val (.int ptv)) (.val (.int p2v)) (.val (.int dg)) (.val (.int xw)) (.val (.int bv)) (.val (.int gv)) (.unset) (.unset)) [(.int (f2 nq))])
    refine own_callS XL hx hZ hown eL (hb hby at_597) [(.int (f2 nq))] [] 0 (rmNZ l Z a0 hw [] (f2 nq) T171.heap) (own_w hw 66 rfl) (own_w hw 67 rfl) (own_w hw 4 rfl) (own_w hw 68 rfl) (by decide) pd__C_Z (by rw [hml]; rfl) rfl rfl (Nat.le_of_eq rfl) (by decide) (by decide) (by decide) (by decide) ?_
    rintro T183 _ L183 X183 ⟨rfl, rfl, e183⟩
    show own_Go p e below _ T183 (mkF m 600 (own_L2 i0 i1 i2 i3 i4 i5 b11 pv qv s0 lv b166 (own_fits xv dv sv) (.val (.int p1v)) (.val (.int ptv)) (.val (.int p2v)) (.val (.int dg)) (.val (.int xw)) (.val (.int bv)) (.val (.int gv)) (.unset) (.unset)) [(.int (own_nzd (f2 nq)))])
    rw [List.append_nil] at X183
    by_cases hc600_184 : (own_nzd (f2 nq)) = (0 : Int32)
    · have _ := X183
      refine own_by (T' := T183) (f' := (mkF m 628 (own_L2 i0 i1 i2 i3 i4 i5 b11 pv qv s0 lv b166 (own_fits xv dv sv) (.val (.int p1v)) (.val (.int ptv)) (.val (.int p2v)) (.val (.int dg)) (.val (.int xw)) (.val (.int bv)) (.val (.int gv)) (.unset) (.unset)) [])) (fun t k => XS.ifYes X183.here hx rfl (pc0 := 600) (pc' := 628) rfl (hb hby at_600) rfl ((if0 _ _).trans (teq hc600_184).1) (by decide) (by decide) k) ?_
      have eg : own_gx f2 ns (own_p2 f2 ns nl) nq (own_gx f2 ns (own_p2 f2 ns nl) np (own_g0 np nq (own_p2 f2 ns nl))) = (own_gx f2 ns (own_p2 f2 ns nl) np (own_g0 np nq (own_p2 f2 ns nl))) := if_neg (fun z => absurd (z.1.symm.trans hc600_184) (by decide))
      have hg' : gv.toInt = ((own_g f2 ns (own_p2 f2 ns nl) np nq : Nat) : Int) := by rw [show own_g f2 ns (own_p2 f2 ns nl) np nq = own_gx f2 ns (own_p2 f2 ns nl) nq (own_gx f2 ns (own_p2 f2 ns nl) np (own_g0 np nq (own_p2 f2 ns nl))) from rfl, eg]; exact hgv
      exact j628 p1v ptv p2v dg xw bv gv T183 hp1 hpt hp2 hdg hxw hbv hg' X183 e183
    · have _ := X183
      refine own_by (T' := T183) (f' := (mkF m 603 (own_L2 i0 i1 i2 i3 i4 i5 b11 pv qv s0 lv b166 (own_fits xv dv sv) (.val (.int p1v)) (.val (.int ptv)) (.val (.int p2v)) (.val (.int dg)) (.val (.int xw)) (.val (.int bv)) (.val (.int gv)) (.unset) (.unset)) [])) (fun t k => XS.ifNo X183.here hx rfl (hb hby at_600) rfl ((if0 _ _).trans (feq hc600_184).1) k) ?_
      refine own_by (T' := T183) (f' := (mkF m 605 (own_L2 i0 i1 i2 i3 i4 i5 b11 pv qv s0 lv b166 (own_fits xv dv sv) (.val (.int p1v)) (.val (.int ptv)) (.val (.int p2v)) (.val (.int dg)) (.val (.int xw)) (.val (.int bv)) (.val (.int gv)) (.unset) (.unset)) [(.int s0)])) (fun t k => XS.iload X183.here hx rfl (hb hby at_603) rfl k) ?_
      refine own_by (T' := T183) (f' := (mkF m 607 (own_L2 i0 i1 i2 i3 i4 i5 b11 pv qv s0 lv b166 (own_fits xv dv sv) (.val (.int p1v)) (.val (.int ptv)) (.val (.int p2v)) (.val (.int dg)) (.val (.int xw)) (.val (.int bv)) (.val (.int gv)) (.unset) (.unset)) [(.int qv), (.int s0)])) (fun t k => XS.iload X183.here hx rfl (hb hby at_605) rfl k) ?_
      by_cases hc607_185 : qv < s0
      · have _ := X183
        refine own_by (T' := T183) (f' := (mkF m 628 (own_L2 i0 i1 i2 i3 i4 i5 b11 pv qv s0 lv b166 (own_fits xv dv sv) (.val (.int p1v)) (.val (.int ptv)) (.val (.int p2v)) (.val (.int dg)) (.val (.int xw)) (.val (.int bv)) (.val (.int gv)) (.unset) (.unset)) [])) (fun t k => XS.icmpYes X183.here hx rfl (pc0 := 607) (pc' := 628) rfl (hb hby at_607) rfl (tlt hc607_185).2.2.1 (by decide) (by decide) k) ?_
        have eg : own_gx f2 ns (own_p2 f2 ns nl) nq (own_gx f2 ns (own_p2 f2 ns nl) np (own_g0 np nq (own_p2 f2 ns nl))) = (own_gx f2 ns (own_p2 f2 ns nl) np (own_g0 np nq (own_p2 f2 ns nl))) := if_neg (fun z => absurd z.2.1 (Nat.not_le.mpr (own_ltn hq hs hc607_185)))
        have hg' : gv.toInt = ((own_g f2 ns (own_p2 f2 ns nl) np nq : Nat) : Int) := by rw [show own_g f2 ns (own_p2 f2 ns nl) np nq = own_gx f2 ns (own_p2 f2 ns nl) nq (own_gx f2 ns (own_p2 f2 ns nl) np (own_g0 np nq (own_p2 f2 ns nl))) from rfl, eg]; exact hgv
        exact j628 p1v ptv p2v dg xw bv gv T183 hp1 hpt hp2 hdg hxw hbv hg' X183 e183
      · have _ := X183
        refine own_by (T' := T183) (f' := (mkF m 610 (own_L2 i0 i1 i2 i3 i4 i5 b11 pv qv s0 lv b166 (own_fits xv dv sv) (.val (.int p1v)) (.val (.int ptv)) (.val (.int p2v)) (.val (.int dg)) (.val (.int xw)) (.val (.int bv)) (.val (.int gv)) (.unset) (.unset)) [])) (fun t k => XS.icmpNo X183.here hx rfl (hb hby at_607) rfl (flt hc607_185).2.2.1 k) ?_
        refine own_by (T' := T183) (f' := (mkF m 612 (own_L2 i0 i1 i2 i3 i4 i5 b11 pv qv s0 lv b166 (own_fits xv dv sv) (.val (.int p1v)) (.val (.int ptv)) (.val (.int p2v)) (.val (.int dg)) (.val (.int xw)) (.val (.int bv)) (.val (.int gv)) (.unset) (.unset)) [(.int qv)])) (fun t k => XS.iload X183.here hx rfl (hb hby at_610) rfl k) ?_
        refine own_by (T' := T183) (f' := (mkF m 614 (own_L2 i0 i1 i2 i3 i4 i5 b11 pv qv s0 lv b166 (own_fits xv dv sv) (.val (.int p1v)) (.val (.int ptv)) (.val (.int p2v)) (.val (.int dg)) (.val (.int xw)) (.val (.int bv)) (.val (.int gv)) (.unset) (.unset)) [(.int p2v), (.int qv)])) (fun t k => XS.iload X183.here hx rfl (hb hby at_612) rfl k) ?_
        by_cases hc614_186 : qv < p2v
        · have _ := X183
          refine own_by (T' := T183) (f' := (mkF m 617 (own_L2 i0 i1 i2 i3 i4 i5 b11 pv qv s0 lv b166 (own_fits xv dv sv) (.val (.int p1v)) (.val (.int ptv)) (.val (.int p2v)) (.val (.int dg)) (.val (.int xw)) (.val (.int bv)) (.val (.int gv)) (.unset) (.unset)) [])) (fun t k => XS.icmpNo X183.here hx rfl (hb hby at_614) rfl (tlt hc614_186).2.1 k) ?_
          refine own_by (T' := T183) (f' := (mkF m 619 (own_L2 i0 i1 i2 i3 i4 i5 b11 pv qv s0 lv b166 (own_fits xv dv sv) (.val (.int p1v)) (.val (.int ptv)) (.val (.int p2v)) (.val (.int dg)) (.val (.int xw)) (.val (.int bv)) (.val (.int gv)) (.unset) (.unset)) [(.int qv)])) (fun t k => XS.iload X183.here hx rfl (hb hby at_617) rfl k) ?_
          refine own_by (T' := T183) (f' := (mkF m 621 (own_L2 i0 i1 i2 i3 i4 i5 b11 pv qv s0 lv b166 (own_fits xv dv sv) (.val (.int p1v)) (.val (.int ptv)) (.val (.int p2v)) (.val (.int dg)) (.val (.int xw)) (.val (.int bv)) (.val (.int gv)) (.unset) (.unset)) [(.int gv), (.int qv)])) (fun t k => XS.iload X183.here hx rfl (hb hby at_619) rfl k) ?_
          by_cases hc621_187 : qv < gv
          · have _ := X183
            refine own_by (T' := T183) (f' := (mkF m 624 (own_L2 i0 i1 i2 i3 i4 i5 b11 pv qv s0 lv b166 (own_fits xv dv sv) (.val (.int p1v)) (.val (.int ptv)) (.val (.int p2v)) (.val (.int dg)) (.val (.int xw)) (.val (.int bv)) (.val (.int gv)) (.unset) (.unset)) [])) (fun t k => XS.icmpNo X183.here hx rfl (hb hby at_621) rfl (tlt hc621_187).2.1 k) ?_
            refine own_by (T' := T183) (f' := (mkF m 626 (own_L2 i0 i1 i2 i3 i4 i5 b11 pv qv s0 lv b166 (own_fits xv dv sv) (.val (.int p1v)) (.val (.int ptv)) (.val (.int p2v)) (.val (.int dg)) (.val (.int xw)) (.val (.int bv)) (.val (.int gv)) (.unset) (.unset)) [(.int qv)])) (fun t k => XS.iload X183.here hx rfl (hb hby at_624) rfl k) ?_
            refine own_by (T' := T183) (f' := (mkF m 628 (own_L2 i0 i1 i2 i3 i4 i5 b11 pv qv s0 lv b166 (own_fits xv dv sv) (.val (.int p1v)) (.val (.int ptv)) (.val (.int p2v)) (.val (.int dg)) (.val (.int xw)) (.val (.int bv)) (.val (.int qv)) (.unset) (.unset)) [])) (fun t k => XS.istore X183.here hx rfl (hb hby at_626) rfl (l' := #[.val (.int i0), .val (.int i1), .val (.int i2), .val (.int i3), .val (.int i4), .val (.int i5), .val (.ref b11), .val (.int pv), .val (.int qv), .val (.int s0), .val (.int lv), .val (.ref b166), .val (.int (own_fits xv dv sv)), .val (.int p1v), .val (.int ptv), .val (.int p2v), .val (.int dg), .val (.int xw), .val (.int bv), .val (.int qv), .unset, .unset]) rfl k) ?_
            have eg : own_gx f2 ns (own_p2 f2 ns nl) nq (own_gx f2 ns (own_p2 f2 ns nl) np (own_g0 np nq (own_p2 f2 ns nl))) = nq := if_pos ⟨(own_nzd01 _).resolve_left hc600_184, Nat.le_of_not_lt (own_nltn hq hs hc607_185), own_ltn hq hp2 hc614_186, own_ltn hq hgv hc621_187⟩
            have hg' : qv.toInt = ((own_g f2 ns (own_p2 f2 ns nl) np nq : Nat) : Int) := by rw [show own_g f2 ns (own_p2 f2 ns nl) np nq = own_gx f2 ns (own_p2 f2 ns nl) nq (own_gx f2 ns (own_p2 f2 ns nl) np (own_g0 np nq (own_p2 f2 ns nl))) from rfl, eg]; exact hq
            exact j628 p1v ptv p2v dg xw bv qv T183 hp1 hpt hp2 hdg hxw hbv hg' X183 e183
          · have _ := X183
            refine own_by (T' := T183) (f' := (mkF m 628 (own_L2 i0 i1 i2 i3 i4 i5 b11 pv qv s0 lv b166 (own_fits xv dv sv) (.val (.int p1v)) (.val (.int ptv)) (.val (.int p2v)) (.val (.int dg)) (.val (.int xw)) (.val (.int bv)) (.val (.int gv)) (.unset) (.unset)) [])) (fun t k => XS.icmpYes X183.here hx rfl (pc0 := 621) (pc' := 628) rfl (hb hby at_621) rfl (flt hc621_187).2.1 (by decide) (by decide) k) ?_
            have eg : own_gx f2 ns (own_p2 f2 ns nl) nq (own_gx f2 ns (own_p2 f2 ns nl) np (own_g0 np nq (own_p2 f2 ns nl))) = (own_gx f2 ns (own_p2 f2 ns nl) np (own_g0 np nq (own_p2 f2 ns nl))) := if_neg (fun z => own_nltn hq hgv hc621_187 z.2.2.2)
            have hg' : gv.toInt = ((own_g f2 ns (own_p2 f2 ns nl) np nq : Nat) : Int) := by rw [show own_g f2 ns (own_p2 f2 ns nl) np nq = own_gx f2 ns (own_p2 f2 ns nl) nq (own_gx f2 ns (own_p2 f2 ns nl) np (own_g0 np nq (own_p2 f2 ns nl))) from rfl, eg]; exact hgv
            exact j628 p1v ptv p2v dg xw bv gv T183 hp1 hpt hp2 hdg hxw hbv hg' X183 e183
        · have _ := X183
          refine own_by (T' := T183) (f' := (mkF m 628 (own_L2 i0 i1 i2 i3 i4 i5 b11 pv qv s0 lv b166 (own_fits xv dv sv) (.val (.int p1v)) (.val (.int ptv)) (.val (.int p2v)) (.val (.int dg)) (.val (.int xw)) (.val (.int bv)) (.val (.int gv)) (.unset) (.unset)) [])) (fun t k => XS.icmpYes X183.here hx rfl (pc0 := 614) (pc' := 628) rfl (hb hby at_614) rfl (flt hc614_186).2.1 (by decide) (by decide) k) ?_
          have eg : own_gx f2 ns (own_p2 f2 ns nl) nq (own_gx f2 ns (own_p2 f2 ns nl) np (own_g0 np nq (own_p2 f2 ns nl))) = (own_gx f2 ns (own_p2 f2 ns nl) np (own_g0 np nq (own_p2 f2 ns nl))) := if_neg (fun z => own_nltn hq hp2 hc614_186 z.2.2.1)
          have hg' : gv.toInt = ((own_g f2 ns (own_p2 f2 ns nl) np nq : Nat) : Int) := by rw [show own_g f2 ns (own_p2 f2 ns nl) np nq = own_gx f2 ns (own_p2 f2 ns nl) nq (own_gx f2 ns (own_p2 f2 ns nl) np (own_g0 np nq (own_p2 f2 ns nl))) from rfl, eg]; exact hgv
          exact j628 p1v ptv p2v dg xw bv gv T183 hp1 hpt hp2 hdg hxw hbv hg' X183 e183
  have j556 : ∀ (p1v ptv p2v dg xw bv gv : Int32) (TL : State), p1v.toInt = ((own_p1 f2 ns nl : Nat) : Int) → ptv = (if own_pnt f2 ns nl then 1 else 0) → p2v.toInt = ((own_p2 f2 ns nl : Nat) : Int) → dg = dv → xw = xv → bv.toInt = ((own_bb np nq : Nat) : Int) → gv.toInt = ((own_g0 np nq (own_p2 f2 ns nl) : Nat) : Int) → Stand p l e room_1 s m #[(.int i0), (.int i1), (.int i2), (.int i3), (.int i4), (.int i5)] below meth c TL LL 2 62 → TL.heap = T171.heap → own_Go p e below (own_Ends s room_1 (fun v h L => v = some (.int 1) ∧ Fr n0 L)) TL (mkF m 556 (own_L2 i0 i1 i2 i3 i4 i5 b11 pv qv s0 lv b166 (own_fits xv dv sv) (.val (.int p1v)) (.val (.int ptv)) (.val (.int p2v)) (.val (.int dg)) (.val (.int xw)) (.val (.int bv)) (.val (.int gv)) (.unset) (.unset)) []) := by
    intro p1v ptv p2v dg xw bv gv TL hp1 hpt hp2 hdg hxw hbv hgv XL eL
    refine own_by (T' := TL) (f' := (mkF m 558 (own_L2 i0 i1 i2 i3 i4 i5 b11 pv qv s0 lv b166 (own_fits xv dv sv) (.val (.int p1v)) (.val (.int ptv)) (.val (.int p2v)) (.val (.int dg)) (.val (.int xw)) (.val (.int bv)) (.val (.int gv)) (.unset) (.unset)) [(.ref b11)])) (fun t k => XS.aload XL.here hx rfl (hb hby at_556) rfl rfl k) ?_
    refine own_by (T' := TL) (f' := (mkF m 560 (own_L2 i0 i1 i2 i3 i4 i5 b11 pv qv s0 lv b166 (own_fits xv dv sv) (.val (.int p1v)) (.val (.int ptv)) (.val (.int p2v)) (.val (.int dg)) (.val (.int xw)) (.val (.int bv)) (.val (.int gv)) (.unset) (.unset)) [(.int pv), (.ref b11)])) (fun t k => XS.iload XL.here hx rfl (hb hby at_558) rfl k) ?_
    refine own_ldC XL hx hZ eL (hb hby at_560) f175 (by omega) (by omega) ?_
    rw [show pv.toInt.toNat = np from by omega]
    show own_Go p e below _ TL (mkF m 561 (own_L2 i0 i1 i2 i3 i4 i5 b11 pv qv s0 lv b166 (own_fits xv dv sv) (.val (.int p1v)) (.val (.int ptv)) (.val (.int p2v)) (.val (.int dg)) (.val (.int xw)) (.val (.int bv)) (.val (.int gv)) (.unset) (.unset)) [(.int (f2 np))])
    refine own_callS XL hx hZ hown eL (hb hby at_561) [(.int (f2 np))] [] 0 (rmNZ l Z a0 hw [] (f2 np) T171.heap) (own_w hw 66 rfl) (own_w hw 67 rfl) (own_w hw 4 rfl) (own_w hw 68 rfl) (by decide) pd__C_Z (by rw [hml]; rfl) rfl rfl (Nat.le_of_eq rfl) (by decide) (by decide) (by decide) (by decide) ?_
    rintro T188 _ L188 X188 ⟨rfl, rfl, e188⟩
    show own_Go p e below _ T188 (mkF m 564 (own_L2 i0 i1 i2 i3 i4 i5 b11 pv qv s0 lv b166 (own_fits xv dv sv) (.val (.int p1v)) (.val (.int ptv)) (.val (.int p2v)) (.val (.int dg)) (.val (.int xw)) (.val (.int bv)) (.val (.int gv)) (.unset) (.unset)) [(.int (own_nzd (f2 np)))])
    rw [List.append_nil] at X188
    by_cases hc564_189 : (own_nzd (f2 np)) = (0 : Int32)
    · have _ := X188
      refine own_by (T' := T188) (f' := (mkF m 592 (own_L2 i0 i1 i2 i3 i4 i5 b11 pv qv s0 lv b166 (own_fits xv dv sv) (.val (.int p1v)) (.val (.int ptv)) (.val (.int p2v)) (.val (.int dg)) (.val (.int xw)) (.val (.int bv)) (.val (.int gv)) (.unset) (.unset)) [])) (fun t k => XS.ifYes X188.here hx rfl (pc0 := 564) (pc' := 592) rfl (hb hby at_564) rfl ((if0 _ _).trans (teq hc564_189).1) (by decide) (by decide) k) ?_
      have eg : own_gx f2 ns (own_p2 f2 ns nl) np (own_g0 np nq (own_p2 f2 ns nl)) = (own_g0 np nq (own_p2 f2 ns nl)) := if_neg (fun z => absurd (z.1.symm.trans hc564_189) (by decide))
      have hg' : gv.toInt = ((own_gx f2 ns (own_p2 f2 ns nl) np (own_g0 np nq (own_p2 f2 ns nl)) : Nat) : Int) := by rw [show own_gx f2 ns (own_p2 f2 ns nl) np (own_g0 np nq (own_p2 f2 ns nl)) = own_gx f2 ns (own_p2 f2 ns nl) np (own_g0 np nq (own_p2 f2 ns nl)) from rfl, eg]; exact hgv
      exact j592 p1v ptv p2v dg xw bv gv T188 hp1 hpt hp2 hdg hxw hbv hg' X188 e188
    · have _ := X188
      refine own_by (T' := T188) (f' := (mkF m 567 (own_L2 i0 i1 i2 i3 i4 i5 b11 pv qv s0 lv b166 (own_fits xv dv sv) (.val (.int p1v)) (.val (.int ptv)) (.val (.int p2v)) (.val (.int dg)) (.val (.int xw)) (.val (.int bv)) (.val (.int gv)) (.unset) (.unset)) [])) (fun t k => XS.ifNo X188.here hx rfl (hb hby at_564) rfl ((if0 _ _).trans (feq hc564_189).1) k) ?_
      refine own_by (T' := T188) (f' := (mkF m 569 (own_L2 i0 i1 i2 i3 i4 i5 b11 pv qv s0 lv b166 (own_fits xv dv sv) (.val (.int p1v)) (.val (.int ptv)) (.val (.int p2v)) (.val (.int dg)) (.val (.int xw)) (.val (.int bv)) (.val (.int gv)) (.unset) (.unset)) [(.int s0)])) (fun t k => XS.iload X188.here hx rfl (hb hby at_567) rfl k) ?_
      refine own_by (T' := T188) (f' := (mkF m 571 (own_L2 i0 i1 i2 i3 i4 i5 b11 pv qv s0 lv b166 (own_fits xv dv sv) (.val (.int p1v)) (.val (.int ptv)) (.val (.int p2v)) (.val (.int dg)) (.val (.int xw)) (.val (.int bv)) (.val (.int gv)) (.unset) (.unset)) [(.int pv), (.int s0)])) (fun t k => XS.iload X188.here hx rfl (hb hby at_569) rfl k) ?_
      by_cases hc571_190 : pv < s0
      · have _ := X188
        refine own_by (T' := T188) (f' := (mkF m 592 (own_L2 i0 i1 i2 i3 i4 i5 b11 pv qv s0 lv b166 (own_fits xv dv sv) (.val (.int p1v)) (.val (.int ptv)) (.val (.int p2v)) (.val (.int dg)) (.val (.int xw)) (.val (.int bv)) (.val (.int gv)) (.unset) (.unset)) [])) (fun t k => XS.icmpYes X188.here hx rfl (pc0 := 571) (pc' := 592) rfl (hb hby at_571) rfl (tlt hc571_190).2.2.1 (by decide) (by decide) k) ?_
        have eg : own_gx f2 ns (own_p2 f2 ns nl) np (own_g0 np nq (own_p2 f2 ns nl)) = (own_g0 np nq (own_p2 f2 ns nl)) := if_neg (fun z => absurd z.2.1 (Nat.not_le.mpr (own_ltn hp hs hc571_190)))
        have hg' : gv.toInt = ((own_gx f2 ns (own_p2 f2 ns nl) np (own_g0 np nq (own_p2 f2 ns nl)) : Nat) : Int) := by rw [show own_gx f2 ns (own_p2 f2 ns nl) np (own_g0 np nq (own_p2 f2 ns nl)) = own_gx f2 ns (own_p2 f2 ns nl) np (own_g0 np nq (own_p2 f2 ns nl)) from rfl, eg]; exact hgv
        exact j592 p1v ptv p2v dg xw bv gv T188 hp1 hpt hp2 hdg hxw hbv hg' X188 e188
      · have _ := X188
        refine own_by (T' := T188) (f' := (mkF m 574 (own_L2 i0 i1 i2 i3 i4 i5 b11 pv qv s0 lv b166 (own_fits xv dv sv) (.val (.int p1v)) (.val (.int ptv)) (.val (.int p2v)) (.val (.int dg)) (.val (.int xw)) (.val (.int bv)) (.val (.int gv)) (.unset) (.unset)) [])) (fun t k => XS.icmpNo X188.here hx rfl (hb hby at_571) rfl (flt hc571_190).2.2.1 k) ?_
        refine own_by (T' := T188) (f' := (mkF m 576 (own_L2 i0 i1 i2 i3 i4 i5 b11 pv qv s0 lv b166 (own_fits xv dv sv) (.val (.int p1v)) (.val (.int ptv)) (.val (.int p2v)) (.val (.int dg)) (.val (.int xw)) (.val (.int bv)) (.val (.int gv)) (.unset) (.unset)) [(.int pv)])) (fun t k => XS.iload X188.here hx rfl (hb hby at_574) rfl k) ?_
        refine own_by (T' := T188) (f' := (mkF m 578 (own_L2 i0 i1 i2 i3 i4 i5 b11 pv qv s0 lv b166 (own_fits xv dv sv) (.val (.int p1v)) (.val (.int ptv)) (.val (.int p2v)) (.val (.int dg)) (.val (.int xw)) (.val (.int bv)) (.val (.int gv)) (.unset) (.unset)) [(.int p2v), (.int pv)])) (fun t k => XS.iload X188.here hx rfl (hb hby at_576) rfl k) ?_
        by_cases hc578_191 : pv < p2v
        · have _ := X188
          refine own_by (T' := T188) (f' := (mkF m 581 (own_L2 i0 i1 i2 i3 i4 i5 b11 pv qv s0 lv b166 (own_fits xv dv sv) (.val (.int p1v)) (.val (.int ptv)) (.val (.int p2v)) (.val (.int dg)) (.val (.int xw)) (.val (.int bv)) (.val (.int gv)) (.unset) (.unset)) [])) (fun t k => XS.icmpNo X188.here hx rfl (hb hby at_578) rfl (tlt hc578_191).2.1 k) ?_
          refine own_by (T' := T188) (f' := (mkF m 583 (own_L2 i0 i1 i2 i3 i4 i5 b11 pv qv s0 lv b166 (own_fits xv dv sv) (.val (.int p1v)) (.val (.int ptv)) (.val (.int p2v)) (.val (.int dg)) (.val (.int xw)) (.val (.int bv)) (.val (.int gv)) (.unset) (.unset)) [(.int pv)])) (fun t k => XS.iload X188.here hx rfl (hb hby at_581) rfl k) ?_
          refine own_by (T' := T188) (f' := (mkF m 585 (own_L2 i0 i1 i2 i3 i4 i5 b11 pv qv s0 lv b166 (own_fits xv dv sv) (.val (.int p1v)) (.val (.int ptv)) (.val (.int p2v)) (.val (.int dg)) (.val (.int xw)) (.val (.int bv)) (.val (.int gv)) (.unset) (.unset)) [(.int gv), (.int pv)])) (fun t k => XS.iload X188.here hx rfl (hb hby at_583) rfl k) ?_
          by_cases hc585_192 : pv < gv
          · have _ := X188
            refine own_by (T' := T188) (f' := (mkF m 588 (own_L2 i0 i1 i2 i3 i4 i5 b11 pv qv s0 lv b166 (own_fits xv dv sv) (.val (.int p1v)) (.val (.int ptv)) (.val (.int p2v)) (.val (.int dg)) (.val (.int xw)) (.val (.int bv)) (.val (.int gv)) (.unset) (.unset)) [])) (fun t k => XS.icmpNo X188.here hx rfl (hb hby at_585) rfl (tlt hc585_192).2.1 k) ?_
            refine own_by (T' := T188) (f' := (mkF m 590 (own_L2 i0 i1 i2 i3 i4 i5 b11 pv qv s0 lv b166 (own_fits xv dv sv) (.val (.int p1v)) (.val (.int ptv)) (.val (.int p2v)) (.val (.int dg)) (.val (.int xw)) (.val (.int bv)) (.val (.int gv)) (.unset) (.unset)) [(.int pv)])) (fun t k => XS.iload X188.here hx rfl (hb hby at_588) rfl k) ?_
            refine own_by (T' := T188) (f' := (mkF m 592 (own_L2 i0 i1 i2 i3 i4 i5 b11 pv qv s0 lv b166 (own_fits xv dv sv) (.val (.int p1v)) (.val (.int ptv)) (.val (.int p2v)) (.val (.int dg)) (.val (.int xw)) (.val (.int bv)) (.val (.int pv)) (.unset) (.unset)) [])) (fun t k => XS.istore X188.here hx rfl (hb hby at_590) rfl (l' := #[.val (.int i0), .val (.int i1), .val (.int i2), .val (.int i3), .val (.int i4), .val (.int i5), .val (.ref b11), .val (.int pv), .val (.int qv), .val (.int s0), .val (.int lv), .val (.ref b166), .val (.int (own_fits xv dv sv)), .val (.int p1v), .val (.int ptv), .val (.int p2v), .val (.int dg), .val (.int xw), .val (.int bv), .val (.int pv), .unset, .unset]) rfl k) ?_
            have eg : own_gx f2 ns (own_p2 f2 ns nl) np (own_g0 np nq (own_p2 f2 ns nl)) = np := if_pos ⟨(own_nzd01 _).resolve_left hc564_189, Nat.le_of_not_lt (own_nltn hp hs hc571_190), own_ltn hp hp2 hc578_191, own_ltn hp hgv hc585_192⟩
            have hg' : pv.toInt = ((own_gx f2 ns (own_p2 f2 ns nl) np (own_g0 np nq (own_p2 f2 ns nl)) : Nat) : Int) := by rw [show own_gx f2 ns (own_p2 f2 ns nl) np (own_g0 np nq (own_p2 f2 ns nl)) = own_gx f2 ns (own_p2 f2 ns nl) np (own_g0 np nq (own_p2 f2 ns nl)) from rfl, eg]; exact hp
            exact j592 p1v ptv p2v dg xw bv pv T188 hp1 hpt hp2 hdg hxw hbv hg' X188 e188
          · have _ := X188
            refine own_by (T' := T188) (f' := (mkF m 592 (own_L2 i0 i1 i2 i3 i4 i5 b11 pv qv s0 lv b166 (own_fits xv dv sv) (.val (.int p1v)) (.val (.int ptv)) (.val (.int p2v)) (.val (.int dg)) (.val (.int xw)) (.val (.int bv)) (.val (.int gv)) (.unset) (.unset)) [])) (fun t k => XS.icmpYes X188.here hx rfl (pc0 := 585) (pc' := 592) rfl (hb hby at_585) rfl (flt hc585_192).2.1 (by decide) (by decide) k) ?_
            have eg : own_gx f2 ns (own_p2 f2 ns nl) np (own_g0 np nq (own_p2 f2 ns nl)) = (own_g0 np nq (own_p2 f2 ns nl)) := if_neg (fun z => own_nltn hp hgv hc585_192 z.2.2.2)
            have hg' : gv.toInt = ((own_gx f2 ns (own_p2 f2 ns nl) np (own_g0 np nq (own_p2 f2 ns nl)) : Nat) : Int) := by rw [show own_gx f2 ns (own_p2 f2 ns nl) np (own_g0 np nq (own_p2 f2 ns nl)) = own_gx f2 ns (own_p2 f2 ns nl) np (own_g0 np nq (own_p2 f2 ns nl)) from rfl, eg]; exact hgv
            exact j592 p1v ptv p2v dg xw bv gv T188 hp1 hpt hp2 hdg hxw hbv hg' X188 e188
        · have _ := X188
          refine own_by (T' := T188) (f' := (mkF m 592 (own_L2 i0 i1 i2 i3 i4 i5 b11 pv qv s0 lv b166 (own_fits xv dv sv) (.val (.int p1v)) (.val (.int ptv)) (.val (.int p2v)) (.val (.int dg)) (.val (.int xw)) (.val (.int bv)) (.val (.int gv)) (.unset) (.unset)) [])) (fun t k => XS.icmpYes X188.here hx rfl (pc0 := 578) (pc' := 592) rfl (hb hby at_578) rfl (flt hc578_191).2.1 (by decide) (by decide) k) ?_
          have eg : own_gx f2 ns (own_p2 f2 ns nl) np (own_g0 np nq (own_p2 f2 ns nl)) = (own_g0 np nq (own_p2 f2 ns nl)) := if_neg (fun z => own_nltn hp hp2 hc578_191 z.2.2.1)
          have hg' : gv.toInt = ((own_gx f2 ns (own_p2 f2 ns nl) np (own_g0 np nq (own_p2 f2 ns nl)) : Nat) : Int) := by rw [show own_gx f2 ns (own_p2 f2 ns nl) np (own_g0 np nq (own_p2 f2 ns nl)) = own_gx f2 ns (own_p2 f2 ns nl) np (own_g0 np nq (own_p2 f2 ns nl)) from rfl, eg]; exact hgv
          exact j592 p1v ptv p2v dg xw bv gv T188 hp1 hpt hp2 hdg hxw hbv hg' X188 e188
  have j541 : ∀ (p1v ptv p2v dg xw bv : Int32) (TL : State), p1v.toInt = ((own_p1 f2 ns nl : Nat) : Int) → ptv = (if own_pnt f2 ns nl then 1 else 0) → p2v.toInt = ((own_p2 f2 ns nl : Nat) : Int) → dg = dv → xw = xv → bv.toInt = ((own_bb np nq : Nat) : Int) → Stand p l e room_1 s m #[(.int i0), (.int i1), (.int i2), (.int i3), (.int i4), (.int i5)] below meth c TL LL 2 62 → TL.heap = T171.heap → own_Go p e below (own_Ends s room_1 (fun v h L => v = some (.int 1) ∧ Fr n0 L)) TL (mkF m 541 (own_L2 i0 i1 i2 i3 i4 i5 b11 pv qv s0 lv b166 (own_fits xv dv sv) (.val (.int p1v)) (.val (.int ptv)) (.val (.int p2v)) (.val (.int dg)) (.val (.int xw)) (.val (.int bv)) (.unset) (.unset) (.unset)) []) := by
    intro p1v ptv p2v dg xw bv TL hp1 hpt hp2 hdg hxw hbv XL eL
    refine own_by (T' := TL) (f' := (mkF m 543 (own_L2 i0 i1 i2 i3 i4 i5 b11 pv qv s0 lv b166 (own_fits xv dv sv) (.val (.int p1v)) (.val (.int ptv)) (.val (.int p2v)) (.val (.int dg)) (.val (.int xw)) (.val (.int bv)) (.unset) (.unset) (.unset)) [(.int (48 : Int32))])) (fun t k => XS.bipush XL.here hx rfl (hb hby at_541) k) ?_
    refine own_by (T' := TL) (f' := (mkF m 545 (own_L2 i0 i1 i2 i3 i4 i5 b11 pv qv s0 lv b166 (own_fits xv dv sv) (.val (.int p1v)) (.val (.int ptv)) (.val (.int p2v)) (.val (.int dg)) (.val (.int xw)) (.val (.int bv)) (.val (.int (48 : Int32))) (.unset) (.unset)) [])) (fun t k => XS.istore XL.here hx rfl (hb hby at_543) rfl (l' := #[.val (.int i0), .val (.int i1), .val (.int i2), .val (.int i3), .val (.int i4), .val (.int i5), .val (.ref b11), .val (.int pv), .val (.int qv), .val (.int s0), .val (.int lv), .val (.ref b166), .val (.int (own_fits xv dv sv)), .val (.int p1v), .val (.int ptv), .val (.int p2v), .val (.int dg), .val (.int xw), .val (.int bv), .val (.int (48 : Int32)), .unset, .unset]) rfl k) ?_
    refine own_by (T' := TL) (f' := (mkF m 547 (own_L2 i0 i1 i2 i3 i4 i5 b11 pv qv s0 lv b166 (own_fits xv dv sv) (.val (.int p1v)) (.val (.int ptv)) (.val (.int p2v)) (.val (.int dg)) (.val (.int xw)) (.val (.int bv)) (.val (.int (48 : Int32))) (.unset) (.unset)) [(.int bv)])) (fun t k => XS.iload XL.here hx rfl (hb hby at_545) rfl k) ?_
    refine own_by (T' := TL) (f' := (mkF m 549 (own_L2 i0 i1 i2 i3 i4 i5 b11 pv qv s0 lv b166 (own_fits xv dv sv) (.val (.int p1v)) (.val (.int ptv)) (.val (.int p2v)) (.val (.int dg)) (.val (.int xw)) (.val (.int bv)) (.val (.int (48 : Int32))) (.unset) (.unset)) [(.int p2v), (.int bv)])) (fun t k => XS.iload XL.here hx rfl (hb hby at_547) rfl k) ?_
    by_cases hc549_193 : bv < p2v
    · have _ := XL
      refine own_by (T' := TL) (f' := (mkF m 552 (own_L2 i0 i1 i2 i3 i4 i5 b11 pv qv s0 lv b166 (own_fits xv dv sv) (.val (.int p1v)) (.val (.int ptv)) (.val (.int p2v)) (.val (.int dg)) (.val (.int xw)) (.val (.int bv)) (.val (.int (48 : Int32))) (.unset) (.unset)) [])) (fun t k => XS.icmpNo XL.here hx rfl (hb hby at_549) rfl (tlt hc549_193).2.1 k) ?_
      refine own_by (T' := TL) (f' := (mkF m 554 (own_L2 i0 i1 i2 i3 i4 i5 b11 pv qv s0 lv b166 (own_fits xv dv sv) (.val (.int p1v)) (.val (.int ptv)) (.val (.int p2v)) (.val (.int dg)) (.val (.int xw)) (.val (.int bv)) (.val (.int (48 : Int32))) (.unset) (.unset)) [(.int bv)])) (fun t k => XS.iload XL.here hx rfl (hb hby at_552) rfl k) ?_
      refine own_by (T' := TL) (f' := (mkF m 556 (own_L2 i0 i1 i2 i3 i4 i5 b11 pv qv s0 lv b166 (own_fits xv dv sv) (.val (.int p1v)) (.val (.int ptv)) (.val (.int p2v)) (.val (.int dg)) (.val (.int xw)) (.val (.int bv)) (.val (.int bv)) (.unset) (.unset)) [])) (fun t k => XS.istore XL.here hx rfl (hb hby at_554) rfl (l' := #[.val (.int i0), .val (.int i1), .val (.int i2), .val (.int i3), .val (.int i4), .val (.int i5), .val (.ref b11), .val (.int pv), .val (.int qv), .val (.int s0), .val (.int lv), .val (.ref b166), .val (.int (own_fits xv dv sv)), .val (.int p1v), .val (.int ptv), .val (.int p2v), .val (.int dg), .val (.int xw), .val (.int bv), .val (.int bv), .unset, .unset]) rfl k) ?_
      have hg' : bv.toInt = ((own_g0 np nq (own_p2 f2 ns nl) : Nat) : Int) := by rw [own_g0, if_pos (own_ltn hbv hp2 hc549_193)]; exact hbv
      exact j556 p1v ptv p2v dg xw bv bv TL hp1 hpt hp2 hdg hxw hbv hg' XL eL
    · have _ := XL
      refine own_by (T' := TL) (f' := (mkF m 556 (own_L2 i0 i1 i2 i3 i4 i5 b11 pv qv s0 lv b166 (own_fits xv dv sv) (.val (.int p1v)) (.val (.int ptv)) (.val (.int p2v)) (.val (.int dg)) (.val (.int xw)) (.val (.int bv)) (.val (.int (48 : Int32))) (.unset) (.unset)) [])) (fun t k => XS.icmpYes XL.here hx rfl (pc0 := 549) (pc' := 556) rfl (hb hby at_549) rfl (flt hc549_193).2.1 (by decide) (by decide) k) ?_
      have hg' : (48 : Int32).toInt = ((own_g0 np nq (own_p2 f2 ns nl) : Nat) : Int) := by rw [own_g0, if_neg (own_nltn hbv hp2 hc549_193)]; exact (by decide)
      exact j556 p1v ptv p2v dg xw bv (48 : Int32) TL hp1 hpt hp2 hdg hxw hbv hg' XL eL
  have j504 : ∀ (p1v ptv p2v dg xw : Int32) (TL : State), p1v.toInt = ((own_p1 f2 ns nl : Nat) : Int) → ptv = (if own_pnt f2 ns nl then 1 else 0) → p2v.toInt = ((own_p2 f2 ns nl : Nat) : Int) → dg = dv → xw = xv → Stand p l e room_1 s m #[(.int i0), (.int i1), (.int i2), (.int i3), (.int i4), (.int i5)] below meth c TL LL 2 62 → TL.heap = T171.heap → own_Go p e below (own_Ends s room_1 (fun v h L => v = some (.int 1) ∧ Fr n0 L)) TL (mkF m 504 (own_L2 i0 i1 i2 i3 i4 i5 b11 pv qv s0 lv b166 (own_fits xv dv sv) (.val (.int p1v)) (.val (.int ptv)) (.val (.int p2v)) (.val (.int dg)) (.val (.int xw)) (.unset) (.unset) (.unset) (.unset)) []) := by
    intro p1v ptv p2v dg xw TL hp1 hpt hp2 hdg hxw XL eL
    refine own_by (T' := TL) (f' := (mkF m 505 (own_L2 i0 i1 i2 i3 i4 i5 b11 pv qv s0 lv b166 (own_fits xv dv sv) (.val (.int p1v)) (.val (.int ptv)) (.val (.int p2v)) (.val (.int dg)) (.val (.int xw)) (.unset) (.unset) (.unset) (.unset)) [(.int (4 : Int32))])) (fun t k => XS.iconst XL.here hx rfl (hb hby at_504) k) ?_
    refine own_by (T' := TL) (f' := (mkF m 507 (own_L2 i0 i1 i2 i3 i4 i5 b11 pv qv s0 lv b166 (own_fits xv dv sv) (.val (.int p1v)) (.val (.int ptv)) (.val (.int p2v)) (.val (.int dg)) (.val (.int xw)) (.val (.int (4 : Int32))) (.unset) (.unset) (.unset)) [])) (fun t k => XS.istore XL.here hx rfl (hb hby at_505) rfl (l' := #[.val (.int i0), .val (.int i1), .val (.int i2), .val (.int i3), .val (.int i4), .val (.int i5), .val (.ref b11), .val (.int pv), .val (.int qv), .val (.int s0), .val (.int lv), .val (.ref b166), .val (.int (own_fits xv dv sv)), .val (.int p1v), .val (.int ptv), .val (.int p2v), .val (.int dg), .val (.int xw), .val (.int (4 : Int32)), .unset, .unset, .unset]) rfl k) ?_
    refine own_by (T' := TL) (f' := (mkF m 509 (own_L2 i0 i1 i2 i3 i4 i5 b11 pv qv s0 lv b166 (own_fits xv dv sv) (.val (.int p1v)) (.val (.int ptv)) (.val (.int p2v)) (.val (.int dg)) (.val (.int xw)) (.val (.int (4 : Int32))) (.unset) (.unset) (.unset)) [(.int (4 : Int32))])) (fun t k => XS.iload XL.here hx rfl (hb hby at_507) rfl k) ?_
    refine own_by (T' := TL) (f' := (mkF m 511 (own_L2 i0 i1 i2 i3 i4 i5 b11 pv qv s0 lv b166 (own_fits xv dv sv) (.val (.int p1v)) (.val (.int ptv)) (.val (.int p2v)) (.val (.int dg)) (.val (.int xw)) (.val (.int (4 : Int32))) (.unset) (.unset) (.unset)) [(.int pv), (.int (4 : Int32))])) (fun t k => XS.iload XL.here hx rfl (hb hby at_509) rfl k) ?_
    by_cases hc511_194 : (4 : Int32) = pv
    · have _ := XL
      refine own_by (T' := TL) (f' := (mkF m 521 (own_L2 i0 i1 i2 i3 i4 i5 b11 pv qv s0 lv b166 (own_fits xv dv sv) (.val (.int p1v)) (.val (.int ptv)) (.val (.int p2v)) (.val (.int dg)) (.val (.int xw)) (.val (.int (4 : Int32))) (.unset) (.unset) (.unset)) [])) (fun t k => XS.icmpYes XL.here hx rfl (pc0 := 511) (pc' := 521) rfl (hb hby at_511) rfl (teq hc511_194).1 (by decide) (by decide) k) ?_
      refine own_by (T' := TL) (f' := (mkF m 524 (own_L2 i0 i1 i2 i3 i4 i5 b11 pv qv s0 lv b166 (own_fits xv dv sv) (.val (.int p1v)) (.val (.int ptv)) (.val (.int p2v)) (.val (.int dg)) (.val (.int xw)) (.val (.int (5 : Int32))) (.unset) (.unset) (.unset)) [])) (fun t k => XS.iinc XL.here hx rfl (hb hby at_521) rfl (l' := #[.val (.int i0), .val (.int i1), .val (.int i2), .val (.int i3), .val (.int i4), .val (.int i5), .val (.ref b11), .val (.int pv), .val (.int qv), .val (.int s0), .val (.int lv), .val (.ref b166), .val (.int (own_fits xv dv sv)), .val (.int p1v), .val (.int ptv), .val (.int p2v), .val (.int dg), .val (.int xw), .val (.int (5 : Int32)), .unset, .unset, .unset]) rfl k) ?_
      refine own_by (T' := TL) (f' := (mkF m 526 (own_L2 i0 i1 i2 i3 i4 i5 b11 pv qv s0 lv b166 (own_fits xv dv sv) (.val (.int p1v)) (.val (.int ptv)) (.val (.int p2v)) (.val (.int dg)) (.val (.int xw)) (.val (.int (5 : Int32))) (.unset) (.unset) (.unset)) [(.int (5 : Int32))])) (fun t k => XS.iload XL.here hx rfl (hb hby at_524) rfl k) ?_
      refine own_by (T' := TL) (f' := (mkF m 528 (own_L2 i0 i1 i2 i3 i4 i5 b11 pv qv s0 lv b166 (own_fits xv dv sv) (.val (.int p1v)) (.val (.int ptv)) (.val (.int p2v)) (.val (.int dg)) (.val (.int xw)) (.val (.int (5 : Int32))) (.unset) (.unset) (.unset)) [(.int pv), (.int (5 : Int32))])) (fun t k => XS.iload XL.here hx rfl (hb hby at_526) rfl k) ?_
      by_cases hc528_195 : (5 : Int32) = pv
      · have _ := XL
        refine own_by (T' := TL) (f' := (mkF m 538 (own_L2 i0 i1 i2 i3 i4 i5 b11 pv qv s0 lv b166 (own_fits xv dv sv) (.val (.int p1v)) (.val (.int ptv)) (.val (.int p2v)) (.val (.int dg)) (.val (.int xw)) (.val (.int (5 : Int32))) (.unset) (.unset) (.unset)) [])) (fun t k => XS.icmpYes XL.here hx rfl (pc0 := 528) (pc' := 538) rfl (hb hby at_528) rfl (teq hc528_195).1 (by decide) (by decide) k) ?_
        refine own_by (T' := TL) (f' := (mkF m 541 (own_L2 i0 i1 i2 i3 i4 i5 b11 pv qv s0 lv b166 (own_fits xv dv sv) (.val (.int p1v)) (.val (.int ptv)) (.val (.int p2v)) (.val (.int dg)) (.val (.int xw)) (.val (.int (6 : Int32))) (.unset) (.unset) (.unset)) [])) (fun t k => XS.iinc XL.here hx rfl (hb hby at_538) rfl (l' := #[.val (.int i0), .val (.int i1), .val (.int i2), .val (.int i3), .val (.int i4), .val (.int i5), .val (.ref b11), .val (.int pv), .val (.int qv), .val (.int s0), .val (.int lv), .val (.ref b166), .val (.int (own_fits xv dv sv)), .val (.int p1v), .val (.int ptv), .val (.int p2v), .val (.int dg), .val (.int xw), .val (.int (6 : Int32)), .unset, .unset, .unset]) rfl k) ?_
        have z4_196 : (4 : Int32).toInt = ((4 : Nat) : Int) := by decide
        have z5_196 : (5 : Int32).toInt = ((5 : Nat) : Int) := by decide
        have b0196 : own_b0 np nq = 5 := if_pos (Or.inl (own_eqn z4_196 hp hc511_194))
        have b1196 : own_bb np nq = 6 := by rw [own_bb, b0196, if_pos (Or.inl (own_eqn z5_196 hp hc528_195))]
        have hb196 : (6 : Int32).toInt = ((own_bb np nq : Nat) : Int) := by rw [b1196]; decide
        exact j541 p1v ptv p2v dg xw (6 : Int32) TL hp1 hpt hp2 hdg hxw hb196 XL eL
      · have _ := XL
        refine own_by (T' := TL) (f' := (mkF m 531 (own_L2 i0 i1 i2 i3 i4 i5 b11 pv qv s0 lv b166 (own_fits xv dv sv) (.val (.int p1v)) (.val (.int ptv)) (.val (.int p2v)) (.val (.int dg)) (.val (.int xw)) (.val (.int (5 : Int32))) (.unset) (.unset) (.unset)) [])) (fun t k => XS.icmpNo XL.here hx rfl (hb hby at_528) rfl (feq hc528_195).1 k) ?_
        refine own_by (T' := TL) (f' := (mkF m 533 (own_L2 i0 i1 i2 i3 i4 i5 b11 pv qv s0 lv b166 (own_fits xv dv sv) (.val (.int p1v)) (.val (.int ptv)) (.val (.int p2v)) (.val (.int dg)) (.val (.int xw)) (.val (.int (5 : Int32))) (.unset) (.unset) (.unset)) [(.int (5 : Int32))])) (fun t k => XS.iload XL.here hx rfl (hb hby at_531) rfl k) ?_
        refine own_by (T' := TL) (f' := (mkF m 535 (own_L2 i0 i1 i2 i3 i4 i5 b11 pv qv s0 lv b166 (own_fits xv dv sv) (.val (.int p1v)) (.val (.int ptv)) (.val (.int p2v)) (.val (.int dg)) (.val (.int xw)) (.val (.int (5 : Int32))) (.unset) (.unset) (.unset)) [(.int qv), (.int (5 : Int32))])) (fun t k => XS.iload XL.here hx rfl (hb hby at_533) rfl k) ?_
        by_cases hc535_197 : (5 : Int32) = qv
        · have _ := XL
          refine own_by (T' := TL) (f' := (mkF m 538 (own_L2 i0 i1 i2 i3 i4 i5 b11 pv qv s0 lv b166 (own_fits xv dv sv) (.val (.int p1v)) (.val (.int ptv)) (.val (.int p2v)) (.val (.int dg)) (.val (.int xw)) (.val (.int (5 : Int32))) (.unset) (.unset) (.unset)) [])) (fun t k => XS.icmpNo XL.here hx rfl (hb hby at_535) rfl (teq hc535_197).2 k) ?_
          refine own_by (T' := TL) (f' := (mkF m 541 (own_L2 i0 i1 i2 i3 i4 i5 b11 pv qv s0 lv b166 (own_fits xv dv sv) (.val (.int p1v)) (.val (.int ptv)) (.val (.int p2v)) (.val (.int dg)) (.val (.int xw)) (.val (.int (6 : Int32))) (.unset) (.unset) (.unset)) [])) (fun t k => XS.iinc XL.here hx rfl (hb hby at_538) rfl (l' := #[.val (.int i0), .val (.int i1), .val (.int i2), .val (.int i3), .val (.int i4), .val (.int i5), .val (.ref b11), .val (.int pv), .val (.int qv), .val (.int s0), .val (.int lv), .val (.ref b166), .val (.int (own_fits xv dv sv)), .val (.int p1v), .val (.int ptv), .val (.int p2v), .val (.int dg), .val (.int xw), .val (.int (6 : Int32)), .unset, .unset, .unset]) rfl k) ?_
          have z4_198 : (4 : Int32).toInt = ((4 : Nat) : Int) := by decide
          have z5_198 : (5 : Int32).toInt = ((5 : Nat) : Int) := by decide
          have b0198 : own_b0 np nq = 5 := if_pos (Or.inl (own_eqn z4_198 hp hc511_194))
          have b1198 : own_bb np nq = 6 := by rw [own_bb, b0198, if_pos (Or.inr (own_eqn z5_198 hq hc535_197))]
          have hb198 : (6 : Int32).toInt = ((own_bb np nq : Nat) : Int) := by rw [b1198]; decide
          exact j541 p1v ptv p2v dg xw (6 : Int32) TL hp1 hpt hp2 hdg hxw hb198 XL eL
        · have _ := XL
          refine own_by (T' := TL) (f' := (mkF m 541 (own_L2 i0 i1 i2 i3 i4 i5 b11 pv qv s0 lv b166 (own_fits xv dv sv) (.val (.int p1v)) (.val (.int ptv)) (.val (.int p2v)) (.val (.int dg)) (.val (.int xw)) (.val (.int (5 : Int32))) (.unset) (.unset) (.unset)) [])) (fun t k => XS.icmpYes XL.here hx rfl (pc0 := 535) (pc' := 541) rfl (hb hby at_535) rfl (feq hc535_197).2 (by decide) (by decide) k) ?_
          have z4_199 : (4 : Int32).toInt = ((4 : Nat) : Int) := by decide
          have z5_199 : (5 : Int32).toInt = ((5 : Nat) : Int) := by decide
          have b0199 : own_b0 np nq = 5 := if_pos (Or.inl (own_eqn z4_199 hp hc511_194))
          have b1199 : own_bb np nq = 5 := by rw [own_bb, b0199, if_neg (fun z => z.elim (own_neqn z5_199 hp hc528_195) (own_neqn z5_199 hq hc535_197))]
          have hb199 : (5 : Int32).toInt = ((own_bb np nq : Nat) : Int) := by rw [b1199]; decide
          exact j541 p1v ptv p2v dg xw (5 : Int32) TL hp1 hpt hp2 hdg hxw hb199 XL eL
    · have _ := XL
      refine own_by (T' := TL) (f' := (mkF m 514 (own_L2 i0 i1 i2 i3 i4 i5 b11 pv qv s0 lv b166 (own_fits xv dv sv) (.val (.int p1v)) (.val (.int ptv)) (.val (.int p2v)) (.val (.int dg)) (.val (.int xw)) (.val (.int (4 : Int32))) (.unset) (.unset) (.unset)) [])) (fun t k => XS.icmpNo XL.here hx rfl (hb hby at_511) rfl (feq hc511_194).1 k) ?_
      refine own_by (T' := TL) (f' := (mkF m 516 (own_L2 i0 i1 i2 i3 i4 i5 b11 pv qv s0 lv b166 (own_fits xv dv sv) (.val (.int p1v)) (.val (.int ptv)) (.val (.int p2v)) (.val (.int dg)) (.val (.int xw)) (.val (.int (4 : Int32))) (.unset) (.unset) (.unset)) [(.int (4 : Int32))])) (fun t k => XS.iload XL.here hx rfl (hb hby at_514) rfl k) ?_
      refine own_by (T' := TL) (f' := (mkF m 518 (own_L2 i0 i1 i2 i3 i4 i5 b11 pv qv s0 lv b166 (own_fits xv dv sv) (.val (.int p1v)) (.val (.int ptv)) (.val (.int p2v)) (.val (.int dg)) (.val (.int xw)) (.val (.int (4 : Int32))) (.unset) (.unset) (.unset)) [(.int qv), (.int (4 : Int32))])) (fun t k => XS.iload XL.here hx rfl (hb hby at_516) rfl k) ?_
      by_cases hc518_200 : (4 : Int32) = qv
      · have _ := XL
        refine own_by (T' := TL) (f' := (mkF m 521 (own_L2 i0 i1 i2 i3 i4 i5 b11 pv qv s0 lv b166 (own_fits xv dv sv) (.val (.int p1v)) (.val (.int ptv)) (.val (.int p2v)) (.val (.int dg)) (.val (.int xw)) (.val (.int (4 : Int32))) (.unset) (.unset) (.unset)) [])) (fun t k => XS.icmpNo XL.here hx rfl (hb hby at_518) rfl (teq hc518_200).2 k) ?_
        refine own_by (T' := TL) (f' := (mkF m 524 (own_L2 i0 i1 i2 i3 i4 i5 b11 pv qv s0 lv b166 (own_fits xv dv sv) (.val (.int p1v)) (.val (.int ptv)) (.val (.int p2v)) (.val (.int dg)) (.val (.int xw)) (.val (.int (5 : Int32))) (.unset) (.unset) (.unset)) [])) (fun t k => XS.iinc XL.here hx rfl (hb hby at_521) rfl (l' := #[.val (.int i0), .val (.int i1), .val (.int i2), .val (.int i3), .val (.int i4), .val (.int i5), .val (.ref b11), .val (.int pv), .val (.int qv), .val (.int s0), .val (.int lv), .val (.ref b166), .val (.int (own_fits xv dv sv)), .val (.int p1v), .val (.int ptv), .val (.int p2v), .val (.int dg), .val (.int xw), .val (.int (5 : Int32)), .unset, .unset, .unset]) rfl k) ?_
        refine own_by (T' := TL) (f' := (mkF m 526 (own_L2 i0 i1 i2 i3 i4 i5 b11 pv qv s0 lv b166 (own_fits xv dv sv) (.val (.int p1v)) (.val (.int ptv)) (.val (.int p2v)) (.val (.int dg)) (.val (.int xw)) (.val (.int (5 : Int32))) (.unset) (.unset) (.unset)) [(.int (5 : Int32))])) (fun t k => XS.iload XL.here hx rfl (hb hby at_524) rfl k) ?_
        refine own_by (T' := TL) (f' := (mkF m 528 (own_L2 i0 i1 i2 i3 i4 i5 b11 pv qv s0 lv b166 (own_fits xv dv sv) (.val (.int p1v)) (.val (.int ptv)) (.val (.int p2v)) (.val (.int dg)) (.val (.int xw)) (.val (.int (5 : Int32))) (.unset) (.unset) (.unset)) [(.int pv), (.int (5 : Int32))])) (fun t k => XS.iload XL.here hx rfl (hb hby at_526) rfl k) ?_
        by_cases hc528_201 : (5 : Int32) = pv
        · have _ := XL
          refine own_by (T' := TL) (f' := (mkF m 538 (own_L2 i0 i1 i2 i3 i4 i5 b11 pv qv s0 lv b166 (own_fits xv dv sv) (.val (.int p1v)) (.val (.int ptv)) (.val (.int p2v)) (.val (.int dg)) (.val (.int xw)) (.val (.int (5 : Int32))) (.unset) (.unset) (.unset)) [])) (fun t k => XS.icmpYes XL.here hx rfl (pc0 := 528) (pc' := 538) rfl (hb hby at_528) rfl (teq hc528_201).1 (by decide) (by decide) k) ?_
          refine own_by (T' := TL) (f' := (mkF m 541 (own_L2 i0 i1 i2 i3 i4 i5 b11 pv qv s0 lv b166 (own_fits xv dv sv) (.val (.int p1v)) (.val (.int ptv)) (.val (.int p2v)) (.val (.int dg)) (.val (.int xw)) (.val (.int (6 : Int32))) (.unset) (.unset) (.unset)) [])) (fun t k => XS.iinc XL.here hx rfl (hb hby at_538) rfl (l' := #[.val (.int i0), .val (.int i1), .val (.int i2), .val (.int i3), .val (.int i4), .val (.int i5), .val (.ref b11), .val (.int pv), .val (.int qv), .val (.int s0), .val (.int lv), .val (.ref b166), .val (.int (own_fits xv dv sv)), .val (.int p1v), .val (.int ptv), .val (.int p2v), .val (.int dg), .val (.int xw), .val (.int (6 : Int32)), .unset, .unset, .unset]) rfl k) ?_
          have z4_202 : (4 : Int32).toInt = ((4 : Nat) : Int) := by decide
          have z5_202 : (5 : Int32).toInt = ((5 : Nat) : Int) := by decide
          have b0202 : own_b0 np nq = 5 := if_pos (Or.inr (own_eqn z4_202 hq hc518_200))
          have b1202 : own_bb np nq = 6 := by rw [own_bb, b0202, if_pos (Or.inl (own_eqn z5_202 hp hc528_201))]
          have hb202 : (6 : Int32).toInt = ((own_bb np nq : Nat) : Int) := by rw [b1202]; decide
          exact j541 p1v ptv p2v dg xw (6 : Int32) TL hp1 hpt hp2 hdg hxw hb202 XL eL
        · have _ := XL
          refine own_by (T' := TL) (f' := (mkF m 531 (own_L2 i0 i1 i2 i3 i4 i5 b11 pv qv s0 lv b166 (own_fits xv dv sv) (.val (.int p1v)) (.val (.int ptv)) (.val (.int p2v)) (.val (.int dg)) (.val (.int xw)) (.val (.int (5 : Int32))) (.unset) (.unset) (.unset)) [])) (fun t k => XS.icmpNo XL.here hx rfl (hb hby at_528) rfl (feq hc528_201).1 k) ?_
          refine own_by (T' := TL) (f' := (mkF m 533 (own_L2 i0 i1 i2 i3 i4 i5 b11 pv qv s0 lv b166 (own_fits xv dv sv) (.val (.int p1v)) (.val (.int ptv)) (.val (.int p2v)) (.val (.int dg)) (.val (.int xw)) (.val (.int (5 : Int32))) (.unset) (.unset) (.unset)) [(.int (5 : Int32))])) (fun t k => XS.iload XL.here hx rfl (hb hby at_531) rfl k) ?_
          refine own_by (T' := TL) (f' := (mkF m 535 (own_L2 i0 i1 i2 i3 i4 i5 b11 pv qv s0 lv b166 (own_fits xv dv sv) (.val (.int p1v)) (.val (.int ptv)) (.val (.int p2v)) (.val (.int dg)) (.val (.int xw)) (.val (.int (5 : Int32))) (.unset) (.unset) (.unset)) [(.int qv), (.int (5 : Int32))])) (fun t k => XS.iload XL.here hx rfl (hb hby at_533) rfl k) ?_
          by_cases hc535_203 : (5 : Int32) = qv
          · have _ := XL
            refine own_by (T' := TL) (f' := (mkF m 538 (own_L2 i0 i1 i2 i3 i4 i5 b11 pv qv s0 lv b166 (own_fits xv dv sv) (.val (.int p1v)) (.val (.int ptv)) (.val (.int p2v)) (.val (.int dg)) (.val (.int xw)) (.val (.int (5 : Int32))) (.unset) (.unset) (.unset)) [])) (fun t k => XS.icmpNo XL.here hx rfl (hb hby at_535) rfl (teq hc535_203).2 k) ?_
            refine own_by (T' := TL) (f' := (mkF m 541 (own_L2 i0 i1 i2 i3 i4 i5 b11 pv qv s0 lv b166 (own_fits xv dv sv) (.val (.int p1v)) (.val (.int ptv)) (.val (.int p2v)) (.val (.int dg)) (.val (.int xw)) (.val (.int (6 : Int32))) (.unset) (.unset) (.unset)) [])) (fun t k => XS.iinc XL.here hx rfl (hb hby at_538) rfl (l' := #[.val (.int i0), .val (.int i1), .val (.int i2), .val (.int i3), .val (.int i4), .val (.int i5), .val (.ref b11), .val (.int pv), .val (.int qv), .val (.int s0), .val (.int lv), .val (.ref b166), .val (.int (own_fits xv dv sv)), .val (.int p1v), .val (.int ptv), .val (.int p2v), .val (.int dg), .val (.int xw), .val (.int (6 : Int32)), .unset, .unset, .unset]) rfl k) ?_
            have z4_204 : (4 : Int32).toInt = ((4 : Nat) : Int) := by decide
            have z5_204 : (5 : Int32).toInt = ((5 : Nat) : Int) := by decide
            have b0204 : own_b0 np nq = 5 := if_pos (Or.inr (own_eqn z4_204 hq hc518_200))
            have b1204 : own_bb np nq = 6 := by rw [own_bb, b0204, if_pos (Or.inr (own_eqn z5_204 hq hc535_203))]
            have hb204 : (6 : Int32).toInt = ((own_bb np nq : Nat) : Int) := by rw [b1204]; decide
            exact j541 p1v ptv p2v dg xw (6 : Int32) TL hp1 hpt hp2 hdg hxw hb204 XL eL
          · have _ := XL
            refine own_by (T' := TL) (f' := (mkF m 541 (own_L2 i0 i1 i2 i3 i4 i5 b11 pv qv s0 lv b166 (own_fits xv dv sv) (.val (.int p1v)) (.val (.int ptv)) (.val (.int p2v)) (.val (.int dg)) (.val (.int xw)) (.val (.int (5 : Int32))) (.unset) (.unset) (.unset)) [])) (fun t k => XS.icmpYes XL.here hx rfl (pc0 := 535) (pc' := 541) rfl (hb hby at_535) rfl (feq hc535_203).2 (by decide) (by decide) k) ?_
            have z4_205 : (4 : Int32).toInt = ((4 : Nat) : Int) := by decide
            have z5_205 : (5 : Int32).toInt = ((5 : Nat) : Int) := by decide
            have b0205 : own_b0 np nq = 5 := if_pos (Or.inr (own_eqn z4_205 hq hc518_200))
            have b1205 : own_bb np nq = 5 := by rw [own_bb, b0205, if_neg (fun z => z.elim (own_neqn z5_205 hp hc528_201) (own_neqn z5_205 hq hc535_203))]
            have hb205 : (5 : Int32).toInt = ((own_bb np nq : Nat) : Int) := by rw [b1205]; decide
            exact j541 p1v ptv p2v dg xw (5 : Int32) TL hp1 hpt hp2 hdg hxw hb205 XL eL
      · have _ := XL
        refine own_by (T' := TL) (f' := (mkF m 524 (own_L2 i0 i1 i2 i3 i4 i5 b11 pv qv s0 lv b166 (own_fits xv dv sv) (.val (.int p1v)) (.val (.int ptv)) (.val (.int p2v)) (.val (.int dg)) (.val (.int xw)) (.val (.int (4 : Int32))) (.unset) (.unset) (.unset)) [])) (fun t k => XS.icmpYes XL.here hx rfl (pc0 := 518) (pc' := 524) rfl (hb hby at_518) rfl (feq hc518_200).2 (by decide) (by decide) k) ?_
        refine own_by (T' := TL) (f' := (mkF m 526 (own_L2 i0 i1 i2 i3 i4 i5 b11 pv qv s0 lv b166 (own_fits xv dv sv) (.val (.int p1v)) (.val (.int ptv)) (.val (.int p2v)) (.val (.int dg)) (.val (.int xw)) (.val (.int (4 : Int32))) (.unset) (.unset) (.unset)) [(.int (4 : Int32))])) (fun t k => XS.iload XL.here hx rfl (hb hby at_524) rfl k) ?_
        refine own_by (T' := TL) (f' := (mkF m 528 (own_L2 i0 i1 i2 i3 i4 i5 b11 pv qv s0 lv b166 (own_fits xv dv sv) (.val (.int p1v)) (.val (.int ptv)) (.val (.int p2v)) (.val (.int dg)) (.val (.int xw)) (.val (.int (4 : Int32))) (.unset) (.unset) (.unset)) [(.int pv), (.int (4 : Int32))])) (fun t k => XS.iload XL.here hx rfl (hb hby at_526) rfl k) ?_
        refine own_by (T' := TL) (f' := (mkF m 531 (own_L2 i0 i1 i2 i3 i4 i5 b11 pv qv s0 lv b166 (own_fits xv dv sv) (.val (.int p1v)) (.val (.int ptv)) (.val (.int p2v)) (.val (.int dg)) (.val (.int xw)) (.val (.int (4 : Int32))) (.unset) (.unset) (.unset)) [])) (fun t k => XS.icmpNo XL.here hx rfl (hb hby at_528) rfl (feq hc511_194).1 k) ?_
        refine own_by (T' := TL) (f' := (mkF m 533 (own_L2 i0 i1 i2 i3 i4 i5 b11 pv qv s0 lv b166 (own_fits xv dv sv) (.val (.int p1v)) (.val (.int ptv)) (.val (.int p2v)) (.val (.int dg)) (.val (.int xw)) (.val (.int (4 : Int32))) (.unset) (.unset) (.unset)) [(.int (4 : Int32))])) (fun t k => XS.iload XL.here hx rfl (hb hby at_531) rfl k) ?_
        refine own_by (T' := TL) (f' := (mkF m 535 (own_L2 i0 i1 i2 i3 i4 i5 b11 pv qv s0 lv b166 (own_fits xv dv sv) (.val (.int p1v)) (.val (.int ptv)) (.val (.int p2v)) (.val (.int dg)) (.val (.int xw)) (.val (.int (4 : Int32))) (.unset) (.unset) (.unset)) [(.int qv), (.int (4 : Int32))])) (fun t k => XS.iload XL.here hx rfl (hb hby at_533) rfl k) ?_
        refine own_by (T' := TL) (f' := (mkF m 541 (own_L2 i0 i1 i2 i3 i4 i5 b11 pv qv s0 lv b166 (own_fits xv dv sv) (.val (.int p1v)) (.val (.int ptv)) (.val (.int p2v)) (.val (.int dg)) (.val (.int xw)) (.val (.int (4 : Int32))) (.unset) (.unset) (.unset)) [])) (fun t k => XS.icmpYes XL.here hx rfl (pc0 := 535) (pc' := 541) rfl (hb hby at_535) rfl (feq hc518_200).2 (by decide) (by decide) k) ?_
        have z4_206 : (4 : Int32).toInt = ((4 : Nat) : Int) := by decide
        have z5_206 : (5 : Int32).toInt = ((5 : Nat) : Int) := by decide
        have b0206 : own_b0 np nq = 4 := if_neg (fun z => z.elim (own_neqn z4_206 hp hc511_194) (own_neqn z4_206 hq hc518_200))
        have b1206 : own_bb np nq = 4 := by rw [own_bb, b0206, if_neg (fun z => z.elim (own_neqn z4_206 hp hc511_194) (own_neqn z4_206 hq hc518_200))]
        have hb206 : (4 : Int32).toInt = ((own_bb np nq : Nat) : Int) := by rw [b1206]; decide
        exact j541 p1v ptv p2v dg xw (4 : Int32) TL hp1 hpt hp2 hdg hxw hb206 XL eL
  have j465 : ∀ (p1v ptv p2v dg : Int32) (TL : State), p1v.toInt = ((own_p1 f2 ns nl : Nat) : Int) → ptv = (if own_pnt f2 ns nl then 1 else 0) → p2v.toInt = ((own_p2 f2 ns nl : Nat) : Int) → dg = dv → Stand p l e room_1 s m #[(.int i0), (.int i1), (.int i2), (.int i3), (.int i4), (.int i5)] below meth c TL LL 2 62 → TL.heap = T171.heap → own_Go p e below (own_Ends s room_1 (fun v h L => v = some (.int 1) ∧ Fr n0 L)) TL (mkF m 465 (own_L2 i0 i1 i2 i3 i4 i5 b11 pv qv s0 lv b166 (own_fits xv dv sv) (.val (.int p1v)) (.val (.int ptv)) (.val (.int p2v)) (.val (.int dg)) (.unset) (.unset) (.unset) (.unset) (.unset)) []) := by
    intro p1v ptv p2v dg TL hp1 hpt hp2 hdg XL eL
    refine own_by (T' := TL) (f' := (mkF m 467 (own_L2 i0 i1 i2 i3 i4 i5 b11 pv qv s0 lv b166 (own_fits xv dv sv) (.val (.int p1v)) (.val (.int ptv)) (.val (.int p2v)) (.val (.int dg)) (.unset) (.unset) (.unset) (.unset) (.unset)) [(.int dg)])) (fun t k => XS.iload XL.here hx rfl (hb hby at_465) rfl k) ?_
    by_cases hc467_207 : (0 : Int32) < dg
    · have _ := XL
      refine own_by (T' := TL) (f' := (mkF m 470 (own_L2 i0 i1 i2 i3 i4 i5 b11 pv qv s0 lv b166 (own_fits xv dv sv) (.val (.int p1v)) (.val (.int ptv)) (.val (.int p2v)) (.val (.int dg)) (.unset) (.unset) (.unset) (.unset) (.unset)) [])) (fun t k => XS.ifNo XL.here hx rfl (hb hby at_467) rfl ((if0 _ _).trans (tlt hc467_207).2.2.2) k) ?_
      refine own_by (T' := TL) (f' := (mkF m 472 (own_L2 i0 i1 i2 i3 i4 i5 b11 pv qv s0 lv b166 (own_fits xv dv sv) (.val (.int p1v)) (.val (.int ptv)) (.val (.int p2v)) (.val (.int dg)) (.unset) (.unset) (.unset) (.unset) (.unset)) [(.int p2v)])) (fun t k => XS.iload XL.here hx rfl (hb hby at_470) rfl k) ?_
      refine own_by (T' := TL) (f' := (mkF m 474 (own_L2 i0 i1 i2 i3 i4 i5 b11 pv qv s0 lv b166 (own_fits xv dv sv) (.val (.int p1v)) (.val (.int ptv)) (.val (.int p2v)) (.val (.int dg)) (.unset) (.unset) (.unset) (.unset) (.unset)) [(.int lv), (.int p2v)])) (fun t k => XS.iload XL.here hx rfl (hb hby at_472) rfl k) ?_
      by_cases hc474_208 : p2v < lv
      · have _ := XL
        refine own_by (T' := TL) (f' := (mkF m 477 (own_L2 i0 i1 i2 i3 i4 i5 b11 pv qv s0 lv b166 (own_fits xv dv sv) (.val (.int p1v)) (.val (.int ptv)) (.val (.int p2v)) (.val (.int dg)) (.unset) (.unset) (.unset) (.unset) (.unset)) [])) (fun t k => XS.icmpNo XL.here hx rfl (hb hby at_474) rfl (tlt hc474_208).2.1 k) ?_
        refine own_by (T' := TL) (f' := (mkF m 479 (own_L2 i0 i1 i2 i3 i4 i5 b11 pv qv s0 lv b166 (own_fits xv dv sv) (.val (.int p1v)) (.val (.int ptv)) (.val (.int p2v)) (.val (.int dg)) (.unset) (.unset) (.unset) (.unset) (.unset)) [(.ref b11)])) (fun t k => XS.aload XL.here hx rfl (hb hby at_477) rfl rfl k) ?_
        refine own_by (T' := TL) (f' := (mkF m 481 (own_L2 i0 i1 i2 i3 i4 i5 b11 pv qv s0 lv b166 (own_fits xv dv sv) (.val (.int p1v)) (.val (.int ptv)) (.val (.int p2v)) (.val (.int dg)) (.unset) (.unset) (.unset) (.unset) (.unset)) [(.int p2v), (.ref b11)])) (fun t k => XS.iload XL.here hx rfl (hb hby at_479) rfl k) ?_
        have lq481 := own_ltn hp2 hl hc474_208
        refine own_ldC XL hx hZ eL (hb hby at_481) f175 (by omega) (by omega) ?_
        rw [show p2v.toInt.toNat = own_p2 f2 ns nl from by omega]
        show own_Go p e below _ TL (mkF m 482 (own_L2 i0 i1 i2 i3 i4 i5 b11 pv qv s0 lv b166 (own_fits xv dv sv) (.val (.int p1v)) (.val (.int ptv)) (.val (.int p2v)) (.val (.int dg)) (.unset) (.unset) (.unset) (.unset) (.unset)) [(.int (f2 (own_p2 f2 ns nl)))])
        refine own_by (T' := TL) (f' := (mkF m 484 (own_L2 i0 i1 i2 i3 i4 i5 b11 pv qv s0 lv b166 (own_fits xv dv sv) (.val (.int p1v)) (.val (.int ptv)) (.val (.int p2v)) (.val (.int dg)) (.unset) (.unset) (.unset) (.unset) (.unset)) [(.int (101 : Int32)), (.int (f2 (own_p2 f2 ns nl)))])) (fun t k => XS.bipush XL.here hx rfl (hb hby at_482) k) ?_
        by_cases hc484_209 : (f2 (own_p2 f2 ns nl)) = (101 : Int32)
        · have _ := XL
          refine own_by (T' := TL) (f' := (mkF m 497 (own_L2 i0 i1 i2 i3 i4 i5 b11 pv qv s0 lv b166 (own_fits xv dv sv) (.val (.int p1v)) (.val (.int ptv)) (.val (.int p2v)) (.val (.int dg)) (.unset) (.unset) (.unset) (.unset) (.unset)) [])) (fun t k => XS.icmpYes XL.here hx rfl (pc0 := 484) (pc' := 497) rfl (hb hby at_484) rfl (teq hc484_209).1 (by decide) (by decide) k) ?_
          refine own_by (T' := TL) (f' := (mkF m 498 (own_L2 i0 i1 i2 i3 i4 i5 b11 pv qv s0 lv b166 (own_fits xv dv sv) (.val (.int p1v)) (.val (.int ptv)) (.val (.int p2v)) (.val (.int dg)) (.unset) (.unset) (.unset) (.unset) (.unset)) [(.int (1 : Int32))])) (fun t k => XS.iconst XL.here hx rfl (hb hby at_497) k) ?_
          refine own_by (T' := TL) (f' := (mkF m 502 (own_L2 i0 i1 i2 i3 i4 i5 b11 pv qv s0 lv b166 (own_fits xv dv sv) (.val (.int p1v)) (.val (.int ptv)) (.val (.int p2v)) (.val (.int dg)) (.unset) (.unset) (.unset) (.unset) (.unset)) [(.int (1 : Int32))])) (fun t k => XS.goto XL.here hx rfl (pc0 := 498) (pc' := 502) rfl (hb hby at_498) (by decide) (by decide) k) ?_
          refine own_by (T' := TL) (f' := (mkF m 504 (own_L2 i0 i1 i2 i3 i4 i5 b11 pv qv s0 lv b166 (own_fits xv dv sv) (.val (.int p1v)) (.val (.int ptv)) (.val (.int p2v)) (.val (.int dg)) (.val (.int (1 : Int32))) (.unset) (.unset) (.unset) (.unset)) [])) (fun t k => XS.istore XL.here hx rfl (hb hby at_502) rfl (l' := #[.val (.int i0), .val (.int i1), .val (.int i2), .val (.int i3), .val (.int i4), .val (.int i5), .val (.ref b11), .val (.int pv), .val (.int qv), .val (.int s0), .val (.int lv), .val (.ref b166), .val (.int (own_fits xv dv sv)), .val (.int p1v), .val (.int ptv), .val (.int p2v), .val (.int dg), .val (.int (1 : Int32)), .unset, .unset, .unset, .unset]) rfl k) ?_
          have hdn : dg.toInt = ((own_dgs f2 ns nl : Nat) : Int) := by rw [hdg]; exact hdv
          have hx' : (1 : Int32) = xv := by rw [hxv]; exact (if_pos ⟨Nat.ne_of_gt (own_ltn z0 hdn hc467_207), own_ltn hp2 hl hc474_208, Or.inl hc484_209⟩).symm
          exact j504 p1v ptv p2v dg (1 : Int32) TL hp1 hpt hp2 hdg hx' XL eL
        · have _ := XL
          refine own_by (T' := TL) (f' := (mkF m 487 (own_L2 i0 i1 i2 i3 i4 i5 b11 pv qv s0 lv b166 (own_fits xv dv sv) (.val (.int p1v)) (.val (.int ptv)) (.val (.int p2v)) (.val (.int dg)) (.unset) (.unset) (.unset) (.unset) (.unset)) [])) (fun t k => XS.icmpNo XL.here hx rfl (hb hby at_484) rfl (feq hc484_209).1 k) ?_
          refine own_by (T' := TL) (f' := (mkF m 489 (own_L2 i0 i1 i2 i3 i4 i5 b11 pv qv s0 lv b166 (own_fits xv dv sv) (.val (.int p1v)) (.val (.int ptv)) (.val (.int p2v)) (.val (.int dg)) (.unset) (.unset) (.unset) (.unset) (.unset)) [(.ref b11)])) (fun t k => XS.aload XL.here hx rfl (hb hby at_487) rfl rfl k) ?_
          refine own_by (T' := TL) (f' := (mkF m 491 (own_L2 i0 i1 i2 i3 i4 i5 b11 pv qv s0 lv b166 (own_fits xv dv sv) (.val (.int p1v)) (.val (.int ptv)) (.val (.int p2v)) (.val (.int dg)) (.unset) (.unset) (.unset) (.unset) (.unset)) [(.int p2v), (.ref b11)])) (fun t k => XS.iload XL.here hx rfl (hb hby at_489) rfl k) ?_
          have lq491 := own_ltn hp2 hl hc474_208
          refine own_ldC XL hx hZ eL (hb hby at_491) f175 (by omega) (by omega) ?_
          rw [show p2v.toInt.toNat = own_p2 f2 ns nl from by omega]
          show own_Go p e below _ TL (mkF m 492 (own_L2 i0 i1 i2 i3 i4 i5 b11 pv qv s0 lv b166 (own_fits xv dv sv) (.val (.int p1v)) (.val (.int ptv)) (.val (.int p2v)) (.val (.int dg)) (.unset) (.unset) (.unset) (.unset) (.unset)) [(.int (f2 (own_p2 f2 ns nl)))])
          refine own_by (T' := TL) (f' := (mkF m 494 (own_L2 i0 i1 i2 i3 i4 i5 b11 pv qv s0 lv b166 (own_fits xv dv sv) (.val (.int p1v)) (.val (.int ptv)) (.val (.int p2v)) (.val (.int dg)) (.unset) (.unset) (.unset) (.unset) (.unset)) [(.int (69 : Int32)), (.int (f2 (own_p2 f2 ns nl)))])) (fun t k => XS.bipush XL.here hx rfl (hb hby at_492) k) ?_
          by_cases hc494_210 : (f2 (own_p2 f2 ns nl)) = (69 : Int32)
          · have _ := XL
            refine own_by (T' := TL) (f' := (mkF m 497 (own_L2 i0 i1 i2 i3 i4 i5 b11 pv qv s0 lv b166 (own_fits xv dv sv) (.val (.int p1v)) (.val (.int ptv)) (.val (.int p2v)) (.val (.int dg)) (.unset) (.unset) (.unset) (.unset) (.unset)) [])) (fun t k => XS.icmpNo XL.here hx rfl (hb hby at_494) rfl (teq hc494_210).2 k) ?_
            refine own_by (T' := TL) (f' := (mkF m 498 (own_L2 i0 i1 i2 i3 i4 i5 b11 pv qv s0 lv b166 (own_fits xv dv sv) (.val (.int p1v)) (.val (.int ptv)) (.val (.int p2v)) (.val (.int dg)) (.unset) (.unset) (.unset) (.unset) (.unset)) [(.int (1 : Int32))])) (fun t k => XS.iconst XL.here hx rfl (hb hby at_497) k) ?_
            refine own_by (T' := TL) (f' := (mkF m 502 (own_L2 i0 i1 i2 i3 i4 i5 b11 pv qv s0 lv b166 (own_fits xv dv sv) (.val (.int p1v)) (.val (.int ptv)) (.val (.int p2v)) (.val (.int dg)) (.unset) (.unset) (.unset) (.unset) (.unset)) [(.int (1 : Int32))])) (fun t k => XS.goto XL.here hx rfl (pc0 := 498) (pc' := 502) rfl (hb hby at_498) (by decide) (by decide) k) ?_
            refine own_by (T' := TL) (f' := (mkF m 504 (own_L2 i0 i1 i2 i3 i4 i5 b11 pv qv s0 lv b166 (own_fits xv dv sv) (.val (.int p1v)) (.val (.int ptv)) (.val (.int p2v)) (.val (.int dg)) (.val (.int (1 : Int32))) (.unset) (.unset) (.unset) (.unset)) [])) (fun t k => XS.istore XL.here hx rfl (hb hby at_502) rfl (l' := #[.val (.int i0), .val (.int i1), .val (.int i2), .val (.int i3), .val (.int i4), .val (.int i5), .val (.ref b11), .val (.int pv), .val (.int qv), .val (.int s0), .val (.int lv), .val (.ref b166), .val (.int (own_fits xv dv sv)), .val (.int p1v), .val (.int ptv), .val (.int p2v), .val (.int dg), .val (.int (1 : Int32)), .unset, .unset, .unset, .unset]) rfl k) ?_
            have hdn : dg.toInt = ((own_dgs f2 ns nl : Nat) : Int) := by rw [hdg]; exact hdv
            have hx' : (1 : Int32) = xv := by rw [hxv]; exact (if_pos ⟨Nat.ne_of_gt (own_ltn z0 hdn hc467_207), own_ltn hp2 hl hc474_208, Or.inr hc494_210⟩).symm
            exact j504 p1v ptv p2v dg (1 : Int32) TL hp1 hpt hp2 hdg hx' XL eL
          · have _ := XL
            refine own_by (T' := TL) (f' := (mkF m 501 (own_L2 i0 i1 i2 i3 i4 i5 b11 pv qv s0 lv b166 (own_fits xv dv sv) (.val (.int p1v)) (.val (.int ptv)) (.val (.int p2v)) (.val (.int dg)) (.unset) (.unset) (.unset) (.unset) (.unset)) [])) (fun t k => XS.icmpYes XL.here hx rfl (pc0 := 494) (pc' := 501) rfl (hb hby at_494) rfl (feq hc494_210).2 (by decide) (by decide) k) ?_
            refine own_by (T' := TL) (f' := (mkF m 502 (own_L2 i0 i1 i2 i3 i4 i5 b11 pv qv s0 lv b166 (own_fits xv dv sv) (.val (.int p1v)) (.val (.int ptv)) (.val (.int p2v)) (.val (.int dg)) (.unset) (.unset) (.unset) (.unset) (.unset)) [(.int (0 : Int32))])) (fun t k => XS.iconst XL.here hx rfl (hb hby at_501) k) ?_
            refine own_by (T' := TL) (f' := (mkF m 504 (own_L2 i0 i1 i2 i3 i4 i5 b11 pv qv s0 lv b166 (own_fits xv dv sv) (.val (.int p1v)) (.val (.int ptv)) (.val (.int p2v)) (.val (.int dg)) (.val (.int (0 : Int32))) (.unset) (.unset) (.unset) (.unset)) [])) (fun t k => XS.istore XL.here hx rfl (hb hby at_502) rfl (l' := #[.val (.int i0), .val (.int i1), .val (.int i2), .val (.int i3), .val (.int i4), .val (.int i5), .val (.ref b11), .val (.int pv), .val (.int qv), .val (.int s0), .val (.int lv), .val (.ref b166), .val (.int (own_fits xv dv sv)), .val (.int p1v), .val (.int ptv), .val (.int p2v), .val (.int dg), .val (.int (0 : Int32)), .unset, .unset, .unset, .unset]) rfl k) ?_
            have hdn : dg.toInt = ((own_dgs f2 ns nl : Nat) : Int) := by rw [hdg]; exact hdv
            have hx' : (0 : Int32) = xv := by rw [hxv]; exact (if_neg (fun q => q.2.2.elim hc484_209 hc494_210)).symm
            exact j504 p1v ptv p2v dg (0 : Int32) TL hp1 hpt hp2 hdg hx' XL eL
      · have _ := XL
        refine own_by (T' := TL) (f' := (mkF m 501 (own_L2 i0 i1 i2 i3 i4 i5 b11 pv qv s0 lv b166 (own_fits xv dv sv) (.val (.int p1v)) (.val (.int ptv)) (.val (.int p2v)) (.val (.int dg)) (.unset) (.unset) (.unset) (.unset) (.unset)) [])) (fun t k => XS.icmpYes XL.here hx rfl (pc0 := 474) (pc' := 501) rfl (hb hby at_474) rfl (flt hc474_208).2.1 (by decide) (by decide) k) ?_
        refine own_by (T' := TL) (f' := (mkF m 502 (own_L2 i0 i1 i2 i3 i4 i5 b11 pv qv s0 lv b166 (own_fits xv dv sv) (.val (.int p1v)) (.val (.int ptv)) (.val (.int p2v)) (.val (.int dg)) (.unset) (.unset) (.unset) (.unset) (.unset)) [(.int (0 : Int32))])) (fun t k => XS.iconst XL.here hx rfl (hb hby at_501) k) ?_
        refine own_by (T' := TL) (f' := (mkF m 504 (own_L2 i0 i1 i2 i3 i4 i5 b11 pv qv s0 lv b166 (own_fits xv dv sv) (.val (.int p1v)) (.val (.int ptv)) (.val (.int p2v)) (.val (.int dg)) (.val (.int (0 : Int32))) (.unset) (.unset) (.unset) (.unset)) [])) (fun t k => XS.istore XL.here hx rfl (hb hby at_502) rfl (l' := #[.val (.int i0), .val (.int i1), .val (.int i2), .val (.int i3), .val (.int i4), .val (.int i5), .val (.ref b11), .val (.int pv), .val (.int qv), .val (.int s0), .val (.int lv), .val (.ref b166), .val (.int (own_fits xv dv sv)), .val (.int p1v), .val (.int ptv), .val (.int p2v), .val (.int dg), .val (.int (0 : Int32)), .unset, .unset, .unset, .unset]) rfl k) ?_
        have hdn : dg.toInt = ((own_dgs f2 ns nl : Nat) : Int) := by rw [hdg]; exact hdv
        have hx' : (0 : Int32) = xv := by rw [hxv]; exact (if_neg (fun q => own_nltn hp2 hl hc474_208 q.2.1)).symm
        exact j504 p1v ptv p2v dg (0 : Int32) TL hp1 hpt hp2 hdg hx' XL eL
    · have _ := XL
      refine own_by (T' := TL) (f' := (mkF m 501 (own_L2 i0 i1 i2 i3 i4 i5 b11 pv qv s0 lv b166 (own_fits xv dv sv) (.val (.int p1v)) (.val (.int ptv)) (.val (.int p2v)) (.val (.int dg)) (.unset) (.unset) (.unset) (.unset) (.unset)) [])) (fun t k => XS.ifYes XL.here hx rfl (pc0 := 467) (pc' := 501) rfl (hb hby at_467) rfl ((if0 _ _).trans (flt hc467_207).2.2.2) (by decide) (by decide) k) ?_
      refine own_by (T' := TL) (f' := (mkF m 502 (own_L2 i0 i1 i2 i3 i4 i5 b11 pv qv s0 lv b166 (own_fits xv dv sv) (.val (.int p1v)) (.val (.int ptv)) (.val (.int p2v)) (.val (.int dg)) (.unset) (.unset) (.unset) (.unset) (.unset)) [(.int (0 : Int32))])) (fun t k => XS.iconst XL.here hx rfl (hb hby at_501) k) ?_
      refine own_by (T' := TL) (f' := (mkF m 504 (own_L2 i0 i1 i2 i3 i4 i5 b11 pv qv s0 lv b166 (own_fits xv dv sv) (.val (.int p1v)) (.val (.int ptv)) (.val (.int p2v)) (.val (.int dg)) (.val (.int (0 : Int32))) (.unset) (.unset) (.unset) (.unset)) [])) (fun t k => XS.istore XL.here hx rfl (hb hby at_502) rfl (l' := #[.val (.int i0), .val (.int i1), .val (.int i2), .val (.int i3), .val (.int i4), .val (.int i5), .val (.ref b11), .val (.int pv), .val (.int qv), .val (.int s0), .val (.int lv), .val (.ref b166), .val (.int (own_fits xv dv sv)), .val (.int p1v), .val (.int ptv), .val (.int p2v), .val (.int dg), .val (.int (0 : Int32)), .unset, .unset, .unset, .unset]) rfl k) ?_
      have hdn : dg.toInt = ((own_dgs f2 ns nl : Nat) : Int) := by rw [hdg]; exact hdv
      have hx' : (0 : Int32) = xv := by rw [hxv]; exact (if_neg (fun q => q.1 (Nat.eq_zero_of_not_pos (own_nltn z0 hdn hc467_207)))).symm
      exact j504 p1v ptv p2v dg (0 : Int32) TL hp1 hpt hp2 hdg hx' XL eL
  refine own_by (T' := T174) (f' := (mkF m 379 (own_L2 i0 i1 i2 i3 i4 i5 b11 pv qv s0 lv b166 (own_fits xv dv sv) (.unset) (.unset) (.unset) (.unset) (.unset) (.unset) (.unset) (.unset) (.unset)) [(.ref b11)])) (fun t k => XS.aload XL0.here hx rfl (hb hby at_377) rfl rfl k) ?_
  refine own_by (T' := T174) (f' := (mkF m 381 (own_L2 i0 i1 i2 i3 i4 i5 b11 pv qv s0 lv b166 (own_fits xv dv sv) (.unset) (.unset) (.unset) (.unset) (.unset) (.unset) (.unset) (.unset) (.unset)) [(.int s0), (.ref b11)])) (fun t k => XS.iload XL0.here hx rfl (hb hby at_379) rfl k) ?_
  refine own_by (T' := T174) (f' := (mkF m 383 (own_L2 i0 i1 i2 i3 i4 i5 b11 pv qv s0 lv b166 (own_fits xv dv sv) (.unset) (.unset) (.unset) (.unset) (.unset) (.unset) (.unset) (.unset) (.unset)) [(.int lv), (.int s0), (.ref b11)])) (fun t k => XS.iload XL0.here hx rfl (hb hby at_381) rfl k) ?_
  refine own_by (T' := T174) (f' := (mkF m 385 (own_L2 i0 i1 i2 i3 i4 i5 b11 pv qv s0 lv b166 (own_fits xv dv sv) (.unset) (.unset) (.unset) (.unset) (.unset) (.unset) (.unset) (.unset) (.unset)) [(.int pv), (.int lv), (.int s0), (.ref b11)])) (fun t k => XS.iload XL0.here hx rfl (hb hby at_383) rfl k) ?_
  refine own_by (T' := T174) (f' := (mkF m 387 (own_L2 i0 i1 i2 i3 i4 i5 b11 pv qv s0 lv b166 (own_fits xv dv sv) (.unset) (.unset) (.unset) (.unset) (.unset) (.unset) (.unset) (.unset) (.unset)) [(.int qv), (.int pv), (.int lv), (.int s0), (.ref b11)])) (fun t k => XS.iload XL0.here hx rfl (hb hby at_385) rfl k) ?_
  refine own_callS XL0 hx hZ hown e174 (hb hby at_387) [(.ref b11), (.int s0), (.int lv), (.int pv), (.int qv)] [] 0 (rmST l Z a0 hw [] b11 s0 lv pv qv ns nl np nq f2 T171.heap hs hl hp hq hp48 hq48 f175) (own_w hw 60 rfl) (own_w hw 61 rfl) (own_w hw 4 rfl) (own_w hw 62 rfl) (by decide) pd___CIIII_I (by rw [hml]; rfl) rfl rfl (Nat.le_of_eq rfl) (by decide) (by decide) (by decide) (by decide) ?_
  rintro T211 _ L211 X211 ⟨r1, rfl, hr1, rfl, e211⟩
  rw [List.append_nil] at X211
  show own_Go p e below _ T211 (mkF m 390 (own_L2 i0 i1 i2 i3 i4 i5 b11 pv qv s0 lv b166 (own_fits xv dv sv) (.unset) (.unset) (.unset) (.unset) (.unset) (.unset) (.unset) (.unset) (.unset)) [(.int r1)])
  rw [← own_rp_st HF hsl hl48] at hr1
  have hp1 : r1.toInt = ((own_p1 f2 ns nl : Nat) : Int) := hr1
  refine own_by (T' := T211) (f' := (mkF m 392 (own_L2 i0 i1 i2 i3 i4 i5 b11 pv qv s0 lv b166 (own_fits xv dv sv) (.val (.int r1)) (.unset) (.unset) (.unset) (.unset) (.unset) (.unset) (.unset) (.unset)) [])) (fun t k => XS.istore X211.here hx rfl (hb hby at_390) rfl (l' := #[.val (.int i0), .val (.int i1), .val (.int i2), .val (.int i3), .val (.int i4), .val (.int i5), .val (.ref b11), .val (.int pv), .val (.int qv), .val (.int s0), .val (.int lv), .val (.ref b166), .val (.int (own_fits xv dv sv)), .val (.int r1), .unset, .unset, .unset, .unset, .unset, .unset, .unset, .unset]) rfl k) ?_
  refine own_by (T' := T211) (f' := (mkF m 394 (own_L2 i0 i1 i2 i3 i4 i5 b11 pv qv s0 lv b166 (own_fits xv dv sv) (.val (.int r1)) (.unset) (.unset) (.unset) (.unset) (.unset) (.unset) (.unset) (.unset)) [(.int r1)])) (fun t k => XS.iload X211.here hx rfl (hb hby at_392) rfl k) ?_
  refine own_by (T' := T211) (f' := (mkF m 396 (own_L2 i0 i1 i2 i3 i4 i5 b11 pv qv s0 lv b166 (own_fits xv dv sv) (.val (.int r1)) (.unset) (.unset) (.unset) (.unset) (.unset) (.unset) (.unset) (.unset)) [(.int lv), (.int r1)])) (fun t k => XS.iload X211.here hx rfl (hb hby at_394) rfl k) ?_
  by_cases hc396_212 : r1 < lv
  · have _ := X211
    refine own_by (T' := T211) (f' := (mkF m 399 (own_L2 i0 i1 i2 i3 i4 i5 b11 pv qv s0 lv b166 (own_fits xv dv sv) (.val (.int r1)) (.unset) (.unset) (.unset) (.unset) (.unset) (.unset) (.unset) (.unset)) [])) (fun t k => XS.icmpNo X211.here hx rfl (hb hby at_396) rfl (tlt hc396_212).2.1 k) ?_
    refine own_by (T' := T211) (f' := (mkF m 401 (own_L2 i0 i1 i2 i3 i4 i5 b11 pv qv s0 lv b166 (own_fits xv dv sv) (.val (.int r1)) (.unset) (.unset) (.unset) (.unset) (.unset) (.unset) (.unset) (.unset)) [(.ref b11)])) (fun t k => XS.aload X211.here hx rfl (hb hby at_399) rfl rfl k) ?_
    refine own_by (T' := T211) (f' := (mkF m 403 (own_L2 i0 i1 i2 i3 i4 i5 b11 pv qv s0 lv b166 (own_fits xv dv sv) (.val (.int r1)) (.unset) (.unset) (.unset) (.unset) (.unset) (.unset) (.unset) (.unset)) [(.int r1), (.ref b11)])) (fun t k => XS.iload X211.here hx rfl (hb hby at_401) rfl k) ?_
    have lq403 := own_ltn hp1 hl hc396_212
    refine own_ldC X211 hx hZ e211 (hb hby at_403) f175 (by omega) (by omega) ?_
    rw [show r1.toInt.toNat = own_p1 f2 ns nl from by omega]
    show own_Go p e below _ T211 (mkF m 404 (own_L2 i0 i1 i2 i3 i4 i5 b11 pv qv s0 lv b166 (own_fits xv dv sv) (.val (.int r1)) (.unset) (.unset) (.unset) (.unset) (.unset) (.unset) (.unset) (.unset)) [(.int (f2 (own_p1 f2 ns nl)))])
    refine own_by (T' := T211) (f' := (mkF m 406 (own_L2 i0 i1 i2 i3 i4 i5 b11 pv qv s0 lv b166 (own_fits xv dv sv) (.val (.int r1)) (.unset) (.unset) (.unset) (.unset) (.unset) (.unset) (.unset) (.unset)) [(.int (46 : Int32)), (.int (f2 (own_p1 f2 ns nl)))])) (fun t k => XS.bipush X211.here hx rfl (hb hby at_404) k) ?_
    by_cases hc406_213 : (f2 (own_p1 f2 ns nl)) = (46 : Int32)
    · have _ := X211
      refine own_by (T' := T211) (f' := (mkF m 409 (own_L2 i0 i1 i2 i3 i4 i5 b11 pv qv s0 lv b166 (own_fits xv dv sv) (.val (.int r1)) (.unset) (.unset) (.unset) (.unset) (.unset) (.unset) (.unset) (.unset)) [])) (fun t k => XS.icmpNo X211.here hx rfl (hb hby at_406) rfl (teq hc406_213).2 k) ?_
      refine own_by (T' := T211) (f' := (mkF m 410 (own_L2 i0 i1 i2 i3 i4 i5 b11 pv qv s0 lv b166 (own_fits xv dv sv) (.val (.int r1)) (.unset) (.unset) (.unset) (.unset) (.unset) (.unset) (.unset) (.unset)) [(.int (1 : Int32))])) (fun t k => XS.iconst X211.here hx rfl (hb hby at_409) k) ?_
      refine own_by (T' := T211) (f' := (mkF m 414 (own_L2 i0 i1 i2 i3 i4 i5 b11 pv qv s0 lv b166 (own_fits xv dv sv) (.val (.int r1)) (.unset) (.unset) (.unset) (.unset) (.unset) (.unset) (.unset) (.unset)) [(.int (1 : Int32))])) (fun t k => XS.goto X211.here hx rfl (pc0 := 410) (pc' := 414) rfl (hb hby at_410) (by decide) (by decide) k) ?_
      refine own_by (T' := T211) (f' := (mkF m 416 (own_L2 i0 i1 i2 i3 i4 i5 b11 pv qv s0 lv b166 (own_fits xv dv sv) (.val (.int r1)) (.val (.int (1 : Int32))) (.unset) (.unset) (.unset) (.unset) (.unset) (.unset) (.unset)) [])) (fun t k => XS.istore X211.here hx rfl (hb hby at_414) rfl (l' := #[.val (.int i0), .val (.int i1), .val (.int i2), .val (.int i3), .val (.int i4), .val (.int i5), .val (.ref b11), .val (.int pv), .val (.int qv), .val (.int s0), .val (.int lv), .val (.ref b166), .val (.int (own_fits xv dv sv)), .val (.int r1), .val (.int (1 : Int32)), .unset, .unset, .unset, .unset, .unset, .unset, .unset]) rfl k) ?_
      refine own_by (T' := T211) (f' := (mkF m 418 (own_L2 i0 i1 i2 i3 i4 i5 b11 pv qv s0 lv b166 (own_fits xv dv sv) (.val (.int r1)) (.val (.int (1 : Int32))) (.unset) (.unset) (.unset) (.unset) (.unset) (.unset) (.unset)) [(.int (1 : Int32))])) (fun t k => XS.iload X211.here hx rfl (hb hby at_416) rfl k) ?_
      refine own_by (T' := T211) (f' := (mkF m 421 (own_L2 i0 i1 i2 i3 i4 i5 b11 pv qv s0 lv b166 (own_fits xv dv sv) (.val (.int r1)) (.val (.int (1 : Int32))) (.unset) (.unset) (.unset) (.unset) (.unset) (.unset) (.unset)) [])) (fun t k => XS.ifNo X211.here hx rfl (hb hby at_418) rfl ((if0 _ _).trans (feq (by decide)).1) k) ?_
      refine own_by (T' := T211) (f' := (mkF m 423 (own_L2 i0 i1 i2 i3 i4 i5 b11 pv qv s0 lv b166 (own_fits xv dv sv) (.val (.int r1)) (.val (.int (1 : Int32))) (.unset) (.unset) (.unset) (.unset) (.unset) (.unset) (.unset)) [(.ref b11)])) (fun t k => XS.aload X211.here hx rfl (hb hby at_421) rfl rfl k) ?_
      refine own_by (T' := T211) (f' := (mkF m 425 (own_L2 i0 i1 i2 i3 i4 i5 b11 pv qv s0 lv b166 (own_fits xv dv sv) (.val (.int r1)) (.val (.int (1 : Int32))) (.unset) (.unset) (.unset) (.unset) (.unset) (.unset) (.unset)) [(.int r1), (.ref b11)])) (fun t k => XS.iload X211.here hx rfl (hb hby at_423) rfl k) ?_
      refine own_by (T' := T211) (f' := (mkF m 426 (own_L2 i0 i1 i2 i3 i4 i5 b11 pv qv s0 lv b166 (own_fits xv dv sv) (.val (.int r1)) (.val (.int (1 : Int32))) (.unset) (.unset) (.unset) (.unset) (.unset) (.unset) (.unset)) [(.int (1 : Int32)), (.int r1), (.ref b11)])) (fun t k => XS.iconst X211.here hx rfl (hb hby at_425) k) ?_
      refine own_by (T' := T211) (f' := (mkF m 427 (own_L2 i0 i1 i2 i3 i4 i5 b11 pv qv s0 lv b166 (own_fits xv dv sv) (.val (.int r1)) (.val (.int (1 : Int32))) (.unset) (.unset) (.unset) (.unset) (.unset) (.unset) (.unset)) [(.int (r1 + (1 : Int32))), (.ref b11)])) (fun t k => XS.iadd X211.here hx rfl (hb hby at_426) rfl k) ?_
      refine own_by (T' := T211) (f' := (mkF m 429 (own_L2 i0 i1 i2 i3 i4 i5 b11 pv qv s0 lv b166 (own_fits xv dv sv) (.val (.int r1)) (.val (.int (1 : Int32))) (.unset) (.unset) (.unset) (.unset) (.unset) (.unset) (.unset)) [(.int lv), (.int (r1 + (1 : Int32))), (.ref b11)])) (fun t k => XS.iload X211.here hx rfl (hb hby at_427) rfl k) ?_
      refine own_by (T' := T211) (f' := (mkF m 431 (own_L2 i0 i1 i2 i3 i4 i5 b11 pv qv s0 lv b166 (own_fits xv dv sv) (.val (.int r1)) (.val (.int (1 : Int32))) (.unset) (.unset) (.unset) (.unset) (.unset) (.unset) (.unset)) [(.int pv), (.int lv), (.int (r1 + (1 : Int32))), (.ref b11)])) (fun t k => XS.iload X211.here hx rfl (hb hby at_429) rfl k) ?_
      refine own_by (T' := T211) (f' := (mkF m 433 (own_L2 i0 i1 i2 i3 i4 i5 b11 pv qv s0 lv b166 (own_fits xv dv sv) (.val (.int r1)) (.val (.int (1 : Int32))) (.unset) (.unset) (.unset) (.unset) (.unset) (.unset) (.unset)) [(.int qv), (.int pv), (.int lv), (.int (r1 + (1 : Int32))), (.ref b11)])) (fun t k => XS.iload X211.here hx rfl (hb hby at_431) rfl k) ?_
      have ltp := own_ltn hp1 hl hc396_212
      have hf' := own_inc hp1 ltp (by omega)
      refine own_callS X211 hx hZ hown e211 (hb hby at_433) [(.ref b11), (.int (r1 + (1 : Int32))), (.int lv), (.int pv), (.int qv)] [] 0 (rmST l Z a0 hw [] b11 (r1 + (1 : Int32)) lv pv qv (own_p1 f2 ns nl + 1) nl np nq f2 T171.heap hf' hl hp hq hp48 hq48 f175) (own_w hw 60 rfl) (own_w hw 61 rfl) (own_w hw 4 rfl) (own_w hw 62 rfl) (by decide) pd___CIIII_I (by rw [hml]; rfl) rfl rfl (Nat.le_of_eq rfl) (by decide) (by decide) (by decide) (by decide) ?_
      rintro T214 _ L214 X214 ⟨r2, rfl, hr2, rfl, e214⟩
      rw [List.append_nil] at X214
      show own_Go p e below _ T214 (mkF m 436 (own_L2 i0 i1 i2 i3 i4 i5 b11 pv qv s0 lv b166 (own_fits xv dv sv) (.val (.int r1)) (.val (.int (1 : Int32))) (.unset) (.unset) (.unset) (.unset) (.unset) (.unset) (.unset)) [(.int r2)])
      rw [← own_rp_st HF ltp hl48] at hr2
      refine own_by (T' := T214) (f' := (mkF m 441 (own_L2 i0 i1 i2 i3 i4 i5 b11 pv qv s0 lv b166 (own_fits xv dv sv) (.val (.int r1)) (.val (.int (1 : Int32))) (.unset) (.unset) (.unset) (.unset) (.unset) (.unset) (.unset)) [(.int r2)])) (fun t k => XS.goto X214.here hx rfl (pc0 := 436) (pc' := 441) rfl (hb hby at_436) (by decide) (by decide) k) ?_
      refine own_by (T' := T214) (f' := (mkF m 443 (own_L2 i0 i1 i2 i3 i4 i5 b11 pv qv s0 lv b166 (own_fits xv dv sv) (.val (.int r1)) (.val (.int (1 : Int32))) (.val (.int r2)) (.unset) (.unset) (.unset) (.unset) (.unset) (.unset)) [])) (fun t k => XS.istore X214.here hx rfl (hb hby at_441) rfl (l' := #[.val (.int i0), .val (.int i1), .val (.int i2), .val (.int i3), .val (.int i4), .val (.int i5), .val (.ref b11), .val (.int pv), .val (.int qv), .val (.int s0), .val (.int lv), .val (.ref b166), .val (.int (own_fits xv dv sv)), .val (.int r1), .val (.int (1 : Int32)), .val (.int r2), .unset, .unset, .unset, .unset, .unset, .unset]) rfl k) ?_
      refine own_by (T' := T214) (f' := (mkF m 445 (own_L2 i0 i1 i2 i3 i4 i5 b11 pv qv s0 lv b166 (own_fits xv dv sv) (.val (.int r1)) (.val (.int (1 : Int32))) (.val (.int r2)) (.unset) (.unset) (.unset) (.unset) (.unset) (.unset)) [(.int (1 : Int32))])) (fun t k => XS.iload X214.here hx rfl (hb hby at_443) rfl k) ?_
      refine own_by (T' := T214) (f' := (mkF m 448 (own_L2 i0 i1 i2 i3 i4 i5 b11 pv qv s0 lv b166 (own_fits xv dv sv) (.val (.int r1)) (.val (.int (1 : Int32))) (.val (.int r2)) (.unset) (.unset) (.unset) (.unset) (.unset) (.unset)) [])) (fun t k => XS.ifNo X214.here hx rfl (hb hby at_445) rfl ((if0 _ _).trans (feq (by decide)).1) k) ?_
      refine own_by (T' := T214) (f' := (mkF m 450 (own_L2 i0 i1 i2 i3 i4 i5 b11 pv qv s0 lv b166 (own_fits xv dv sv) (.val (.int r1)) (.val (.int (1 : Int32))) (.val (.int r2)) (.unset) (.unset) (.unset) (.unset) (.unset) (.unset)) [(.int r2)])) (fun t k => XS.iload X214.here hx rfl (hb hby at_448) rfl k) ?_
      refine own_by (T' := T214) (f' := (mkF m 452 (own_L2 i0 i1 i2 i3 i4 i5 b11 pv qv s0 lv b166 (own_fits xv dv sv) (.val (.int r1)) (.val (.int (1 : Int32))) (.val (.int r2)) (.unset) (.unset) (.unset) (.unset) (.unset) (.unset)) [(.int s0), (.int r2)])) (fun t k => XS.iload X214.here hx rfl (hb hby at_450) rfl k) ?_
      refine own_by (T' := T214) (f' := (mkF m 453 (own_L2 i0 i1 i2 i3 i4 i5 b11 pv qv s0 lv b166 (own_fits xv dv sv) (.val (.int r1)) (.val (.int (1 : Int32))) (.val (.int r2)) (.unset) (.unset) (.unset) (.unset) (.unset) (.unset)) [(.int (r2 - s0))])) (fun t k => XS.isub X214.here hx rfl (hb hby at_452) rfl k) ?_
      refine own_by (T' := T214) (f' := (mkF m 454 (own_L2 i0 i1 i2 i3 i4 i5 b11 pv qv s0 lv b166 (own_fits xv dv sv) (.val (.int r1)) (.val (.int (1 : Int32))) (.val (.int r2)) (.unset) (.unset) (.unset) (.unset) (.unset) (.unset)) [(.int (1 : Int32)), (.int (r2 - s0))])) (fun t k => XS.iconst X214.here hx rfl (hb hby at_453) k) ?_
      refine own_by (T' := T214) (f' := (mkF m 455 (own_L2 i0 i1 i2 i3 i4 i5 b11 pv qv s0 lv b166 (own_fits xv dv sv) (.val (.int r1)) (.val (.int (1 : Int32))) (.val (.int r2)) (.unset) (.unset) (.unset) (.unset) (.unset) (.unset)) [(.int ((r2 - s0) - (1 : Int32)))])) (fun t k => XS.isub X214.here hx rfl (hb hby at_454) rfl k) ?_
      refine own_by (T' := T214) (f' := (mkF m 463 (own_L2 i0 i1 i2 i3 i4 i5 b11 pv qv s0 lv b166 (own_fits xv dv sv) (.val (.int r1)) (.val (.int (1 : Int32))) (.val (.int r2)) (.unset) (.unset) (.unset) (.unset) (.unset) (.unset)) [(.int ((r2 - s0) - (1 : Int32)))])) (fun t k => XS.goto X214.here hx rfl (pc0 := 455) (pc' := 463) rfl (hb hby at_455) (by decide) (by decide) k) ?_
      refine own_by (T' := T214) (f' := (mkF m 465 (own_L2 i0 i1 i2 i3 i4 i5 b11 pv qv s0 lv b166 (own_fits xv dv sv) (.val (.int r1)) (.val (.int (1 : Int32))) (.val (.int r2)) (.val (.int ((r2 - s0) - (1 : Int32)))) (.unset) (.unset) (.unset) (.unset) (.unset)) [])) (fun t k => XS.istore X214.here hx rfl (hb hby at_463) rfl (l' := #[.val (.int i0), .val (.int i1), .val (.int i2), .val (.int i3), .val (.int i4), .val (.int i5), .val (.ref b11), .val (.int pv), .val (.int qv), .val (.int s0), .val (.int lv), .val (.ref b166), .val (.int (own_fits xv dv sv)), .val (.int r1), .val (.int (1 : Int32)), .val (.int r2), .val (.int ((r2 - s0) - (1 : Int32))), .unset, .unset, .unset, .unset, .unset]) rfl k) ?_
      have hpn : own_pnt f2 ns nl := ⟨own_ltn hp1 hl hc396_212, hc406_213⟩
      have hp2 : r2.toInt = ((own_p2 f2 ns nl : Nat) : Int) := by rw [own_p2, if_pos hpn]; exact hr2
      have hle2 : own_p1 f2 ns nl + 1 ≤ own_p2 f2 ns nl := by rw [own_p2, if_pos hpn]; exact (own_rp_le _ _ _).1
      have hdg : ((r2 - s0) - (1 : Int32)) = dv := Int32.toInt_inj.mp (by rw [hdv, own_dgs, if_pos hpn]; rw [own_sub (own_sub hp2 hs (by omega)) z1 (by omega)]; omega)
      exact j465 r1 (1 : Int32) r2 ((r2 - s0) - (1 : Int32)) T214 hp1 (if_pos hpn).symm hp2 hdg X214 e214
    · have _ := X211
      refine own_by (T' := T211) (f' := (mkF m 413 (own_L2 i0 i1 i2 i3 i4 i5 b11 pv qv s0 lv b166 (own_fits xv dv sv) (.val (.int r1)) (.unset) (.unset) (.unset) (.unset) (.unset) (.unset) (.unset) (.unset)) [])) (fun t k => XS.icmpYes X211.here hx rfl (pc0 := 406) (pc' := 413) rfl (hb hby at_406) rfl (feq hc406_213).2 (by decide) (by decide) k) ?_
      refine own_by (T' := T211) (f' := (mkF m 414 (own_L2 i0 i1 i2 i3 i4 i5 b11 pv qv s0 lv b166 (own_fits xv dv sv) (.val (.int r1)) (.unset) (.unset) (.unset) (.unset) (.unset) (.unset) (.unset) (.unset)) [(.int (0 : Int32))])) (fun t k => XS.iconst X211.here hx rfl (hb hby at_413) k) ?_
      refine own_by (T' := T211) (f' := (mkF m 416 (own_L2 i0 i1 i2 i3 i4 i5 b11 pv qv s0 lv b166 (own_fits xv dv sv) (.val (.int r1)) (.val (.int (0 : Int32))) (.unset) (.unset) (.unset) (.unset) (.unset) (.unset) (.unset)) [])) (fun t k => XS.istore X211.here hx rfl (hb hby at_414) rfl (l' := #[.val (.int i0), .val (.int i1), .val (.int i2), .val (.int i3), .val (.int i4), .val (.int i5), .val (.ref b11), .val (.int pv), .val (.int qv), .val (.int s0), .val (.int lv), .val (.ref b166), .val (.int (own_fits xv dv sv)), .val (.int r1), .val (.int (0 : Int32)), .unset, .unset, .unset, .unset, .unset, .unset, .unset]) rfl k) ?_
      refine own_by (T' := T211) (f' := (mkF m 418 (own_L2 i0 i1 i2 i3 i4 i5 b11 pv qv s0 lv b166 (own_fits xv dv sv) (.val (.int r1)) (.val (.int (0 : Int32))) (.unset) (.unset) (.unset) (.unset) (.unset) (.unset) (.unset)) [(.int (0 : Int32))])) (fun t k => XS.iload X211.here hx rfl (hb hby at_416) rfl k) ?_
      refine own_by (T' := T211) (f' := (mkF m 439 (own_L2 i0 i1 i2 i3 i4 i5 b11 pv qv s0 lv b166 (own_fits xv dv sv) (.val (.int r1)) (.val (.int (0 : Int32))) (.unset) (.unset) (.unset) (.unset) (.unset) (.unset) (.unset)) [])) (fun t k => XS.ifYes X211.here hx rfl (pc0 := 418) (pc' := 439) rfl (hb hby at_418) rfl ((if0 _ _).trans (teq rfl).1) (by decide) (by decide) k) ?_
      refine own_by (T' := T211) (f' := (mkF m 441 (own_L2 i0 i1 i2 i3 i4 i5 b11 pv qv s0 lv b166 (own_fits xv dv sv) (.val (.int r1)) (.val (.int (0 : Int32))) (.unset) (.unset) (.unset) (.unset) (.unset) (.unset) (.unset)) [(.int r1)])) (fun t k => XS.iload X211.here hx rfl (hb hby at_439) rfl k) ?_
      refine own_by (T' := T211) (f' := (mkF m 443 (own_L2 i0 i1 i2 i3 i4 i5 b11 pv qv s0 lv b166 (own_fits xv dv sv) (.val (.int r1)) (.val (.int (0 : Int32))) (.val (.int r1)) (.unset) (.unset) (.unset) (.unset) (.unset) (.unset)) [])) (fun t k => XS.istore X211.here hx rfl (hb hby at_441) rfl (l' := #[.val (.int i0), .val (.int i1), .val (.int i2), .val (.int i3), .val (.int i4), .val (.int i5), .val (.ref b11), .val (.int pv), .val (.int qv), .val (.int s0), .val (.int lv), .val (.ref b166), .val (.int (own_fits xv dv sv)), .val (.int r1), .val (.int (0 : Int32)), .val (.int r1), .unset, .unset, .unset, .unset, .unset, .unset]) rfl k) ?_
      refine own_by (T' := T211) (f' := (mkF m 445 (own_L2 i0 i1 i2 i3 i4 i5 b11 pv qv s0 lv b166 (own_fits xv dv sv) (.val (.int r1)) (.val (.int (0 : Int32))) (.val (.int r1)) (.unset) (.unset) (.unset) (.unset) (.unset) (.unset)) [(.int (0 : Int32))])) (fun t k => XS.iload X211.here hx rfl (hb hby at_443) rfl k) ?_
      refine own_by (T' := T211) (f' := (mkF m 458 (own_L2 i0 i1 i2 i3 i4 i5 b11 pv qv s0 lv b166 (own_fits xv dv sv) (.val (.int r1)) (.val (.int (0 : Int32))) (.val (.int r1)) (.unset) (.unset) (.unset) (.unset) (.unset) (.unset)) [])) (fun t k => XS.ifYes X211.here hx rfl (pc0 := 445) (pc' := 458) rfl (hb hby at_445) rfl ((if0 _ _).trans (teq rfl).1) (by decide) (by decide) k) ?_
      refine own_by (T' := T211) (f' := (mkF m 460 (own_L2 i0 i1 i2 i3 i4 i5 b11 pv qv s0 lv b166 (own_fits xv dv sv) (.val (.int r1)) (.val (.int (0 : Int32))) (.val (.int r1)) (.unset) (.unset) (.unset) (.unset) (.unset) (.unset)) [(.int r1)])) (fun t k => XS.iload X211.here hx rfl (hb hby at_458) rfl k) ?_
      refine own_by (T' := T211) (f' := (mkF m 462 (own_L2 i0 i1 i2 i3 i4 i5 b11 pv qv s0 lv b166 (own_fits xv dv sv) (.val (.int r1)) (.val (.int (0 : Int32))) (.val (.int r1)) (.unset) (.unset) (.unset) (.unset) (.unset) (.unset)) [(.int s0), (.int r1)])) (fun t k => XS.iload X211.here hx rfl (hb hby at_460) rfl k) ?_
      refine own_by (T' := T211) (f' := (mkF m 463 (own_L2 i0 i1 i2 i3 i4 i5 b11 pv qv s0 lv b166 (own_fits xv dv sv) (.val (.int r1)) (.val (.int (0 : Int32))) (.val (.int r1)) (.unset) (.unset) (.unset) (.unset) (.unset) (.unset)) [(.int (r1 - s0))])) (fun t k => XS.isub X211.here hx rfl (hb hby at_462) rfl k) ?_
      refine own_by (T' := T211) (f' := (mkF m 465 (own_L2 i0 i1 i2 i3 i4 i5 b11 pv qv s0 lv b166 (own_fits xv dv sv) (.val (.int r1)) (.val (.int (0 : Int32))) (.val (.int r1)) (.val (.int (r1 - s0))) (.unset) (.unset) (.unset) (.unset) (.unset)) [])) (fun t k => XS.istore X211.here hx rfl (hb hby at_463) rfl (l' := #[.val (.int i0), .val (.int i1), .val (.int i2), .val (.int i3), .val (.int i4), .val (.int i5), .val (.ref b11), .val (.int pv), .val (.int qv), .val (.int s0), .val (.int lv), .val (.ref b166), .val (.int (own_fits xv dv sv)), .val (.int r1), .val (.int (0 : Int32)), .val (.int r1), .val (.int (r1 - s0)), .unset, .unset, .unset, .unset, .unset]) rfl k) ?_
      have hpn : ¬ own_pnt f2 ns nl := fun q => hc406_213 q.2
      have hp2 : r1.toInt = ((own_p2 f2 ns nl : Nat) : Int) := by rw [own_p2, if_neg hpn]; exact hp1
      have hdg : (r1 - s0) = dv := Int32.toInt_inj.mp (by rw [hdv, own_dgs, if_neg hpn]; exact own_sub hp1 hs hp12.1)
      exact j465 r1 (0 : Int32) r1 (r1 - s0) T211 hp1 (if_neg hpn).symm hp2 hdg X211 e211
  · have _ := X211
    refine own_by (T' := T211) (f' := (mkF m 413 (own_L2 i0 i1 i2 i3 i4 i5 b11 pv qv s0 lv b166 (own_fits xv dv sv) (.val (.int r1)) (.unset) (.unset) (.unset) (.unset) (.unset) (.unset) (.unset) (.unset)) [])) (fun t k => XS.icmpYes X211.here hx rfl (pc0 := 396) (pc' := 413) rfl (hb hby at_396) rfl (flt hc396_212).2.1 (by decide) (by decide) k) ?_
    refine own_by (T' := T211) (f' := (mkF m 414 (own_L2 i0 i1 i2 i3 i4 i5 b11 pv qv s0 lv b166 (own_fits xv dv sv) (.val (.int r1)) (.unset) (.unset) (.unset) (.unset) (.unset) (.unset) (.unset) (.unset)) [(.int (0 : Int32))])) (fun t k => XS.iconst X211.here hx rfl (hb hby at_413) k) ?_
    refine own_by (T' := T211) (f' := (mkF m 416 (own_L2 i0 i1 i2 i3 i4 i5 b11 pv qv s0 lv b166 (own_fits xv dv sv) (.val (.int r1)) (.val (.int (0 : Int32))) (.unset) (.unset) (.unset) (.unset) (.unset) (.unset) (.unset)) [])) (fun t k => XS.istore X211.here hx rfl (hb hby at_414) rfl (l' := #[.val (.int i0), .val (.int i1), .val (.int i2), .val (.int i3), .val (.int i4), .val (.int i5), .val (.ref b11), .val (.int pv), .val (.int qv), .val (.int s0), .val (.int lv), .val (.ref b166), .val (.int (own_fits xv dv sv)), .val (.int r1), .val (.int (0 : Int32)), .unset, .unset, .unset, .unset, .unset, .unset, .unset]) rfl k) ?_
    refine own_by (T' := T211) (f' := (mkF m 418 (own_L2 i0 i1 i2 i3 i4 i5 b11 pv qv s0 lv b166 (own_fits xv dv sv) (.val (.int r1)) (.val (.int (0 : Int32))) (.unset) (.unset) (.unset) (.unset) (.unset) (.unset) (.unset)) [(.int (0 : Int32))])) (fun t k => XS.iload X211.here hx rfl (hb hby at_416) rfl k) ?_
    refine own_by (T' := T211) (f' := (mkF m 439 (own_L2 i0 i1 i2 i3 i4 i5 b11 pv qv s0 lv b166 (own_fits xv dv sv) (.val (.int r1)) (.val (.int (0 : Int32))) (.unset) (.unset) (.unset) (.unset) (.unset) (.unset) (.unset)) [])) (fun t k => XS.ifYes X211.here hx rfl (pc0 := 418) (pc' := 439) rfl (hb hby at_418) rfl ((if0 _ _).trans (teq rfl).1) (by decide) (by decide) k) ?_
    refine own_by (T' := T211) (f' := (mkF m 441 (own_L2 i0 i1 i2 i3 i4 i5 b11 pv qv s0 lv b166 (own_fits xv dv sv) (.val (.int r1)) (.val (.int (0 : Int32))) (.unset) (.unset) (.unset) (.unset) (.unset) (.unset) (.unset)) [(.int r1)])) (fun t k => XS.iload X211.here hx rfl (hb hby at_439) rfl k) ?_
    refine own_by (T' := T211) (f' := (mkF m 443 (own_L2 i0 i1 i2 i3 i4 i5 b11 pv qv s0 lv b166 (own_fits xv dv sv) (.val (.int r1)) (.val (.int (0 : Int32))) (.val (.int r1)) (.unset) (.unset) (.unset) (.unset) (.unset) (.unset)) [])) (fun t k => XS.istore X211.here hx rfl (hb hby at_441) rfl (l' := #[.val (.int i0), .val (.int i1), .val (.int i2), .val (.int i3), .val (.int i4), .val (.int i5), .val (.ref b11), .val (.int pv), .val (.int qv), .val (.int s0), .val (.int lv), .val (.ref b166), .val (.int (own_fits xv dv sv)), .val (.int r1), .val (.int (0 : Int32)), .val (.int r1), .unset, .unset, .unset, .unset, .unset, .unset]) rfl k) ?_
    refine own_by (T' := T211) (f' := (mkF m 445 (own_L2 i0 i1 i2 i3 i4 i5 b11 pv qv s0 lv b166 (own_fits xv dv sv) (.val (.int r1)) (.val (.int (0 : Int32))) (.val (.int r1)) (.unset) (.unset) (.unset) (.unset) (.unset) (.unset)) [(.int (0 : Int32))])) (fun t k => XS.iload X211.here hx rfl (hb hby at_443) rfl k) ?_
    refine own_by (T' := T211) (f' := (mkF m 458 (own_L2 i0 i1 i2 i3 i4 i5 b11 pv qv s0 lv b166 (own_fits xv dv sv) (.val (.int r1)) (.val (.int (0 : Int32))) (.val (.int r1)) (.unset) (.unset) (.unset) (.unset) (.unset) (.unset)) [])) (fun t k => XS.ifYes X211.here hx rfl (pc0 := 445) (pc' := 458) rfl (hb hby at_445) rfl ((if0 _ _).trans (teq rfl).1) (by decide) (by decide) k) ?_
    refine own_by (T' := T211) (f' := (mkF m 460 (own_L2 i0 i1 i2 i3 i4 i5 b11 pv qv s0 lv b166 (own_fits xv dv sv) (.val (.int r1)) (.val (.int (0 : Int32))) (.val (.int r1)) (.unset) (.unset) (.unset) (.unset) (.unset) (.unset)) [(.int r1)])) (fun t k => XS.iload X211.here hx rfl (hb hby at_458) rfl k) ?_
    refine own_by (T' := T211) (f' := (mkF m 462 (own_L2 i0 i1 i2 i3 i4 i5 b11 pv qv s0 lv b166 (own_fits xv dv sv) (.val (.int r1)) (.val (.int (0 : Int32))) (.val (.int r1)) (.unset) (.unset) (.unset) (.unset) (.unset) (.unset)) [(.int s0), (.int r1)])) (fun t k => XS.iload X211.here hx rfl (hb hby at_460) rfl k) ?_
    refine own_by (T' := T211) (f' := (mkF m 463 (own_L2 i0 i1 i2 i3 i4 i5 b11 pv qv s0 lv b166 (own_fits xv dv sv) (.val (.int r1)) (.val (.int (0 : Int32))) (.val (.int r1)) (.unset) (.unset) (.unset) (.unset) (.unset) (.unset)) [(.int (r1 - s0))])) (fun t k => XS.isub X211.here hx rfl (hb hby at_462) rfl k) ?_
    refine own_by (T' := T211) (f' := (mkF m 465 (own_L2 i0 i1 i2 i3 i4 i5 b11 pv qv s0 lv b166 (own_fits xv dv sv) (.val (.int r1)) (.val (.int (0 : Int32))) (.val (.int r1)) (.val (.int (r1 - s0))) (.unset) (.unset) (.unset) (.unset) (.unset)) [])) (fun t k => XS.istore X211.here hx rfl (hb hby at_463) rfl (l' := #[.val (.int i0), .val (.int i1), .val (.int i2), .val (.int i3), .val (.int i4), .val (.int i5), .val (.ref b11), .val (.int pv), .val (.int qv), .val (.int s0), .val (.int lv), .val (.ref b166), .val (.int (own_fits xv dv sv)), .val (.int r1), .val (.int (0 : Int32)), .val (.int r1), .val (.int (r1 - s0)), .unset, .unset, .unset, .unset, .unset]) rfl k) ?_
    have hpn : ¬ own_pnt f2 ns nl := fun q => own_nltn hp1 hl hc396_212 q.1
    have hp2 : r1.toInt = ((own_p2 f2 ns nl : Nat) : Int) := by rw [own_p2, if_neg hpn]; exact hp1
    have hdg : (r1 - s0) = dv := Int32.toInt_inj.mp (by rw [hdv, own_dgs, if_neg hpn]; exact own_sub hp1 hs hp12.1)
    exact j465 r1 (0 : Int32) r1 (r1 - s0) T211 hp1 (if_neg hpn).symm hp2 hdg X211 e211
set_option maxRecDepth 65536 in
set_option maxHeartbeats 40000000 in
theorem comes_1 {Post : Tables → Env → Array Value → State → Outcome → State → Prop} (hpost : ∀ tb e args s v u, (limb_1_1.after args s (.returned v) u = true ∧ limb_1_2.after args s (.returned v) u = true ∧ True) → FrameEnd s (.returned v) u (Jvm.fieldLocs frame_1_writes args s ++ Jvm.arrayLocs frame_1_arrays args s ++ Jvm.staticLocs frame_1_statics s) 16 192 → Post tb e args s (.returned v) u) :
    ArmFor flags0 classFile x code maxLocals ret World_1 tables_1 room_1 Calls_1 rest_1 Pre_1 Post := by
  intro l hfl _ _ p e ha hc hk s m args below hf hA hF happ hP
  obtain ⟨hcalls, hrest, hpre⟩ := hP
  obtain ⟨-, -, -, hnamed, -, -, -, hat⟩ := (Spec.applies_iff hf).mp happ
  obtain ⟨hg, hn⟩ := and_e (Cond.before_iff.mp (show (Jvm.Cond.and given_1 narrow_1).before args s = true from hpre))
  obtain ⟨gc, gr0⟩ := and_e hg
  obtain ⟨ga0, gr1⟩ := and_e gr0
  obtain ⟨ga1, gr2⟩ := and_e gr1
  obtain ⟨ga2, gr3⟩ := and_e gr2
  obtain ⟨ga3, gr4⟩ := and_e gr3
  obtain ⟨ga4, gr5⟩ := and_e gr4
  obtain ⟨w0, w1, w2, w3, w4, w5, rfl⟩ : ∃ w0 w1 w2 w3 w4 w5 : Value, args = #[w0, w1, w2, w3, w4, w5] := by
    have hs : args.size = 6 := by simpa [Cond.value, given_1] using gc
    obtain ⟨L⟩ := args
    match L, hs with
    | [w0, w1, w2, w3, w4, w5], _ => exact ⟨w0, w1, w2, w3, w4, w5, rfl⟩
  have hw := fun d (hd : d ∈ tables_1) => atoms_spec (ws := Jvm.Cond.code x code maxLocals ret :: tables_1) hat d (List.mem_cons_of_mem _ hd)
  have hfit : Fit s := fun {y c} hc i hi => by
    obtain ⟨ha, rfl⟩ := Array.getElem?_eq_some_iff.mp hc
    have q := List.all_eq_true.mp ((Array.all_eq_true_iff_forall_mem.mp hF) _ (Array.getElem_mem ha)) i (List.mem_range.mpr hi)
    simpa [Array.getElem?_eq_getElem hi] using q
  obtain ⟨i0, ei0⟩ := is_v ga0
  obtain rfl : w0 = (.int i0) := Option.some.inj ei0
  obtain ⟨i1, ei1⟩ := is_v ga1
  obtain rfl : w1 = (.int i1) := Option.some.inj ei1
  obtain ⟨i2, ei2⟩ := is_v ga2
  obtain rfl : w2 = (.int i2) := Option.some.inj ei2
  obtain ⟨i3, ei3⟩ := is_v ga3
  obtain rfl : w3 = (.int i3) := Option.some.inj ei3
  obtain ⟨i4, ei4⟩ := is_v ga4
  obtain rfl : w4 = (.int i4) := Option.some.inj ei4
  obtain ⟨i5, ei5⟩ := is_v gr5
  obtain rfl : w5 = (.int i5) := Option.some.inj ei5
  obtain ⟨n, o, h1, h2, h3, _, L, rfl, ⟨rfl, N⟩, hq⟩ := rm0 l s _ hw tables_1 i0 i1 i2 i3 i4 i5 s.heap s.heap.size (Nat.le_refl _) p e ha hc hk s m _ below hf ((Spec.applies_iff_loose hf).mp happ).1 ⟨rfl, State.Warmed39.refl s, rfl⟩ trivial
  refine ⟨n, _, h1, h2, h3, hpost _ _ _ _ _ _ ⟨Cond.after_iff.mpr rfl, Cond.after_iff.mpr (eq_i res_at (Term.int_eval (1)) rfl), trivial⟩ ⟨hq.1, hq.2.1, (hq.2.2.sift fun y hy => Or.inr (N y hy)).mono (by decide) (by decide)⟩⟩
theorem main_1_1 : Claimed_1_1 := comes_1 fun _ _ _ _ _ _ h hF => ⟨h.1, hF⟩
theorem main_1_2 : Claimed_1_2 := comes_1 fun _ _ _ _ _ _ h hF => ⟨h.2.1, hF⟩
end Jvm.Pilot.@@N@@
namespace Jvm.Pilot.@@N@@
open Jvm Jvm.ClassFile Sem Op Lib Jvm.Free Jvm.Stand Jvm.Pilot.@@N@@.Jvm.D
/-! MADE BY PROGRAM (witnessworld.py) out of the Statement's table words and the real class files: 17 classes; the members and pool entries that the words name. The judged class is class 1, her method 1. -/
namespace start1
open Jvm.ClassFile
def u (s : String) : CpInfo := .utf8 (stringToUtf16 s)
/-- a pool by its gaps: so many unusable entries, then the entry; so many at the end -/
def gap : Nat → List CpInfo → List CpInfo
  | 0, r => r
  | n + 1, r => .unusable :: gap n r
def poolList (es : List (Nat × CpInfo)) (last : Nat) : List CpInfo := es.foldr (fun e r => gap e.1 (e.2 :: r)) (gap last [])
def pool (es : List (Nat × CpInfo)) (last : Nat) : Array CpInfo := ⟨poolList es last⟩
def fileOf (pool : Array CpInfo) (this : Nat) (attrs : Array Attribute := #[]) (ms : Array MethodInfo := #[]) (fl : Nat := 33) (sup : Nat := 0) (ifs : Array Nat := #[]) (fds : Array FieldInfo := #[]) : ClassFile where
  minorVersion := 0
  majorVersion := 65
  constantPool := pool
  accessFlags := fl
  thisClass := this
  superClass := sup
  interfaces := ifs
  fields := fds
  methods := ms
  attributes := attrs
def plain (name : String) (sup : Option ClassId) : Class where
  name := name
  kind := .ordinary
  loader := none
  accessFlags := 33
  super := sup
  interfaces := #[]
  cf := none
  fields := #[]
  methods := #[]
  instanceTypes := #[]
  staticTypes := #[]
  resolved := #[]
  callSites := []
  init := .initialized
  statics := none
  mirror := none

def pool0 : Array CpInfo := pool [(5, u "<init>"), (0, u "()V"), (1, .class_ 10), (1, u "java/lang/Object")] 113

def k0c0 : Code := { maxStack := 0, maxLocals := 1, code := object_method_1_code, exceptionTable := #[], attributes := #[] }
def k0m0 : Method := { name := "<init>", desc := "()V", sig := { parameters := [], returnType := none }, accessFlags := 1, code := some k0c0 }
/-- java/lang/Object -/
def k0 : Class := { plain "java/lang/Object" none with
  accessFlags := 33
  interfaces := #[]
  cf := some (fileOf pool0 8 #[] #[{ accessFlags := 1, nameIndex := 5, descriptorIndex := 6, attributes := #[] }] 33 0 #[] #[])
  fields := #[]
  methods := #[k0m0]
  instanceTypes := #[]
  staticTypes := #[]
  resolved := Array.replicate 124 none
  statics := none }

def pool1 : Array CpInfo := pool [(2, .class_ 4), (0, .nameAndType 5 6), (0, u "java/lang/Object"), (0, u "<init>"), (0, u "()V"), (0, .integer 2147483647), (0, .methodref 9 10), (0, .class_ 11), (0, .nameAndType 12 13), (0, u "com/example/tally_of_atoms/tallyofatoms/NumeralFits128BitsPinLaw"), (0, u "pick"), (0, u "(I)C"), (0, .class_ 15), (0, u "com/example/tally_of_atoms/tallyofatoms/Numeral"), (0, .methodref 14 3), (0, .methodref 14 18), (0, .nameAndType 19 20), (0, u "scan"), (0, u "([CII)Lcom/example/tally_of_atoms/tallyofatoms/Numeral;"), (0, .methodref 14 22), (0, .nameAndType 23 24), (0, u "fits128Bits"), (0, u "()Z"), (0, .methodref 9 26), (0, .nameAndType 27 28), (0, u "stop"), (0, u "([CIIII)I"), (0, .methodref 9 30), (0, .nameAndType 31 32), (0, u "nonzero"), (0, u "(C)Z"), (0, .methodref 9 34), (0, .nameAndType 35 32), (0, u "isDigit"), (2, u "law"), (0, u "(IIIIII)Z")] 5

def k1m0 : Method := { name := "<init>", desc := "()V", sig := { parameters := [], returnType := none }, accessFlags := 1, code := none }
def k1c1 : Code := { maxStack := 5, maxLocals := 22, code := code, exceptionTable := #[], attributes := #[] }
def k1m1 : Method := { name := "law", desc := "(IIIIII)Z", sig := { parameters := [.int, .int, .int, .int, .int, .int], returnType := some .boolean }, accessFlags := 9, code := some k1c1 }
def k1c2 : Code := { maxStack := 2, maxLocals := 6, code := method_3_code, exceptionTable := #[], attributes := #[] }
def k1m2 : Method := { name := "stop", desc := "([CIIII)I", sig := { parameters := [(.array .char), .int, .int, .int, .int], returnType := some .int }, accessFlags := 10, code := some k1c2 }
def k1c3 : Code := { maxStack := 2, maxLocals := 3, code := method_4_code, exceptionTable := #[], attributes := #[] }
def k1m3 : Method := { name := "pick", desc := "(I)C", sig := { parameters := [.int], returnType := some .char }, accessFlags := 10, code := some k1c3 }
def k1c4 : Code := { maxStack := 2, maxLocals := 1, code := method_5_code, exceptionTable := #[], attributes := #[] }
def k1m4 : Method := { name := "isDigit", desc := "(C)Z", sig := { parameters := [.char], returnType := some .boolean }, accessFlags := 10, code := some k1c4 }
def k1c5 : Code := { maxStack := 2, maxLocals := 1, code := method_6_code, exceptionTable := #[], attributes := #[] }
def k1m5 : Method := { name := "nonzero", desc := "(C)Z", sig := { parameters := [.char], returnType := some .boolean }, accessFlags := 10, code := some k1c5 }
/-- com/example/tally_of_atoms/tallyofatoms/NumeralFits128BitsPinLaw -/
def k1 : Class := { plain "com/example/tally_of_atoms/tallyofatoms/NumeralFits128BitsPinLaw" (some 0) with
  accessFlags := 49
  interfaces := #[]
  cf := some (fileOf pool1 9 #[] #[{ accessFlags := 1, nameIndex := 5, descriptorIndex := 6, attributes := #[] }, { accessFlags := 9, nameIndex := 38, descriptorIndex := 39, attributes := #[] }, { accessFlags := 10, nameIndex := 27, descriptorIndex := 28, attributes := #[] }, { accessFlags := 10, nameIndex := 12, descriptorIndex := 13, attributes := #[] }, { accessFlags := 10, nameIndex := 35, descriptorIndex := 32, attributes := #[] }, { accessFlags := 10, nameIndex := 31, descriptorIndex := 32, attributes := #[] }] 49 2 #[] #[])
  fields := #[]
  methods := #[k1m0, k1m1, k1m2, k1m3, k1m4, k1m5]
  instanceTypes := #[]
  staticTypes := #[]
  resolved := Array.replicate 45 none
  statics := none }

def pool2 : Array CpInfo := pool [(1, .methodref 2 3), (0, .class_ 4), (0, .nameAndType 5 6), (0, u "java/lang/Object"), (0, u "<init>"), (0, u "()V"), (0, .fieldref 8 9), (0, .class_ 10), (0, .nameAndType 11 12), (0, u "com/example/tally_of_atoms/tallyofatoms/Numeral"), (0, u "characters"), (0, u "[C"), (0, .fieldref 8 14), (0, .nameAndType 15 16), (0, u "start"), (0, u "I"), (0, .fieldref 8 18), (0, .nameAndType 19 16), (0, u "special"), (0, .fieldref 8 21), (0, .nameAndType 22 23), (0, u "negative"), (0, u "Z"), (0, .fieldref 8 25), (0, .nameAndType 26 27), (0, u "significand"), (0, u "J"), (0, .fieldref 8 29), (0, .nameAndType 30 27), (0, u "significandHigh"), (0, .fieldref 8 32), (0, .nameAndType 33 16), (0, u "significantDigits"), (0, .fieldref 8 35), (0, .nameAndType 36 16), (0, u "scale"), (0, .fieldref 8 38), (0, .nameAndType 39 16), (0, u "exponentValue"), (0, .methodref 8 41), (0, .nameAndType 42 43), (0, u "readDigits"), (0, u "([CII)I"), (0, .fieldref 8 45), (0, .nameAndType 46 16), (0, u "digits"), (0, .fieldref 8 48), (0, .nameAndType 49 23), (0, u "point"), (0, .fieldref 8 51), (0, .nameAndType 52 23), (0, u "exponent"), (0, .fieldref 8 54), (0, .nameAndType 55 23), (0, u "exponentDigits"), (0, .fieldref 8 57), (0, .nameAndType 58 16), (0, u "end"), (0, .methodref 8 60), (0, .nameAndType 61 62), (0, u "isDigit"), (0, u "(C)Z"), (0, .integer 1000000), (0, .methodref 65 66), (0, .class_ 67), (0, .nameAndType 68 69), (0, u "java/lang/Math"), (0, u "min"), (0, u "(II)I"), (2, u "SPECIALS"), (0, u "[Ljava/lang/String;"), (6, u "scan"), (0, u "([CII)Lcom/example/tally_of_atoms/tallyofatoms/Numeral;"), (3, u "()Z"), (7, u "SPECIAL_VALUES"), (0, u "[D"), (78, .long 10), (1, .long 48), (1, .methodref 8 178), (0, .nameAndType 179 180), (0, u "appendTo128Bits"), (0, u "(I)V"), (0, .methodref 65 182), (0, .nameAndType 183 184), (0, u "multiplyHigh"), (0, u "(JJ)J"), (0, .methodref 186 187), (0, .class_ 188), (0, .nameAndType 189 190), (0, u "java/lang/Long"), (0, u "compareUnsigned"), (0, u "(JJ)I"), (14, u "COMPACT_DIGITS"), (2, u "DIGITS_IN_128_BITS"), (1, u "EXPONENT_CAP"), (8, u "fits128Bits")] 10

def k2c0 : Code := { maxStack := 1, maxLocals := 1, code := prog_102_method_1_code, exceptionTable := #[], attributes := #[] }
def k2m0 : Method := { name := "<init>", desc := "()V", sig := { parameters := [], returnType := none }, accessFlags := 0, code := some k2c0 }
def k2c1 : Code := { maxStack := 4, maxLocals := 9, code := prog_102_method_2_code, exceptionTable := #[], attributes := #[] }
def k2m1 : Method := { name := "scan", desc := "([CII)Lcom/example/tally_of_atoms/tallyofatoms/Numeral;", sig := { parameters := [(.array .char), .int, .int], returnType := some (.object "com/example/tally_of_atoms/tallyofatoms/Numeral") }, accessFlags := 0, code := some k2c1 }
def k2c2 : Code := { maxStack := 2, maxLocals := 1, code := prog_102_method_12_code, exceptionTable := #[], attributes := #[] }
def k2m2 : Method := { name := "fits128Bits", desc := "()Z", sig := { parameters := [], returnType := some .boolean }, accessFlags := 0, code := some k2c2 }
def k2c3 : Code := { maxStack := 5, maxLocals := 5, code := prog_102_method_24_code, exceptionTable := #[], attributes := #[] }
def k2m3 : Method := { name := "readDigits", desc := "([CII)I", sig := { parameters := [(.array .char), .int, .int], returnType := some .int }, accessFlags := 2, code := some k2c3 }
def k2c4 : Code := { maxStack := 7, maxLocals := 8, code := prog_102_method_25_code, exceptionTable := #[], attributes := #[] }
def k2m4 : Method := { name := "appendTo128Bits", desc := "(I)V", sig := { parameters := [.int], returnType := none }, accessFlags := 2, code := some k2c4 }
def k2c5 : Code := { maxStack := 2, maxLocals := 1, code := prog_102_method_26_code, exceptionTable := #[], attributes := #[] }
def k2m5 : Method := { name := "isDigit", desc := "(C)Z", sig := { parameters := [.char], returnType := some .boolean }, accessFlags := 10, code := some k2c5 }
/-- com/example/tally_of_atoms/tallyofatoms/Numeral -/
def k2 : Class := { plain "com/example/tally_of_atoms/tallyofatoms/Numeral" (some 0) with
  accessFlags := 32
  interfaces := #[]
  cf := some (fileOf pool2 8 #[] #[{ accessFlags := 0, nameIndex := 5, descriptorIndex := 6, attributes := #[] }, { accessFlags := 0, nameIndex := 80, descriptorIndex := 81, attributes := #[] }, { accessFlags := 0, nameIndex := 219, descriptorIndex := 85, attributes := #[] }, { accessFlags := 2, nameIndex := 42, descriptorIndex := 43, attributes := #[] }, { accessFlags := 2, nameIndex := 179, descriptorIndex := 180, attributes := #[] }, { accessFlags := 10, nameIndex := 61, descriptorIndex := 62, attributes := #[] }] 32 2 #[] #[{ accessFlags := 26, nameIndex := 72, descriptorIndex := 73, attributes := #[] }, { accessFlags := 26, nameIndex := 93, descriptorIndex := 94, attributes := #[] }, { accessFlags := 26, nameIndex := 205, descriptorIndex := 16, attributes := #[] }, { accessFlags := 26, nameIndex := 208, descriptorIndex := 16, attributes := #[] }, { accessFlags := 26, nameIndex := 210, descriptorIndex := 16, attributes := #[] }, { accessFlags := 2, nameIndex := 11, descriptorIndex := 12, attributes := #[] }, { accessFlags := 2, nameIndex := 15, descriptorIndex := 16, attributes := #[] }, { accessFlags := 2, nameIndex := 58, descriptorIndex := 16, attributes := #[] }, { accessFlags := 2, nameIndex := 46, descriptorIndex := 16, attributes := #[] }, { accessFlags := 2, nameIndex := 49, descriptorIndex := 23, attributes := #[] }, { accessFlags := 2, nameIndex := 52, descriptorIndex := 23, attributes := #[] }, { accessFlags := 2, nameIndex := 55, descriptorIndex := 23, attributes := #[] }, { accessFlags := 2, nameIndex := 19, descriptorIndex := 16, attributes := #[] }, { accessFlags := 2, nameIndex := 22, descriptorIndex := 23, attributes := #[] }, { accessFlags := 2, nameIndex := 26, descriptorIndex := 27, attributes := #[] }, { accessFlags := 2, nameIndex := 30, descriptorIndex := 27, attributes := #[] }, { accessFlags := 2, nameIndex := 33, descriptorIndex := 16, attributes := #[] }, { accessFlags := 2, nameIndex := 36, descriptorIndex := 16, attributes := #[] }, { accessFlags := 2, nameIndex := 39, descriptorIndex := 16, attributes := #[] }])
  fields := #[{ name := "SPECIALS", type := (.array (.object "java/lang/String")), accessFlags := 26, slot := 0, constantValue := 0 }, { name := "SPECIAL_VALUES", type := (.array .double), accessFlags := 26, slot := 1, constantValue := 0 }, { name := "COMPACT_DIGITS", type := .int, accessFlags := 26, slot := 2, constantValue := 0 }, { name := "DIGITS_IN_128_BITS", type := .int, accessFlags := 26, slot := 3, constantValue := 0 }, { name := "EXPONENT_CAP", type := .int, accessFlags := 26, slot := 4, constantValue := 0 }, { name := "characters", type := (.array .char), accessFlags := 2, slot := 0, constantValue := 0 }, { name := "start", type := .int, accessFlags := 2, slot := 1, constantValue := 0 }, { name := "end", type := .int, accessFlags := 2, slot := 2, constantValue := 0 }, { name := "digits", type := .int, accessFlags := 2, slot := 3, constantValue := 0 }, { name := "point", type := .boolean, accessFlags := 2, slot := 4, constantValue := 0 }, { name := "exponent", type := .boolean, accessFlags := 2, slot := 5, constantValue := 0 }, { name := "exponentDigits", type := .boolean, accessFlags := 2, slot := 6, constantValue := 0 }, { name := "special", type := .int, accessFlags := 2, slot := 7, constantValue := 0 }, { name := "negative", type := .boolean, accessFlags := 2, slot := 8, constantValue := 0 }, { name := "significand", type := .long, accessFlags := 2, slot := 9, constantValue := 0 }, { name := "significandHigh", type := .long, accessFlags := 2, slot := 10, constantValue := 0 }, { name := "significantDigits", type := .int, accessFlags := 2, slot := 11, constantValue := 0 }, { name := "scale", type := .int, accessFlags := 2, slot := 12, constantValue := 0 }, { name := "exponentValue", type := .int, accessFlags := 2, slot := 13, constantValue := 0 }]
  methods := #[k2m0, k2m1, k2m2, k2m3, k2m4, k2m5]
  instanceTypes := #[(.array .char), .int, .int, .int, .boolean, .boolean, .boolean, .int, .boolean, .long, .long, .int, .int, .int]
  staticTypes := #[(.array (.object "java/lang/String")), (.array .double), .int, .int, .int]
  resolved := Array.replicate 230 none
  statics := none }

def pool3 : Array CpInfo := pool [(1, .class_ 2), (0, u "java/lang/Math"), (1, .class_ 6), (1, u "java/lang/Object"), (0, u "<init>"), (0, u "()V"), (89, .class_ 100), (1, u "java/lang/Math$RandomNumberGeneratorHolder"), (20, u "(JJ)J"), (16, .long 4294967295), (3, u "multiplyHigh"), (29, u "negativeZeroFloatBits"), (0, u "J"), (2, u "negativeZeroDoubleBits"), (24, u "min"), (43, u "$assertionsDisabled"), (0, u "Z"), (88, u "(II)I"), (2, u "twoToTheDoubleScaleDown"), (0, u "D"), (4, u "twoToTheDoubleScaleUp"), (9, u "E"), (3, u "PI"), (2, u "TAU"), (2, u "DEGREES_TO_RADIANS"), (0, u "RADIANS_TO_DEGREES")] 94

def k3m0 : Method := { name := "<init>", desc := "()V", sig := { parameters := [], returnType := none }, accessFlags := 2, code := none }
def k3c1 : Code := { maxStack := 6, maxLocals := 20, code := jdk_29_method_45_code, exceptionTable := #[], attributes := #[] }
def k3m1 : Method := { name := "multiplyHigh", desc := "(JJ)J", sig := { parameters := [.long, .long], returnType := some .long }, accessFlags := 9, code := some k3c1 }
def k3c2 : Code := { maxStack := 2, maxLocals := 2, code := jdk_29_method_69_code, exceptionTable := #[], attributes := #[] }
def k3m2 : Method := { name := "min", desc := "(II)I", sig := { parameters := [.int, .int], returnType := some .int }, accessFlags := 9, code := some k3c2 }
/-- java/lang/Math -/
def k3 : Class := { plain "java/lang/Math" (some 0) with
  accessFlags := 49
  interfaces := #[]
  cf := some (fileOf pool3 1 #[.nestMembers #[98]] #[{ accessFlags := 2, nameIndex := 7, descriptorIndex := 8, attributes := #[] }, { accessFlags := 9, nameIndex := 142, descriptorIndex := 121, attributes := #[] }, { accessFlags := 9, nameIndex := 201, descriptorIndex := 335, attributes := #[] }] 49 4 #[] #[{ accessFlags := 25, nameIndex := 354, descriptorIndex := 339, attributes := #[] }, { accessFlags := 25, nameIndex := 358, descriptorIndex := 339, attributes := #[] }, { accessFlags := 25, nameIndex := 361, descriptorIndex := 339, attributes := #[] }, { accessFlags := 26, nameIndex := 364, descriptorIndex := 339, attributes := #[] }, { accessFlags := 26, nameIndex := 365, descriptorIndex := 339, attributes := #[] }, { accessFlags := 26, nameIndex := 172, descriptorIndex := 173, attributes := #[] }, { accessFlags := 26, nameIndex := 176, descriptorIndex := 173, attributes := #[] }, { accessFlags := 8, nameIndex := 344, descriptorIndex := 339, attributes := #[] }, { accessFlags := 8, nameIndex := 338, descriptorIndex := 339, attributes := #[] }, { accessFlags := 4120, nameIndex := 245, descriptorIndex := 246, attributes := #[] }])
  fields := #[{ name := "E", type := .double, accessFlags := 25, slot := 0, constantValue := 0 }, { name := "PI", type := .double, accessFlags := 25, slot := 1, constantValue := 0 }, { name := "TAU", type := .double, accessFlags := 25, slot := 2, constantValue := 0 }, { name := "DEGREES_TO_RADIANS", type := .double, accessFlags := 26, slot := 3, constantValue := 0 }, { name := "RADIANS_TO_DEGREES", type := .double, accessFlags := 26, slot := 4, constantValue := 0 }, { name := "negativeZeroFloatBits", type := .long, accessFlags := 26, slot := 5, constantValue := 0 }, { name := "negativeZeroDoubleBits", type := .long, accessFlags := 26, slot := 6, constantValue := 0 }, { name := "twoToTheDoubleScaleUp", type := .double, accessFlags := 8, slot := 7, constantValue := 0 }, { name := "twoToTheDoubleScaleDown", type := .double, accessFlags := 8, slot := 8, constantValue := 0 }, { name := "$assertionsDisabled", type := .boolean, accessFlags := 4120, slot := 9, constantValue := 0 }]
  methods := #[k3m0, k3m1, k3m2]
  instanceTypes := #[]
  staticTypes := #[.double, .double, .double, .double, .double, .long, .long, .double, .double, .boolean]
  resolved := Array.replicate 460 none
  statics := none }

def pool4 : Array CpInfo := pool [(1, .class_ 2), (0, u "java/io/Serializable"), (0, .class_ 4), (0, u "java/lang/Object")] 2

/-- java/io/Serializable -/
def k4 : Class := { plain "java/io/Serializable" (some 0) with
  accessFlags := 1537
  interfaces := #[]
  cf := some (fileOf pool4 1 #[] #[] 1537 3 #[] #[])
  fields := #[]
  methods := #[]
  instanceTypes := #[]
  staticTypes := #[]
  resolved := Array.replicate 7 none
  statics := none }

def pool5 : Array CpInfo := pool [(2, .class_ 4), (1, u "java/lang/Object"), (0, u "<init>"), (0, u "()V"), (1, .class_ 10), (1, u "java/lang/Number"), (2, .class_ 14), (0, u "java/io/Serializable"), (0, u "serialVersionUID"), (0, u "J")] 20

def k5m0 : Method := { name := "<init>", desc := "()V", sig := { parameters := [], returnType := none }, accessFlags := 1, code := none }
/-- java/lang/Number -/
def k5 : Class := { plain "java/lang/Number" (some 0) with
  accessFlags := 1057
  interfaces := #[4]
  cf := some (fileOf pool5 8 #[] #[{ accessFlags := 1, nameIndex := 5, descriptorIndex := 6, attributes := #[] }] 1057 2 #[13] #[{ accessFlags := 26, nameIndex := 15, descriptorIndex := 16, attributes := #[] }])
  fields := #[{ name := "serialVersionUID", type := .long, accessFlags := 26, slot := 0, constantValue := 0 }]
  methods := #[k5m0]
  instanceTypes := #[]
  staticTypes := #[.long]
  resolved := Array.replicate 37 none
  statics := none }

def pool6 : Array CpInfo := pool [(1, .class_ 2), (0, u "java/lang/Comparable"), (0, .class_ 4), (0, u "java/lang/Object")] 7

/-- java/lang/Comparable -/
def k6 : Class := { plain "java/lang/Comparable" (some 0) with
  accessFlags := 1537
  interfaces := #[]
  cf := some (fileOf pool6 1 #[] #[] 1537 3 #[] #[])
  fields := #[]
  methods := #[]
  instanceTypes := #[]
  staticTypes := #[]
  resolved := Array.replicate 12 none
  statics := none }

def pool7 : Array CpInfo := pool [(1, .class_ 2), (0, u "java/lang/constant/Constable"), (0, .class_ 4), (0, u "java/lang/Object")] 6

/-- java/lang/constant/Constable -/
def k7 : Class := { plain "java/lang/constant/Constable" (some 0) with
  accessFlags := 1537
  interfaces := #[]
  cf := some (fileOf pool7 1 #[] #[] 1537 3 #[] #[])
  fields := #[]
  methods := #[]
  instanceTypes := #[]
  staticTypes := #[]
  resolved := Array.replicate 11 none
  statics := none }

def pool8 : Array CpInfo := pool [(1, .class_ 2), (0, u "java/lang/constant/ConstantDesc"), (0, .class_ 4), (0, u "java/lang/Object")] 32

/-- java/lang/constant/ConstantDesc -/
def k8 : Class := { plain "java/lang/constant/ConstantDesc" (some 0) with
  accessFlags := 1537
  interfaces := #[]
  cf := some (fileOf pool8 1 #[] #[] 1537 3 #[] #[])
  fields := #[]
  methods := #[]
  instanceTypes := #[]
  staticTypes := #[]
  resolved := Array.replicate 37 none
  statics := none }

def pool9 : Array CpInfo := pool [(1, .class_ 2), (0, u "java/lang/Long"), (165, .long 9223372036854775808), (66, .class_ 237), (1, u "java/lang/Long$LongCache"), (33, .class_ 272), (0, u "java/lang/Number"), (2, u "value"), (0, u "J"), (25, .methodref 1 303), (0, .nameAndType 304 305), (0, u "compare"), (0, u "(JJ)I"), (55, u "TYPE"), (0, u "Ljava/lang/Class;"), (0, .class_ 364), (0, u "java/lang/Comparable"), (0, .class_ 366), (0, u "java/lang/constant/Constable"), (0, .class_ 368), (0, u "java/lang/constant/ConstantDesc"), (0, u "MIN_VALUE"), (1, u "MAX_VALUE"), (4, u "SIZE"), (0, u "I"), (1, u "BYTES"), (1, u "serialVersionUID"), (87, u "compareUnsigned")] 54

def k9c0 : Code := { maxStack := 4, maxLocals := 4, code := jdk_35_method_42_code, exceptionTable := #[], attributes := #[] }
def k9m0 : Method := { name := "compare", desc := "(JJ)I", sig := { parameters := [.long, .long], returnType := some .int }, accessFlags := 9, code := some k9c0 }
def k9c1 : Code := { maxStack := 6, maxLocals := 4, code := jdk_35_method_43_code, exceptionTable := #[], attributes := #[] }
def k9m1 : Method := { name := "compareUnsigned", desc := "(JJ)I", sig := { parameters := [.long, .long], returnType := some .int }, accessFlags := 9, code := some k9c1 }
/-- java/lang/Long -/
def k9 : Class := { plain "java/lang/Long" (some 5) with
  accessFlags := 49
  interfaces := #[6, 7, 8]
  cf := some (fileOf pool9 1 #[.nestMembers #[235]] #[{ accessFlags := 9, nameIndex := 304, descriptorIndex := 305, attributes := #[] }, { accessFlags := 9, nameIndex := 469, descriptorIndex := 305, attributes := #[] }] 49 271 #[363, 365, 367] #[{ accessFlags := 25, nameIndex := 369, descriptorIndex := 276, attributes := #[] }, { accessFlags := 25, nameIndex := 371, descriptorIndex := 276, attributes := #[] }, { accessFlags := 25, nameIndex := 361, descriptorIndex := 362, attributes := #[] }, { accessFlags := 18, nameIndex := 275, descriptorIndex := 276, attributes := #[] }, { accessFlags := 25, nameIndex := 376, descriptorIndex := 377, attributes := #[] }, { accessFlags := 25, nameIndex := 379, descriptorIndex := 377, attributes := #[] }, { accessFlags := 26, nameIndex := 381, descriptorIndex := 276, attributes := #[] }])
  fields := #[{ name := "MIN_VALUE", type := .long, accessFlags := 25, slot := 0, constantValue := 0 }, { name := "MAX_VALUE", type := .long, accessFlags := 25, slot := 1, constantValue := 0 }, { name := "TYPE", type := (.object "java/lang/Class"), accessFlags := 25, slot := 2, constantValue := 0 }, { name := "value", type := .long, accessFlags := 18, slot := 0, constantValue := 0 }, { name := "SIZE", type := .int, accessFlags := 25, slot := 3, constantValue := 0 }, { name := "BYTES", type := .int, accessFlags := 25, slot := 4, constantValue := 0 }, { name := "serialVersionUID", type := .long, accessFlags := 26, slot := 5, constantValue := 0 }]
  methods := #[k9m0, k9m1]
  instanceTypes := #[.long]
  staticTypes := #[.long, .long, (.object "java/lang/Class"), .int, .int, .long]
  resolved := Array.replicate 524 none
  statics := none }

def pool10 : Array CpInfo := pool [(1, u "java/lang/Cloneable"), (0, .class_ 1), (0, u "java/lang/Object"), (0, .class_ 3)] 3

/-- java/lang/Cloneable -/
def k10 : Class := { plain "java/lang/Cloneable" (some 0) with
  accessFlags := 1537
  interfaces := #[]
  cf := some (fileOf pool10 2 #[] #[] 1537 4 #[] #[])
  fields := #[]
  methods := #[]
  instanceTypes := #[]
  staticTypes := #[]
  resolved := Array.replicate 8 none
  statics := none }

/-- the primitive byte -/
def k11 : Class := { plain "byte" none with kind := .primitive 'B', accessFlags := 0x411 }
/-- [B -/
def k12 : Class := { plain "[B" (some 0) with kind := .array 11 .byte, interfaces := #[10, 4], accessFlags := 1041 }

/-- the primitive char -/
def k13 : Class := { plain "char" none with kind := .primitive 'C', accessFlags := 0x411 }
/-- [C -/
def k14 : Class := { plain "[C" (some 0) with kind := .array 13 .char, interfaces := #[10, 4], accessFlags := 1041 }

/-- the primitive int -/
def k15 : Class := { plain "int" none with kind := .primitive 'I', accessFlags := 0x411 }
/-- [I -/
def k16 : Class := { plain "[I" (some 0) with kind := .array 15 .int, interfaces := #[10, 4], accessFlags := 1041 }

def heap : Heap := #[]
def classes : Array Class := #[k0, k1, k2, k3, k4, k5, k6, k7, k8, k9, k10, k11, k12, k13, k14, k15, k16]
def interned : List (Array UInt16 × Addr) := []
def slotsUsed : Nat := 0
def theMethod : MethodId := ⟨1, 1⟩
def args0 : Array Value := #[.int 5, .int 5, .int 5, .int 5, .int 5, .int 5]
def aboutOver (below : List Frame) : State where
  vm := { classes := classes, interned := interned.toArray }
  heap := heap
  slotsUsed := slotsUsed
  threads := #[{ frames := .invoking theMethod args0 :: below }]
def below0 : List Frame := [.native { method := ⟨0, 0⟩, args := #[] }]
def about1 : State := aboutOver below0
def p0 : Program := .bare "" "" ""
def e0 : Env := launch0.env 0 0 0
theorem w_frames : about1.frames = Frame.invoking theMethod args0 :: below0 := rfl
set_option maxRecDepth 65536 in
theorem w_args : argsFit about1.vm theMethod args0 = true := by decide +kernel
set_option maxRecDepth 65536 in
theorem w_heap : heapFits about1 = true := by decide +kernel
set_option maxRecDepth 65536 in
theorem w_runnable : about1.curStatus? = some .runnable := by decide +kernel
set_option maxRecDepth 65536 in
theorem w_alone : about1.alone = true := by decide +kernel
set_option maxRecDepth 65536 in
theorem w_named : about1.methodNamed? x = some theMethod := by decide +kernel
set_option maxRecDepth 65536 in
theorem w_hears : about1.hears theMethod below0 = true := by decide +kernel
set_option maxRecDepth 65536 in
theorem w_ripe : about1.ripe theMethod args0 below0 = true := by decide +kernel
theorem w_running : about1.status = .running := rfl
set_option maxRecDepth 65536 in
theorem w_room : about1.hasRoom e0.platform room_1 = true :=
  launch0.hasRoom_least _ room_1 (by decide +kernel) (by decide +kernel) (by decide +kernel) (by decide +kernel) (by decide +kernel) (by decide +kernel)
theorem allAtoms_all (ts : List Jvm.Cond) (a : Array Jvm.Value) (st : Jvm.State) : (allAtoms ts).before a st = ts.all (fun c => c.before a st) := by
  induction ts with
  | nil => rfl
  | cons c t ih =>
    show (Jvm.Cond.and c (allAtoms t)).before a st = _
    rw [Jvm.Cond.before_and, ih, List.all_cons]
def words1 : List Jvm.Cond := Jvm.Cond.code x code maxLocals ret :: tables_1
/-- a 'code' word, met by the world's own term for the bytes: nothing is compared byte by byte -/
theorem code_word {y : MethodName} {bytes : ByteArray} {mx : Nat} {rt : Option FieldType} {a : Array Value} {s : State} {m : MethodId} {meth : Method} {c : Code} (h1 : s.methodNamed? y = some m) (h2 : s.vm.method? m = some meth) (h3 : meth.code = some c) (h4 : c.code = bytes)
    (h5 : (c.maxLocals == mx && c.exceptionTable.isEmpty && decide (c.maxStack ≤ mostOperands) && decide (meth.sig.returnType = rt) && !meth.locks && decide (parseMethodDescriptor y.desc = some meth.sig)) = true) : (Jvm.Cond.code y bytes mx rt).before a s = true := by
  simp only [Bool.and_eq_true, beq_iff_eq, Bool.not_eq_true', decide_eq_true_eq] at h5
  obtain ⟨⟨⟨⟨⟨g1, g2⟩, g3⟩, g4⟩, g5⟩, g6⟩ := h5
  simp [Cond.before, Cond.holds, Cond.value, h1, h2, h3, h4, g1, g2, g3, g4, g5, g6]
def isCode : Jvm.Cond → Bool
  | .code _ _ _ _ => true
  | _ => false
theorem all_split {L : List Jvm.Cond} {P : Jvm.Cond → Bool} (h1 : L.all (fun c => isCode c || P c) = true) (h2 : ∀ c ∈ L.filter isCode, P c = true) : L.all P = true := by
  refine List.all_eq_true.mpr fun c hc => ?_
  have h := List.all_eq_true.mp h1 c hc
  rcases Bool.eq_false_or_eq_true (isCode c) with hi | hi
  · exact h2 c (List.mem_filter.mpr ⟨hc, hi⟩)
  · simpa [hi] using h
set_option maxRecDepth 65536 in
theorem w_c0 : (Jvm.Cond.code x code maxLocals ret).before args0 about1 = true := code_word (m := ⟨1, 1⟩) (meth := k1m1) (c := k1c1) (by decide +kernel) rfl rfl rfl (by decide +kernel)
set_option maxRecDepth 65536 in
theorem w_c1 : (Jvm.Cond.code ({ cls := "com/example/tally_of_atoms/tallyofatoms/NumeralFits128BitsPinLaw", name := "pick", desc := "(I)C" } : Jvm.MethodName) method_4_code (3 : Nat) (Option.some Jvm.ClassFile.FieldType.char)).before args0 about1 = true := code_word (m := ⟨1, 3⟩) (meth := k1m3) (c := k1c3) (by decide +kernel) rfl rfl rfl (by decide +kernel)
set_option maxRecDepth 65536 in
theorem w_c2 : (Jvm.Cond.code ({ cls := "com/example/tally_of_atoms/tallyofatoms/Numeral", name := "<init>", desc := "()V" } : Jvm.MethodName) prog_102_method_1_code (1 : Nat) (Option.none : Option Jvm.ClassFile.FieldType)).before args0 about1 = true := code_word (m := ⟨2, 0⟩) (meth := k2m0) (c := k2c0) (by decide +kernel) rfl rfl rfl (by decide +kernel)
set_option maxRecDepth 65536 in
theorem w_c3 : (Jvm.Cond.code ({ cls := "java/lang/Object", name := "<init>", desc := "()V" } : Jvm.MethodName) object_method_1_code (1 : Nat) (Option.none : Option Jvm.ClassFile.FieldType)).before args0 about1 = true := code_word (m := ⟨0, 0⟩) (meth := k0m0) (c := k0c0) (by decide +kernel) rfl rfl rfl (by decide +kernel)
set_option maxRecDepth 65536 in
theorem w_c4 : (Jvm.Cond.code ({ cls := "com/example/tally_of_atoms/tallyofatoms/Numeral", name := "scan", desc := "([CII)Lcom/example/tally_of_atoms/tallyofatoms/Numeral;" } : Jvm.MethodName) prog_102_method_2_code (9 : Nat) (Option.some (Jvm.ClassFile.FieldType.object "com/example/tally_of_atoms/tallyofatoms/Numeral"))).before args0 about1 = true := code_word (m := ⟨2, 1⟩) (meth := k2m1) (c := k2c1) (by decide +kernel) rfl rfl rfl (by decide +kernel)
set_option maxRecDepth 65536 in
theorem w_c5 : (Jvm.Cond.code ({ cls := "com/example/tally_of_atoms/tallyofatoms/Numeral", name := "readDigits", desc := "([CII)I" } : Jvm.MethodName) prog_102_method_24_code (5 : Nat) (Option.some Jvm.ClassFile.FieldType.int)).before args0 about1 = true := code_word (m := ⟨2, 3⟩) (meth := k2m3) (c := k2c3) (by decide +kernel) rfl rfl rfl (by decide +kernel)
set_option maxRecDepth 65536 in
theorem w_c6 : (Jvm.Cond.code ({ cls := "com/example/tally_of_atoms/tallyofatoms/Numeral", name := "isDigit", desc := "(C)Z" } : Jvm.MethodName) prog_102_method_26_code (1 : Nat) (Option.some Jvm.ClassFile.FieldType.boolean)).before args0 about1 = true := code_word (m := ⟨2, 5⟩) (meth := k2m5) (c := k2c5) (by decide +kernel) rfl rfl rfl (by decide +kernel)
set_option maxRecDepth 65536 in
theorem w_c7 : (Jvm.Cond.code ({ cls := "com/example/tally_of_atoms/tallyofatoms/Numeral", name := "fits128Bits", desc := "()Z" } : Jvm.MethodName) prog_102_method_12_code (1 : Nat) (Option.some Jvm.ClassFile.FieldType.boolean)).before args0 about1 = true := code_word (m := ⟨2, 2⟩) (meth := k2m2) (c := k2c2) (by decide +kernel) rfl rfl rfl (by decide +kernel)
set_option maxRecDepth 65536 in
theorem w_c8 : (Jvm.Cond.code ({ cls := "com/example/tally_of_atoms/tallyofatoms/NumeralFits128BitsPinLaw", name := "stop", desc := "([CIIII)I" } : Jvm.MethodName) method_3_code (6 : Nat) (Option.some Jvm.ClassFile.FieldType.int)).before args0 about1 = true := code_word (m := ⟨1, 2⟩) (meth := k1m2) (c := k1c2) (by decide +kernel) rfl rfl rfl (by decide +kernel)
set_option maxRecDepth 65536 in
theorem w_c9 : (Jvm.Cond.code ({ cls := "com/example/tally_of_atoms/tallyofatoms/NumeralFits128BitsPinLaw", name := "isDigit", desc := "(C)Z" } : Jvm.MethodName) method_5_code (1 : Nat) (Option.some Jvm.ClassFile.FieldType.boolean)).before args0 about1 = true := code_word (m := ⟨1, 4⟩) (meth := k1m4) (c := k1c4) (by decide +kernel) rfl rfl rfl (by decide +kernel)
set_option maxRecDepth 65536 in
theorem w_c10 : (Jvm.Cond.code ({ cls := "com/example/tally_of_atoms/tallyofatoms/NumeralFits128BitsPinLaw", name := "nonzero", desc := "(C)Z" } : Jvm.MethodName) method_6_code (1 : Nat) (Option.some Jvm.ClassFile.FieldType.boolean)).before args0 about1 = true := code_word (m := ⟨1, 5⟩) (meth := k1m5) (c := k1c5) (by decide +kernel) rfl rfl rfl (by decide +kernel)
set_option maxRecDepth 65536 in
theorem w_c11 : (Jvm.Cond.code ({ cls := "java/lang/Math", name := "min", desc := "(II)I" } : Jvm.MethodName) jdk_29_method_69_code (2 : Nat) (Option.some Jvm.ClassFile.FieldType.int)).before args0 about1 = true := code_word (m := ⟨3, 2⟩) (meth := k3m2) (c := k3c2) (by decide +kernel) rfl rfl rfl (by decide +kernel)
set_option maxRecDepth 65536 in
theorem w_c12 : (Jvm.Cond.code ({ cls := "com/example/tally_of_atoms/tallyofatoms/Numeral", name := "appendTo128Bits", desc := "(I)V" } : Jvm.MethodName) prog_102_method_25_code (8 : Nat) (Option.none : Option Jvm.ClassFile.FieldType)).before args0 about1 = true := code_word (m := ⟨2, 4⟩) (meth := k2m4) (c := k2c4) (by decide +kernel) rfl rfl rfl (by decide +kernel)
set_option maxRecDepth 65536 in
theorem w_c13 : (Jvm.Cond.code ({ cls := "java/lang/Math", name := "multiplyHigh", desc := "(JJ)J" } : Jvm.MethodName) jdk_29_method_45_code (20 : Nat) (Option.some Jvm.ClassFile.FieldType.long)).before args0 about1 = true := code_word (m := ⟨3, 1⟩) (meth := k3m1) (c := k3c1) (by decide +kernel) rfl rfl rfl (by decide +kernel)
set_option maxRecDepth 65536 in
theorem w_c14 : (Jvm.Cond.code ({ cls := "java/lang/Long", name := "compareUnsigned", desc := "(JJ)I" } : Jvm.MethodName) jdk_35_method_43_code (4 : Nat) (Option.some Jvm.ClassFile.FieldType.int)).before args0 about1 = true := code_word (m := ⟨9, 1⟩) (meth := k9m1) (c := k9c1) (by decide +kernel) rfl rfl rfl (by decide +kernel)
set_option maxRecDepth 65536 in
theorem w_c15 : (Jvm.Cond.code ({ cls := "java/lang/Long", name := "compare", desc := "(JJ)I" } : Jvm.MethodName) jdk_35_method_42_code (4 : Nat) (Option.some Jvm.ClassFile.FieldType.int)).before args0 about1 = true := code_word (m := ⟨9, 0⟩) (meth := k9m0) (c := k9c0) (by decide +kernel) rfl rfl rfl (by decide +kernel)
def codes1 : List Jvm.Cond := [Jvm.Cond.code x code maxLocals ret, Jvm.Cond.code ({ cls := "com/example/tally_of_atoms/tallyofatoms/NumeralFits128BitsPinLaw", name := "pick", desc := "(I)C" } : Jvm.MethodName) method_4_code (3 : Nat) (Option.some Jvm.ClassFile.FieldType.char), Jvm.Cond.code ({ cls := "com/example/tally_of_atoms/tallyofatoms/Numeral", name := "<init>", desc := "()V" } : Jvm.MethodName) prog_102_method_1_code (1 : Nat) (Option.none : Option Jvm.ClassFile.FieldType), Jvm.Cond.code ({ cls := "java/lang/Object", name := "<init>", desc := "()V" } : Jvm.MethodName) object_method_1_code (1 : Nat) (Option.none : Option Jvm.ClassFile.FieldType), Jvm.Cond.code ({ cls := "com/example/tally_of_atoms/tallyofatoms/Numeral", name := "scan", desc := "([CII)Lcom/example/tally_of_atoms/tallyofatoms/Numeral;" } : Jvm.MethodName) prog_102_method_2_code (9 : Nat) (Option.some (Jvm.ClassFile.FieldType.object "com/example/tally_of_atoms/tallyofatoms/Numeral")), Jvm.Cond.code ({ cls := "com/example/tally_of_atoms/tallyofatoms/Numeral", name := "readDigits", desc := "([CII)I" } : Jvm.MethodName) prog_102_method_24_code (5 : Nat) (Option.some Jvm.ClassFile.FieldType.int), Jvm.Cond.code ({ cls := "com/example/tally_of_atoms/tallyofatoms/Numeral", name := "isDigit", desc := "(C)Z" } : Jvm.MethodName) prog_102_method_26_code (1 : Nat) (Option.some Jvm.ClassFile.FieldType.boolean), Jvm.Cond.code ({ cls := "com/example/tally_of_atoms/tallyofatoms/Numeral", name := "fits128Bits", desc := "()Z" } : Jvm.MethodName) prog_102_method_12_code (1 : Nat) (Option.some Jvm.ClassFile.FieldType.boolean), Jvm.Cond.code ({ cls := "com/example/tally_of_atoms/tallyofatoms/NumeralFits128BitsPinLaw", name := "stop", desc := "([CIIII)I" } : Jvm.MethodName) method_3_code (6 : Nat) (Option.some Jvm.ClassFile.FieldType.int), Jvm.Cond.code ({ cls := "com/example/tally_of_atoms/tallyofatoms/NumeralFits128BitsPinLaw", name := "isDigit", desc := "(C)Z" } : Jvm.MethodName) method_5_code (1 : Nat) (Option.some Jvm.ClassFile.FieldType.boolean), Jvm.Cond.code ({ cls := "com/example/tally_of_atoms/tallyofatoms/NumeralFits128BitsPinLaw", name := "nonzero", desc := "(C)Z" } : Jvm.MethodName) method_6_code (1 : Nat) (Option.some Jvm.ClassFile.FieldType.boolean), Jvm.Cond.code ({ cls := "java/lang/Math", name := "min", desc := "(II)I" } : Jvm.MethodName) jdk_29_method_69_code (2 : Nat) (Option.some Jvm.ClassFile.FieldType.int), Jvm.Cond.code ({ cls := "com/example/tally_of_atoms/tallyofatoms/Numeral", name := "appendTo128Bits", desc := "(I)V" } : Jvm.MethodName) prog_102_method_25_code (8 : Nat) (Option.none : Option Jvm.ClassFile.FieldType), Jvm.Cond.code ({ cls := "java/lang/Math", name := "multiplyHigh", desc := "(JJ)J" } : Jvm.MethodName) jdk_29_method_45_code (20 : Nat) (Option.some Jvm.ClassFile.FieldType.long), Jvm.Cond.code ({ cls := "java/lang/Long", name := "compareUnsigned", desc := "(JJ)I" } : Jvm.MethodName) jdk_35_method_43_code (4 : Nat) (Option.some Jvm.ClassFile.FieldType.int), Jvm.Cond.code ({ cls := "java/lang/Long", name := "compare", desc := "(JJ)I" } : Jvm.MethodName) jdk_35_method_42_code (4 : Nat) (Option.some Jvm.ClassFile.FieldType.int)]
set_option maxRecDepth 65536 in
theorem codes_eq : words1.filter isCode = codes1 := rfl
theorem w_codes : ∀ c ∈ words1.filter isCode, c.before args0 about1 = true := by
  rw [codes_eq]
  intro c hc
  simp only [codes1, List.mem_cons, List.not_mem_nil, or_false] at hc
  rcases hc with rfl | rfl | rfl | rfl | rfl | rfl | rfl | rfl | rfl | rfl | rfl | rfl | rfl | rfl | rfl | rfl
  · exact w_c0
  · exact w_c1
  · exact w_c2
  · exact w_c3
  · exact w_c4
  · exact w_c5
  · exact w_c6
  · exact w_c7
  · exact w_c8
  · exact w_c9
  · exact w_c10
  · exact w_c11
  · exact w_c12
  · exact w_c13
  · exact w_c14
  · exact w_c15
set_option maxRecDepth 65536 in
theorem w_t1 : (words1.take 24).all (fun c => isCode c || c.before args0 about1) = true := by decide +kernel
set_option maxRecDepth 65536 in
theorem w_t2 : ((words1.drop 24).take 24).all (fun c => isCode c || c.before args0 about1) = true := by decide +kernel
set_option maxRecDepth 65536 in
theorem w_t3 : (((words1.drop 24).drop 24).take 24).all (fun c => isCode c || c.before args0 about1) = true := by decide +kernel
set_option maxRecDepth 65536 in
theorem w_t4 : (((words1.drop 24).drop 24).drop 24).all (fun c => isCode c || c.before args0 about1) = true := by decide +kernel
theorem w_tables : (allAtoms (Jvm.Cond.code x code maxLocals ret :: tables_1)).before args0 about1 = true := by
  rw [allAtoms_all]
  show words1.all (fun c => c.before args0 about1) = true
  refine all_split ?_ w_codes
  rw [← List.take_append_drop 24 words1, List.all_append, w_t1, ← List.take_append_drop 24 (words1.drop 24), List.all_append, w_t2, ← List.take_append_drop 24 ((words1.drop 24).drop 24), List.all_append, w_t3, w_t4]
  rfl
set_option maxRecDepth 65536 in
theorem w_case : (Jvm.Cond.and given_1 narrow_1).before args0 about1 = true := by decide +kernel
theorem w_applies : (headSpec (Jvm.Cond.code x code maxLocals ret :: tables_1) room_1).applies x e0.platform about1 = true :=
  (Spec.applies_iff w_frames).mpr ⟨w_running, w_runnable, w_alone, w_named, w_hears, w_ripe, w_room, w_tables⟩
theorem atStart : AtStart classFile x code maxLocals ret World_1 tables_1 room_1 Calls_1 rest_1 Pre_1 launch0 p0 e0 about1 theMethod args0 below0 :=
  ⟨lists_1, trivial, launch0.admits_env _ _ _, launch0.least_env, fairChoices_fair.cas, fairChoices_fair.clock, w_frames, w_args, w_heap, w_applies, trivial, trivial, w_case⟩
end start1
theorem witness_1 : WitnessClaimed_1 := ⟨start1.p0, start1.e0, start1.about1, start1.theMethod, start1.args0, start1.below0, start1.atStart⟩
end Jvm.Pilot.@@N@@
