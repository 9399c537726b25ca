import JvmDerived
import JvmDerived.Pilot.@@N@@Statement
import JvmDerived.Pilot.@@N@@Code
set_option linter.unusedVariables false
set_option linter.unusedSimpArgs false
namespace Jvm.Pilot.@@N@@
open Jvm Jvm.ClassFile Sem Op Lib Jvm.Free Jvm.Stand Jvm.LawKit Jvm.RoadKit Bundle Jvm.Pilot.@@N@@.Jvm.D
section Own
variable {p : Program} {l : Launch} {e : Env} {R : Room} {s : State} {m : MethodId} {args : Array Value} {below : List Frame} {meth : Method} {c : Code} {T : State} {locs : List Loc} {cells slots : Nat} {Z : State} {a0 : Array Value} {h : Heap} {P : State → Outcome → Prop} {pc : Nat} {Ls : Array Slot} {rest st : List Value}
/-- from T, with f on top, the run comes to an end of which P holds -/
def own_Go (p : Program) (e : Env) (below : List Frame) (P : State → Outcome → Prop) (T : State) (f : JFrame) : Prop :=
  ∃ t o, Steps p.tables e below (T.setTop f) t ∧ t.status = .running ∧ Ended t below o ∧ P t o
theorem own_by {T' : State} {f f' : JFrame} (st : ∀ t, Steps p.tables e below (T'.setTop f') t → Steps p.tables e below (T.setTop f) t) (k : own_Go p e below P T' f') : own_Go p e below P T f := by
  obtain ⟨t, o, h1, h2⟩ := k
  exact ⟨t, o, st _ h1, h2⟩
/-- a method's end: what it returns, the heap, what it wrote -/
def own_Ends (s : State) (rm : Room) (Q : Option Value → Heap → List Loc → Prop) (t : State) (o : Outcome) : Prop := ∃ v L, o = .returned v ∧ Q v t.heap L ∧ FrameEnd s o t L rm.cells rm.slots
/-- a body's contract, at one list of arguments and one heap -/
def own_Ct (l : Launch) (Z : State) (y : MethodName) (bytes : ByteArray) (mx : Nat) (rt : Option FieldType) (ws : List Jvm.Cond) (rm : Room) (as' : Array Value) (h0 : Heap) (Q : Option Value → Heap → List Loc → Prop) : Prop :=
  MetFree l y (head1 (Jvm.Cond.code y bytes mx rt :: ws) rm) (fun a U => a = as' ∧ Z.Warmed39 U.vm ∧ U.heap = h0) (fun _ _ _ _ _ => True) (fun _ U o U' => own_Ends U rm Q U' o)
theorem own_of {y : MethodName} {bytes : ByteArray} {mx : Nat} {rt : Option FieldType} {ws : List Jvm.Cond} {rm : Room} {as' : Array Value} {h0 : Heap} {Q : Option Value → Heap → List Loc → Prop} (hpl : plainFor y = true)
    (body : ∀ (p : Program) (e : Env) (s : State) (m : MethodId) (below : List Frame) (meth : Method) (c : Code) (s₁ : State), p.tables.exec = Jvm.exec → c.code = bytes → c.maxLocals = mx → s.vm.findClass y.cls = some m.cls → meth.name = y.name → meth.sig.returnType = rt → meth.locks = false → Z.Warmed39 s.vm →
      Stand p l e rm s m as' below meth c s₁ [] 0 0 → s₁.heap = h0 → own_Go p e below (own_Ends s rm Q) s₁ (entryFrame m as' mx)) : own_Ct l Z y bytes mx rt ws rm as' h0 Q := by
  refine MetFree.of_bodySF hpl hisR ?_
  intro p e s m args below meth c s₁ Bd hml hP hK
  obtain ⟨rfl, hZ, hh⟩ := hP
  exact body p e s m below meth c s₁ Bd.exec Bd.bytes hml (findClass_of_methodNamed Bd.named) (name_of_methodNamed Bd.named Bd.method).1 Bd.returns Bd.notSynchronized hZ (Stand.of_body Bd) (by rw [← hh, Bd.state]; rfl)
theorem own_ret {rm : Room} {Q : Option Value → Heap → List Loc → Prop} {t : FieldType} {w : Value} {i : Instr} (X : Stand p l e R s m args below meth c T locs cells slots) (hx : p.tables.exec = Jvm.exec) (hret : meth.sig.returnType = some t) (hlk : meth.locks = false) (hd : decode c.code pc = .ok (i, 1)) (hn : narrow t w = w)
    (hi : (i = .ireturn ∧ (t = .int ∨ t = .boolean ∨ t = .byte ∨ t = .char ∨ t = .short) ∧ ∃ z, w = .int z) ∨ (i = .lreturn ∧ t = .long ∧ ∃ z, w = .long z) ∨ (i = .dreturn ∧ t = .double ∧ ∃ z, w = .double z) ∨ (i = .freturn ∧ t = .float ∧ ∃ z, w = .float z) ∨ (i = .areturn ∧ t.isReference = true ∧ w.isRef = true))
    (hc : cells ≤ rm.cells) (hs : slots ≤ rm.slots) (hq : Q (some w) T.heap locs) : own_Go p e below (own_Ends s rm Q) T (mkF m pc Ls (w :: rest)) := by
  obtain ⟨fs, hr, hrun, hended, hW, hsame⟩ := X.leave (v := some w) (fun h => by rw [hret] at h; cases h) hlk
  exact ⟨_, _, retOut X hx hret hn hi hd hr, hrun, hended, _, _, rfl, hq, ⟨_, rfl⟩, hW, hsame.mono hc hs⟩
theorem own_retI {rm : Room} {Q : Option Value → Heap → List Loc → Prop} {w : Int32} (X : Stand p l e R s m args below meth c T locs cells slots) (hx : p.tables.exec = Jvm.exec) (hret : meth.sig.returnType = some .int) (hlk : meth.locks = false) (hd : decode c.code pc = .ok (.ireturn, 1)) 
    (hc : cells ≤ rm.cells) (hs : slots ≤ rm.slots) (hq : Q (some (.int w)) T.heap locs) : own_Go p e below (own_Ends s rm Q) T (mkF m pc Ls (.int w :: rest)) :=
  own_ret X hx hret hlk hd rfl (Or.inl ⟨rfl, Or.inl rfl, _, rfl⟩) hc hs hq
theorem own_retZ {rm : Room} {Q : Option Value → Heap → List Loc → Prop} {w : Int32} (X : Stand p l e R s m args below meth c T locs cells slots) (hx : p.tables.exec = Jvm.exec) (hret : meth.sig.returnType = some .boolean) (hlk : meth.locks = false) (hd : decode c.code pc = .ok (.ireturn, 1)) (hw : w = 0 ∨ w = 1)
    (hc : cells ≤ rm.cells) (hs : slots ≤ rm.slots) (hq : Q (some (.int w)) T.heap locs) : own_Go p e below (own_Ends s rm Q) T (mkF m pc Ls (.int w :: rest)) :=
  own_ret X hx hret hlk hd (by rcases hw with rfl | rfl <;> rfl) (Or.inl ⟨rfl, Or.inr (Or.inl rfl), _, rfl⟩) hc hs hq
theorem own_retJ {rm : Room} {Q : Option Value → Heap → List Loc → Prop} {w : Int64} (X : Stand p l e R s m args below meth c T locs cells slots) (hx : p.tables.exec = Jvm.exec) (hret : meth.sig.returnType = some .long) (hlk : meth.locks = false) (hd : decode c.code pc = .ok (.lreturn, 1)) 
    (hc : cells ≤ rm.cells) (hs : slots ≤ rm.slots) (hq : Q (some (.long w)) T.heap locs) : own_Go p e below (own_Ends s rm Q) T (mkF m pc Ls (.long w :: rest)) :=
  own_ret X hx hret hlk hd rfl (Or.inr (Or.inl ⟨rfl, rfl, _, rfl⟩)) hc hs hq
theorem own_retA {rm : Room} {Q : Option Value → Heap → List Loc → Prop} {w : Value} {t : FieldType} (X : Stand p l e R s m args below meth c T locs cells slots) (hx : p.tables.exec = Jvm.exec) (hret : meth.sig.returnType = some t) (hlk : meth.locks = false) (hd : decode c.code pc = .ok (.areturn, 1)) (ht : t.isReference = true) (hn : narrow t w = w) (hw : w.isRef = true)
    (hc : cells ≤ rm.cells) (hs : slots ≤ rm.slots) (hq : Q (some w) T.heap locs) : own_Go p e below (own_Ends s rm Q) T (mkF m pc Ls (w :: rest)) :=
  own_ret X hx hret hlk hd hn (Or.inr (Or.inr (Or.inr (Or.inr ⟨rfl, ht, hw⟩)))) hc hs hq
theorem own_retV {rm : Room} {Q : Option Value → Heap → List Loc → Prop} (X : Stand p l e R s m args below meth c T locs cells slots) (hx : p.tables.exec = Jvm.exec) (hret : meth.sig.returnType = none) (hlk : meth.locks = false) (hd : decode c.code pc = .ok (.return_, 1))
    (hc : cells ≤ rm.cells) (hs : slots ≤ rm.slots) (hq : Q none T.heap locs) : own_Go p e below (own_Ends s rm Q) T (mkF m pc Ls []) := by
  obtain ⟨fs, hr, hrun, hended, hW, hsame⟩ := X.leave (v := none) (fun _ => rfl) hlk
  exact ⟨_, _, X.returnOut hx hret hd hr, hrun, hended, _, _, rfl, hq, ⟨_, rfl⟩, hW, hsame.mono hc hs⟩
abbrev own_K (p : Program) (l : Launch) (e : Env) (R : Room) (s : State) (m : MethodId) (args : Array Value) (below : List Frame) (meth : Method) (c : Code) (P : State → Outcome → Prop) (locs : List Loc) (cells slots : Nat) (rm : Room) (Q : Option Value → Heap → List Loc → Prop) (pc : Nat) (Ls : Array Slot) (rest : List Value) : Prop :=
  ∀ (T' : State) (v : Option Value) (L : List Loc), Stand p l e R s m args below meth c T' (locs ++ L) (cells + rm.cells) (slots + rm.slots) → Q v T'.heap L → own_Go p e below P T' (mkF m pc Ls (v.toList ++ rest))
theorem own_callS {own : String} {index : Nat} {y : MethodName} {bytes : ByteArray} {maxL : Nat} {ret : Option FieldType} {rm : Room} {Q : Option Value → Heap → List Loc → Prop} {ps : List FieldType} {r : Option FieldType} (X : Stand p l e R s m args below meth c T locs cells slots) (hx : p.tables.exec = Jvm.exec) (hZ : Z.Warmed39 s.vm) (hown : s.vm.findClass own = some m.cls) (eT : T.heap = h) (hd : decode c.code pc = .ok (.invokestatic index, 3))
    (argsL rest : List Value) (W : Nat) (C : own_Ct l Z y bytes maxL ret [] rm argsL.toArray h Q) (w1 : (Cond.methodLink own index y).before a0 Z = true) (w2 : (Cond.static y).before a0 Z = true) (w3 : (Cond.initialized y.cls).before a0 Z = true) (w4 : (Cond.code y bytes maxL ret).before a0 Z = true)
    (hy : y.cls ≠ "java/lang/invoke/MethodHandle" ∧ y.cls ≠ "java/lang/invoke/VarHandle") (hpd : parseMethodDescriptor y.desc = some ⟨ps, r⟩) (hsize : Ls.size = c.maxLocals) (hlen : argsL.length = ps.length) (hst : st = argsL.reverse ++ rest)
    (hW : (rest.map fun v => v.category).sum ≤ W) (hf : rm.frames + 1 ≤ R.frames) (hl : W + (maxL + 11) + rm.locals ≤ R.locals) (hc : cells + rm.cells ≤ R.cells) (hs : slots + rm.slots ≤ R.slots)
    (k : own_K p l e R s m args below meth c P locs cells slots rm Q (pc + 3) Ls rest) : own_Go p e below P T (mkF m pc Ls st) := by
  obtain ⟨v, _, ⟨T', L', k', n'⟩, -, X', ⟨Lc, hQ, l', y', z'⟩, stp⟩ := Jvm.LawKit.callS X hx (y := y) hown (mvT hZ w1) (mvT hZ w2) (mvT hZ w3) (mvT hZ w4) hy (backOf (W := W) (Q := Q) C hZ w4 w3 hf hl) (g := mkF m pc Ls st) rfl hsize (argsL := argsL) (rest := rest) (lenOf hpd hlen) hst (by show 2 * 0 + _ ≤ _; omega) hd (fun _ _ => ⟨rfl, eT, hc, hs⟩)
  dsimp only [Pt.U, Pt.locs, Pt.cells, Pt.slots] at X' l' y' z' stp hQ
  subst l' y' z'
  exact own_by stp (k T' v Lc X' hQ)
theorem own_callN {own : String} {index : Nat} {y : MethodName} {bytes : ByteArray} {maxL : Nat} {rm : Room} {Q : Option Value → Heap → List Loc → Prop} {ps : List FieldType} {r : Option FieldType} {a : Addr} (X : Stand p l e R s m args below meth c T locs cells slots) (hx : p.tables.exec = Jvm.exec) (hZ : Z.Warmed39 s.vm) (hown : s.vm.findClass own = some m.cls) (eT : T.heap = h) (hd : decode c.code pc = .ok (.invokespecial index, 3))
    (argsL rest : List Value) (W : Nat) (C : own_Ct l Z y bytes maxL none [] rm (.ref a :: argsL).toArray h Q) (w1 : (Cond.methodLink own index y).before a0 Z = true) (w2 : (Cond.instanceMethod y).before a0 Z = true) (w3 : (Cond.initialized y.cls).before a0 Z = true) (w4 : (Cond.code y bytes maxL none).before a0 Z = true)
    (hyi : y.name = "<init>") (hy : y.cls ≠ "java/lang/invoke/MethodHandle" ∧ y.cls ≠ "java/lang/invoke/VarHandle") (hpd : parseMethodDescriptor y.desc = some ⟨ps, r⟩) (hsize : Ls.size = c.maxLocals) (hlen : argsL.length = ps.length) (hst : st = argsL.reverse ++ .ref a :: rest)
    (hW : (rest.map fun v => v.category).sum ≤ W) (hf : rm.frames + 1 ≤ R.frames) (hl : W + (maxL + 11) + rm.locals ≤ R.locals) (hc : cells + rm.cells ≤ R.cells) (hs : slots + rm.slots ≤ R.slots)
    (k : own_K p l e R s m args below meth c P locs cells slots rm Q (pc + 3) Ls rest) : own_Go p e below P T (mkF m pc Ls st) := by
  obtain ⟨v, _, ⟨T', L', k', n'⟩, -, X', ⟨Lc, hQ, l', y', z'⟩, stp⟩ := X.specialBack hx (y := y) hyi hown (mvT hZ w1) (mvT hZ w2) (mvT hZ w4) hy (backOf (W := W) (Q := Q) C hZ w4 w3 hf hl) (g := mkF m pc Ls st) rfl hsize (Steps.refl _) (a := a) (argsL := argsL) (rest := rest) (lenOf hpd hlen) hst (by show 2 * 0 + _ ≤ _; omega) hd (fun _ _ => ⟨rfl, eT, hc, hs⟩)
  dsimp only [Pt.U, Pt.locs, Pt.cells, Pt.slots] at X' l' y' z' stp hQ
  subst l' y' z'
  exact own_by (fun _ k => stp.trans k) (k T' v Lc X' hQ)
theorem own_callV {own : String} {index : Nat} {C0 : String} {y z : MethodName} {bytes : ByteArray} {maxL : Nat} {ret : Option FieldType} {rm : Room} {Q : Option Value → Heap → List Loc → Prop} {ps : List FieldType} {r : Option FieldType} {a : Addr} (X : Stand p l e R s m args below meth c T locs cells slots) (hx : p.tables.exec = Jvm.exec) (hZ : Z.Warmed39 s.vm) (hown : s.vm.findClass own = some m.cls) (eT : T.heap = h) (hd : decode c.code pc = .ok (.invokevirtual index, 3))
    (argsL rest : List Value) (W : Nat) (C : own_Ct l Z z bytes maxL ret [] rm (.ref a :: argsL).toArray h Q) (E : Exa Z h a C0) (w1 : (Cond.methodLink own index y).before a0 Z = true) (w0 : (Cond.declares y).before a0 Z = true) (nf : NotFace s y) (ws : (Cond.selects C0 y z).before a0 Z = true) (w2 : (Cond.instanceMethod z).before a0 Z = true) (w3 : (Cond.initialized z.cls).before a0 Z = true) (w4 : (Cond.code z bytes maxL ret).before a0 Z = true)
    (hy : y.cls ≠ "java/lang/invoke/MethodHandle" ∧ y.cls ≠ "java/lang/invoke/VarHandle") (hpd : parseMethodDescriptor y.desc = some ⟨ps, r⟩) (hsize : Ls.size = c.maxLocals) (hlen : argsL.length = ps.length) (hst : st = argsL.reverse ++ .ref a :: rest)
    (hW : (rest.map fun v => v.category).sum ≤ W) (hf : rm.frames + 1 ≤ R.frames) (hl : W + (maxL + 11) + rm.locals ≤ R.locals) (hc : cells + rm.cells ≤ R.cells) (hs : slots + rm.slots ≤ R.slots)
    (k : own_K p l e R s m args below meth c P locs cells slots rm Q (pc + 3) Ls rest) : own_Go p e below P T (mkF m pc Ls st) := by
  obtain ⟨cq, kq, qa, qb, qc⟩ := isOf hZ eT E
  obtain ⟨v, _, ⟨T', L', k', n'⟩, -, X', ⟨Lc, hQ, l', y', z'⟩, stp⟩ := X.virtualBack hx (y := y) (z := z) hown (mvT hZ w1) (mvT hZ w0) nf (mvT hZ ws) (mvT hZ w2) hy (backOf (W := W) (Q := Q) C hZ w4 w3 hf hl) qa qc (g := mkF m pc Ls st) rfl hsize (Steps.refl _) (argsL := argsL) (rest := rest) (lenOf hpd hlen) hst (by show 2 * 0 + _ ≤ _; omega) hd (fun _ _ => ⟨rfl, eT, hc, hs⟩)
  dsimp only [Pt.U, Pt.locs, Pt.cells, Pt.slots] at X' l' y' z' stp hQ
  subst l' y' z'
  exact own_by (fun _ k => stp.trans k) (k T' v Lc X' hQ)
theorem own_callP {own : String} {index : Nat} {C0 : String} {y : MethodName} {bytes : ByteArray} {maxL : Nat} {ret : Option FieldType} {rm : Room} {Q : Option Value → Heap → List Loc → Prop} {ps : List FieldType} {r : Option FieldType} {a : Addr} (X : Stand p l e R s m args below meth c T locs cells slots) (hx : p.tables.exec = Jvm.exec) (hZ : Z.Warmed39 s.vm) (hown : s.vm.findClass own = some m.cls) (eT : T.heap = h) (hd : decode c.code pc = .ok (.invokevirtual index, 3))
    (argsL rest : List Value) (W : Nat) (C : own_Ct l Z y bytes maxL ret [] rm (.ref a :: argsL).toArray h Q) (E : Exa Z h a C0) (w1 : (Cond.methodLink own index y).before a0 Z = true) (w2 : (Cond.instanceMethod y).before a0 Z = true) (ws : (Cond.selects y.cls y y).before a0 Z = true) (wp : (Cond.privateMethod y).before a0 Z = true) (w3 : (Cond.initialized y.cls).before a0 Z = true) (w4 : (Cond.code y bytes maxL ret).before a0 Z = true)
    (hy : y.cls ≠ "java/lang/invoke/MethodHandle" ∧ y.cls ≠ "java/lang/invoke/VarHandle") (hpd : parseMethodDescriptor y.desc = some ⟨ps, r⟩) (hsize : Ls.size = c.maxLocals) (hlen : argsL.length = ps.length) (hst : st = argsL.reverse ++ .ref a :: rest)
    (hW : (rest.map fun v => v.category).sum ≤ W) (hf : rm.frames + 1 ≤ R.frames) (hl : W + (maxL + 11) + rm.locals ≤ R.locals) (hc : cells + rm.cells ≤ R.cells) (hs : slots + rm.slots ≤ R.slots)
    (k : own_K p l e R s m args below meth c P locs cells slots rm Q (pc + 3) Ls rest) : own_Go p e below P T (mkF m pc Ls st) := by
  obtain ⟨cq, q1, q2⟩ := E.cell
  obtain ⟨v, _, ⟨T', L', k', n'⟩, -, X', ⟨Lc, hQ, l', y', z'⟩, stp⟩ := X.privateBack hx (y := y) hown (mvT hZ w1) (mvT hZ w2) (mvT hZ ws) (Cond.privateMethod_at (mvP hZ wp (args := #[]))) (mvT hZ w4) hy (backOf (W := W) (Q := Q) C hZ w4 w3 hf hl) (g := mkF m pc Ls st) rfl hsize (Steps.refl _) (a := a) (by rw [eT]; exact q1) q2 (argsL := argsL) (rest := rest) (lenOf hpd hlen) hst (by show 2 * 0 + _ ≤ _; omega) hd (fun _ _ => ⟨rfl, eT, hc, hs⟩)
  dsimp only [Pt.U, Pt.locs, Pt.cells, Pt.slots] at X' l' y' z' stp hQ
  subst l' y' z'
  exact own_by (fun _ k => stp.trans k) (k T' v Lc X' hQ)
abbrev own_K0 (p : Program) (l : Launch) (e : Env) (R : Room) (s : State) (m : MethodId) (args : Array Value) (below : List Frame) (meth : Method) (c : Code) (P : State → Outcome → Prop) (locs : List Loc) (cells slots : Nat) (h : Heap) (pc : Nat) (Ls : Array Slot) (st : List Value) : Prop :=
  ∀ (T' : State), Stand p l e R s m args below meth c T' locs cells slots → T'.heap = h → own_Go p e below P T' (mkF m pc Ls st)
theorem own_init {own : String} {index : Nat} {a : Addr} (X : Stand p l e R s m args below meth c T locs cells slots) (hx : p.tables.exec = Jvm.exec) (hZ : Z.Warmed39 s.vm) (hown : s.vm.findClass own = some m.cls) (eT : T.heap = h) (hd : decode c.code pc = .ok (.invokespecial index, 3)) (W : Nat)
    (w1 : (Cond.methodLink own index Lib.objectInit).before a0 Z = true) (w2 : (Cond.instanceMethod Lib.objectInit).before a0 Z = true) (w3 : (Cond.code Lib.objectInit ⟨#[0xb1]⟩ 1 none).before a0 Z = true) (hsize : Ls.size = c.maxLocals) (hW : (rest.map fun v => v.category).sum ≤ W) (hf : 1 ≤ R.frames) (hl : W + 12 ≤ R.locals)
    (k : own_K0 p l e R s m args below meth c P locs cells slots h (pc + 3) Ls rest) : own_Go p e below P T (mkF m pc Ls (.ref a :: rest)) := by
  obtain ⟨T', X', e', st⟩ := initO X hx hZ hown w1 w2 w3 eT (g := mkF m pc Ls (.ref a :: rest)) rfl hsize rfl hd hf (W := W) (by show 2 * 0 + _ ≤ _; omega) hl
  exact own_by st (k T' X' e')
theorem own_getF {own R0 O n d host : String} {index : Nat} {a : Addr} {v : Value} (X : Stand p l e R s m args below meth c T locs cells slots) (hx : p.tables.exec = Jvm.exec) (hZ : Z.Warmed39 s.vm) (hown : s.vm.findClass own = some m.cls) (eT : T.heap = h) (hd : decode c.code pc = .ok (.getfield index, 3))
    (w : (Cond.fieldLink own index R0 n d).before a0 Z = true ∨ (Cond.fieldLinkNest own index R0 n d host).before a0 Z = true) (via : Via Z R0 O n d) (F : Fld Z h a O n d v)
    (k : own_K0 p l e R s m args below meth c P locs cells slots h (pc + 3) Ls (v :: rest)) : own_Go p e below P T (mkF m pc Ls (.ref a :: rest)) := by
  obtain ⟨T', X', e', st⟩ := getF X hx hZ hown w via eT F (g := mkF m pc Ls (.ref a :: rest)) rfl rfl hd
  exact own_by st (k T' X' e')
theorem own_getS {own R0 O n d host : String} {index : Nat} {v : Value} (X : Stand p l e R s m args below meth c T locs cells slots) (hx : p.tables.exec = Jvm.exec) (hZ : Z.Warmed39 s.vm) (hown : s.vm.findClass own = some m.cls) (eT : T.heap = h) (hd : decode c.code pc = .ok (.getstatic index, 3))
    (w : (Cond.fieldLink own index R0 n d).before a0 Z = true ∨ (Cond.fieldLinkNest own index R0 n d host).before a0 Z = true) (via : Via Z R0 O n d) (F : Sta Z h O n d v)
    (k : own_K0 p l e R s m args below meth c P locs cells slots h (pc + 3) Ls (v :: st)) : own_Go p e below P T (mkF m pc Ls st) := by
  obtain ⟨T', X', e', stp⟩ := getS2 X hx hZ hown w via eT F (g := mkF m pc Ls st) rfl hd
  exact own_by stp (k T' X' e')
theorem own_new {own C : String} {index n : Nat} (X : Stand p l e R s m args below meth c T locs cells slots) (hx : p.tables.exec = Jvm.exec) (hZ : Z.Warmed39 s.vm) (hown : s.vm.findClass own = some m.cls) (eT : T.heap = h) (hd : decode c.code pc = .ok (.new index, 3))
    (w : (Cond.classLink own index C).before a0 Z = true) (wi : (Cond.instantiable C n).before a0 Z = true) (wz : (Cond.initialized C).before a0 Z = true) (hc : cells + 1 ≤ R.cells) (hl : slots + n ≤ R.slots)
    (k : ∀ (T' : State) (h' : Heap) (b : Addr), Stand p l e R s m args below meth c T' locs (cells + 1) (slots + n) → T'.heap = h' → b = h.size → Ext h h' → Exa Z h' b C → (∀ {O nm d : String} {ty : FieldType}, Laid Z a0 C O nm d → parseFieldDescriptor d = some ty → Fld Z h' b O nm d (defaultValue ty)) → own_Go p e below P T' (mkF m (pc + 3) Ls (.ref b :: st))) :
    own_Go p e below P T (mkF m pc Ls st) := by
  obtain ⟨T', h', X', e', E, A, D, -, stp⟩ := newO X hx hZ hown w wi wz eT (g := mkF m pc Ls st) rfl hd hc hl
  exact own_by stp (k T' h' _ X' e' rfl E A D)
theorem own_putF {own R0 O n d host C : String} {index kk : Nat} {ty : FieldType} {a : Addr} {v old : Value} (X : Stand p l e R s m args below meth c T locs cells slots) (hx : p.tables.exec = Jvm.exec) (hZ : Z.Warmed39 s.vm) (hown : s.vm.findClass own = some m.cls) (eT : T.heap = h) (hd : decode c.code pc = .ok (.putfield index, 3))
    (w : (Cond.fieldLink own index R0 n d).before a0 Z = true ∨ (Cond.fieldLinkNest own index R0 n d host).before a0 Z = true) (via : Via Z R0 O n d) (F : Fld Z h a O n d old) (E : Exa Z h a C) (L : (Cond.lays C O n d).before a0 Z = true ∨ ((Cond.laysFinal C O n d).before a0 Z = true ∧ own = O ∧ meth.name = "<init>")) (wi : (Cond.instantiable C kk).before a0 Z = true)
    (hty : parseFieldDescriptor d = some ty) (hn : narrow ty v = v) (hf : fits ty v = true)
    (k : ∀ (T' : State) (h' : Heap), Stand p l e R s m args below meth c T' (locs ++ [⟨a, Jvm.RoadKit.slotOf Z O n d⟩]) cells slots → T'.heap = h' → Wr h h' a (Jvm.RoadKit.slotOf Z O n d) v → own_Go p e below P T' (mkF m (pc + 3) Ls rest)) :
    own_Go p e below P T (mkF m pc Ls (v :: .ref a :: rest)) := by
  obtain ⟨T', h', X', e', W, st⟩ := putF X hx hZ hown w via eT F E L wi hty hn hf (g := mkF m pc Ls (v :: .ref a :: rest)) rfl rfl hd
  exact own_by st (k T' h' X' e' W)
theorem own_newA {aty : ArrayType} {n : Int32} (X : Stand p l e R s m args below meth c T locs cells slots) (hx : p.tables.exec = Jvm.exec) (hZ : Z.Warmed39 s.vm) (eT : T.heap = h) (hd : decode c.code pc = .ok (.newarray aty, 2))
    (w : (Cond.arrayClass (newarray.typeOf aty)).before a0 Z = true) (hn : ¬ n < 0) (cap : Nat) (hcap : n.toNatClampNeg ≤ cap) (hb : cap * 8 ≤ 536870912) (hc : cells + 1 ≤ R.cells) (hl : slots + cap ≤ R.slots)
    (k : ∀ (T' : State) (h' : Heap) (b : Addr) (cA : ClassId), Stand p l e R s m args below meth c T' locs (cells + 1) (slots + cap) → T'.heap = h' → b = h.size → Ext h h' → Arv Z h' b cA (newarray.typeOf aty) n [] (defaultValue (newarray.typeOf aty)) → own_Go p e below P T' (mkF m (pc + 2) Ls (.ref b :: rest))) :
    own_Go p e below P T (mkF m pc Ls (.int n :: rest)) := by
  obtain ⟨T', h', cA, X', e', E, A, stp⟩ := newP X hx hZ w eT (g := mkF m pc Ls (.int n :: rest)) rfl hd rfl hn hcap hb hc hl
  exact own_by stp (k T' h' _ cA X' e' rfl E (Arv.new A hn))
theorem own_ldcI {own : String} {index : Nat} {i : Int32} (X : Stand p l e R s m args below meth c T locs cells slots) (hx : p.tables.exec = Jvm.exec) (hZ : Z.Warmed39 s.vm) (hown : s.vm.findClass own = some m.cls) (hd : decode c.code pc = .ok (.ldc index, 2)) (w : (Cond.constant own index i).before a0 Z = true)
    (k : own_Go p e below P T (mkF m (pc + 2) Ls (.int i :: st))) : own_Go p e below P T (mkF m pc Ls st) :=
  own_by (fun t k => X.ldcInt hx hown (mvT hZ w) (g := mkF m pc Ls st) rfl hd t k) k
theorem own_ldcJ {own : String} {index : Nat} {i : Int64} (X : Stand p l e R s m args below meth c T locs cells slots) (hx : p.tables.exec = Jvm.exec) (hZ : Z.Warmed39 s.vm) (hown : s.vm.findClass own = some m.cls) (hd : decode c.code pc = .ok (.ldc2_w index, 3)) (w : (Cond.constantLong own index i).before a0 Z = true)
    (k : own_Go p e below P T (mkF m (pc + 3) Ls (.long i :: st))) : own_Go p e below P T (mkF m pc Ls st) :=
  own_by (fun t k => X.ldc2Long hx hown (mvT hZ w) (g := mkF m pc Ls st) rfl hd t k) k
theorem own_ns {a : Addr} {C : String} (F : Exa Z h a C) : ∃ c : Cell, h[a]? = some c ∧ c.vm.isStatics = false := by obtain ⟨c, _, h1, -, -, h4, -⟩ := F; exact ⟨c, h1, h4⟩
theorem own_sta_keep {h' : Heap} {C n d : String} {v : Value} {ws : List Addr} (F : Sta Z h C n d v) (K : Keep h h' ws) (q : ∀ x ∈ ws, ∃ c : Cell, h[x]? = some c ∧ c.vm.isStatics = false) : Sta Z h' C n d v := by
  obtain ⟨cf, i, k, f, st, cell, h1, h2, h3, h4, h5, h6, h7⟩ := F
  refine ⟨cf, i, k, f, st, cell, h1, h2, h3, h4, K.2.1 st cell h5 fun z => ?_, h6, h7⟩
  obtain ⟨c, c1, c2⟩ := q st z
  cases h5.symm.trans c1
  rw [h6] at c2; cases c2
end Own
section OwnArr
variable {p : Program} {l : Launch} {e : Env} {R : Room} {s : State} {m : MethodId} {args : Array Value} {below : List Frame} {meth : Method} {c : Code} {T : State} {locs : List Loc} {cells slots : Nat} {Z : State} {a0 : Array Value} {h h' : Heap} {P : State → Outcome → Prop} {pc : Nat} {Ls : Array Slot} {rest st : List Value} {a b : Addr} {ty : FieldType} {n : Nat} {f g : Nat → Int32}
/-- an array of ints (chars, bytes ..): its length, its elements -/
def own_A (Z : State) (h : Heap) (a : Addr) (ty : FieldType) (n : Nat) (f : Nat → Int32) : Prop := ∃ cl : Cell, Arr Z h a cl ty ∧ cl.slots.size = n ∧ n < 2147483648 ∧ ∀ i, i < n → cl.slots[i]? = some (.int (f i))
theorem own_A.lt (F : own_A Z h a ty n f) : a < h.size := by obtain ⟨_, A, -⟩ := F; exact A.lt
theorem own_A.ext (F : own_A Z h a ty n f) (E : Ext h h') : own_A Z h' a ty n f := by obtain ⟨cl, A, r⟩ := F; exact ⟨cl, A.ext E, r⟩
theorem own_A.other {sl : Nat} {v : Value} (F : own_A Z h b ty n f) (W : Wr h h' a sl v) (q : b ≠ a) : own_A Z h' b ty n f := by obtain ⟨cl, A, r⟩ := F; exact ⟨cl, A.other W q, r⟩
theorem own_A.keep {ws : List Addr} (F : own_A Z h a ty n f) (K : Keep h h' ws) (q : a ∉ ws) : own_A Z h' a ty n f := by obtain ⟨cl, A, r⟩ := F; exact ⟨cl, ⟨K.2.1 a cl A.1 q, A.2⟩, r⟩
theorem own_A.small (F : own_A Z h a ty n f) : n < 2147483648 := by obtain ⟨_, _, _, q, _⟩ := F; exact q
theorem own_A.congr (F : own_A Z h a ty n f) (q : ∀ i, i < n → f i = g i) : own_A Z h a ty n g := by
  obtain ⟨cl, A, h1, h2, h3⟩ := F
  exact ⟨cl, A, h1, h2, fun i hi => by rw [h3 i hi, q i hi]⟩
theorem own_A.set {j : Nat} {v : Int32} (F : own_A Z h a ty n f) (W : Wr h h' a j (.int v)) : own_A Z h' a ty n (fun i => if i = j then v else f i) := by
  obtain ⟨cl, A, h1, h2, h3⟩ := F
  have hw : j < cl.slots.size := by obtain ⟨c', q1, -, q3, -⟩ := W; cases q1.symm.trans A.1; exact q3
  refine ⟨_, A.same W, by rw [sz_set]; exact h1, h2, fun i hi => ?_⟩
  by_cases q : i = j
  · subst q; simp [Cell.setSlot, hw]
  · show _ = some (Value.int (if i = j then v else f i))
    rw [if_neg q, ← h3 i hi]; exact Array.getElem?_setIfInBounds_ne (Ne.symm q)
theorem own_nsA (F : own_A Z h a ty n f) : ∃ c : Cell, h[a]? = some c ∧ c.vm.isStatics = false := by obtain ⟨cl, A, -⟩ := F; exact ⟨cl, A.1, A.plain⟩
theorem own_clamp {j : Int32} (h0 : 0 ≤ j.toInt) : j.toNatClampNeg = j.toInt.toNat := rfl
theorem own_inb {j : Int32} {k : Nat} (h0 : 0 ≤ j.toInt) (h1 : j.toInt < k) : ¬ (j < 0 ∨ k ≤ j.toNatClampNeg) := by
  rintro (q | q)
  · have := Int32.lt_iff_toInt_lt.mp q
    have e : (0 : Int32).toInt = 0 := by decide
    omega
  · rw [own_clamp h0] at q; omega
theorem own_A.new {k : ClassId} {z : Int32} {v : Int32} (F : Arv Z h a k ty z [] (.int v)) : own_A Z h a ty z.toInt.toNat (fun _ => v) := by
  obtain ⟨cl, A, -, h2, h3, H, -⟩ := F
  have e : z.toNatClampNeg = z.toInt.toNat := rfl
  refine ⟨cl, A, h2.trans e, ?_, fun i hi => ?_⟩
  · have := rng32 z; omega
  · rw [H i (by rw [h2, e]; exact hi)]; rfl
theorem own_alen {j : Int32} (X : Stand p l e R s m args below meth c T locs cells slots) (hx : p.tables.exec = Jvm.exec) (hZ : Z.Warmed39 s.vm) (eT : T.heap = h) (hd : decode c.code pc = .ok (.arraylength, 1)) (F : own_A Z h a ty n f) (hj : j.toInt = n)
    (k : own_Go p e below P T (mkF m (pc + 1) Ls (.int j :: rest))) : own_Go p e below P T (mkF m pc Ls (.ref a :: rest)) := by
  obtain ⟨cl, A, h1, h2, -⟩ := F
  have e1 : cl.slots.size.toInt32 = j := by
    apply Int32.toInt_inj.mp
    rw [hj, h1]; exact Int32.toInt_ofNat_of_lt h2
  refine own_by (fun t k => X.arraylength hx (by rw [eT]; exact A.1) (State.isArrayOf_alike hZ.alike A.2.1) (g := mkF m pc Ls (.ref a :: rest)) rfl rfl hd t k) ?_
  rw [e1]; exact k
theorem own_ldI {j : Int32} (X : Stand p l e R s m args below meth c T locs cells slots) (hx : p.tables.exec = Jvm.exec) (hZ : Z.Warmed39 s.vm) (eT : T.heap = h) (hd : decode c.code pc = .ok (.iaload, 1)) (F : own_A Z h a .int n f) (h0 : 0 ≤ j.toInt) (h1 : j.toInt < n)
    (k : own_Go p e below P T (mkF m (pc + 1) Ls (.int (f j.toInt.toNat) :: rest))) : own_Go p e below P T (mkF m pc Ls (.int j :: .ref a :: rest)) := by
  obtain ⟨cl, A, e1, e2, e3⟩ := F
  exact own_by (fun t k => X.iaload hx (j := j) (v := .int (f j.toInt.toNat)) (by rw [eT]; exact A.1) (State.isArrayOf_alike hZ.alike A.2.1) A.2.2 (by rw [e1]; exact own_inb h0 h1) (e3 j.toInt.toNat (by omega)) (g := mkF m pc Ls (.int j :: .ref a :: rest)) rfl rfl hd t k) k
theorem own_ldC {j : Int32} (X : Stand p l e R s m args below meth c T locs cells slots) (hx : p.tables.exec = Jvm.exec) (hZ : Z.Warmed39 s.vm) (eT : T.heap = h) (hd : decode c.code pc = .ok (.caload, 1)) (F : own_A Z h a .char n f) (h0 : 0 ≤ j.toInt) (h1 : j.toInt < n)
    (k : own_Go p e below P T (mkF m (pc + 1) Ls (.int (f j.toInt.toNat) :: rest))) : own_Go p e below P T (mkF m pc Ls (.int j :: .ref a :: rest)) := by
  obtain ⟨cl, A, e1, e2, e3⟩ := F
  exact own_by (fun t k => X.caload hx (j := j) (v := .int (f j.toInt.toNat)) (by rw [eT]; exact A.1) (State.isArrayOf_alike hZ.alike A.2.1) A.2.2 (by rw [e1]; exact own_inb h0 h1) (e3 j.toInt.toNat (by omega)) (g := mkF m pc Ls (.int j :: .ref a :: rest)) rfl rfl hd t k) k
theorem own_ldB {j : Int32} (X : Stand p l e R s m args below meth c T locs cells slots) (hx : p.tables.exec = Jvm.exec) (hZ : Z.Warmed39 s.vm) (eT : T.heap = h) (hd : decode c.code pc = .ok (.baload, 1)) (F : own_A Z h a .byte n f) (h0 : 0 ≤ j.toInt) (h1 : j.toInt < n)
    (k : own_Go p e below P T (mkF m (pc + 1) Ls (.int (f j.toInt.toNat) :: rest))) : own_Go p e below P T (mkF m pc Ls (.int j :: .ref a :: rest)) := by
  obtain ⟨cl, A, e1, e2, e3⟩ := F
  exact own_by (fun t k => X.baloadBytes hx (j := j) (v := .int (f j.toInt.toNat)) (by rw [eT]; exact A.1) (State.isArrayOf_alike hZ.alike A.2.1) A.2.2 (by rw [e1]; exact own_inb h0 h1) (e3 j.toInt.toNat (by omega)) (g := mkF m pc Ls (.int j :: .ref a :: rest)) rfl rfl hd t k) k
abbrev own_KW (p : Program) (l : Launch) (e : Env) (R : Room) (s : State) (m : MethodId) (args : Array Value) (below : List Frame) (meth : Method) (c : Code) (P : State → Outcome → Prop) (locs : List Loc) (cells slots : Nat) (Z : State) (h : Heap) (a : Addr) (ty : FieldType) (n : Nat) (f : Nat → Int32) (j : Nat) (v : Int32) (pc : Nat) (Ls : Array Slot) (st : List Value) : Prop :=
  ∀ (T' : State) (h' : Heap), Stand p l e R s m args below meth c T' (locs ++ [⟨a, j⟩]) cells slots → T'.heap = h' → Wr h h' a j (.int v) → own_A Z h' a ty n (fun i => if i = j then v else f i) → own_Go p e below P T' (mkF m pc Ls st)
theorem own_stI {j x : Int32} (X : Stand p l e R s m args below meth c T locs cells slots) (hx : p.tables.exec = Jvm.exec) (hZ : Z.Warmed39 s.vm) (eT : T.heap = h) (hd : decode c.code pc = .ok (.iastore, 1)) (F : own_A Z h a .int n f) (h0 : 0 ≤ j.toInt) (h1 : j.toInt < n)
    (k : own_KW p l e R s m args below meth c P locs cells slots Z h a .int n f j.toInt.toNat x (pc + 1) Ls rest) : own_Go p e below P T (mkF m pc Ls (.int x :: .int j :: .ref a :: rest)) := by
  obtain ⟨cl, A, e1, e2, e3⟩ := F
  obtain ⟨T', h', X', e', W, stp⟩ := stI X hx hZ eT A (j := j) (x := x) (by rw [e1]; exact own_inb h0 h1) (g := mkF m pc Ls (.int x :: .int j :: .ref a :: rest)) rfl rfl hd
  exact own_by stp (k T' h' X' e' W (own_A.set ⟨cl, A, e1, e2, e3⟩ W))
theorem own_stC {j x : Int32} (X : Stand p l e R s m args below meth c T locs cells slots) (hx : p.tables.exec = Jvm.exec) (hZ : Z.Warmed39 s.vm) (eT : T.heap = h) (hd : decode c.code pc = .ok (.castore, 1)) (F : own_A Z h a .char n f) (h0 : 0 ≤ j.toInt) (h1 : j.toInt < n)
    (k : own_KW p l e R s m args below meth c P locs cells slots Z h a .char n f j.toInt.toNat (nar .char x) (pc + 1) Ls rest) : own_Go p e below P T (mkF m pc Ls (.int x :: .int j :: .ref a :: rest)) := by
  obtain ⟨cl, A, e1, e2, e3⟩ := F
  obtain ⟨T', h', X', e', W, stp⟩ := stC X hx hZ eT A (j := j) (x := x) (by rw [e1]; exact own_inb h0 h1) (g := mkF m pc Ls (.int x :: .int j :: .ref a :: rest)) rfl rfl hd
  exact own_by stp (k T' h' X' e' W (own_A.set ⟨cl, A, e1, e2, e3⟩ W))
theorem own_stB {j x : Int32} (X : Stand p l e R s m args below meth c T locs cells slots) (hx : p.tables.exec = Jvm.exec) (hZ : Z.Warmed39 s.vm) (eT : T.heap = h) (hd : decode c.code pc = .ok (.bastore, 1)) (F : own_A Z h a .byte n f) (h0 : 0 ≤ j.toInt) (h1 : j.toInt < n)
    (k : own_KW p l e R s m args below meth c P locs cells slots Z h a .byte n f j.toInt.toNat (nar .byte x) (pc + 1) Ls rest) : own_Go p e below P T (mkF m pc Ls (.int x :: .int j :: .ref a :: rest)) := by
  obtain ⟨cl, A, e1, e2, e3⟩ := F
  obtain ⟨T', h', X', e', W, stp⟩ := stB X hx hZ eT A (j := j) (x := x) (by rw [e1]; exact own_inb h0 h1) (g := mkF m pc Ls (.int x :: .int j :: .ref a :: rest)) rfl rfl hd
  exact own_by stp (k T' h' X' e' W (own_A.set ⟨cl, A, e1, e2, e3⟩ W))
theorem own_mkA {aty : ArrayType} {z : Int32} {v : Int32} (X : Stand p l e R s m args below meth c T locs cells slots) (hx : p.tables.exec = Jvm.exec) (hZ : Z.Warmed39 s.vm) (eT : T.heap = h) (hd : decode c.code pc = .ok (.newarray aty, 2))
    (w : (Cond.arrayClass (newarray.typeOf aty)).before a0 Z = true) (hv : defaultValue (newarray.typeOf aty) = .int v) (h0 : 0 ≤ z.toInt) (cap : Nat) (hcap : z.toInt ≤ cap) (hb : cap * 8 ≤ 536870912) (hc : cells + 1 ≤ R.cells) (hl : slots + cap ≤ R.slots)
    (k : ∀ (T' : State) (h' : Heap) (b : Addr), Stand p l e R s m args below meth c T' locs (cells + 1) (slots + cap) → T'.heap = h' → b = h.size → Ext h h' → own_A Z h' b (newarray.typeOf aty) z.toInt.toNat (fun _ => v) → own_Go p e below P T' (mkF m (pc + 2) Ls (.ref b :: rest))) :
    own_Go p e below P T (mkF m pc Ls (.int z :: rest)) := by
  have e0 : (0 : Int32).toInt = 0 := by decide
  refine own_newA X hx hZ eT hd w (fun q => ?_) cap ?_ hb hc hl ?_
  · have := Int32.lt_iff_toInt_lt.mp q; omega
  · rw [own_clamp h0]; omega
  · intro T' h' b' cA X' e' g' E A
    rw [hv] at A
    exact k T' h' b' X' e' g' E (own_A.new A)
end OwnArr
section OwnStr
/-- the first place whose sign is above 255, from i on, of k places -/
def own_fstA (f : Nat → Int32) : Nat → Nat → Nat
  | 0, i => i
  | k + 1, i => if (255 : Int32) < f i then i else own_fstA f k (i + 1)
def own_fst (f : Nat → Int32) (n : Nat) : Nat := own_fstA f n 0
/-- a sign's byte as it is stored -/
def own_b8 (x : Int32) : Int32 := nar .byte x.toInt8.toInt32
theorem own_upd (j : Nat) (φ g : Nat → Int32) (i : Nat) : (if i = j then φ j else if i < j then φ i else g i) = (if i < j + 1 then φ i else g i) := by
  by_cases h : i = j
  · subst h; simp
  · by_cases h2 : i < j
    · rw [if_neg h, if_pos h2, if_pos (by omega)]
    · rw [if_neg h, if_neg h2, if_neg (by omega)]
theorem own_inc {iv : Int32} {j n : Nat} (h : iv.toInt = j) (h1 : j < n) (h2 : n < 2147483648) : (iv + (1 : Int32)).toInt = ((j + 1 : Nat) : Int) := by
  have q := c_iadd iv 1
  have e1 : (1 : Int32).toInt = 1 := by decide
  have r := rng32 (iv + 1)
  omega
theorem own_nz {z : Int32} {n : Nat} (hz : z.toInt = n) (h1 : 1 ≤ n) : ¬ (z = (0 : Int32)) := fun q => by
  rw [q] at hz
  have : (0 : Int32).toInt = 0 := by decide
  omega
theorem own_cd0 (z : Int32) : ((((z - z).toUInt32 >>> ((31 : Int32) &&& 31).toUInt32).toInt32).toInt8.toInt32) = 0 := by rw [Int32.sub_self]; decide
theorem own_fstA_all {f : Nat → Int32} : ∀ (k i : Nat), (∀ q, i ≤ q → q < i + k → ¬ (255 : Int32) < f q) → own_fstA f k i = i + k
  | 0, i, _ => rfl
  | k + 1, i, h => by
    rw [own_fstA, if_neg (h i (Nat.le_refl _) (by omega)), own_fstA_all k (i + 1) (fun q h1 h2 => h q (by omega) (by omega))]; omega
theorem own_fst_all {f : Nat → Int32} {n : Nat} (h : ∀ q, q < n → ¬ (255 : Int32) < f q) : own_fst f n = n := by
  rw [own_fst, own_fstA_all n 0 (fun q _ h2 => h q (by omega))]; omega
theorem own_A.uniq {Z : State} {h : Heap} {a : Addr} {ty ty' : FieldType} {n n' : Nat} {f f' : Nat → Int32} (F : own_A Z h a ty n f) (G : own_A Z h a ty' n' f') : n = n' ∧ ∀ i, i < n → f i = f' i := by
  obtain ⟨c, A, h1, h2, h3⟩ := F
  obtain ⟨c', A', h1', h2', h3'⟩ := G
  cases A.1.symm.trans A'.1
  have e : n = n' := h1.symm.trans h1'
  refine ⟨e, fun i hi => ?_⟩
  have q := (h3 i hi).symm.trans (h3' i (e ▸ hi))
  simpa using q
theorem own_fld_uniq {Z : State} {h : Heap} {a : Addr} {C n d : String} {v w : Value} (F : Fld Z h a C n d v) (G : Fld Z h a C n d w) : v = w := by
  by_cases e : v = w
  · exact e
  · exact absurd rfl (Fld.ne F G e)
/-- the answer of an equals on two arrays -/
def own_eqA (n1 : Nat) (f1 : Nat → Int32) (n2 : Nat) (f2 : Nat → Int32) : Int32 := if n1 = n2 ∧ ∀ i, i < n1 → f1 i = f2 i then 1 else 0
theorem own_eqA_01 (n1 : Nat) (f1 : Nat → Int32) (n2 : Nat) (f2 : Nat → Int32) : own_eqA n1 f1 n2 f2 = 0 ∨ own_eqA n1 f1 n2 f2 = 1 := by unfold own_eqA; split <;> simp
theorem own_eqA_ne {n1 n2 : Nat} {f1 f2 : Nat → Int32} (h : ¬ n1 = n2) : own_eqA n1 f1 n2 f2 = 0 := by unfold own_eqA; rw [if_neg fun q => h q.1]
theorem own_eqA_at {n1 n2 : Nat} {f1 f2 : Nat → Int32} {j : Nat} (hj : j < n1) (h : ¬ f1 j = f2 j) : own_eqA n1 f1 n2 f2 = 0 := by unfold own_eqA; rw [if_neg fun q => h (q.2 j hj)]
theorem own_eqA_all {n1 n2 : Nat} {f1 f2 : Nat → Int32} (e : n1 = n2) (h : ∀ i, i < n1 → f1 i = f2 i) : own_eqA n1 f1 n2 f2 = 1 := by unfold own_eqA; rw [if_pos ⟨e, h⟩]
theorem own_i256 (z : Int32) (h0 : 0 ≤ z.toInt) (h1 : z.toInt < 256) : ∃ k : Fin 256, z = Int32.ofNat k.1 := by
  refine ⟨⟨z.toInt.toNat, by omega⟩, Int32.toInt_inj.mp ?_⟩
  rw [Int32.toInt_ofNat_of_lt (by simp only; omega)]
  simp only; omega
theorem own_b8_tab : ∀ k : Fin 256, ((own_b8 (Int32.ofNat k.1)) &&& (255 : Int32)).toUInt32.toUInt16.toUInt32.toInt32 = Int32.ofNat k.1 := by decide +kernel
/-- the byte read back -/
theorem own_b8_char (x : Int32) (h0 : 0 ≤ x.toInt) (h1 : x.toInt < 256) : ((own_b8 x) &&& (255 : Int32)).toUInt32.toUInt16.toUInt32.toInt32 = x := by
  obtain ⟨k, rfl⟩ := own_i256 x h0 h1
  exact own_b8_tab k
theorem own_b8_inj (x y : Int32) (h0 : 0 ≤ x.toInt) (h1 : x.toInt < 256) (g0 : 0 ≤ y.toInt) (g1 : y.toInt < 256) (e : own_b8 x = own_b8 y) : x = y := by
  rw [← own_b8_char x h0 h1, ← own_b8_char y g0 g1, e]
end OwnStr
section OwnU
def own_hi (x : Int32) : Int32 := nar .byte ((x >>> ((8 : Int32) &&& 31)).toInt8.toInt32)
def own_lo (x : Int32) : Int32 := nar .byte ((x >>> ((0 : Int32) &&& 31)).toInt8.toInt32)
/-- the bytes of the first j signs, two each -/
def own_u16 (f : Nat → Int32) (j : Nat) (q : Nat) : Int32 := if q < 2 * j then (if q % 2 = 0 then own_lo (f (q / 2)) else own_hi (f (q / 2))) else 0
theorem own_u16_step (f : Nat → Int32) (j q : Nat) : (if q = 2 * j + 1 then own_hi (f j) else if q = 2 * j then own_lo (f j) else own_u16 f j q) = own_u16 f (j + 1) q := by
  unfold own_u16
  by_cases h1 : q = 2 * j + 1
  · rw [if_pos h1, if_pos (by omega), if_neg (by omega), show q / 2 = j by omega]
  · rw [if_neg h1]
    by_cases h2 : q = 2 * j
    · rw [if_pos h2, if_pos (by omega), if_pos (by omega), show q / 2 = j by omega]
    · rw [if_neg h2]
      by_cases h3 : q < 2 * j
      · rw [if_pos h3, if_pos (show q < 2 * (j + 1) by omega)]
      · rw [if_neg h3, if_neg (show ¬ q < 2 * (j + 1) by omega)]
theorem own_u16_lo {f : Nat → Int32} {j n : Nat} (h : j < n) : own_u16 f n (2 * j) = own_lo (f j) := by unfold own_u16; rw [if_pos (by omega), if_pos (by omega), show 2 * j / 2 = j by omega]
theorem own_u16_hi {f : Nat → Int32} {j n : Nat} (h : j < n) : own_u16 f n (2 * j + 1) = own_hi (f j) := by unfold own_u16; rw [if_pos (by omega), if_neg (by omega), show (2 * j + 1) / 2 = j by omega]
theorem own_shl1 {iv : Int32} {j : Nat} (h : iv.toInt = j) (hb : j < 1073741824) : (iv <<< ((1 : Int32) &&& 31)).toInt = ((2 * j : Nat) : Int) := by
  have q := c_ishl iv 1 1 (by decide)
  have r := rng32 (iv <<< ((1 : Int32) &&& 31))
  omega
theorem own_shr1 {z : Int32} {n : Nat} (h : z.toInt = (2 * n : Nat)) : (z >>> ((1 : Int32) &&& 31)).toInt = (n : Nat) := by
  have q := c_ishr z 1 1 (by decide)
  omega
theorem own_shr0 (z : Int32) : z >>> ((0 : Int32) &&& 31) = z := by
  apply Int32.toInt_inj.mp
  have q := c_ishr z 0 0 (by decide)
  omega
theorem own_nar_b (x : Int32) : (nar .byte x).toInt = x.toInt8.toInt32.toInt := rfl
theorem own_lo255 (c : Int32) : ((own_lo c) &&& (255 : Int32)).toInt = c.toInt % 256 := by
  have h1 := c_mask (own_lo c) 255 8 (by decide) (by decide)
  have h2 := c_i2b c
  have h3 := c_i2b (c.toInt8.toInt32)
  have h4 : (own_lo c).toInt = (c.toInt8.toInt32).toInt8.toInt32.toInt := by rw [own_lo, own_shr0]; rfl
  omega
theorem own_hi255 (c : Int32) : ((own_hi c) &&& (255 : Int32)).toInt = (c.toInt / 256) % 256 := by
  have h1 := c_mask (own_hi c) 255 8 (by decide) (by decide)
  have h0 := c_ishr c 8 8 (by decide)
  have h2 := c_i2b (c >>> ((8 : Int32) &&& 31))
  have h3 := c_i2b ((c >>> ((8 : Int32) &&& 31)).toInt8.toInt32)
  have h4 : (own_hi c).toInt = ((c >>> ((8 : Int32) &&& 31)).toInt8.toInt32).toInt8.toInt32.toInt := rfl
  omega
theorem own_u16_char (c : Int32) (h0 : 0 ≤ c.toInt) (h1 : c.toInt < 65536) : ((((own_lo c) &&& (255 : Int32)) <<< ((0 : Int32) &&& 31)) ||| (((own_hi c) &&& (255 : Int32)) <<< ((8 : Int32) &&& 31))).toUInt32.toUInt16.toUInt32.toInt32 = c := by
  have a := own_lo255 c
  have b := own_hi255 c
  generalize (own_lo c) &&& (255 : Int32) = x at a ⊢
  generalize (own_hi c) &&& (255 : Int32) = y at b ⊢
  have s0 := c_ishl x 0 0 (by decide)
  have s8 := c_ishl y 8 8 (by decide)
  have r0 := rng32 (x <<< ((0 : Int32) &&& 31))
  have r8 := rng32 (y <<< ((8 : Int32) &&& 31))
  generalize x <<< ((0 : Int32) &&& 31) = u at s0 r0 ⊢
  generalize y <<< ((8 : Int32) &&& 31) = w at s8 r8 ⊢
  have o := c_or' u w 8 (by decide) 256 (by decide) (by omega) (by omega) (by omega)
  have ro := rng32 (u ||| w)
  have q := c_i2c (u ||| w)
  apply Int32.toInt_inj.mp
  omega
theorem own_narC {w : Int32} (h0 : 0 ≤ w.toInt) (h1 : w.toInt < 65536) : narrow .char (.int w) = .int w := by
  have q := c_i2c w
  have e : w.toUInt32.toUInt16.toUInt32.toInt32 = w := Int32.toInt_inj.mp (by omega)
  show Value.int _ = Value.int w
  exact congrArg Value.int e
theorem own_cd1 {z y : Int32} {n : Nat} (hz : z.toInt = n) (hy : y.toInt = (2 * n : Nat)) (h1 : 1 ≤ n) : ((((z - y).toUInt32 >>> ((31 : Int32) &&& 31).toUInt32).toInt32).toInt8.toInt32) = 1 := by
  have q := c_iushr (z - y) 31 31 (by decide) (by decide)
  have s := c_isub z y
  have r := rng32 (z - y)
  have r1 := rng32 y
  have e : (((z - y).toUInt32 >>> ((31 : Int32) &&& 31).toUInt32).toInt32) = 1 := by
    apply Int32.toInt_inj.mp
    rw [q]
    have : (1 : Int32).toInt = 1 := by decide
    omega
  rw [e]; decide
theorem own_fstA_spec {f : Nat → Int32} : ∀ (k i : Nat), own_fstA f k i ≤ i + k ∧ i ≤ own_fstA f k i ∧ (own_fstA f k i < i + k → (255 : Int32) < f (own_fstA f k i)) ∧ (∀ q, i ≤ q → q < own_fstA f k i → ¬ (255 : Int32) < f q)
  | 0, i => ⟨Nat.le_refl _, Nat.le_refl _, fun h => absurd h (Nat.lt_irrefl _), fun q h1 h2 => by rw [own_fstA] at h2; omega⟩
  | k + 1, i => by
    by_cases h : (255 : Int32) < f i
    · rw [own_fstA, if_pos h]; exact ⟨by omega, Nat.le_refl _, fun _ => h, fun q h1 h2 => by omega⟩
    · rw [own_fstA, if_neg h]
      obtain ⟨a, b, c, d⟩ := own_fstA_spec (f := f) k (i + 1)
      refine ⟨by omega, by omega, fun q => c (by omega), fun q h1 h2 => ?_⟩
      by_cases e : q = i
      · exact e ▸ h
      · exact d q (by omega) h2
/-- a String as its signs -/
def own_JS (Z : State) (h : Heap) (a : Addr) (n : Nat) (f : Nat → Int32) : Prop := n < 1073741824 ∧ (∀ i, i < n → 0 ≤ (f i).toInt ∧ (f i).toInt < 65536) ∧ Exa Z h a "java/lang/String" ∧ ∃ (b : Addr) (z : Int32), Fld Z h a "java/lang/String" "value" "[B" (.ref b) ∧
  ((Fld Z h a "java/lang/String" "coder" "B" (.int 0) ∧ z.toInt = n ∧ (∀ i, i < n → ¬ (255 : Int32) < f i) ∧ own_A Z h b .byte n (fun i => own_b8 (f i))) ∨ (Fld Z h a "java/lang/String" "coder" "B" (.int 1) ∧ z.toInt = (2 * n : Nat) ∧ (∃ q, q < n ∧ (255 : Int32) < f q) ∧ own_A Z h b .byte (2 * n) (own_u16 f n)))
theorem own_JS.ext {Z : State} {h h' : Heap} {a : Addr} {n : Nat} {f : Nat → Int32} (F : own_JS Z h a n f) (E : Ext h h') : own_JS Z h' a n f := by
  obtain ⟨h0, h1, h2, b, z, h3, h4⟩ := F
  refine ⟨h0, h1, h2.ext E, b, z, h3.ext E, ?_⟩
  rcases h4 with ⟨q1, q2, q3, q4⟩ | ⟨q1, q2, q3, q4⟩
  · exact Or.inl ⟨q1.ext E, q2, q3, q4.ext E⟩
  · exact Or.inr ⟨q1.ext E, q2, q3, q4.ext E⟩
theorem own_JS.keep {Z : State} {h h' : Heap} {a : Addr} {n : Nat} {f : Nat → Int32} (F : own_JS Z h a n f) (K : Keep h h' []) : own_JS Z h' a n f := F.ext ⟨K.1, fun x c q => K.2.1 x c q (by simp)⟩
theorem own_JS.lt {Z : State} {h : Heap} {a : Addr} {n : Nat} {f : Nat → Int32} (F : own_JS Z h a n f) : a < h.size := by obtain ⟨_, _, h2, _⟩ := F; exact h2.lt
theorem own_nl0 {iv : Int32} (g0 : 0 ≤ iv.toInt) : ¬ (iv < (0 : Int32)) := by
  rw [Int32.lt_iff_toInt_lt]
  have : (0 : Int32).toInt = 0 := by decide
  omega
theorem own_lt30 {z : Int32} {n c : Nat} (hz : z.toInt = (n : Nat)) (hc : n ≤ c) (h : c < 1073741823) : z < (1073741823 : Int32) := by
  rw [Int32.lt_iff_toInt_lt]
  have : (1073741823 : Int32).toInt = 1073741823 := by decide
  omega
theorem own_lt256 {x : Int32} (h : ¬ (255 : Int32) < x) : x.toInt < 256 := by
  rw [Int32.lt_iff_toInt_lt] at h
  have : (255 : Int32).toInt = 255 := by decide
  omega
theorem own_z0 {z : Int32} {n m : Nat} (hz : z.toInt = (m : Nat)) (h : z = (0 : Int32)) (hm : m = n ∨ m = 2 * n := by omega) : n = 0 := by
  rw [h] at hz
  have : (0 : Int32).toInt = 0 := by decide
  omega
theorem own_z1 {z : Int32} {n m : Nat} (hz : z.toInt = (m : Nat)) (h : ¬ (z = (0 : Int32))) (hm : m = n ∨ m = 2 * n := by omega) : ¬ (n = 0) := fun q => h (Int32.toInt_inj.mp (by
  have : (0 : Int32).toInt = 0 := by decide
  omega))
/-- the JDK's statics that the String bodies read -/
def own_St (Z : State) (h : Heap) (cs : Int32) (fm : Value) : Prop := Sta Z h "java/lang/String" "COMPACT_STRINGS" "Z" (.int cs) ∧ Sta Z h "java/lang/StringUTF16" "$assertionsDisabled" "Z" (.int 1) ∧ Sta Z h "java/lang/StringUTF16" "HI_BYTE_SHIFT" "I" (.int 0) ∧ Sta Z h "java/lang/StringUTF16" "LO_BYTE_SHIFT" "I" (.int 8) ∧ Sta Z h "jdk/internal/util/Preconditions" "SIOOBE_FORMATTER" "Ljava/util/function/BiFunction;" fm ∧ ¬ (cs = (0 : Int32)) ∧ fm.isRef = true
theorem own_St.ext {Z : State} {h h' : Heap} {cs : Int32} {fm : Value} (F : own_St Z h cs fm) (E : Ext h h') : own_St Z h' cs fm := ⟨F.1.ext E, F.2.1.ext E, F.2.2.1.ext E, F.2.2.2.1.ext E, F.2.2.2.2.1.ext E, F.2.2.2.2.2⟩
theorem own_St.wr {Z : State} {h h' : Heap} {cs : Int32} {fm : Value} {a : Addr} {sl : Nat} {v : Value} (F : own_St Z h cs fm) (W : Wr h h' a sl v) : own_St Z h' cs fm := ⟨F.1.wr W, F.2.1.wr W, F.2.2.1.wr W, F.2.2.2.1.wr W, F.2.2.2.2.1.wr W, F.2.2.2.2.2⟩
theorem own_St.keep {Z : State} {h h' : Heap} {cs : Int32} {fm : Value} {ws : List Addr} (F : own_St Z h cs fm) (K : Keep h h' ws) (q : ∀ x ∈ ws, ∃ c : Cell, h[x]? = some c ∧ c.vm.isStatics = false) : own_St Z h' cs fm := ⟨own_sta_keep F.1 K q, own_sta_keep F.2.1 K q, own_sta_keep F.2.2.1 K q, own_sta_keep F.2.2.2.1 K q, own_sta_keep F.2.2.2.2.1 K q, F.2.2.2.2.2⟩
end OwnU
section OwnWide
variable {p : Program} {l : Launch} {e : Env} {R : Room} {s : State} {m : MethodId} {args : Array Value} {below : List Frame} {meth : Method} {c : Code} {T : State} {locs : List Loc} {cells slots : Nat} {Z : State} {a0 : Array Value} {h h0 : Heap} {P : State → Outcome → Prop} {pc : Nat} {Ls : Array Slot} {rest st : List Value} {EL : List (String × Nat)} {vm0 V0 : Vm} {k0 : Nat}
/-- the end of a method that may have interned -/
def own_EndsW (Z : State) (EL : List (String × Nat)) (s : State) (rm : Room) (Q : Option Value → Heap → List Loc → Prop) (t : State) (o : Outcome) : Prop := ∃ v L, o = .returned v ∧ Q v t.heap L ∧ CHr Z EL s.vm s.heap t.vm t.heap ∧ ReturnedEndW s o t L rm.cells rm.slots
def own_CtW (l : Launch) (Z : State) (EL : List (String × Nat)) (y : MethodName) (bytes : ByteArray) (mx : Nat) (rt : Option FieldType) (ws : List Jvm.Cond) (rm : Room) (as' : Array Value) (h0 : Heap) (Q : Option Value → Heap → List Loc → Prop) : Prop :=
  MetFree l y (head1 (Jvm.Cond.code y bytes mx rt :: ws) rm) (fun a U => a = as' ∧ Z.Warmed39 U.vm ∧ U.heap = h0 ∧ CHv Z EL U.vm h0) (fun _ _ _ _ _ => True) (fun _ U o U' => own_EndsW Z EL U rm Q U' o)
theorem own_ofW {y : MethodName} {bytes : ByteArray} {mx : Nat} {rt : Option FieldType} {ws : List Jvm.Cond} {rm : Room} {as' : Array Value} {Q : Option Value → Heap → List Loc → Prop} (hpl : plainFor y = true)
    (body : ∀ (p : Program) (e : Env) (s : State) (m : MethodId) (below : List Frame) (meth : Method) (c : Code) (s₁ : State), p.tables.exec = Jvm.exec → c.code = bytes → c.maxLocals = mx → (s.setVm s.vm).vm.findClass y.cls = some m.cls → meth.name = y.name → meth.sig.returnType = rt → meth.locks = false → Z.Warmed39 (s.setVm s.vm).vm →
      Stand p l e rm (s.setVm s.vm) m as' below meth c s₁ [] 0 0 → s₁.heap = h0 → s.heap = h0 → s.Since s.vm h0.size → h0.size ≤ h0.size → CHr Z EL s.vm h0 s.vm h0 → own_Go p e below (own_EndsW Z EL s rm Q) s₁ (entryFrame m as' mx)) : own_CtW l Z EL y bytes mx rt ws rm as' h0 Q := by
  refine MetFree.of_bodySF hpl hisR ?_
  intro p e s m args below meth c s₁ Bd hml hP hK
  obtain ⟨rfl, hZ, hh, hC⟩ := hP
  exact body p e s m below meth c s₁ Bd.exec Bd.bytes hml (findClass_of_methodNamed Bd.named) (name_of_methodNamed Bd.named Bd.method).1 Bd.returns Bd.notSynchronized hZ (Stand.of_body Bd) (by rw [← hh, Bd.state]; rfl) hh ((State.WarmedH.refl s).since _) (Nat.le_refl _) (CHr.refl hC)
theorem own_endW {rm : Room} {Q : Option Value → Heap → List Loc → Prop} {v : Option Value} {fs : List Frame} (X : Stand p l e R (s.setVm vm0) m args below meth c T locs cells slots) (hZ : Z.Warmed39 (s.setVm vm0).vm) (hEL : EW Z a0 EL) (hs0 : s.heap = h0) (eT : T.heap = h) (CH : CHr Z EL s.vm h0 vm0 h) (hc : cells ≤ rm.cells) (hs : slots ≤ rm.slots) (hq : Q v T.heap locs)
    (hE : ReturnedEndW s (.returned v) (T.setFrames fs) locs cells slots) : own_EndsW Z EL s rm Q (T.setFrames fs) (.returned v) := by
  refine ⟨v, locs, rfl, hq, ?_, hE.1, hE.2.1, hE.2.2.1, hE.2.2.2.mono hc hs⟩
  rw [hs0]
  have q := CH.trans (CHv.at X hZ hEL CH.1)
  show CHr Z EL s.vm h0 T.vm T.heap
  rw [eT]; exact q
theorem own_retW {rm : Room} {Q : Option Value → Heap → List Loc → Prop} {t : FieldType} {w : Value} {i : Instr} (X : Stand p l e R (s.setVm vm0) m args below meth c T locs cells slots) (hx : p.tables.exec = Jvm.exec) (hret : meth.sig.returnType = some t) (hlk : meth.locks = false) (hZ : Z.Warmed39 (s.setVm vm0).vm) (hEL : EW Z a0 EL) (hs0 : s.heap = h0) (eT : T.heap = h) (hS : s.Since vm0 k0) (hk : k0 ≤ h.size) (CH : CHr Z EL s.vm h0 vm0 h) (hd : decode c.code pc = .ok (i, 1)) (hn : narrow t w = w)
    (hi : (i = .ireturn ∧ (t = .int ∨ t = .boolean ∨ t = .byte ∨ t = .char ∨ t = .short) ∧ ∃ z, w = .int z) ∨ (i = .lreturn ∧ t = .long ∧ ∃ z, w = .long z) ∨ (i = .dreturn ∧ t = .double ∧ ∃ z, w = .double z) ∨ (i = .freturn ∧ t = .float ∧ ∃ z, w = .float z) ∨ (i = .areturn ∧ t.isReference = true ∧ w.isRef = true))
    (hc : cells ≤ rm.cells) (hs : slots ≤ rm.slots) (hq : Q (some w) T.heap locs) : own_Go p e below (own_EndsW Z EL s rm Q) T (mkF m pc Ls (w :: rest)) := by
  obtain ⟨fs, hr, hrun, hended, hE⟩ := X.leaveW hS (by rw [eT]; exact hk) (v := some w) (fun h => by rw [hret] at h; cases h) hlk
  exact ⟨_, _, retOut X hx hret hn hi hd hr, hrun, hended, own_endW X hZ hEL hs0 eT CH hc hs hq hE⟩
theorem own_retWV {rm : Room} {Q : Option Value → Heap → List Loc → Prop} (X : Stand p l e R (s.setVm vm0) m args below meth c T locs cells slots) (hx : p.tables.exec = Jvm.exec) (hret : meth.sig.returnType = none) (hlk : meth.locks = false) (hZ : Z.Warmed39 (s.setVm vm0).vm) (hEL : EW Z a0 EL) (hs0 : s.heap = h0) (eT : T.heap = h) (hS : s.Since vm0 k0) (hk : k0 ≤ h.size) (CH : CHr Z EL s.vm h0 vm0 h) (hd : decode c.code pc = .ok (.return_, 1))
    (hc : cells ≤ rm.cells) (hs : slots ≤ rm.slots) (hq : Q none T.heap locs) : own_Go p e below (own_EndsW Z EL s rm Q) T (mkF m pc Ls []) := by
  obtain ⟨fs, hr, hrun, hended, hE⟩ := X.leaveW hS (by rw [eT]; exact hk) (v := none) (fun _ => rfl) hlk
  exact ⟨_, _, X.returnOut hx hret hd hr, hrun, hended, own_endW X hZ hEL hs0 eT CH hc hs hq hE⟩
theorem own_A.ofArv {b : Addr} {k : ClassId} {z : Int32} {vs : List Value} {us : List Int32} (F : Arv Z h b k .byte z vs (.int 0)) (hvs : vs = us.map Value.int) (hz : z.toInt = us.length) : own_A Z h b .byte us.length (fun i => us.getD i 0) := by
  obtain ⟨cl, A, -, h2, h3, H, -⟩ := F
  have e : z.toNatClampNeg = us.length := by rw [show z.toNatClampNeg = z.toInt.toNat from rfl]; omega
  refine ⟨cl, A, h2.trans e, by have := rng32 z; omega, fun i hi => ?_⟩
  rw [H i (by rw [h2, e]; exact hi), hvs]
  simp [List.getD, List.getElem?_map, hi]
theorem own_A.safe {vm : Vm} {x : Addr} {ty : FieldType} {n : Nat} {f : Nat → Int32} (hal : Z.vm.Alike vm) (F : own_A Z h x ty n f) (ht : ty ≠ .byte) : Safe Z EL vm h x := by obtain ⟨cl, A, -⟩ := F; exact Safe.arr hal A ht
theorem own_safe_new {vm : Vm} {a : Addr} (hal : Z.vm.Alike vm) (E : Exa Z h a "java/lang/String") (F : Fld Z h a "java/lang/String" "value" "[B" .null) : Safe Z EL vm h a := by
  rintro ⟨q, -, u, x, -, sq, -, B, hy⟩
  have ha := B.ha
  have hd := B.hd
  obtain ⟨cS, ⟨⟨-, -, -, ⟨c1, k1, i1, f1, -⟩, -, -, -, v1, -⟩, -⟩, -, hB, -⟩ := B
  rcases hy with rfl | rfl
  · obtain ⟨cell, cf, k, i, f, g1, g2, -, -, -, -, g7⟩ := F
    obtain ⟨k3, e3, -⟩ := State.fieldFound?_setVm (s := Z) (vm' := vm) hal g2
    have e4 := (show (Wst Z vm h).fieldFound? _ _ _ = _ from e3).symm.trans f1
    simp only [Option.some.injEq, Prod.mk.injEq] at e4
    cases g1.symm.trans ha
    rw [← e4.2.2.2, g7] at v1
    cases v1
  · obtain ⟨cell, k, g1, g2, -⟩ := E
    cases g1.symm.trans hd
    have hB' : Z.vm.findClass "[B" = some sq.SA.cls := by rw [← hal.findClass]; exact hB
    obtain ⟨kk1, a1, a2⟩ := Vm.findClass_spec g2
    obtain ⟨kk2, b1, b2⟩ := Vm.findClass_spec hB'
    cases a1.symm.trans b1
    exact absurd (a2.symm.trans b2) (by decide)
theorem own_since_mono {vm1 : Vm} {n n' : Nat} (hS : s.Since vm1 n) (hn : n ≤ n') : s.Since vm1 n' := ⟨hS.1, fun j q hj hq => ⟨(hS.2 j q hj hq).1, Nat.lt_of_lt_of_le (hS.2 j q hj hq).2 hn⟩⟩
theorem own_ldc {own text : String} {index : Nat} {us : List Int32} {z : Int32} (X : Stand p l e R (s.setVm vm0) m args below meth c T locs cells slots) (hx : p.tables.exec = Jvm.exec) (hZ : Z.Warmed39 (s.setVm vm0).vm) (hown : (s.setVm vm0).vm.findClass own = some m.cls) (eT : T.heap = h) (hd : decode c.code pc = .ok (.ldc index, 2))
    (w : (Cond.stringLink own index text).before a0 Z = true) (wS : ∀ a ∈ Bundle.stringAtoms, a.before a0 Z = true) (hS : s.Since vm0 k0) (hk : k0 ≤ h.size) (hEL : EW Z a0 EL) (hmem : (own, index) ∈ EL) (CH : CHr Z EL V0 h0 vm0 h)
    (ht : (∀ c ∈ text.toList, c.toNat < 256) ∧ text.toList.map (fun c => Value.int (Jvm.Lit.byteI c.toNat.toUInt16)) = us.map Value.int) (hz : z.toInt = us.length) (hzn : ¬ z < 0) (n : Nat) (hn : 4 * text.toList.length ≤ n) (hbig : n ≤ 536870912) (hc : cells + 2 ≤ R.cells) (hl : slots + (n + 4) ≤ R.slots)
    (k : ∀ (a : Addr) (T' : State) (h' : Heap) (k1 : Nat) (b : Addr), Stand p l e R (s.setVm T'.vm) m args below meth c T' locs (cells + 2) (slots + (n + 4)) → T'.heap = h' → Ext h h' → s.Since T'.vm k1 → k1 ≤ h'.size → Z.Warmed39 (s.setVm T'.vm).vm → (s.setVm T'.vm).vm.findClass own = some m.cls → (s.setVm vm0).Warmed39 T'.vm → CHr Z EL vm0 h T'.vm h' → CHr Z EL V0 h0 T'.vm h' → Lit (s.setVm T'.vm) own index a →
      Exa Z h' a "java/lang/String" → Fld Z h' a "java/lang/String" "coder" "B" (.int 0) → Fld Z h' a "java/lang/String" "value" "[B" (.ref b) → own_A Z h' b .byte us.length (fun i => us.getD i 0) → (∀ x, Safe Z EL T'.vm h' x → x ≠ a ∧ x ≠ b) → own_Go p e below P T' (mkF m (pc + 2) Ls (.ref a :: st))) :
    own_Go p e below P T (mkF m pc Ls st) := by
  obtain ⟨a, T', h', k1, b, kk, X', e', E, hS', hk', hZ', hown', A, C, V, B, -, -, CH', L, sf, stp⟩ := ldcCH (s := s.setVm vm0) (vm0 := vm0) X hx hZ hown w wS eT (k0 := h.size) ((State.WarmedH.refl (s.setVm vm0)).since _) (Nat.le_refl _) hEL hmem CH.1 ht hzn (by rw [show z.toNatClampNeg = z.toInt.toNat from rfl, List.length_map]; omega) (g := mkF m pc Ls st) rfl hd hn hbig hc hl
  exact own_by stp (k a T' h' h'.size b X' e' E (hS.trans (own_since_mono hS' hk') (Nat.le_trans hk E.1)) (Nat.le_refl _) hZ' hown' hS'.1 CH' (CH.trans CH') L A C V (own_A.ofArv B rfl hz) sf)
abbrev own_KC (p : Program) (l : Launch) (e : Env) (R : Room) (s : State) (vm0 : Vm) (m : MethodId) (args : Array Value) (below : List Frame) (meth : Method) (c : Code) (P : State → Outcome → Prop) (locs : List Loc) (cells slots : Nat) (Z : State) (EL : List (String × Nat)) (V0 : Vm) (h0 h : Heap) (own : String) (rm : Room) (Q : Option Value → Heap → List Loc → Prop) (pc : Nat) (Ls : Array Slot) (rest : List Value) : Prop :=
  ∀ (T' : State) (v : Option Value) (L : List Loc), Stand p l e R (s.setVm T'.vm) m args below meth c T' (locs ++ L) (cells + rm.cells) (slots + rm.slots) → s.Since T'.vm T'.heap.size → T'.heap.size ≤ T'.heap.size → Z.Warmed39 (s.setVm T'.vm).vm → (s.setVm T'.vm).vm.findClass own = some m.cls → (s.setVm vm0).Warmed39 T'.vm → CHr Z EL vm0 h T'.vm T'.heap → CHr Z EL V0 h0 T'.vm T'.heap → Q v T'.heap L → own_Go p e below P T' (mkF m pc Ls (v.toList ++ rest))
theorem own_callSW {own : String} {index : Nat} {y : MethodName} {bytes : ByteArray} {maxL : Nat} {ret : Option FieldType} {rm : Room} {Q : Option Value → Heap → List Loc → Prop} {ps : List FieldType} {r : Option FieldType} (X : Stand p l e R (s.setVm vm0) m args below meth c T locs cells slots) (hx : p.tables.exec = Jvm.exec) (hZ : Z.Warmed39 (s.setVm vm0).vm) (hown : (s.setVm vm0).vm.findClass own = some m.cls) (eT : T.heap = h) (hd : decode c.code pc = .ok (.invokestatic index, 3))
    (hS : s.Since vm0 k0) (hk : k0 ≤ h.size) (hEL : EW Z a0 EL) (CH : CHr Z EL V0 h0 vm0 h)
    (argsL rest : List Value) (W : Nat) (C : own_CtW l Z EL y bytes maxL ret [] rm argsL.toArray h Q) (w1 : (Cond.methodLink own index y).before a0 Z = true) (w2 : (Cond.static y).before a0 Z = true) (w3 : (Cond.initialized y.cls).before a0 Z = true) (w4 : (Cond.code y bytes maxL ret).before a0 Z = true)
    (hy : y.cls ≠ "java/lang/invoke/MethodHandle" ∧ y.cls ≠ "java/lang/invoke/VarHandle") (hpd : parseMethodDescriptor y.desc = some ⟨ps, r⟩) (hsize : Ls.size = c.maxLocals) (hlen : argsL.length = ps.length) (hst : st = argsL.reverse ++ rest)
    (hW : (rest.map fun v => v.category).sum ≤ W) (hf : rm.frames + 1 ≤ R.frames) (hl : W + (maxL + 11) + rm.locals ≤ R.locals) (hc : cells + rm.cells ≤ R.cells) (hs : slots + rm.slots ≤ R.slots)
    (k : own_KC p l e R s vm0 m args below meth c P locs cells slots Z EL V0 h0 h own rm Q (pc + 3) Ls rest) : own_Go p e below P T (mkF m pc Ls st) := by
  obtain ⟨v, _, ⟨T', L', k', n'⟩, -, X', hS', hg', ⟨Lc, hQ, l', y', z', CH'⟩, stp⟩ := callSS X hx (y := y) hown (mvT hZ w1) (mvT hZ w2) (mvT hZ w3) (mvT hZ w4) hy (backOfSH (s := s) (W := W) (Q := Q) C hZ w4 w3 hf hl hEL CH.1) (g := mkF m pc Ls st) rfl hsize (argsL := argsL) (rest := rest) (lenOf hpd hlen) hst (by show 2 * 0 + _ ≤ _; omega) hd (fun _ _ => ⟨rfl, eT, hc, hs⟩)
  dsimp only [Pt.U, Pt.locs, Pt.cells, Pt.slots] at X' l' y' z' stp hQ hS' CH' hg'
  subst l' y' z'
  rw [eT] at hg'
  exact own_by (fun _ k => stp.trans k) (k T' v Lc X' (hS.trans hS' (Nat.le_trans hk hg')) (Nat.le_refl _) (State.Warmed39.trans hZ hS'.1) ((hS'.1.alike.findClass _ _).trans hown) hS'.1 CH' (CH.trans CH') hQ)
theorem own_callVW {own : String} {index : Nat} {C0 : String} {y z : MethodName} {bytes : ByteArray} {maxL : Nat} {ret : Option FieldType} {rm : Room} {Q : Option Value → Heap → List Loc → Prop} {ps : List FieldType} {r : Option FieldType} {a : Addr} (X : Stand p l e R (s.setVm vm0) m args below meth c T locs cells slots) (hx : p.tables.exec = Jvm.exec) (hZ : Z.Warmed39 (s.setVm vm0).vm) (hown : (s.setVm vm0).vm.findClass own = some m.cls) (eT : T.heap = h) (hd : decode c.code pc = .ok (.invokevirtual index, 3))
    (hS : s.Since vm0 k0) (hk : k0 ≤ h.size) (hEL : EW Z a0 EL) (CH : CHr Z EL V0 h0 vm0 h)
    (argsL rest : List Value) (W : Nat) (C : own_CtW l Z EL z bytes maxL ret [] rm (.ref a :: argsL).toArray h Q) (E : Exa Z h a C0) (w1 : (Cond.methodLink own index y).before a0 Z = true) (w0 : (Cond.declares y).before a0 Z = true) (nf : NotFace (s.setVm vm0) y) (ws : (Cond.selects C0 y z).before a0 Z = true) (w2 : (Cond.instanceMethod z).before a0 Z = true) (w3 : (Cond.initialized z.cls).before a0 Z = true) (w4 : (Cond.code z bytes maxL ret).before a0 Z = true)
    (hy : y.cls ≠ "java/lang/invoke/MethodHandle" ∧ y.cls ≠ "java/lang/invoke/VarHandle") (hpd : parseMethodDescriptor y.desc = some ⟨ps, r⟩) (hsize : Ls.size = c.maxLocals) (hlen : argsL.length = ps.length) (hst : st = argsL.reverse ++ .ref a :: rest)
    (hW : (rest.map fun v => v.category).sum ≤ W) (hf : rm.frames + 1 ≤ R.frames) (hl : W + (maxL + 11) + rm.locals ≤ R.locals) (hc : cells + rm.cells ≤ R.cells) (hs : slots + rm.slots ≤ R.slots)
    (k : own_KC p l e R s vm0 m args below meth c P locs cells slots Z EL V0 h0 h own rm Q (pc + 3) Ls rest) : own_Go p e below P T (mkF m pc Ls st) := by
  obtain ⟨cq, kq, qa, qb, qc⟩ := isOf hZ eT E
  obtain ⟨v, _, ⟨T', L', k', n'⟩, -, X', hS', hg', ⟨Lc, hQ, l', y', z', CH'⟩, stp⟩ := X.virtualBackS hx (y := y) (z := z) hown (mvT hZ w1) (mvT hZ w0) nf (mvT hZ ws) (mvT hZ w2) hy (backOfSH (s := s) (W := W) (Q := Q) C hZ w4 w3 hf hl hEL CH.1) qa qc (g := mkF m pc Ls st) rfl hsize (Steps.refl _) (argsL := argsL) (rest := rest) (lenOf hpd hlen) hst (by show 2 * 0 + _ ≤ _; omega) hd (fun _ _ => ⟨rfl, eT, hc, hs⟩)
  dsimp only [Pt.U, Pt.locs, Pt.cells, Pt.slots] at X' l' y' z' stp hQ hS' CH' hg'
  subst l' y' z'
  rw [eT] at hg'
  exact own_by (fun _ k => stp.trans k) (k T' v Lc X' (hS.trans hS' (Nat.le_trans hk hg')) (Nat.le_refl _) (State.Warmed39.trans hZ hS'.1) ((hS'.1.alike.findClass _ _).trans hown) hS'.1 CH' (CH.trans CH') hQ)
theorem own_callNW {own : String} {index : Nat} {y : MethodName} {bytes : ByteArray} {maxL : Nat} {rm : Room} {Q : Option Value → Heap → List Loc → Prop} {ps : List FieldType} {r : Option FieldType} {a : Addr} (X : Stand p l e R (s.setVm vm0) m args below meth c T locs cells slots) (hx : p.tables.exec = Jvm.exec) (hZ : Z.Warmed39 (s.setVm vm0).vm) (hown : (s.setVm vm0).vm.findClass own = some m.cls) (eT : T.heap = h) (hd : decode c.code pc = .ok (.invokespecial index, 3))
    (hS : s.Since vm0 k0) (hk : k0 ≤ h.size) (hEL : EW Z a0 EL) (CH : CHr Z EL V0 h0 vm0 h)
    (argsL rest : List Value) (W : Nat) (C : own_CtW l Z EL y bytes maxL none [] rm (.ref a :: argsL).toArray h Q) (w1 : (Cond.methodLink own index y).before a0 Z = true) (w2 : (Cond.instanceMethod y).before a0 Z = true) (w3 : (Cond.initialized y.cls).before a0 Z = true) (w4 : (Cond.code y bytes maxL none).before a0 Z = true)
    (hyi : y.name = "<init>") (hy : y.cls ≠ "java/lang/invoke/MethodHandle" ∧ y.cls ≠ "java/lang/invoke/VarHandle") (hpd : parseMethodDescriptor y.desc = some ⟨ps, r⟩) (hsize : Ls.size = c.maxLocals) (hlen : argsL.length = ps.length) (hst : st = argsL.reverse ++ .ref a :: rest)
    (hW : (rest.map fun v => v.category).sum ≤ W) (hf : rm.frames + 1 ≤ R.frames) (hl : W + (maxL + 11) + rm.locals ≤ R.locals) (hc : cells + rm.cells ≤ R.cells) (hs : slots + rm.slots ≤ R.slots)
    (k : own_KC p l e R s vm0 m args below meth c P locs cells slots Z EL V0 h0 h own rm Q (pc + 3) Ls rest) : own_Go p e below P T (mkF m pc Ls st) := by
  obtain ⟨v, _, ⟨T', L', k', n'⟩, -, X', hS', hg', ⟨Lc, hQ, l', y', z', CH'⟩, stp⟩ := X.specialBackS hx (y := y) hyi hown (mvT hZ w1) (mvT hZ w2) (mvT hZ w4) hy (backOfSH (s := s) (W := W) (Q := Q) C hZ w4 w3 hf hl hEL CH.1) (g := mkF m pc Ls st) rfl hsize (Steps.refl _) (a := a) (argsL := argsL) (rest := rest) (lenOf hpd hlen) hst (by show 2 * 0 + _ ≤ _; omega) hd (fun _ _ => ⟨rfl, eT, hc, hs⟩)
  dsimp only [Pt.U, Pt.locs, Pt.cells, Pt.slots] at X' l' y' z' stp hQ hS' CH' hg'
  subst l' y' z'
  rw [eT] at hg'
  exact own_by (fun _ k => stp.trans k) (k T' v Lc X' (hS.trans hS' (Nat.le_trans hk hg')) (Nat.le_refl _) (State.Warmed39.trans hZ hS'.1) ((hS'.1.alike.findClass _ _).trans hown) hS'.1 CH' (CH.trans CH') hQ)
end OwnWide
section OwnDec
def own_cl (c : Int32) : Nat := if ¬ (c < (48 : Int32)) ∧ ¬ ((57 : Int32) < c) then 0 else if c = 43 ∨ c = 45 then 1 else if c = 46 then 2 else if c = 101 ∨ c = 69 then 3 else 4
def own_sg (f : Nat → Nat) (n i : Nat) : Nat := if i < n ∧ f i = 1 then i + 1 else i
def own_dg (f : Nat → Nat) : Nat → Nat → Nat
  | 0, i => i
  | k + 1, i => if f i = 0 then own_dg f k (i + 1) else i
theorem own_dg_le (f : Nat → Nat) : ∀ k i, i ≤ own_dg f k i ∧ own_dg f k i ≤ i + k
  | 0, i => ⟨Nat.le_refl _, Nat.le_refl _⟩
  | k + 1, i => by
    unfold own_dg
    split
    · have := own_dg_le f k (i + 1); omega
    · omega
theorem own_sg_le (f : Nat → Nat) (n i : Nat) (h : i ≤ n) : i ≤ own_sg f n i ∧ own_sg f n i ≤ n := by unfold own_sg; split <;> omega
def own_id4 (f : Nat → Nat) (n e d3 : Nat) : Int32 := if d3 = e then 0 else if d3 = n then 1 else 0
def own_id3 (f : Nat → Nat) (n d2 k : Nat) : Int32 := if k = 0 then 0 else if d2 < n ∧ f d2 = 3 then own_id4 f n (own_sg f n (d2 + 1)) (own_dg f (n - own_sg f n (d2 + 1)) (own_sg f n (d2 + 1))) else if d2 = n then 1 else 0
def own_id2 (f : Nat → Nat) (n d0 d1 : Nat) : Int32 := if d1 < n ∧ f d1 = 2 then own_id3 f n (own_dg f (n - (d1 + 1)) (d1 + 1)) (d1 - d0 + (own_dg f (n - (d1 + 1)) (d1 + 1) - (d1 + 1))) else own_id3 f n d1 (d1 - d0)
def own_isDec (f : Nat → Nat) (n : Nat) : Int32 := own_id2 f n (own_sg f n 0) (own_dg f (n - own_sg f n 0) (own_sg f n 0))
theorem own_cl0 {c : Int32} (h : ¬ (c < (48 : Int32))) (h2 : ¬ ((57 : Int32) < c)) : own_cl c = 0 := by unfold own_cl; rw [if_pos ⟨h, h2⟩]
theorem own_cln {c : Int32} (h : (c < (48 : Int32)) ∨ ((57 : Int32) < c)) : ¬ own_cl c = 0 := by
  unfold own_cl; rw [if_neg (fun q => h.elim q.1 q.2)]; (repeat' split) <;> omega
theorem own_cl1 {c : Int32} (h : c = 43 ∨ c = 45) : own_cl c = 1 := by rcases h with rfl | rfl <;> decide
theorem own_cl2 {c : Int32} (h : c = 46) : own_cl c = 2 := by subst h; decide
theorem own_cl3 {c : Int32} (h : c = 101 ∨ c = 69) : own_cl c = 3 := by rcases h with rfl | rfl <;> decide
theorem own_cl1n {c : Int32} (h : ¬ c = 43) (h2 : ¬ c = 45) : ¬ own_cl c = 1 := by
  unfold own_cl; split
  · omega
  · rw [if_neg (fun q => q.elim h h2)]; (repeat' split) <;> omega
theorem own_cl2n {c : Int32} (h : ¬ c = 46) : ¬ own_cl c = 2 := by
  unfold own_cl; rw [if_neg h]; (repeat' split) <;> omega
theorem own_cl3n {c : Int32} (h : ¬ c = 101) (h2 : ¬ c = 69) : ¬ own_cl c = 3 := by
  unfold own_cl; rw [if_neg (show ¬ (c = 101 ∨ c = 69) from fun q => q.elim h h2)]; (repeat' split) <;> omega
theorem own_cl_lt (c : Int32) : own_cl c < 5 := by unfold own_cl; (repeat' split) <;> omega
def own_bD (c : Int32) : Int32 := (if c < (48 : Int32) then (0 : Int32) else (if (57 : Int32) < c then (0 : Int32) else (1 : Int32)))
def own_bS (c : Int32) : Int32 := (if c = (43 : Int32) then (1 : Int32) else (if c = (45 : Int32) then (1 : Int32) else (0 : Int32)))
def own_bP (c : Int32) : Int32 := (if c = (46 : Int32) then (1 : Int32) else (0 : Int32))
def own_bE (c : Int32) : Int32 := (if c = (101 : Int32) then (1 : Int32) else (if c = (69 : Int32) then (1 : Int32) else (0 : Int32)))
def own_k5 (x y : Nat) : Int32 := if x = y then 1 else 0
theorem own_bits (c : Int32) : own_bD c = own_k5 (own_cl c) 0 ∧ own_bS c = own_k5 (own_cl c) 1 ∧ own_bP c = own_k5 (own_cl c) 2 ∧ own_bE c = own_k5 (own_cl c) 3 := by
  refine ⟨?_, ?_, ?_, ?_⟩
  · unfold own_bD own_k5; split
    · rename_i h; rw [if_neg (own_cln (Or.inl h))]
    · split
      · rename_i h; rw [if_neg (own_cln (Or.inr h))]
      · rename_i h h2; rw [if_pos (own_cl0 h h2)]
  · unfold own_bS own_k5; split
    · rename_i h; rw [if_pos (own_cl1 (Or.inl h))]
    · split
      · rename_i h; rw [if_pos (own_cl1 (Or.inr h))]
      · rename_i h h2; rw [if_neg (own_cl1n h h2)]
  · unfold own_bP own_k5; split
    · rename_i h; rw [if_pos (own_cl2 h)]
    · rename_i h; rw [if_neg (own_cl2n h)]
  · unfold own_bE own_k5; split
    · rename_i h; rw [if_pos (own_cl3 (Or.inl h))]
    · split
      · rename_i h; rw [if_pos (own_cl3 (Or.inr h))]
      · rename_i h h2; rw [if_neg (own_cl3n h h2)]
def own_stp (s d g q e : Int32) : Int32 := if s = (0 : Int32) then (if g = (0 : Int32) then (if d = (0 : Int32) then (if q = (0 : Int32) then 8 else 3) else 2) else 1)
  else if s = (1 : Int32) then (if d = (0 : Int32) then (if q = (0 : Int32) then 8 else 3) else 2)
  else if s = (2 : Int32) then (if d = (0 : Int32) then (if q = (0 : Int32) then (if e = (0 : Int32) then 8 else 5) else 4) else 2)
  else if s = (3 : Int32) then (if d = (0 : Int32) then 8 else 4)
  else if s = (4 : Int32) then (if d = (0 : Int32) then (if e = (0 : Int32) then 8 else 5) else 4)
  else if s = (5 : Int32) then (if g = (0 : Int32) then (if d = (0 : Int32) then 8 else 7) else 6)
  else if s = (6 : Int32) then (if d = (0 : Int32) then 8 else 7)
  else if s = (7 : Int32) then (if d = (0 : Int32) then 8 else 7) else 8
def own_i9 (k : Nat) : Int32 := match k with | 0 => 0 | 1 => 1 | 2 => 2 | 3 => 3 | 4 => 4 | 5 => 5 | 6 => 6 | 7 => 7 | _ => 8
def own_st (k c : Nat) : Nat := match k with
  | 0 => (match c with | 1 => 1 | 0 => 2 | 2 => 3 | _ => 8)
  | 1 => (match c with | 0 => 2 | 2 => 3 | _ => 8)
  | 2 => (match c with | 0 => 2 | 2 => 4 | 3 => 5 | _ => 8)
  | 3 => (match c with | 0 => 4 | _ => 8)
  | 4 => (match c with | 0 => 4 | 3 => 5 | _ => 8)
  | 5 => (match c with | 1 => 6 | 0 => 7 | _ => 8)
  | 6 => (match c with | 0 => 7 | _ => 8)
  | 7 => (match c with | 0 => 7 | _ => 8)
  | _ => 8
theorem own_st9 : ∀ k c : Nat, own_st k c < 9 := by
  intro k c; unfold own_st; (repeat' split) <;> omega
theorem own_stp_st (k : Nat) (hk : k < 9) (c : Int32) : own_stp (own_i9 k) (own_bD c) (own_bS c) (own_bP c) (own_bE c) = own_i9 (own_st k (own_cl c)) := by
  obtain ⟨h1, h2, h3, h4⟩ := own_bits c
  rw [h1, h2, h3, h4]
  exact (by decide +kernel : ∀ k : Fin 9, ∀ x : Fin 5, own_stp (own_i9 k.1) (own_k5 x.1 0) (own_k5 x.1 1) (own_k5 x.1 2) (own_k5 x.1 3) = own_i9 (own_st k.1 x.1)) ⟨k, hk⟩ ⟨own_cl c, own_cl_lt c⟩
def own_acc (k : Nat) : Int32 := match k with | 2 => 1 | 4 => 1 | 7 => 1 | _ => 0
theorem own_acc_i {k : Nat} (hk : k < 9) : (if own_i9 k = (2 : Int32) then (1 : Int32) else (if own_i9 k = (4 : Int32) then (1 : Int32) else (if own_i9 k = (7 : Int32) then (1 : Int32) else (0 : Int32)))) = own_acc k :=
  (by decide +kernel : ∀ k : Fin 9, (if own_i9 k.1 = (2 : Int32) then (1 : Int32) else (if own_i9 k.1 = (4 : Int32) then (1 : Int32) else (if own_i9 k.1 = (7 : Int32) then (1 : Int32) else (0 : Int32)))) = own_acc k.1) ⟨k, hk⟩
theorem own_law0 : own_isDec (fun i => List.getD [] i 0) 0 = own_acc 0 := by decide +kernel
theorem own_law1 : ∀ x0 : Fin 5, own_isDec (fun i => List.getD [x0.1] i 0) 1 = own_acc (own_st 0 x0.1) := by decide +kernel
theorem own_law2 : ∀ x0 x1 : Fin 5, own_isDec (fun i => List.getD [x0.1, x1.1] i 0) 2 = own_acc (own_st (own_st 0 x0.1) x1.1) := by decide +kernel
theorem own_law3 : ∀ x0 x1 x2 : Fin 5, own_isDec (fun i => List.getD [x0.1, x1.1, x2.1] i 0) 3 = own_acc (own_st (own_st (own_st 0 x0.1) x1.1) x2.1) := by decide +kernel
theorem own_law4 : ∀ x0 x1 x2 x3 : Fin 5, own_isDec (fun i => List.getD [x0.1, x1.1, x2.1, x3.1] i 0) 4 = own_acc (own_st (own_st (own_st (own_st 0 x0.1) x1.1) x2.1) x3.1) := by decide +kernel
theorem own_law5 : ∀ x0 x1 x2 x3 x4 : Fin 5, own_isDec (fun i => List.getD [x0.1, x1.1, x2.1, x3.1, x4.1] i 0) 5 = own_acc (own_st (own_st (own_st (own_st (own_st 0 x0.1) x1.1) x2.1) x3.1) x4.1) := by decide +kernel
theorem own_law6 : ∀ x0 x1 x2 x3 x4 x5 : Fin 5, own_isDec (fun i => List.getD [x0.1, x1.1, x2.1, x3.1, x4.1, x5.1] i 0) 6 = own_acc (own_st (own_st (own_st (own_st (own_st (own_st 0 x0.1) x1.1) x2.1) x3.1) x4.1) x5.1) := by decide +kernel
end OwnDec
section OwnDec2
theorem own_ltn {x y : Int32} {j n : Nat} (hx : x.toInt = j) (hy : y.toInt = n) (h : x < y) : j < n := by rw [Int32.lt_iff_toInt_lt] at h; omega
theorem own_nltn {x y : Int32} {j n : Nat} (hx : x.toInt = j) (hy : y.toInt = n) (h : ¬ (x < y)) : ¬ j < n := by rw [Int32.lt_iff_toInt_lt] at h; omega
theorem own_eqn {x y : Int32} {j n : Nat} (hx : x.toInt = j) (hy : y.toInt = n) (h : x = y) : j = n := by rw [h] at hx; omega
theorem own_neqn {x y : Int32} {j n : Nat} (hx : x.toInt = j) (hy : y.toInt = n) (h : ¬ (x = y)) : ¬ j = n := fun q => h (Int32.toInt_inj.mp (by omega))
theorem own_sub {x y : Int32} {a b : Nat} (hx : x.toInt = a) (hy : y.toInt = b) (h : b ≤ a) : (x - y).toInt = ((a - b : Nat) : Int) := by
  have q := c_isub x y
  have r := rng32 (x - y)
  have r1 := rng32 x
  omega
theorem own_add {x y : Int32} {a b : Nat} (hx : x.toInt = a) (hy : y.toInt = b) (h : a + b < 2147483648) : (x + y).toInt = ((a + b : Nat) : Int) := by
  have q := c_iadd x y
  have r := rng32 (x + y)
  omega
theorem own_chr (w : Int32) : 0 ≤ (w.toUInt32.toUInt16.toUInt32.toInt32).toInt ∧ (w.toUInt32.toUInt16.toUInt32.toInt32).toInt < 65536 := (c_i2c w).2
theorem own_nc {w : Int32} (h : 0 ≤ w.toInt ∧ w.toInt < 65536) : nar .char w = w := Value.int.inj (own_narC h.1 h.2)
theorem own_len (x : Int32) : (if (6 : Int32) < (x &&& (7 : Int32)) then (6 : Int32) else (x &&& (7 : Int32))) = 0 ∨ (if (6 : Int32) < (x &&& (7 : Int32)) then (6 : Int32) else (x &&& (7 : Int32))) = 1 ∨ (if (6 : Int32) < (x &&& (7 : Int32)) then (6 : Int32) else (x &&& (7 : Int32))) = 2 ∨ (if (6 : Int32) < (x &&& (7 : Int32)) then (6 : Int32) else (x &&& (7 : Int32))) = 3 ∨ (if (6 : Int32) < (x &&& (7 : Int32)) then (6 : Int32) else (x &&& (7 : Int32))) = 4 ∨ (if (6 : Int32) < (x &&& (7 : Int32)) then (6 : Int32) else (x &&& (7 : Int32))) = 5 ∨ (if (6 : Int32) < (x &&& (7 : Int32)) then (6 : Int32) else (x &&& (7 : Int32))) = 6 := by
  have h1 := c_mask x 7 3 (by decide) (by decide)
  obtain ⟨y, hy⟩ : ∃ y, y = x &&& (7 : Int32) := ⟨_, rfl⟩
  rw [← hy] at h1 ⊢
  have e : ∃ k : Fin 8, y = Int32.ofNat k.1 := by
    have h0 : 0 ≤ y.toInt ∧ y.toInt < 8 := by omega
    refine ⟨⟨y.toInt.toNat, by omega⟩, Int32.toInt_inj.mp ?_⟩
    rw [Int32.toInt_ofNat_of_lt (by simp only; omega)]
    simp only; omega
  obtain ⟨k, rfl⟩ := e
  clear hy h1
  revert k; decide +kernel
end OwnDec2
theorem own_w {Z : State} {a0 : Array Value} (hw : ∀ d ∈ tables_1, d.before a0 Z = true) (i : Nat) {d : Jvm.Cond} (h : tables_1[i]? = some d) : d.before a0 Z = true := hw d (List.mem_of_getElem? h)
abbrev own_k0 : String := "java/lang/String"
abbrev own_H (Z : State) (a0 : Array Value) : Prop := ∀ d ∈ tables_1, d.before a0 Z = true
section OwnSn
variable {Z : State} {a0 : Array Value}
theorem sn_0 (hw : own_H Z a0) : Jvm.RoadKit.slotOf Z own_k0 "value" "[B" ≠ Jvm.RoadKit.slotOf Z own_k0 "coder" "B" := slot_ne (Or.inr (own_w hw 28 rfl)) (Or.inr (own_w hw 29 rfl)) (by decide) (t := (.array .byte)) (t' := .byte) (by decide) (by decide)
theorem sn_1 (hw : own_H Z a0) : Jvm.RoadKit.slotOf Z own_k0 "coder" "B" ≠ Jvm.RoadKit.slotOf Z own_k0 "value" "[B" := slot_ne (Or.inr (own_w hw 29 rfl)) (Or.inr (own_w hw 28 rfl)) (by decide) (t := .byte) (t' := (.array .byte)) (by decide) (by decide)
end OwnSn
theorem own_wS {a0 : Array Value} {Z : State} (hw : ∀ d ∈ tables_1, d.before a0 Z = true) : ∀ a ∈ Bundle.stringAtoms, a.before a0 Z = true := by
  intro a ha
  simp only [Bundle.stringAtoms, List.mem_cons, List.not_mem_nil, or_false] at ha
  rcases ha with rfl | rfl | rfl | rfl | rfl | rfl | rfl
  · exact (own_w hw 15 rfl)
  · exact (own_w hw 14 rfl)
  · exact (own_w hw 27 rfl)
  · exact (own_w hw 28 rfl)
  · exact (own_w hw 29 rfl)
  · exact (own_w hw 30 rfl)
  · exact (own_w hw 31 rfl)
theorem own_EW {a0 : Array Value} {Z : State} (hw : ∀ d ∈ tables_1, d.before a0 Z = true) : EW Z a0 consts_1 := EW.cons (own_w hw 26 rfl) (by decide +kernel) (EW.nil)
theorem d14_0 : decode jdk_52_method_15_code 0 = .ok (.iload_n 1, 1) := by decide +kernel
theorem d14_1 : decode jdk_52_method_15_code 1 = .ok (.aload_n 0, 1) := by decide +kernel
theorem d14_2 : decode jdk_52_method_15_code 2 = .ok (.arraylength, 1) := by decide +kernel
theorem d14_3 : decode jdk_52_method_15_code 3 = .ok (.isub, 1) := by decide +kernel
theorem d14_4 : decode jdk_52_method_15_code 4 = .ok (.bipush 31, 2) := by decide +kernel
theorem d14_6 : decode jdk_52_method_15_code 6 = .ok (.iushr, 1) := by decide +kernel
theorem d14_7 : decode jdk_52_method_15_code 7 = .ok (.i2b, 1) := by decide +kernel
theorem d14_8 : decode jdk_52_method_15_code 8 = .ok (.ireturn, 1) := by decide +kernel
theorem pn_java_lang_StringUTF16 : plainName "java/lang/StringUTF16" = true := by first | (simp [plainName, overriddenIn]; done) | decide +kernel
theorem d13_3 : decode jdk_52_method_21_code 3 = .ok (.iload 5, 2) := by decide +kernel
theorem d13_5 : decode jdk_52_method_21_code 5 = .ok (.iload 4, 2) := by decide +kernel
theorem d13_7 : decode jdk_52_method_21_code 7 = .ok (.if_icmp .ge 37, 3) := by decide +kernel
theorem d13_44 : decode jdk_52_method_21_code 44 = .ok (.iload 4, 2) := by decide +kernel
theorem d13_46 : decode jdk_52_method_21_code 46 = .ok (.ireturn, 1) := by decide +kernel
theorem d13_10 : decode jdk_52_method_21_code 10 = .ok (.aload_n 0, 1) := by decide +kernel
theorem d13_11 : decode jdk_52_method_21_code 11 = .ok (.iload_n 1, 1) := by decide +kernel
theorem d13_12 : decode jdk_52_method_21_code 12 = .ok (.caload, 1) := by decide +kernel
theorem d13_13 : decode jdk_52_method_21_code 13 = .ok (.istore 6, 2) := by decide +kernel
theorem os_C5_13_13 {y0 : Value} {y1 : Value} {y2 : Value} {y3 : Value} {y4 : Value} {y5 : Value} {s6 : Slot} {v : Int32} (h : One s6) : storeLocals #[.val y0, .val y1, .val y2, .val y3, .val y4, .val y5, s6] 6 (.int v) = some #[.val y0, .val y1, .val y2, .val y3, .val y4, .val y5, .val (.int v)] := by
  rcases h with rfl | ⟨w, rfl, hw⟩
  · rfl
  · cases w <;> first | rfl | (simp [Value.category] at hw)
theorem d13_15 : decode jdk_52_method_21_code 15 = .ok (.iload 6, 2) := by decide +kernel
theorem d13_17 : decode jdk_52_method_21_code 17 = .ok (.sipush 255, 3) := by decide +kernel
theorem d13_20 : decode jdk_52_method_21_code 20 = .ok (.if_icmp .le 6, 3) := by decide +kernel
theorem d13_23 : decode jdk_52_method_21_code 23 = .ok (.iload 5, 2) := by decide +kernel
theorem d13_25 : decode jdk_52_method_21_code 25 = .ok (.ireturn, 1) := by decide +kernel
theorem d13_26 : decode jdk_52_method_21_code 26 = .ok (.aload_n 2, 1) := by decide +kernel
theorem d13_27 : decode jdk_52_method_21_code 27 = .ok (.iload_n 3, 1) := by decide +kernel
theorem d13_28 : decode jdk_52_method_21_code 28 = .ok (.iload 6, 2) := by decide +kernel
theorem d13_30 : decode jdk_52_method_21_code 30 = .ok (.i2b, 1) := by decide +kernel
theorem d13_31 : decode jdk_52_method_21_code 31 = .ok (.bastore, 1) := by decide +kernel
theorem d13_32 : decode jdk_52_method_21_code 32 = .ok (.iinc 1 1, 3) := by decide +kernel
theorem d13_35 : decode jdk_52_method_21_code 35 = .ok (.iinc 3 1, 3) := by decide +kernel
theorem d13_38 : decode jdk_52_method_21_code 38 = .ok (.iinc 5 1, 3) := by decide +kernel
theorem d13_41 : decode jdk_52_method_21_code 41 = .ok (.goto (-38), 3) := by decide +kernel
theorem d13_0 : decode jdk_52_method_21_code 0 = .ok (.iconst 0, 1) := by decide +kernel
theorem d13_1 : decode jdk_52_method_21_code 1 = .ok (.istore 5, 2) := by decide +kernel
theorem d20_0 : decode jdk_41_method_11_code 0 = .ok (.iload_n 0, 1) := by decide +kernel
theorem d20_1 : decode jdk_41_method_11_code 1 = .ok (.ifCond .lt 8, 3) := by decide +kernel
theorem d20_4 : decode jdk_41_method_11_code 4 = .ok (.iload_n 0, 1) := by decide +kernel
theorem d20_5 : decode jdk_41_method_11_code 5 = .ok (.iload_n 1, 1) := by decide +kernel
theorem d20_6 : decode jdk_41_method_11_code 6 = .ok (.if_icmp .lt 10, 3) := by decide +kernel
theorem d20_16 : decode jdk_41_method_11_code 16 = .ok (.iload_n 0, 1) := by decide +kernel
theorem d20_17 : decode jdk_41_method_11_code 17 = .ok (.ireturn, 1) := by decide +kernel
theorem pn_jdk_internal_util_Preconditions : plainName "jdk/internal/util/Preconditions" = true := by first | (simp [plainName, overriddenIn]; done) | decide +kernel
theorem d19_0 : decode jdk_42_method_155_code 0 = .ok (.iload_n 0, 1) := by decide +kernel
theorem d19_1 : decode jdk_42_method_155_code 1 = .ok (.iload_n 1, 1) := by decide +kernel
theorem d19_2 : decode jdk_42_method_155_code 2 = .ok (.getstatic 1053, 3) := by decide +kernel
theorem d19_5 : decode jdk_42_method_155_code 5 = .ok (.invokestatic 1059, 3) := by decide +kernel
theorem pd__IILjava_util_function_BiFunction__I : parseMethodDescriptor "(IILjava/util/function/BiFunction;)I" = some ⟨[.int, .int, (.object "java/util/function/BiFunction")], some .int⟩ := by decide +kernel
theorem d19_8 : decode jdk_42_method_155_code 8 = .ok (.pop, 1) := by decide +kernel
theorem d19_9 : decode jdk_42_method_155_code 9 = .ok (.return_, 1) := by decide +kernel
theorem pn_java_lang_String : plainName "java/lang/String" = true := by first | (simp [plainName, overriddenIn]; done) | decide +kernel
theorem d18_0 : decode jdk_43_method_2_code 0 = .ok (.iload_n 1, 1) := by decide +kernel
theorem d18_1 : decode jdk_43_method_2_code 1 = .ok (.aload_n 0, 1) := by decide +kernel
theorem d18_2 : decode jdk_43_method_2_code 2 = .ok (.arraylength, 1) := by decide +kernel
theorem d18_3 : decode jdk_43_method_2_code 3 = .ok (.invokestatic 9, 3) := by decide +kernel
theorem pd__II_V : parseMethodDescriptor "(II)V" = some ⟨[.int, .int], none⟩ := by decide +kernel
theorem d18_6 : decode jdk_43_method_2_code 6 = .ok (.aload_n 0, 1) := by decide +kernel
theorem d18_7 : decode jdk_43_method_2_code 7 = .ok (.iload_n 1, 1) := by decide +kernel
theorem d18_8 : decode jdk_43_method_2_code 8 = .ok (.baload, 1) := by decide +kernel
theorem d18_9 : decode jdk_43_method_2_code 9 = .ok (.sipush 255, 3) := by decide +kernel
theorem d18_12 : decode jdk_43_method_2_code 12 = .ok (.iand, 1) := by decide +kernel
theorem d18_13 : decode jdk_43_method_2_code 13 = .ok (.i2c, 1) := by decide +kernel
theorem d18_14 : decode jdk_43_method_2_code 14 = .ok (.ireturn, 1) := by decide +kernel
theorem pn_java_lang_StringLatin1 : plainName "java/lang/StringLatin1" = true := by first | (simp [plainName, overriddenIn]; done) | decide +kernel
theorem d28_0 : decode jdk_52_method_6_code 0 = .ok (.aload_n 0, 1) := by decide +kernel
theorem d28_1 : decode jdk_52_method_6_code 1 = .ok (.arraylength, 1) := by decide +kernel
theorem d28_2 : decode jdk_52_method_6_code 2 = .ok (.iconst 1, 1) := by decide +kernel
theorem d28_3 : decode jdk_52_method_6_code 3 = .ok (.ishr, 1) := by decide +kernel
theorem d28_4 : decode jdk_52_method_6_code 4 = .ok (.ireturn, 1) := by decide +kernel
theorem d27_0 : decode jdk_52_method_91_code 0 = .ok (.iload_n 0, 1) := by decide +kernel
theorem d27_1 : decode jdk_52_method_91_code 1 = .ok (.aload_n 1, 1) := by decide +kernel
theorem d27_2 : decode jdk_52_method_91_code 2 = .ok (.invokestatic 48, 3) := by decide +kernel
theorem pd___B_I : parseMethodDescriptor "([B)I" = some ⟨[(.array .byte)], some .int⟩ := by decide +kernel
theorem d27_5 : decode jdk_52_method_91_code 5 = .ok (.invokestatic 414, 3) := by decide +kernel
theorem d27_8 : decode jdk_52_method_91_code 8 = .ok (.return_, 1) := by decide +kernel
theorem d25_0 : decode jdk_52_method_5_code 0 = .ok (.getstatic 44, 3) := by decide +kernel
theorem d25_3 : decode jdk_52_method_5_code 3 = .ok (.ifCond .ne 25, 3) := by decide +kernel
theorem d25_28 : decode jdk_52_method_5_code 28 = .ok (.iload_n 1, 1) := by decide +kernel
theorem d25_29 : decode jdk_52_method_5_code 29 = .ok (.iconst 1, 1) := by decide +kernel
theorem d25_30 : decode jdk_52_method_5_code 30 = .ok (.ishl, 1) := by decide +kernel
theorem d25_31 : decode jdk_52_method_5_code 31 = .ok (.istore_n 1, 1) := by decide +kernel
theorem d25_32 : decode jdk_52_method_5_code 32 = .ok (.aload_n 0, 1) := by decide +kernel
theorem d25_33 : decode jdk_52_method_5_code 33 = .ok (.iload_n 1, 1) := by decide +kernel
theorem d25_34 : decode jdk_52_method_5_code 34 = .ok (.iinc 1 1, 3) := by decide +kernel
theorem d25_37 : decode jdk_52_method_5_code 37 = .ok (.baload, 1) := by decide +kernel
theorem d25_38 : decode jdk_52_method_5_code 38 = .ok (.sipush 255, 3) := by decide +kernel
theorem d25_41 : decode jdk_52_method_5_code 41 = .ok (.iand, 1) := by decide +kernel
theorem d25_42 : decode jdk_52_method_5_code 42 = .ok (.getstatic 59, 3) := by decide +kernel
theorem d25_45 : decode jdk_52_method_5_code 45 = .ok (.ishl, 1) := by decide +kernel
theorem d25_46 : decode jdk_52_method_5_code 46 = .ok (.aload_n 0, 1) := by decide +kernel
theorem d25_47 : decode jdk_52_method_5_code 47 = .ok (.iload_n 1, 1) := by decide +kernel
theorem d25_48 : decode jdk_52_method_5_code 48 = .ok (.baload, 1) := by decide +kernel
theorem d25_49 : decode jdk_52_method_5_code 49 = .ok (.sipush 255, 3) := by decide +kernel
theorem d25_52 : decode jdk_52_method_5_code 52 = .ok (.iand, 1) := by decide +kernel
theorem d25_53 : decode jdk_52_method_5_code 53 = .ok (.getstatic 63, 3) := by decide +kernel
theorem d25_56 : decode jdk_52_method_5_code 56 = .ok (.ishl, 1) := by decide +kernel
theorem d25_57 : decode jdk_52_method_5_code 57 = .ok (.ior, 1) := by decide +kernel
theorem d25_58 : decode jdk_52_method_5_code 58 = .ok (.i2c, 1) := by decide +kernel
theorem d25_59 : decode jdk_52_method_5_code 59 = .ok (.ireturn, 1) := by decide +kernel
theorem d26_0 : decode jdk_52_method_83_code 0 = .ok (.iload_n 1, 1) := by decide +kernel
theorem d26_1 : decode jdk_52_method_83_code 1 = .ok (.aload_n 0, 1) := by decide +kernel
theorem d26_2 : decode jdk_52_method_83_code 2 = .ok (.invokestatic 67, 3) := by decide +kernel
theorem pd__I_B_V : parseMethodDescriptor "(I[B)V" = some ⟨[.int, (.array .byte)], none⟩ := by decide +kernel
theorem d26_5 : decode jdk_52_method_83_code 5 = .ok (.aload_n 0, 1) := by decide +kernel
theorem d26_6 : decode jdk_52_method_83_code 6 = .ok (.iload_n 1, 1) := by decide +kernel
theorem d26_7 : decode jdk_52_method_83_code 7 = .ok (.invokestatic 71, 3) := by decide +kernel
theorem pd___BI_C : parseMethodDescriptor "([BI)C" = some ⟨[(.array .byte), .int], some .char⟩ := by decide +kernel
theorem d26_10 : decode jdk_52_method_83_code 10 = .ok (.ireturn, 1) := by decide +kernel
theorem d17_0 : decode jdk_42_method_154_code 0 = .ok (.getstatic 38, 3) := by decide +kernel
theorem d17_3 : decode jdk_42_method_154_code 3 = .ok (.ifCond .eq 14, 3) := by decide +kernel
theorem d17_6 : decode jdk_42_method_154_code 6 = .ok (.aload_n 0, 1) := by decide +kernel
theorem d17_7 : decode jdk_42_method_154_code 7 = .ok (.getfield 15, 3) := by decide +kernel
theorem d17_10 : decode jdk_42_method_154_code 10 = .ok (.ifCond .ne 7, 3) := by decide +kernel
theorem d17_13 : decode jdk_42_method_154_code 13 = .ok (.iconst 1, 1) := by decide +kernel
theorem d17_14 : decode jdk_42_method_154_code 14 = .ok (.goto 4, 3) := by decide +kernel
theorem d17_18 : decode jdk_42_method_154_code 18 = .ok (.ireturn, 1) := by decide +kernel
theorem d10_0 : decode jdk_42_method_152_code 0 = .ok (.getstatic 38, 3) := by decide +kernel
theorem d10_3 : decode jdk_42_method_152_code 3 = .ok (.ifCond .eq 10, 3) := by decide +kernel
theorem d10_6 : decode jdk_42_method_152_code 6 = .ok (.aload_n 0, 1) := by decide +kernel
theorem d10_7 : decode jdk_42_method_152_code 7 = .ok (.getfield 15, 3) := by decide +kernel
theorem d10_10 : decode jdk_42_method_152_code 10 = .ok (.goto 4, 3) := by decide +kernel
theorem d10_14 : decode jdk_42_method_152_code 14 = .ok (.ireturn, 1) := by decide +kernel
theorem d9_0 : decode jdk_42_method_54_code 0 = .ok (.aload_n 0, 1) := by decide +kernel
theorem d9_1 : decode jdk_42_method_54_code 1 = .ok (.getfield 9, 3) := by decide +kernel
theorem d9_4 : decode jdk_42_method_54_code 4 = .ok (.arraylength, 1) := by decide +kernel
theorem d9_5 : decode jdk_42_method_54_code 5 = .ok (.aload_n 0, 1) := by decide +kernel
theorem d9_6 : decode jdk_42_method_54_code 6 = .ok (.invokevirtual 335, 3) := by decide +kernel
theorem pd___B : parseMethodDescriptor "()B" = some ⟨[], some .byte⟩ := by decide +kernel
theorem d9_9 : decode jdk_42_method_54_code 9 = .ok (.ishr, 1) := by decide +kernel
theorem d9_10 : decode jdk_42_method_54_code 10 = .ok (.ireturn, 1) := by decide +kernel
theorem d16_0 : decode jdk_42_method_56_code 0 = .ok (.aload_n 0, 1) := by decide +kernel
theorem d16_1 : decode jdk_42_method_56_code 1 = .ok (.invokevirtual 492, 3) := by decide +kernel
theorem pd___Z : parseMethodDescriptor "()Z" = some ⟨[], some .boolean⟩ := by decide +kernel
theorem d16_4 : decode jdk_42_method_56_code 4 = .ok (.ifCond .eq 12, 3) := by decide +kernel
theorem d16_7 : decode jdk_42_method_56_code 7 = .ok (.aload_n 0, 1) := by decide +kernel
theorem d16_8 : decode jdk_42_method_56_code 8 = .ok (.getfield 9, 3) := by decide +kernel
theorem d16_11 : decode jdk_42_method_56_code 11 = .ok (.iload_n 1, 1) := by decide +kernel
theorem d16_12 : decode jdk_42_method_56_code 12 = .ok (.invokestatic 495, 3) := by decide +kernel
theorem d16_15 : decode jdk_42_method_56_code 15 = .ok (.ireturn, 1) := by decide +kernel
theorem d17_17 : decode jdk_42_method_154_code 17 = .ok (.iconst 0, 1) := by decide +kernel
theorem d16_16 : decode jdk_42_method_56_code 16 = .ok (.aload_n 0, 1) := by decide +kernel
theorem d16_17 : decode jdk_42_method_56_code 17 = .ok (.getfield 9, 3) := by decide +kernel
theorem d16_20 : decode jdk_42_method_56_code 20 = .ok (.iload_n 1, 1) := by decide +kernel
theorem d16_21 : decode jdk_42_method_56_code 21 = .ok (.invokestatic 498, 3) := by decide +kernel
theorem d16_24 : decode jdk_42_method_56_code 24 = .ok (.ireturn, 1) := by decide +kernel
theorem d23_0 : decode jdk_52_method_3_code 0 = .ok (.iload_n 0, 1) := by decide +kernel
theorem d23_1 : decode jdk_52_method_3_code 1 = .ok (.ifCond .ge 11, 3) := by decide +kernel
theorem d23_12 : decode jdk_52_method_3_code 12 = .ok (.iload_n 0, 1) := by decide +kernel
theorem d23_13 : decode jdk_52_method_3_code 13 = .ok (.ldc 20, 2) := by decide +kernel
theorem d23_15 : decode jdk_52_method_3_code 15 = .ok (.if_icmp .lt 40, 3) := by decide +kernel
theorem d23_55 : decode jdk_52_method_3_code 55 = .ok (.iload_n 0, 1) := by decide +kernel
theorem d23_56 : decode jdk_52_method_3_code 56 = .ok (.iconst 1, 1) := by decide +kernel
theorem d23_57 : decode jdk_52_method_3_code 57 = .ok (.ishl, 1) := by decide +kernel
theorem d23_58 : decode jdk_52_method_3_code 58 = .ok (.ireturn, 1) := by decide +kernel
theorem d22_0 : decode jdk_52_method_2_code 0 = .ok (.iload_n 0, 1) := by decide +kernel
theorem d22_1 : decode jdk_52_method_2_code 1 = .ok (.invokestatic 11, 3) := by decide +kernel
theorem pd__I_I : parseMethodDescriptor "(I)I" = some ⟨[.int], some .int⟩ := by decide +kernel
theorem d22_4 : decode jdk_52_method_2_code 4 = .ok (.newarray .byte, 2) := by decide +kernel
theorem d22_6 : decode jdk_52_method_2_code 6 = .ok (.areturn, 1) := by decide +kernel
theorem d24_0 : decode jdk_52_method_4_code 0 = .ok (.getstatic 44, 3) := by decide +kernel
theorem d24_3 : decode jdk_52_method_4_code 3 = .ok (.ifCond .ne 25, 3) := by decide +kernel
theorem d24_28 : decode jdk_52_method_4_code 28 = .ok (.iload_n 1, 1) := by decide +kernel
theorem d24_29 : decode jdk_52_method_4_code 29 = .ok (.iconst 1, 1) := by decide +kernel
theorem d24_30 : decode jdk_52_method_4_code 30 = .ok (.ishl, 1) := by decide +kernel
theorem d24_31 : decode jdk_52_method_4_code 31 = .ok (.istore_n 1, 1) := by decide +kernel
theorem d24_32 : decode jdk_52_method_4_code 32 = .ok (.aload_n 0, 1) := by decide +kernel
theorem d24_33 : decode jdk_52_method_4_code 33 = .ok (.iload_n 1, 1) := by decide +kernel
theorem d24_34 : decode jdk_52_method_4_code 34 = .ok (.iinc 1 1, 3) := by decide +kernel
theorem d24_37 : decode jdk_52_method_4_code 37 = .ok (.iload_n 2, 1) := by decide +kernel
theorem d24_38 : decode jdk_52_method_4_code 38 = .ok (.getstatic 59, 3) := by decide +kernel
theorem d24_41 : decode jdk_52_method_4_code 41 = .ok (.ishr, 1) := by decide +kernel
theorem d24_42 : decode jdk_52_method_4_code 42 = .ok (.i2b, 1) := by decide +kernel
theorem d24_43 : decode jdk_52_method_4_code 43 = .ok (.bastore, 1) := by decide +kernel
theorem d24_44 : decode jdk_52_method_4_code 44 = .ok (.aload_n 0, 1) := by decide +kernel
theorem d24_45 : decode jdk_52_method_4_code 45 = .ok (.iload_n 1, 1) := by decide +kernel
theorem d24_46 : decode jdk_52_method_4_code 46 = .ok (.iload_n 2, 1) := by decide +kernel
theorem d24_47 : decode jdk_52_method_4_code 47 = .ok (.getstatic 63, 3) := by decide +kernel
theorem d24_50 : decode jdk_52_method_4_code 50 = .ok (.ishr, 1) := by decide +kernel
theorem d24_51 : decode jdk_52_method_4_code 51 = .ok (.i2b, 1) := by decide +kernel
theorem d24_52 : decode jdk_52_method_4_code 52 = .ok (.bastore, 1) := by decide +kernel
theorem d24_53 : decode jdk_52_method_4_code 53 = .ok (.return_, 1) := by decide +kernel
theorem d21_8 : decode jdk_52_method_14_code 8 = .ok (.iload 4, 2) := by decide +kernel
theorem d21_10 : decode jdk_52_method_14_code 10 = .ok (.iload_n 2, 1) := by decide +kernel
theorem d21_11 : decode jdk_52_method_14_code 11 = .ok (.if_icmp .ge 21, 3) := by decide +kernel
theorem d21_32 : decode jdk_52_method_14_code 32 = .ok (.aload_n 3, 1) := by decide +kernel
theorem d21_33 : decode jdk_52_method_14_code 33 = .ok (.areturn, 1) := by decide +kernel
theorem d21_14 : decode jdk_52_method_14_code 14 = .ok (.aload_n 3, 1) := by decide +kernel
theorem d21_15 : decode jdk_52_method_14_code 15 = .ok (.iload 4, 2) := by decide +kernel
theorem d21_17 : decode jdk_52_method_14_code 17 = .ok (.aload_n 0, 1) := by decide +kernel
theorem d21_18 : decode jdk_52_method_14_code 18 = .ok (.iload_n 1, 1) := by decide +kernel
theorem d21_19 : decode jdk_52_method_14_code 19 = .ok (.caload, 1) := by decide +kernel
theorem d21_20 : decode jdk_52_method_14_code 20 = .ok (.invokestatic 111, 3) := by decide +kernel
theorem pd___BII_V : parseMethodDescriptor "([BII)V" = some ⟨[(.array .byte), .int, .int], none⟩ := by decide +kernel
theorem d21_23 : decode jdk_52_method_14_code 23 = .ok (.iinc 1 1, 3) := by decide +kernel
theorem d21_26 : decode jdk_52_method_14_code 26 = .ok (.iinc 4 1, 3) := by decide +kernel
theorem d21_29 : decode jdk_52_method_14_code 29 = .ok (.goto (-21), 3) := by decide +kernel
theorem d21_0 : decode jdk_52_method_14_code 0 = .ok (.iload_n 2, 1) := by decide +kernel
theorem d21_1 : decode jdk_52_method_14_code 1 = .ok (.invokestatic 107, 3) := by decide +kernel
theorem pd__I__B : parseMethodDescriptor "(I)[B" = some ⟨[.int], some (.array .byte)⟩ := by decide +kernel
theorem d21_4 : decode jdk_52_method_14_code 4 = .ok (.astore_n 3, 1) := by decide +kernel
theorem d21_5 : decode jdk_52_method_14_code 5 = .ok (.iconst 0, 1) := by decide +kernel
theorem d21_6 : decode jdk_52_method_14_code 6 = .ok (.istore 4, 2) := by decide +kernel
theorem d12_0 : decode jdk_52_method_16_code 0 = .ok (.iload_n 2, 1) := by decide +kernel
theorem d12_1 : decode jdk_52_method_16_code 1 = .ok (.newarray .byte, 2) := by decide +kernel
theorem d12_3 : decode jdk_52_method_16_code 3 = .ok (.astore_n 3, 1) := by decide +kernel
theorem d12_4 : decode jdk_52_method_16_code 4 = .ok (.aload_n 0, 1) := by decide +kernel
theorem d12_5 : decode jdk_52_method_16_code 5 = .ok (.iload_n 1, 1) := by decide +kernel
theorem d12_6 : decode jdk_52_method_16_code 6 = .ok (.aload_n 3, 1) := by decide +kernel
theorem d12_7 : decode jdk_52_method_16_code 7 = .ok (.iconst 0, 1) := by decide +kernel
theorem d12_8 : decode jdk_52_method_16_code 8 = .ok (.iload_n 2, 1) := by decide +kernel
theorem d12_9 : decode jdk_52_method_16_code 9 = .ok (.invokestatic 115, 3) := by decide +kernel
theorem pd___CI_BII_I : parseMethodDescriptor "([CI[BII)I" = some ⟨[(.array .char), .int, (.array .byte), .int, .int], some .int⟩ := by decide +kernel
theorem d12_12 : decode jdk_52_method_16_code 12 = .ok (.istore 4, 2) := by decide +kernel
theorem d12_14 : decode jdk_52_method_16_code 14 = .ok (.iload 4, 2) := by decide +kernel
theorem d12_16 : decode jdk_52_method_16_code 16 = .ok (.iload_n 2, 1) := by decide +kernel
theorem d12_17 : decode jdk_52_method_16_code 17 = .ok (.if_icmp .eq 40, 3) := by decide +kernel
theorem d12_57 : decode jdk_52_method_16_code 57 = .ok (.aload_n 3, 1) := by decide +kernel
theorem d12_58 : decode jdk_52_method_16_code 58 = .ok (.areturn, 1) := by decide +kernel
theorem d12_20 : decode jdk_52_method_16_code 20 = .ok (.aload_n 0, 1) := by decide +kernel
theorem d12_21 : decode jdk_52_method_16_code 21 = .ok (.iload_n 1, 1) := by decide +kernel
theorem d12_22 : decode jdk_52_method_16_code 22 = .ok (.iload_n 2, 1) := by decide +kernel
theorem d12_23 : decode jdk_52_method_16_code 23 = .ok (.invokestatic 119, 3) := by decide +kernel
theorem pd___CII__B : parseMethodDescriptor "([CII)[B" = some ⟨[(.array .char), .int, .int], some (.array .byte)⟩ := by decide +kernel
theorem d12_26 : decode jdk_52_method_16_code 26 = .ok (.astore 5, 2) := by decide +kernel
theorem d12_28 : decode jdk_52_method_16_code 28 = .ok (.aload 5, 2) := by decide +kernel
theorem d12_30 : decode jdk_52_method_16_code 30 = .ok (.iload 4, 2) := by decide +kernel
theorem d12_32 : decode jdk_52_method_16_code 32 = .ok (.invokestatic 71, 3) := by decide +kernel
theorem d12_35 : decode jdk_52_method_16_code 35 = .ok (.sipush 255, 3) := by decide +kernel
theorem d12_38 : decode jdk_52_method_16_code 38 = .ok (.if_icmp .gt 16, 3) := by decide +kernel
theorem d12_54 : decode jdk_52_method_16_code 54 = .ok (.aload 5, 2) := by decide +kernel
theorem d12_56 : decode jdk_52_method_16_code 56 = .ok (.areturn, 1) := by decide +kernel
theorem d5_0 : decode jdk_42_method_149_code 0 = .ok (.aload_n 0, 1) := by decide +kernel
theorem d5_1 : decode jdk_42_method_149_code 1 = .ok (.invokespecial 1, 3) := by decide +kernel
theorem d5_4 : decode jdk_42_method_149_code 4 = .ok (.iload_n 3, 1) := by decide +kernel
theorem d5_5 : decode jdk_42_method_149_code 5 = .ok (.ifCond .ne 22, 3) := by decide +kernel
theorem d5_27 : decode jdk_42_method_149_code 27 = .ok (.getstatic 38, 3) := by decide +kernel
theorem d5_30 : decode jdk_42_method_149_code 30 = .ok (.ifCond .eq 28, 3) := by decide +kernel
theorem d5_33 : decode jdk_42_method_149_code 33 = .ok (.aload_n 1, 1) := by decide +kernel
theorem d5_34 : decode jdk_42_method_149_code 34 = .ok (.iload_n 2, 1) := by decide +kernel
theorem d5_35 : decode jdk_42_method_149_code 35 = .ok (.iload_n 3, 1) := by decide +kernel
theorem d5_36 : decode jdk_42_method_149_code 36 = .ok (.invokestatic 177, 3) := by decide +kernel
theorem d5_39 : decode jdk_42_method_149_code 39 = .ok (.astore 5, 2) := by decide +kernel
theorem d5_41 : decode jdk_42_method_149_code 41 = .ok (.aload_n 0, 1) := by decide +kernel
theorem d5_42 : decode jdk_42_method_149_code 42 = .ok (.aload 5, 2) := by decide +kernel
theorem d5_44 : decode jdk_42_method_149_code 44 = .ok (.iload_n 3, 1) := by decide +kernel
theorem d5_45 : decode jdk_42_method_149_code 45 = .ok (.invokestatic 47, 3) := by decide +kernel
theorem pd___BI_B : parseMethodDescriptor "([BI)B" = some ⟨[(.array .byte), .int], some .byte⟩ := by decide +kernel
theorem d5_48 : decode jdk_42_method_149_code 48 = .ok (.putfield 15, 3) := by decide +kernel
theorem d5_51 : decode jdk_42_method_149_code 51 = .ok (.aload_n 0, 1) := by decide +kernel
theorem d5_52 : decode jdk_42_method_149_code 52 = .ok (.aload 5, 2) := by decide +kernel
theorem d5_54 : decode jdk_42_method_149_code 54 = .ok (.putfield 9, 3) := by decide +kernel
theorem d5_57 : decode jdk_42_method_149_code 57 = .ok (.return_, 1) := by decide +kernel
theorem d4_0 : decode jdk_42_method_3_code 0 = .ok (.aload_n 0, 1) := by decide +kernel
theorem d4_1 : decode jdk_42_method_3_code 1 = .ok (.aload_n 1, 1) := by decide +kernel
theorem d4_2 : decode jdk_42_method_3_code 2 = .ok (.iconst 0, 1) := by decide +kernel
theorem d4_3 : decode jdk_42_method_3_code 3 = .ok (.aload_n 1, 1) := by decide +kernel
theorem d4_4 : decode jdk_42_method_3_code 4 = .ok (.arraylength, 1) := by decide +kernel
theorem d4_5 : decode jdk_42_method_3_code 5 = .ok (.aconst_null, 1) := by decide +kernel
theorem d4_6 : decode jdk_42_method_3_code 6 = .ok (.invokespecial 27, 3) := by decide +kernel
theorem pd___CIILjava_lang_Void__V : parseMethodDescriptor "([CIILjava/lang/Void;)V" = some ⟨[(.array .char), .int, .int, (.object "java/lang/Void")], none⟩ := by decide +kernel
theorem d4_9 : decode jdk_42_method_3_code 9 = .ok (.return_, 1) := by decide +kernel
theorem d5_8 : decode jdk_42_method_149_code 8 = .ok (.aload_n 0, 1) := by decide +kernel
theorem d5_9 : decode jdk_42_method_149_code 9 = .ok (.ldc 7, 2) := by decide +kernel
theorem own_t_26 : (∀ c ∈ ("" : String).toList, c.toNat < 256) ∧ ("" : String).toList.map (fun c => Value.int (Jvm.Lit.byteI c.toNat.toUInt16)) = ([] : List Int32).map Value.int := by decide +kernel
theorem d5_11 : decode jdk_42_method_149_code 11 = .ok (.getfield 9, 3) := by decide +kernel
theorem d5_14 : decode jdk_42_method_149_code 14 = .ok (.putfield 9, 3) := by decide +kernel
theorem d5_17 : decode jdk_42_method_149_code 17 = .ok (.aload_n 0, 1) := by decide +kernel
theorem d5_18 : decode jdk_42_method_149_code 18 = .ok (.ldc 7, 2) := by decide +kernel
theorem d5_20 : decode jdk_42_method_149_code 20 = .ok (.getfield 15, 3) := by decide +kernel
theorem d5_23 : decode jdk_42_method_149_code 23 = .ok (.putfield 15, 3) := by decide +kernel
theorem d5_26 : decode jdk_42_method_149_code 26 = .ok (.return_, 1) := by decide +kernel
theorem d1_0 : decode jdk_29_method_69_code 0 = .ok (.iload_n 0, 1) := by decide +kernel
theorem d1_1 : decode jdk_29_method_69_code 1 = .ok (.iload_n 1, 1) := by decide +kernel
theorem d1_2 : decode jdk_29_method_69_code 2 = .ok (.if_icmp .gt 7, 3) := by decide +kernel
theorem d1_9 : decode jdk_29_method_69_code 9 = .ok (.iload_n 1, 1) := by decide +kernel
theorem d1_10 : decode jdk_29_method_69_code 10 = .ok (.ireturn, 1) := by decide +kernel
theorem d1_5 : decode jdk_29_method_69_code 5 = .ok (.iload_n 0, 1) := by decide +kernel
theorem d1_6 : decode jdk_29_method_69_code 6 = .ok (.goto 4, 3) := by decide +kernel
theorem pf_java_lang_Mathmin_II_I : plainFor (⟨"java/lang/Math", "min", "(II)I"⟩ : MethodName) = true := by decide +kernel
theorem d2_0 : decode method_3_code 0 = .ok (.iload_n 0, 1) := by decide +kernel
theorem d2_1 : decode method_3_code 1 = .ok (.bipush 15, 2) := by decide +kernel
theorem d2_3 : decode method_3_code 3 = .ok (.iand, 1) := by decide +kernel
theorem d2_4 : decode method_3_code 4 = .ok (.istore_n 1, 1) := by decide +kernel
theorem d2_5 : decode method_3_code 5 = .ok (.iload_n 0, 1) := by decide +kernel
theorem d2_6 : decode method_3_code 6 = .ok (.iconst 4, 1) := by decide +kernel
theorem d2_7 : decode method_3_code 7 = .ok (.iushr, 1) := by decide +kernel
theorem d2_8 : decode method_3_code 8 = .ok (.ldc 38, 2) := by decide +kernel
theorem d2_10 : decode method_3_code 10 = .ok (.iand, 1) := by decide +kernel
theorem d2_11 : decode method_3_code 11 = .ok (.istore_n 2, 1) := by decide +kernel
theorem d2_12 : decode method_3_code 12 = .ok (.iload_n 1, 1) := by decide +kernel
theorem d2_13 : decode method_3_code 13 = .ok (.iconst 4, 1) := by decide +kernel
theorem d2_14 : decode method_3_code 14 = .ok (.if_icmp .ge 12, 3) := by decide +kernel
theorem d2_17 : decode method_3_code 17 = .ok (.bipush 48, 2) := by decide +kernel
theorem d2_19 : decode method_3_code 19 = .ok (.iload_n 2, 1) := by decide +kernel
theorem d2_20 : decode method_3_code 20 = .ok (.bipush 10, 2) := by decide +kernel
theorem d2_22 : decode method_3_code 22 = .ok (.irem, 1) := by decide +kernel
theorem d2_23 : decode method_3_code 23 = .ok (.iadd, 1) := by decide +kernel
theorem d2_24 : decode method_3_code 24 = .ok (.i2c, 1) := by decide +kernel
theorem d2_25 : decode method_3_code 25 = .ok (.ireturn, 1) := by decide +kernel
theorem d2_26 : decode method_3_code 26 = .ok (.iload_n 1, 1) := by decide +kernel
theorem d2_27 : decode method_3_code 27 = .ok (.iconst 4, 1) := by decide +kernel
theorem d2_28 : decode method_3_code 28 = .ok (.if_icmp .ne 6, 3) := by decide +kernel
theorem d2_31 : decode method_3_code 31 = .ok (.bipush 46, 2) := by decide +kernel
theorem d2_33 : decode method_3_code 33 = .ok (.ireturn, 1) := by decide +kernel
theorem d2_34 : decode method_3_code 34 = .ok (.iload_n 1, 1) := by decide +kernel
theorem d2_35 : decode method_3_code 35 = .ok (.iconst 5, 1) := by decide +kernel
theorem d2_36 : decode method_3_code 36 = .ok (.if_icmp .ne 6, 3) := by decide +kernel
theorem d2_39 : decode method_3_code 39 = .ok (.bipush 43, 2) := by decide +kernel
theorem d2_41 : decode method_3_code 41 = .ok (.ireturn, 1) := by decide +kernel
theorem d2_42 : decode method_3_code 42 = .ok (.iload_n 1, 1) := by decide +kernel
theorem d2_43 : decode method_3_code 43 = .ok (.bipush 6, 2) := by decide +kernel
theorem d2_45 : decode method_3_code 45 = .ok (.if_icmp .ne 6, 3) := by decide +kernel
theorem d2_48 : decode method_3_code 48 = .ok (.bipush 45, 2) := by decide +kernel
theorem d2_50 : decode method_3_code 50 = .ok (.ireturn, 1) := by decide +kernel
theorem d2_51 : decode method_3_code 51 = .ok (.iload_n 1, 1) := by decide +kernel
theorem d2_52 : decode method_3_code 52 = .ok (.bipush 7, 2) := by decide +kernel
theorem d2_54 : decode method_3_code 54 = .ok (.if_icmp .ne 6, 3) := by decide +kernel
theorem d2_57 : decode method_3_code 57 = .ok (.bipush 101, 2) := by decide +kernel
theorem d2_59 : decode method_3_code 59 = .ok (.ireturn, 1) := by decide +kernel
theorem d2_60 : decode method_3_code 60 = .ok (.iload_n 1, 1) := by decide +kernel
theorem d2_61 : decode method_3_code 61 = .ok (.bipush 8, 2) := by decide +kernel
theorem d2_63 : decode method_3_code 63 = .ok (.if_icmp .ne 6, 3) := by decide +kernel
theorem d2_66 : decode method_3_code 66 = .ok (.bipush 69, 2) := by decide +kernel
theorem d2_68 : decode method_3_code 68 = .ok (.ireturn, 1) := by decide +kernel
theorem d2_69 : decode method_3_code 69 = .ok (.iload_n 2, 1) := by decide +kernel
theorem d2_70 : decode method_3_code 70 = .ok (.i2c, 1) := by decide +kernel
theorem d2_71 : decode method_3_code 71 = .ok (.ireturn, 1) := by decide +kernel
theorem pn_com_example_kissena_kissena_ColumnsIsDecimalPinLaw : plainName "com/example/kissena/kissena/ColumnsIsDecimalPinLaw" = true := by first | (simp [plainName, overriddenIn]; done) | decide +kernel
theorem d3_0 : decode method_4_code 0 = .ok (.iload_n 0, 1) := by decide +kernel
theorem d3_1 : decode method_4_code 1 = .ok (.ifCond .ne 7, 3) := by decide +kernel
theorem d3_4 : decode method_4_code 4 = .ok (.iconst 0, 1) := by decide +kernel
theorem d3_5 : decode method_4_code 5 = .ok (.newarray .char, 2) := by decide +kernel
theorem d3_7 : decode method_4_code 7 = .ok (.areturn, 1) := by decide +kernel
theorem d3_8 : decode method_4_code 8 = .ok (.iload_n 0, 1) := by decide +kernel
theorem d3_9 : decode method_4_code 9 = .ok (.iconst 1, 1) := by decide +kernel
theorem d3_10 : decode method_4_code 10 = .ok (.if_icmp .ne 11, 3) := by decide +kernel
theorem d3_13 : decode method_4_code 13 = .ok (.iconst 1, 1) := by decide +kernel
theorem d3_14 : decode method_4_code 14 = .ok (.newarray .char, 2) := by decide +kernel
theorem d3_16 : decode method_4_code 16 = .ok (.dup, 1) := by decide +kernel
theorem d3_17 : decode method_4_code 17 = .ok (.iconst 0, 1) := by decide +kernel
theorem d3_18 : decode method_4_code 18 = .ok (.iload_n 1, 1) := by decide +kernel
theorem d3_19 : decode method_4_code 19 = .ok (.castore, 1) := by decide +kernel
theorem d3_20 : decode method_4_code 20 = .ok (.areturn, 1) := by decide +kernel
theorem d3_21 : decode method_4_code 21 = .ok (.iload_n 0, 1) := by decide +kernel
theorem d3_22 : decode method_4_code 22 = .ok (.iconst 2, 1) := by decide +kernel
theorem d3_23 : decode method_4_code 23 = .ok (.if_icmp .ne 15, 3) := by decide +kernel
theorem d3_26 : decode method_4_code 26 = .ok (.iconst 2, 1) := by decide +kernel
theorem d3_27 : decode method_4_code 27 = .ok (.newarray .char, 2) := by decide +kernel
theorem d3_29 : decode method_4_code 29 = .ok (.dup, 1) := by decide +kernel
theorem d3_30 : decode method_4_code 30 = .ok (.iconst 0, 1) := by decide +kernel
theorem d3_31 : decode method_4_code 31 = .ok (.iload_n 1, 1) := by decide +kernel
theorem d3_32 : decode method_4_code 32 = .ok (.castore, 1) := by decide +kernel
theorem d3_33 : decode method_4_code 33 = .ok (.dup, 1) := by decide +kernel
theorem d3_34 : decode method_4_code 34 = .ok (.iconst 1, 1) := by decide +kernel
theorem d3_35 : decode method_4_code 35 = .ok (.iload_n 2, 1) := by decide +kernel
theorem d3_36 : decode method_4_code 36 = .ok (.castore, 1) := by decide +kernel
theorem d3_37 : decode method_4_code 37 = .ok (.areturn, 1) := by decide +kernel
theorem d3_38 : decode method_4_code 38 = .ok (.iload_n 0, 1) := by decide +kernel
theorem d3_39 : decode method_4_code 39 = .ok (.iconst 3, 1) := by decide +kernel
theorem d3_40 : decode method_4_code 40 = .ok (.if_icmp .ne 19, 3) := by decide +kernel
theorem d3_43 : decode method_4_code 43 = .ok (.iconst 3, 1) := by decide +kernel
theorem d3_44 : decode method_4_code 44 = .ok (.newarray .char, 2) := by decide +kernel
theorem d3_46 : decode method_4_code 46 = .ok (.dup, 1) := by decide +kernel
theorem d3_47 : decode method_4_code 47 = .ok (.iconst 0, 1) := by decide +kernel
theorem d3_48 : decode method_4_code 48 = .ok (.iload_n 1, 1) := by decide +kernel
theorem d3_49 : decode method_4_code 49 = .ok (.castore, 1) := by decide +kernel
theorem d3_50 : decode method_4_code 50 = .ok (.dup, 1) := by decide +kernel
theorem d3_51 : decode method_4_code 51 = .ok (.iconst 1, 1) := by decide +kernel
theorem d3_52 : decode method_4_code 52 = .ok (.iload_n 2, 1) := by decide +kernel
theorem d3_53 : decode method_4_code 53 = .ok (.castore, 1) := by decide +kernel
theorem d3_54 : decode method_4_code 54 = .ok (.dup, 1) := by decide +kernel
theorem d3_55 : decode method_4_code 55 = .ok (.iconst 2, 1) := by decide +kernel
theorem d3_56 : decode method_4_code 56 = .ok (.iload_n 3, 1) := by decide +kernel
theorem d3_57 : decode method_4_code 57 = .ok (.castore, 1) := by decide +kernel
theorem d3_58 : decode method_4_code 58 = .ok (.areturn, 1) := by decide +kernel
theorem d3_59 : decode method_4_code 59 = .ok (.iload_n 0, 1) := by decide +kernel
theorem d3_60 : decode method_4_code 60 = .ok (.iconst 4, 1) := by decide +kernel
theorem d3_61 : decode method_4_code 61 = .ok (.if_icmp .ne 24, 3) := by decide +kernel
theorem d3_64 : decode method_4_code 64 = .ok (.iconst 4, 1) := by decide +kernel
theorem d3_65 : decode method_4_code 65 = .ok (.newarray .char, 2) := by decide +kernel
theorem d3_67 : decode method_4_code 67 = .ok (.dup, 1) := by decide +kernel
theorem d3_68 : decode method_4_code 68 = .ok (.iconst 0, 1) := by decide +kernel
theorem d3_69 : decode method_4_code 69 = .ok (.iload_n 1, 1) := by decide +kernel
theorem d3_70 : decode method_4_code 70 = .ok (.castore, 1) := by decide +kernel
theorem d3_71 : decode method_4_code 71 = .ok (.dup, 1) := by decide +kernel
theorem d3_72 : decode method_4_code 72 = .ok (.iconst 1, 1) := by decide +kernel
theorem d3_73 : decode method_4_code 73 = .ok (.iload_n 2, 1) := by decide +kernel
theorem d3_74 : decode method_4_code 74 = .ok (.castore, 1) := by decide +kernel
theorem d3_75 : decode method_4_code 75 = .ok (.dup, 1) := by decide +kernel
theorem d3_76 : decode method_4_code 76 = .ok (.iconst 2, 1) := by decide +kernel
theorem d3_77 : decode method_4_code 77 = .ok (.iload_n 3, 1) := by decide +kernel
theorem d3_78 : decode method_4_code 78 = .ok (.castore, 1) := by decide +kernel
theorem d3_79 : decode method_4_code 79 = .ok (.dup, 1) := by decide +kernel
theorem d3_80 : decode method_4_code 80 = .ok (.iconst 3, 1) := by decide +kernel
theorem d3_81 : decode method_4_code 81 = .ok (.iload 4, 2) := by decide +kernel
theorem d3_83 : decode method_4_code 83 = .ok (.castore, 1) := by decide +kernel
theorem d3_84 : decode method_4_code 84 = .ok (.areturn, 1) := by decide +kernel
theorem d3_85 : decode method_4_code 85 = .ok (.iload_n 0, 1) := by decide +kernel
theorem d3_86 : decode method_4_code 86 = .ok (.iconst 5, 1) := by decide +kernel
theorem d3_87 : decode method_4_code 87 = .ok (.if_icmp .ne 29, 3) := by decide +kernel
theorem d3_90 : decode method_4_code 90 = .ok (.iconst 5, 1) := by decide +kernel
theorem d3_91 : decode method_4_code 91 = .ok (.newarray .char, 2) := by decide +kernel
theorem d3_93 : decode method_4_code 93 = .ok (.dup, 1) := by decide +kernel
theorem d3_94 : decode method_4_code 94 = .ok (.iconst 0, 1) := by decide +kernel
theorem d3_95 : decode method_4_code 95 = .ok (.iload_n 1, 1) := by decide +kernel
theorem d3_96 : decode method_4_code 96 = .ok (.castore, 1) := by decide +kernel
theorem d3_97 : decode method_4_code 97 = .ok (.dup, 1) := by decide +kernel
theorem d3_98 : decode method_4_code 98 = .ok (.iconst 1, 1) := by decide +kernel
theorem d3_99 : decode method_4_code 99 = .ok (.iload_n 2, 1) := by decide +kernel
theorem d3_100 : decode method_4_code 100 = .ok (.castore, 1) := by decide +kernel
theorem d3_101 : decode method_4_code 101 = .ok (.dup, 1) := by decide +kernel
theorem d3_102 : decode method_4_code 102 = .ok (.iconst 2, 1) := by decide +kernel
theorem d3_103 : decode method_4_code 103 = .ok (.iload_n 3, 1) := by decide +kernel
theorem d3_104 : decode method_4_code 104 = .ok (.castore, 1) := by decide +kernel
theorem d3_105 : decode method_4_code 105 = .ok (.dup, 1) := by decide +kernel
theorem d3_106 : decode method_4_code 106 = .ok (.iconst 3, 1) := by decide +kernel
theorem d3_107 : decode method_4_code 107 = .ok (.iload 4, 2) := by decide +kernel
theorem d3_109 : decode method_4_code 109 = .ok (.castore, 1) := by decide +kernel
theorem d3_110 : decode method_4_code 110 = .ok (.dup, 1) := by decide +kernel
theorem d3_111 : decode method_4_code 111 = .ok (.iconst 4, 1) := by decide +kernel
theorem d3_112 : decode method_4_code 112 = .ok (.iload 5, 2) := by decide +kernel
theorem d3_114 : decode method_4_code 114 = .ok (.castore, 1) := by decide +kernel
theorem d3_115 : decode method_4_code 115 = .ok (.areturn, 1) := by decide +kernel
theorem d3_116 : decode method_4_code 116 = .ok (.bipush 6, 2) := by decide +kernel
theorem d3_118 : decode method_4_code 118 = .ok (.newarray .char, 2) := by decide +kernel
theorem d3_120 : decode method_4_code 120 = .ok (.dup, 1) := by decide +kernel
theorem d3_121 : decode method_4_code 121 = .ok (.iconst 0, 1) := by decide +kernel
theorem d3_122 : decode method_4_code 122 = .ok (.iload_n 1, 1) := by decide +kernel
theorem d3_123 : decode method_4_code 123 = .ok (.castore, 1) := by decide +kernel
theorem d3_124 : decode method_4_code 124 = .ok (.dup, 1) := by decide +kernel
theorem d3_125 : decode method_4_code 125 = .ok (.iconst 1, 1) := by decide +kernel
theorem d3_126 : decode method_4_code 126 = .ok (.iload_n 2, 1) := by decide +kernel
theorem d3_127 : decode method_4_code 127 = .ok (.castore, 1) := by decide +kernel
theorem d3_128 : decode method_4_code 128 = .ok (.dup, 1) := by decide +kernel
theorem d3_129 : decode method_4_code 129 = .ok (.iconst 2, 1) := by decide +kernel
theorem d3_130 : decode method_4_code 130 = .ok (.iload_n 3, 1) := by decide +kernel
theorem d3_131 : decode method_4_code 131 = .ok (.castore, 1) := by decide +kernel
theorem d3_132 : decode method_4_code 132 = .ok (.dup, 1) := by decide +kernel
theorem d3_133 : decode method_4_code 133 = .ok (.iconst 3, 1) := by decide +kernel
theorem d3_134 : decode method_4_code 134 = .ok (.iload 4, 2) := by decide +kernel
theorem d3_136 : decode method_4_code 136 = .ok (.castore, 1) := by decide +kernel
theorem d3_137 : decode method_4_code 137 = .ok (.dup, 1) := by decide +kernel
theorem d3_138 : decode method_4_code 138 = .ok (.iconst 4, 1) := by decide +kernel
theorem d3_139 : decode method_4_code 139 = .ok (.iload 5, 2) := by decide +kernel
theorem d3_141 : decode method_4_code 141 = .ok (.castore, 1) := by decide +kernel
theorem d3_142 : decode method_4_code 142 = .ok (.dup, 1) := by decide +kernel
theorem d3_143 : decode method_4_code 143 = .ok (.iconst 5, 1) := by decide +kernel
theorem d3_144 : decode method_4_code 144 = .ok (.iload 6, 2) := by decide +kernel
theorem d3_146 : decode method_4_code 146 = .ok (.castore, 1) := by decide +kernel
theorem d3_147 : decode method_4_code 147 = .ok (.areturn, 1) := by decide +kernel
theorem d15_0 : decode method_5_code 0 = .ok (.iload_n 1, 1) := by decide +kernel
theorem d15_1 : decode method_5_code 1 = .ok (.bipush 48, 2) := by decide +kernel
theorem d15_3 : decode method_5_code 3 = .ok (.if_icmp .lt 13, 3) := by decide +kernel
theorem d15_16 : decode method_5_code 16 = .ok (.iconst 0, 1) := by decide +kernel
theorem d15_6 : decode method_5_code 6 = .ok (.iload_n 1, 1) := by decide +kernel
theorem d15_7 : decode method_5_code 7 = .ok (.bipush 57, 2) := by decide +kernel
theorem d15_9 : decode method_5_code 9 = .ok (.if_icmp .gt 7, 3) := by decide +kernel
theorem d15_12 : decode method_5_code 12 = .ok (.iconst 1, 1) := by decide +kernel
theorem d15_13 : decode method_5_code 13 = .ok (.goto 4, 3) := by decide +kernel
theorem d15_17 : decode method_5_code 17 = .ok (.istore_n 2, 1) := by decide +kernel
theorem d15_18 : decode method_5_code 18 = .ok (.iload_n 1, 1) := by decide +kernel
theorem d15_19 : decode method_5_code 19 = .ok (.bipush 43, 2) := by decide +kernel
theorem d15_21 : decode method_5_code 21 = .ok (.if_icmp .eq 9, 3) := by decide +kernel
theorem d15_30 : decode method_5_code 30 = .ok (.iconst 1, 1) := by decide +kernel
theorem d15_31 : decode method_5_code 31 = .ok (.goto 4, 3) := by decide +kernel
theorem d15_24 : decode method_5_code 24 = .ok (.iload_n 1, 1) := by decide +kernel
theorem d15_25 : decode method_5_code 25 = .ok (.bipush 45, 2) := by decide +kernel
theorem d15_27 : decode method_5_code 27 = .ok (.if_icmp .ne 7, 3) := by decide +kernel
theorem d15_34 : decode method_5_code 34 = .ok (.iconst 0, 1) := by decide +kernel
theorem d15_35 : decode method_5_code 35 = .ok (.istore_n 3, 1) := by decide +kernel
theorem d15_36 : decode method_5_code 36 = .ok (.iload_n 1, 1) := by decide +kernel
theorem d15_37 : decode method_5_code 37 = .ok (.bipush 46, 2) := by decide +kernel
theorem d15_39 : decode method_5_code 39 = .ok (.if_icmp .ne 7, 3) := by decide +kernel
theorem d15_42 : decode method_5_code 42 = .ok (.iconst 1, 1) := by decide +kernel
theorem d15_43 : decode method_5_code 43 = .ok (.goto 4, 3) := by decide +kernel
theorem d15_46 : decode method_5_code 46 = .ok (.iconst 0, 1) := by decide +kernel
theorem d15_47 : decode method_5_code 47 = .ok (.istore 4, 2) := by decide +kernel
theorem d15_49 : decode method_5_code 49 = .ok (.iload_n 1, 1) := by decide +kernel
theorem d15_50 : decode method_5_code 50 = .ok (.bipush 101, 2) := by decide +kernel
theorem d15_52 : decode method_5_code 52 = .ok (.if_icmp .eq 9, 3) := by decide +kernel
theorem d15_61 : decode method_5_code 61 = .ok (.iconst 1, 1) := by decide +kernel
theorem d15_62 : decode method_5_code 62 = .ok (.goto 4, 3) := by decide +kernel
theorem d15_55 : decode method_5_code 55 = .ok (.iload_n 1, 1) := by decide +kernel
theorem d15_56 : decode method_5_code 56 = .ok (.bipush 69, 2) := by decide +kernel
theorem d15_58 : decode method_5_code 58 = .ok (.if_icmp .ne 7, 3) := by decide +kernel
theorem d15_65 : decode method_5_code 65 = .ok (.iconst 0, 1) := by decide +kernel
theorem d15_66 : decode method_5_code 66 = .ok (.istore 5, 2) := by decide +kernel
theorem d15_68 : decode method_5_code 68 = .ok (.iload_n 0, 1) := by decide +kernel
theorem d15_69 : decode method_5_code 69 = .ok (.ifCond .ne 31, 3) := by decide +kernel
theorem d15_72 : decode method_5_code 72 = .ok (.iload_n 3, 1) := by decide +kernel
theorem d15_73 : decode method_5_code 73 = .ok (.ifCond .eq 7, 3) := by decide +kernel
theorem d15_80 : decode method_5_code 80 = .ok (.iload_n 2, 1) := by decide +kernel
theorem d15_81 : decode method_5_code 81 = .ok (.ifCond .eq 7, 3) := by decide +kernel
theorem d15_88 : decode method_5_code 88 = .ok (.iload 4, 2) := by decide +kernel
theorem d15_90 : decode method_5_code 90 = .ok (.ifCond .eq 7, 3) := by decide +kernel
theorem d15_97 : decode method_5_code 97 = .ok (.bipush 8, 2) := by decide +kernel
theorem d15_99 : decode method_5_code 99 = .ok (.ireturn, 1) := by decide +kernel
theorem d15_93 : decode method_5_code 93 = .ok (.iconst 3, 1) := by decide +kernel
theorem d15_94 : decode method_5_code 94 = .ok (.goto 5, 3) := by decide +kernel
theorem d15_84 : decode method_5_code 84 = .ok (.iconst 2, 1) := by decide +kernel
theorem d15_85 : decode method_5_code 85 = .ok (.goto 14, 3) := by decide +kernel
theorem d15_76 : decode method_5_code 76 = .ok (.iconst 1, 1) := by decide +kernel
theorem d15_77 : decode method_5_code 77 = .ok (.goto 22, 3) := by decide +kernel
theorem d15_100 : decode method_5_code 100 = .ok (.iload_n 0, 1) := by decide +kernel
theorem d15_101 : decode method_5_code 101 = .ok (.iconst 1, 1) := by decide +kernel
theorem d15_102 : decode method_5_code 102 = .ok (.if_icmp .ne 23, 3) := by decide +kernel
theorem d15_105 : decode method_5_code 105 = .ok (.iload_n 2, 1) := by decide +kernel
theorem d15_106 : decode method_5_code 106 = .ok (.ifCond .eq 7, 3) := by decide +kernel
theorem d15_113 : decode method_5_code 113 = .ok (.iload 4, 2) := by decide +kernel
theorem d15_115 : decode method_5_code 115 = .ok (.ifCond .eq 7, 3) := by decide +kernel
theorem d15_122 : decode method_5_code 122 = .ok (.bipush 8, 2) := by decide +kernel
theorem d15_124 : decode method_5_code 124 = .ok (.ireturn, 1) := by decide +kernel
theorem d15_118 : decode method_5_code 118 = .ok (.iconst 3, 1) := by decide +kernel
theorem d15_119 : decode method_5_code 119 = .ok (.goto 5, 3) := by decide +kernel
theorem d15_109 : decode method_5_code 109 = .ok (.iconst 2, 1) := by decide +kernel
theorem d15_110 : decode method_5_code 110 = .ok (.goto 14, 3) := by decide +kernel
theorem d15_125 : decode method_5_code 125 = .ok (.iload_n 0, 1) := by decide +kernel
theorem d15_126 : decode method_5_code 126 = .ok (.iconst 2, 1) := by decide +kernel
theorem d15_127 : decode method_5_code 127 = .ok (.if_icmp .ne 32, 3) := by decide +kernel
theorem d15_130 : decode method_5_code 130 = .ok (.iload_n 2, 1) := by decide +kernel
theorem d15_131 : decode method_5_code 131 = .ok (.ifCond .eq 7, 3) := by decide +kernel
theorem d15_138 : decode method_5_code 138 = .ok (.iload 4, 2) := by decide +kernel
theorem d15_140 : decode method_5_code 140 = .ok (.ifCond .eq 7, 3) := by decide +kernel
theorem d15_147 : decode method_5_code 147 = .ok (.iload 5, 2) := by decide +kernel
theorem d15_149 : decode method_5_code 149 = .ok (.ifCond .eq 7, 3) := by decide +kernel
theorem d15_156 : decode method_5_code 156 = .ok (.bipush 8, 2) := by decide +kernel
theorem d15_158 : decode method_5_code 158 = .ok (.ireturn, 1) := by decide +kernel
theorem d15_152 : decode method_5_code 152 = .ok (.iconst 5, 1) := by decide +kernel
theorem d15_153 : decode method_5_code 153 = .ok (.goto 5, 3) := by decide +kernel
theorem d15_143 : decode method_5_code 143 = .ok (.iconst 4, 1) := by decide +kernel
theorem d15_144 : decode method_5_code 144 = .ok (.goto 14, 3) := by decide +kernel
theorem d15_134 : decode method_5_code 134 = .ok (.iconst 2, 1) := by decide +kernel
theorem d15_135 : decode method_5_code 135 = .ok (.goto 23, 3) := by decide +kernel
theorem d15_159 : decode method_5_code 159 = .ok (.iload_n 0, 1) := by decide +kernel
theorem d15_160 : decode method_5_code 160 = .ok (.iconst 3, 1) := by decide +kernel
theorem d15_161 : decode method_5_code 161 = .ok (.if_icmp .ne 14, 3) := by decide +kernel
theorem d15_164 : decode method_5_code 164 = .ok (.iload_n 2, 1) := by decide +kernel
theorem d15_165 : decode method_5_code 165 = .ok (.ifCond .eq 7, 3) := by decide +kernel
theorem d15_172 : decode method_5_code 172 = .ok (.bipush 8, 2) := by decide +kernel
theorem d15_174 : decode method_5_code 174 = .ok (.ireturn, 1) := by decide +kernel
theorem d15_168 : decode method_5_code 168 = .ok (.iconst 4, 1) := by decide +kernel
theorem d15_169 : decode method_5_code 169 = .ok (.goto 5, 3) := by decide +kernel
theorem d15_175 : decode method_5_code 175 = .ok (.iload_n 0, 1) := by decide +kernel
theorem d15_176 : decode method_5_code 176 = .ok (.iconst 4, 1) := by decide +kernel
theorem d15_177 : decode method_5_code 177 = .ok (.if_icmp .ne 23, 3) := by decide +kernel
theorem d15_180 : decode method_5_code 180 = .ok (.iload_n 2, 1) := by decide +kernel
theorem d15_181 : decode method_5_code 181 = .ok (.ifCond .eq 7, 3) := by decide +kernel
theorem d15_188 : decode method_5_code 188 = .ok (.iload 5, 2) := by decide +kernel
theorem d15_190 : decode method_5_code 190 = .ok (.ifCond .eq 7, 3) := by decide +kernel
theorem d15_197 : decode method_5_code 197 = .ok (.bipush 8, 2) := by decide +kernel
theorem d15_199 : decode method_5_code 199 = .ok (.ireturn, 1) := by decide +kernel
theorem d15_193 : decode method_5_code 193 = .ok (.iconst 5, 1) := by decide +kernel
theorem d15_194 : decode method_5_code 194 = .ok (.goto 5, 3) := by decide +kernel
theorem d15_184 : decode method_5_code 184 = .ok (.iconst 4, 1) := by decide +kernel
theorem d15_185 : decode method_5_code 185 = .ok (.goto 14, 3) := by decide +kernel
theorem d15_200 : decode method_5_code 200 = .ok (.iload_n 0, 1) := by decide +kernel
theorem d15_201 : decode method_5_code 201 = .ok (.iconst 5, 1) := by decide +kernel
theorem d15_202 : decode method_5_code 202 = .ok (.if_icmp .ne 24, 3) := by decide +kernel
theorem d15_205 : decode method_5_code 205 = .ok (.iload_n 3, 1) := by decide +kernel
theorem d15_206 : decode method_5_code 206 = .ok (.ifCond .eq 8, 3) := by decide +kernel
theorem d15_214 : decode method_5_code 214 = .ok (.iload_n 2, 1) := by decide +kernel
theorem d15_215 : decode method_5_code 215 = .ok (.ifCond .eq 8, 3) := by decide +kernel
theorem d15_223 : decode method_5_code 223 = .ok (.bipush 8, 2) := by decide +kernel
theorem d15_225 : decode method_5_code 225 = .ok (.ireturn, 1) := by decide +kernel
theorem d15_218 : decode method_5_code 218 = .ok (.bipush 7, 2) := by decide +kernel
theorem d15_220 : decode method_5_code 220 = .ok (.goto 5, 3) := by decide +kernel
theorem d15_209 : decode method_5_code 209 = .ok (.bipush 6, 2) := by decide +kernel
theorem d15_211 : decode method_5_code 211 = .ok (.goto 14, 3) := by decide +kernel
theorem d15_226 : decode method_5_code 226 = .ok (.iload_n 0, 1) := by decide +kernel
theorem d15_227 : decode method_5_code 227 = .ok (.bipush 6, 2) := by decide +kernel
theorem d15_229 : decode method_5_code 229 = .ok (.if_icmp .eq 9, 3) := by decide +kernel
theorem d15_238 : decode method_5_code 238 = .ok (.iload_n 2, 1) := by decide +kernel
theorem d15_239 : decode method_5_code 239 = .ok (.ifCond .eq 8, 3) := by decide +kernel
theorem d15_247 : decode method_5_code 247 = .ok (.bipush 8, 2) := by decide +kernel
theorem d15_249 : decode method_5_code 249 = .ok (.ireturn, 1) := by decide +kernel
theorem d15_242 : decode method_5_code 242 = .ok (.bipush 7, 2) := by decide +kernel
theorem d15_244 : decode method_5_code 244 = .ok (.goto 5, 3) := by decide +kernel
theorem d15_232 : decode method_5_code 232 = .ok (.iload_n 0, 1) := by decide +kernel
theorem d15_233 : decode method_5_code 233 = .ok (.bipush 7, 2) := by decide +kernel
theorem d15_235 : decode method_5_code 235 = .ok (.if_icmp .ne 15, 3) := by decide +kernel
theorem d15_250 : decode method_5_code 250 = .ok (.bipush 8, 2) := by decide +kernel
theorem d15_252 : decode method_5_code 252 = .ok (.ireturn, 1) := by decide +kernel
theorem d8_0 : decode prog_3_method_11_code 0 = .ok (.iload_n 1, 1) := by decide +kernel
theorem d8_1 : decode prog_3_method_11_code 1 = .ok (.aload_n 0, 1) := by decide +kernel
theorem d8_2 : decode prog_3_method_11_code 2 = .ok (.invokevirtual 126, 3) := by decide +kernel
theorem pd___I : parseMethodDescriptor "()I" = some ⟨[], some .int⟩ := by decide +kernel
theorem d8_5 : decode prog_3_method_11_code 5 = .ok (.if_icmp .ge 27, 3) := by decide +kernel
theorem d8_8 : decode prog_3_method_11_code 8 = .ok (.aload_n 0, 1) := by decide +kernel
theorem d8_9 : decode prog_3_method_11_code 9 = .ok (.iload_n 1, 1) := by decide +kernel
theorem d8_10 : decode prog_3_method_11_code 10 = .ok (.invokevirtual 129, 3) := by decide +kernel
theorem pd__I_C : parseMethodDescriptor "(I)C" = some ⟨[.int], some .char⟩ := by decide +kernel
theorem d8_13 : decode prog_3_method_11_code 13 = .ok (.bipush 43, 2) := by decide +kernel
theorem d8_15 : decode prog_3_method_11_code 15 = .ok (.if_icmp .eq 13, 3) := by decide +kernel
theorem d8_28 : decode prog_3_method_11_code 28 = .ok (.iconst 1, 1) := by decide +kernel
theorem d8_29 : decode prog_3_method_11_code 29 = .ok (.goto 4, 3) := by decide +kernel
theorem d8_33 : decode prog_3_method_11_code 33 = .ok (.istore_n 2, 1) := by decide +kernel
theorem d8_34 : decode prog_3_method_11_code 34 = .ok (.iload_n 2, 1) := by decide +kernel
theorem d8_35 : decode prog_3_method_11_code 35 = .ok (.ifCond .eq 9, 3) := by decide +kernel
theorem d8_38 : decode prog_3_method_11_code 38 = .ok (.iload_n 1, 1) := by decide +kernel
theorem d8_39 : decode prog_3_method_11_code 39 = .ok (.iconst 1, 1) := by decide +kernel
theorem d8_40 : decode prog_3_method_11_code 40 = .ok (.iadd, 1) := by decide +kernel
theorem d8_41 : decode prog_3_method_11_code 41 = .ok (.goto 4, 3) := by decide +kernel
theorem d8_45 : decode prog_3_method_11_code 45 = .ok (.ireturn, 1) := by decide +kernel
theorem d8_18 : decode prog_3_method_11_code 18 = .ok (.aload_n 0, 1) := by decide +kernel
theorem d8_19 : decode prog_3_method_11_code 19 = .ok (.iload_n 1, 1) := by decide +kernel
theorem d8_20 : decode prog_3_method_11_code 20 = .ok (.invokevirtual 129, 3) := by decide +kernel
theorem d8_23 : decode prog_3_method_11_code 23 = .ok (.bipush 45, 2) := by decide +kernel
theorem d8_25 : decode prog_3_method_11_code 25 = .ok (.if_icmp .ne 7, 3) := by decide +kernel
theorem d8_32 : decode prog_3_method_11_code 32 = .ok (.iconst 0, 1) := by decide +kernel
theorem d8_44 : decode prog_3_method_11_code 44 = .ok (.iload_n 1, 1) := by decide +kernel
theorem pn_com_example_kissena_kissena_Columns : plainName "com/example/kissena/kissena/Columns" = true := by first | (simp [plainName, overriddenIn]; done) | decide +kernel
theorem d11_2 : decode prog_3_method_12_code 2 = .ok (.iload_n 2, 1) := by decide +kernel
theorem d11_3 : decode prog_3_method_12_code 3 = .ok (.aload_n 0, 1) := by decide +kernel
theorem d11_4 : decode prog_3_method_12_code 4 = .ok (.invokevirtual 126, 3) := by decide +kernel
theorem d11_7 : decode prog_3_method_12_code 7 = .ok (.if_icmp .ge 29, 3) := by decide +kernel
theorem d11_36 : decode prog_3_method_12_code 36 = .ok (.iload_n 2, 1) := by decide +kernel
theorem d11_37 : decode prog_3_method_12_code 37 = .ok (.ireturn, 1) := by decide +kernel
theorem d11_10 : decode prog_3_method_12_code 10 = .ok (.aload_n 0, 1) := by decide +kernel
theorem d11_11 : decode prog_3_method_12_code 11 = .ok (.iload_n 2, 1) := by decide +kernel
theorem d11_12 : decode prog_3_method_12_code 12 = .ok (.invokevirtual 129, 3) := by decide +kernel
theorem d11_15 : decode prog_3_method_12_code 15 = .ok (.bipush 48, 2) := by decide +kernel
theorem d11_17 : decode prog_3_method_12_code 17 = .ok (.if_icmp .lt 19, 3) := by decide +kernel
theorem d11_20 : decode prog_3_method_12_code 20 = .ok (.aload_n 0, 1) := by decide +kernel
theorem d11_21 : decode prog_3_method_12_code 21 = .ok (.iload_n 2, 1) := by decide +kernel
theorem d11_22 : decode prog_3_method_12_code 22 = .ok (.invokevirtual 129, 3) := by decide +kernel
theorem d11_25 : decode prog_3_method_12_code 25 = .ok (.bipush 57, 2) := by decide +kernel
theorem d11_27 : decode prog_3_method_12_code 27 = .ok (.if_icmp .gt 9, 3) := by decide +kernel
theorem d11_30 : decode prog_3_method_12_code 30 = .ok (.iinc 2 1, 3) := by decide +kernel
theorem d11_33 : decode prog_3_method_12_code 33 = .ok (.goto (-31), 3) := by decide +kernel
theorem d11_0 : decode prog_3_method_12_code 0 = .ok (.iload_n 1, 1) := by decide +kernel
theorem d11_1 : decode prog_3_method_12_code 1 = .ok (.istore_n 2, 1) := by decide +kernel
theorem d7_0 : decode prog_3_method_10_code 0 = .ok (.aload_n 0, 1) := by decide +kernel
theorem d7_1 : decode prog_3_method_10_code 1 = .ok (.iconst 0, 1) := by decide +kernel
theorem d7_2 : decode prog_3_method_10_code 2 = .ok (.invokestatic 159, 3) := by decide +kernel
theorem pd__Ljava_lang_String_I_I : parseMethodDescriptor "(Ljava/lang/String;I)I" = some ⟨[(.object "java/lang/String"), .int], some .int⟩ := by decide +kernel
theorem d7_5 : decode prog_3_method_10_code 5 = .ok (.istore_n 1, 1) := by decide +kernel
theorem d7_6 : decode prog_3_method_10_code 6 = .ok (.iload_n 1, 1) := by decide +kernel
theorem d7_7 : decode prog_3_method_10_code 7 = .ok (.istore_n 2, 1) := by decide +kernel
theorem d7_8 : decode prog_3_method_10_code 8 = .ok (.aload_n 0, 1) := by decide +kernel
theorem d7_9 : decode prog_3_method_10_code 9 = .ok (.iload_n 1, 1) := by decide +kernel
theorem d7_10 : decode prog_3_method_10_code 10 = .ok (.invokestatic 163, 3) := by decide +kernel
theorem d7_13 : decode prog_3_method_10_code 13 = .ok (.istore_n 1, 1) := by decide +kernel
theorem d7_14 : decode prog_3_method_10_code 14 = .ok (.iload_n 1, 1) := by decide +kernel
theorem d7_15 : decode prog_3_method_10_code 15 = .ok (.iload_n 2, 1) := by decide +kernel
theorem d7_16 : decode prog_3_method_10_code 16 = .ok (.isub, 1) := by decide +kernel
theorem d7_17 : decode prog_3_method_10_code 17 = .ok (.istore_n 3, 1) := by decide +kernel
theorem d7_18 : decode prog_3_method_10_code 18 = .ok (.iload_n 1, 1) := by decide +kernel
theorem d7_19 : decode prog_3_method_10_code 19 = .ok (.aload_n 0, 1) := by decide +kernel
theorem d7_20 : decode prog_3_method_10_code 20 = .ok (.invokevirtual 126, 3) := by decide +kernel
theorem d7_23 : decode prog_3_method_10_code 23 = .ok (.if_icmp .ge 32, 3) := by decide +kernel
theorem d7_26 : decode prog_3_method_10_code 26 = .ok (.aload_n 0, 1) := by decide +kernel
theorem d7_27 : decode prog_3_method_10_code 27 = .ok (.iload_n 1, 1) := by decide +kernel
theorem d7_28 : decode prog_3_method_10_code 28 = .ok (.invokevirtual 129, 3) := by decide +kernel
theorem d7_31 : decode prog_3_method_10_code 31 = .ok (.bipush 46, 2) := by decide +kernel
theorem d7_33 : decode prog_3_method_10_code 33 = .ok (.if_icmp .ne 22, 3) := by decide +kernel
theorem d7_36 : decode prog_3_method_10_code 36 = .ok (.iload_n 1, 1) := by decide +kernel
theorem d7_37 : decode prog_3_method_10_code 37 = .ok (.iconst 1, 1) := by decide +kernel
theorem d7_38 : decode prog_3_method_10_code 38 = .ok (.iadd, 1) := by decide +kernel
theorem d7_39 : decode prog_3_method_10_code 39 = .ok (.istore 4, 2) := by decide +kernel
theorem d7_41 : decode prog_3_method_10_code 41 = .ok (.aload_n 0, 1) := by decide +kernel
theorem d7_42 : decode prog_3_method_10_code 42 = .ok (.iload 4, 2) := by decide +kernel
theorem d7_44 : decode prog_3_method_10_code 44 = .ok (.invokestatic 163, 3) := by decide +kernel
theorem d7_47 : decode prog_3_method_10_code 47 = .ok (.istore_n 1, 1) := by decide +kernel
theorem d7_48 : decode prog_3_method_10_code 48 = .ok (.iload_n 3, 1) := by decide +kernel
theorem d7_49 : decode prog_3_method_10_code 49 = .ok (.iload_n 1, 1) := by decide +kernel
theorem d7_50 : decode prog_3_method_10_code 50 = .ok (.iload 4, 2) := by decide +kernel
theorem d7_52 : decode prog_3_method_10_code 52 = .ok (.isub, 1) := by decide +kernel
theorem d7_53 : decode prog_3_method_10_code 53 = .ok (.iadd, 1) := by decide +kernel
theorem d7_54 : decode prog_3_method_10_code 54 = .ok (.istore_n 3, 1) := by decide +kernel
theorem d7_55 : decode prog_3_method_10_code 55 = .ok (.iload_n 3, 1) := by decide +kernel
theorem d7_56 : decode prog_3_method_10_code 56 = .ok (.ifCond .ne 5, 3) := by decide +kernel
theorem d7_59 : decode prog_3_method_10_code 59 = .ok (.iconst 0, 1) := by decide +kernel
theorem d7_60 : decode prog_3_method_10_code 60 = .ok (.ireturn, 1) := by decide +kernel
theorem d7_61 : decode prog_3_method_10_code 61 = .ok (.iload_n 1, 1) := by decide +kernel
theorem d7_62 : decode prog_3_method_10_code 62 = .ok (.aload_n 0, 1) := by decide +kernel
theorem d7_63 : decode prog_3_method_10_code 63 = .ok (.invokevirtual 126, 3) := by decide +kernel
theorem d7_66 : decode prog_3_method_10_code 66 = .ok (.if_icmp .ge 47, 3) := by decide +kernel
theorem d7_69 : decode prog_3_method_10_code 69 = .ok (.aload_n 0, 1) := by decide +kernel
theorem d7_70 : decode prog_3_method_10_code 70 = .ok (.iload_n 1, 1) := by decide +kernel
theorem d7_71 : decode prog_3_method_10_code 71 = .ok (.invokevirtual 129, 3) := by decide +kernel
theorem d7_74 : decode prog_3_method_10_code 74 = .ok (.bipush 101, 2) := by decide +kernel
theorem d7_76 : decode prog_3_method_10_code 76 = .ok (.if_icmp .eq 13, 3) := by decide +kernel
theorem d7_89 : decode prog_3_method_10_code 89 = .ok (.aload_n 0, 1) := by decide +kernel
theorem d7_90 : decode prog_3_method_10_code 90 = .ok (.iload_n 1, 1) := by decide +kernel
theorem d7_91 : decode prog_3_method_10_code 91 = .ok (.iconst 1, 1) := by decide +kernel
theorem d7_92 : decode prog_3_method_10_code 92 = .ok (.iadd, 1) := by decide +kernel
theorem d7_93 : decode prog_3_method_10_code 93 = .ok (.invokestatic 159, 3) := by decide +kernel
theorem d7_96 : decode prog_3_method_10_code 96 = .ok (.istore 4, 2) := by decide +kernel
theorem d7_98 : decode prog_3_method_10_code 98 = .ok (.aload_n 0, 1) := by decide +kernel
theorem d7_99 : decode prog_3_method_10_code 99 = .ok (.iload 4, 2) := by decide +kernel
theorem d7_101 : decode prog_3_method_10_code 101 = .ok (.invokestatic 163, 3) := by decide +kernel
theorem d7_104 : decode prog_3_method_10_code 104 = .ok (.istore_n 1, 1) := by decide +kernel
theorem d7_105 : decode prog_3_method_10_code 105 = .ok (.iload_n 1, 1) := by decide +kernel
theorem d7_106 : decode prog_3_method_10_code 106 = .ok (.iload 4, 2) := by decide +kernel
theorem d7_108 : decode prog_3_method_10_code 108 = .ok (.if_icmp .ne 5, 3) := by decide +kernel
theorem d7_111 : decode prog_3_method_10_code 111 = .ok (.iconst 0, 1) := by decide +kernel
theorem d7_112 : decode prog_3_method_10_code 112 = .ok (.ireturn, 1) := by decide +kernel
theorem d7_113 : decode prog_3_method_10_code 113 = .ok (.iload_n 1, 1) := by decide +kernel
theorem d7_114 : decode prog_3_method_10_code 114 = .ok (.aload_n 0, 1) := by decide +kernel
theorem d7_115 : decode prog_3_method_10_code 115 = .ok (.invokevirtual 126, 3) := by decide +kernel
theorem d7_118 : decode prog_3_method_10_code 118 = .ok (.if_icmp .ne 7, 3) := by decide +kernel
theorem d7_121 : decode prog_3_method_10_code 121 = .ok (.iconst 1, 1) := by decide +kernel
theorem d7_122 : decode prog_3_method_10_code 122 = .ok (.goto 4, 3) := by decide +kernel
theorem d7_126 : decode prog_3_method_10_code 126 = .ok (.ireturn, 1) := by decide +kernel
theorem d7_125 : decode prog_3_method_10_code 125 = .ok (.iconst 0, 1) := by decide +kernel
theorem d7_79 : decode prog_3_method_10_code 79 = .ok (.aload_n 0, 1) := by decide +kernel
theorem d7_80 : decode prog_3_method_10_code 80 = .ok (.iload_n 1, 1) := by decide +kernel
theorem d7_81 : decode prog_3_method_10_code 81 = .ok (.invokevirtual 129, 3) := by decide +kernel
theorem d7_84 : decode prog_3_method_10_code 84 = .ok (.bipush 69, 2) := by decide +kernel
theorem d7_86 : decode prog_3_method_10_code 86 = .ok (.if_icmp .ne 27, 3) := by decide +kernel
theorem pd__II_I : parseMethodDescriptor "(II)I" = some ⟨[.int, .int], some .int⟩ := by decide +kernel
theorem pd__ICCCCCC__C : parseMethodDescriptor "(ICCCCCC)[C" = some ⟨[.int, .char, .char, .char, .char, .char, .char], some (.array .char)⟩ := by decide +kernel
theorem pd___C_V : parseMethodDescriptor "([C)V" = some ⟨[(.array .char)], none⟩ := by decide +kernel
theorem pd__Ljava_lang_String__Z : parseMethodDescriptor "(Ljava/lang/String;)Z" = some ⟨[(.object "java/lang/String")], some .boolean⟩ := by decide +kernel
theorem pd__IC_I : parseMethodDescriptor "(IC)I" = some ⟨[.int, .char], some .int⟩ := by decide +kernel
theorem ef_rmCd0 (m : MethodId) (x0 : Addr) (x1 : Int32) : entryFrame m #[(.ref x0), (.int x1)] 2 = mkF m 0 #[.val (.ref x0), .val (.int x1)] [] := by first | (simp [entryFrame, mkF, argsToLocals, Value.category]; done) | rfl
set_option maxRecDepth 65536 in
set_option maxHeartbeats 40000000 in
theorem rmCd0 (l : Launch) (Z : State) (a0 : Array Value) (hw : ∀ d ∈ tables_1, d.before a0 Z = true) (ws : List Jvm.Cond) (b1 : Addr) (z : Int32) (n : Nat) (f : Nat → Int32) (h0 : Heap) (F1 : own_A Z h0 b1 .byte n f) (hz : z.toInt = n) :
    own_Ct l Z (⟨"java/lang/StringUTF16", "coderFromArrayLen", "([BI)B"⟩ : MethodName) jdk_52_method_15_code 2 (some .byte) ws ({ frames := 0, cells := 0, slots := 0, locals := 0 } : Room) #[(.ref b1), (.int z)] h0 (fun v h L => v = some (.int 0) ∧ L = [] ∧ h = h0) := by
  refine own_of (plainFor_of_name pn_java_lang_StringUTF16) ?_
  intro p e s m below meth c s₁ hx hby hml hown hnm hret hlk hZ X0 e0
  rw [ef_rmCd0]
  refine own_by (T' := s₁) (f' := (mkF m 1 #[.val (.ref b1), .val (.int z)] [(.int z)])) (fun t k => XS.iloadN X0.here hx rfl (hb hby d14_0) rfl k) ?_
  refine own_by (T' := s₁) (f' := (mkF m 2 #[.val (.ref b1), .val (.int z)] [(.ref b1), (.int z)])) (fun t k => XS.aloadN X0.here hx rfl (hb hby d14_1) rfl rfl k) ?_
  refine own_alen (j := z) X0 hx hZ e0 (hb hby d14_2) F1 hz ?_
  show own_Go p e below _ s₁ (mkF m 3 #[.val (.ref b1), .val (.int z)] [(.int z), (.int z)])
  refine own_by (T' := s₁) (f' := (mkF m 4 #[.val (.ref b1), .val (.int z)] [(.int (z - z))])) (fun t k => XS.isub X0.here hx rfl (hb hby d14_3) rfl k) ?_
  refine own_by (T' := s₁) (f' := (mkF m 6 #[.val (.ref b1), .val (.int z)] [(.int (31 : Int32)), (.int (z - z))])) (fun t k => XS.bipush X0.here hx rfl (hb hby d14_4) k) ?_
  refine own_by (T' := s₁) (f' := (mkF m 7 #[.val (.ref b1), .val (.int z)] [(.int (((z - z).toUInt32 >>> ((31 : Int32) &&& 31).toUInt32).toInt32))])) (fun t k => XS.iushr X0.here hx rfl (hb hby d14_6) rfl k) ?_
  refine own_by (T' := s₁) (f' := (mkF m 8 #[.val (.ref b1), .val (.int z)] [(.int ((((z - z).toUInt32 >>> ((31 : Int32) &&& 31).toUInt32).toInt32).toInt8.toInt32))])) (fun t k => XS.i2b X0.here hx rfl (hb hby d14_7) rfl k) ?_
  rw [own_cd0]
  show own_Go p e below _ s₁ (mkF m 8 #[.val (.ref b1), .val (.int z)] [(.int (0 : Int32))])
  refine own_ret X0 hx hret hlk (hb hby d14_8) rfl (Or.inl ⟨rfl, Or.inr (Or.inr (Or.inl rfl)), _, rfl⟩) (by decide) (by decide) ?_
  try rw [e0]
  exact ⟨rfl, rfl, rfl⟩
abbrev QC5 (Z : State) (h0 : Heap) (n0 : Nat) (b1 : Addr) (n : Nat) (f g : Nat → Int32) (v : Option Value) (h : Heap) (L : List Loc) : Prop := ∃ r : Int32, v = some (.int r) ∧ r.toInt = (own_fst f n : Nat) ∧ Fr n0 L ∧ Keep h0 h [b1] ∧ own_A Z h b1 .byte n (fun i => if i < own_fst f n then own_b8 (f i) else g i)
theorem ef_rmC5 (m : MethodId) (x0 : Addr) (x1 : Int32) (x2 : Addr) (x3 : Int32) (x4 : Int32) : entryFrame m #[(.ref x0), (.int x1), (.ref x2), (.int x3), (.int x4)] 7 = mkF m 0 #[.val (.ref x0), .val (.int x1), .val (.ref x2), .val (.int x3), .val (.int x4), .unset, .unset] [] := by first | (simp [entryFrame, mkF, argsToLocals, Value.category]; done) | rfl
set_option maxRecDepth 65536 in
set_option maxHeartbeats 40000000 in
theorem rmC5 (l : Launch) (Z : State) (a0 : Array Value) (hw : ∀ d ∈ tables_1, d.before a0 Z = true) (ws : List Jvm.Cond) (a1 b1 : Addr) (z : Int32) (n : Nat) (f g : Nat → Int32) (h0 : Heap) (n0 : Nat) (gb : n0 ≤ b1) (hab : a1 ≠ b1) (hz : z.toInt = n) (hn : n < 2147483648) (A1 : own_A Z h0 a1 .char n f) (B1 : own_A Z h0 b1 .byte n g) :
    own_Ct l Z (⟨"java/lang/StringUTF16", "compress", "([CI[BII)I"⟩ : MethodName) jdk_52_method_21_code 7 (some .int) ws ({ frames := 0, cells := 0, slots := 0, locals := 0 } : Room) #[(.ref a1), (.int (0 : Int32)), (.ref b1), (.int (0 : Int32)), (.int z)] h0 (QC5 Z h0 n0 b1 n f g) := by
  refine own_of (plainFor_of_name pn_java_lang_StringUTF16) ?_
  intro p e s m below meth c s₁ hx hby hml hown hnm hret hlk hZ X0 e0
  have loop : ∀ (k j : Nat) (iv : Int32) (s6 : Slot) (TL : State) (hL : Heap) (LL : List Loc), j + k = n → iv.toInt = (j : Nat) → One s6 → own_fst f n = own_fstA f k j → Stand p l e ({ frames := 0, cells := 0, slots := 0, locals := 0 } : Room) s m #[(.ref a1), (.int (0 : Int32)), (.ref b1), (.int (0 : Int32)), (.int z)] below meth c TL LL 0 0 → TL.heap = hL → own_A Z hL a1 .char n f → own_A Z hL b1 .byte n (fun i => if i < j then own_b8 (f i) else g i) → Keep h0 hL [b1] → Fr n0 LL → own_Go p e below (own_Ends s ({ frames := 0, cells := 0, slots := 0, locals := 0 } : Room) (QC5 Z h0 n0 b1 n f g)) TL (mkF m 3 #[.val (.ref a1), .val (.int iv), .val (.ref b1), .val (.int iv), .val (.int z), .val (.int iv), s6] []) := by
    intro k
    induction k with
    | zero =>
      intro j iv s6 TL hL LL hjk hiv hs6 hF XL eL AL BL KL NL
      refine own_by (T' := TL) (f' := (mkF m 5 #[.val (.ref a1), .val (.int iv), .val (.ref b1), .val (.int iv), .val (.int z), .val (.int iv), s6] [(.int iv)])) (fun t k => XS.iload XL.here hx rfl (hb hby d13_3) rfl k) ?_
      refine own_by (T' := TL) (f' := (mkF m 7 #[.val (.ref a1), .val (.int iv), .val (.ref b1), .val (.int iv), .val (.int z), .val (.int iv), s6] [(.int z), (.int iv)])) (fun t k => XS.iload XL.here hx rfl (hb hby d13_5) rfl k) ?_
      have hc7_51 : ¬ (iv < z) := (by rw [Int32.lt_iff_toInt_lt]; omega)
      refine own_by (T' := TL) (f' := (mkF m 44 #[.val (.ref a1), .val (.int iv), .val (.ref b1), .val (.int iv), .val (.int z), .val (.int iv), s6] [])) (fun t k => XS.icmpYes XL.here hx rfl (pc0 := 7) (pc' := 44) rfl (hb hby d13_7) rfl (flt hc7_51).2.1 (by decide) (by decide) k) ?_
      refine own_by (T' := TL) (f' := (mkF m 46 #[.val (.ref a1), .val (.int iv), .val (.ref b1), .val (.int iv), .val (.int z), .val (.int iv), s6] [(.int z)])) (fun t k => XS.iload XL.here hx rfl (hb hby d13_44) rfl k) ?_
      refine own_retI XL hx hret hlk (hb hby d13_46) (by decide) (by decide) ?_
      try rw [eL]
      exact ⟨z, rfl, by rw [hF, own_fstA]; omega, NL, KL, by rw [hF, own_fstA]; exact BL⟩
    | succ k ih =>
      intro j iv s6 TL hL LL hjk hiv hs6 hF XL eL AL BL KL NL
      refine own_by (T' := TL) (f' := (mkF m 5 #[.val (.ref a1), .val (.int iv), .val (.ref b1), .val (.int iv), .val (.int z), .val (.int iv), s6] [(.int iv)])) (fun t k => XS.iload XL.here hx rfl (hb hby d13_3) rfl k) ?_
      refine own_by (T' := TL) (f' := (mkF m 7 #[.val (.ref a1), .val (.int iv), .val (.ref b1), .val (.int iv), .val (.int z), .val (.int iv), s6] [(.int z), (.int iv)])) (fun t k => XS.iload XL.here hx rfl (hb hby d13_5) rfl k) ?_
      have hc7_51 : iv < z := (by rw [Int32.lt_iff_toInt_lt]; omega)
      refine own_by (T' := TL) (f' := (mkF m 10 #[.val (.ref a1), .val (.int iv), .val (.ref b1), .val (.int iv), .val (.int z), .val (.int iv), s6] [])) (fun t k => XS.icmpNo XL.here hx rfl (hb hby d13_7) rfl (tlt hc7_51).2.1 k) ?_
      refine own_by (T' := TL) (f' := (mkF m 11 #[.val (.ref a1), .val (.int iv), .val (.ref b1), .val (.int iv), .val (.int z), .val (.int iv), s6] [(.ref a1)])) (fun t k => XS.aloadN XL.here hx rfl (hb hby d13_10) rfl rfl k) ?_
      refine own_by (T' := TL) (f' := (mkF m 12 #[.val (.ref a1), .val (.int iv), .val (.ref b1), .val (.int iv), .val (.int z), .val (.int iv), s6] [(.int iv), (.ref a1)])) (fun t k => XS.iloadN XL.here hx rfl (hb hby d13_11) rfl k) ?_
      refine own_ldC XL hx hZ eL (hb hby d13_12) AL (by first | decide | omega) (by first | decide | omega) ?_
      rw [show iv.toInt.toNat = j from by omega]
      show own_Go p e below _ TL (mkF m 13 #[.val (.ref a1), .val (.int iv), .val (.ref b1), .val (.int iv), .val (.int z), .val (.int iv), s6] [(.int (f j))])
      refine own_by (T' := TL) (f' := (mkF m 15 #[.val (.ref a1), .val (.int iv), .val (.ref b1), .val (.int iv), .val (.int z), .val (.int iv), .val (.int (f j))] [])) (fun t k => XS.istore XL.here hx rfl (hb hby d13_13) rfl (l' := #[.val (.ref a1), .val (.int iv), .val (.ref b1), .val (.int iv), .val (.int z), .val (.int iv), .val (.int (f j))]) (os_C5_13_13 hs6) k) ?_
      refine own_by (T' := TL) (f' := (mkF m 17 #[.val (.ref a1), .val (.int iv), .val (.ref b1), .val (.int iv), .val (.int z), .val (.int iv), .val (.int (f j))] [(.int (f j))])) (fun t k => XS.iload XL.here hx rfl (hb hby d13_15) rfl k) ?_
      refine own_by (T' := TL) (f' := (mkF m 20 #[.val (.ref a1), .val (.int iv), .val (.ref b1), .val (.int iv), .val (.int z), .val (.int iv), .val (.int (f j))] [(.int (255 : Int32)), (.int (f j))])) (fun t k => XS.sipush XL.here hx rfl (hb hby d13_17) k) ?_
      by_cases hc20_52 : (255 : Int32) < (f j)
      · have _ := XL
        refine own_by (T' := TL) (f' := (mkF m 23 #[.val (.ref a1), .val (.int iv), .val (.ref b1), .val (.int iv), .val (.int z), .val (.int iv), .val (.int (f j))] [])) (fun t k => XS.icmpNo XL.here hx rfl (hb hby d13_20) rfl (tlt hc20_52).2.2.2 k) ?_
        refine own_by (T' := TL) (f' := (mkF m 25 #[.val (.ref a1), .val (.int iv), .val (.ref b1), .val (.int iv), .val (.int z), .val (.int iv), .val (.int (f j))] [(.int iv)])) (fun t k => XS.iload XL.here hx rfl (hb hby d13_23) rfl k) ?_
        refine own_retI XL hx hret hlk (hb hby d13_25) (by decide) (by decide) ?_
        try rw [eL]
        exact ⟨iv, rfl, by rw [hF, own_fstA, if_pos hc20_52]; exact hiv, NL, KL, by rw [hF, own_fstA, if_pos hc20_52]; exact BL⟩
      · have _ := XL
        refine own_by (T' := TL) (f' := (mkF m 26 #[.val (.ref a1), .val (.int iv), .val (.ref b1), .val (.int iv), .val (.int z), .val (.int iv), .val (.int (f j))] [])) (fun t k => XS.icmpYes XL.here hx rfl (pc0 := 20) (pc' := 26) rfl (hb hby d13_20) rfl (flt hc20_52).2.2.2 (by decide) (by decide) k) ?_
        refine own_by (T' := TL) (f' := (mkF m 27 #[.val (.ref a1), .val (.int iv), .val (.ref b1), .val (.int iv), .val (.int z), .val (.int iv), .val (.int (f j))] [(.ref b1)])) (fun t k => XS.aloadN XL.here hx rfl (hb hby d13_26) rfl rfl k) ?_
        refine own_by (T' := TL) (f' := (mkF m 28 #[.val (.ref a1), .val (.int iv), .val (.ref b1), .val (.int iv), .val (.int z), .val (.int iv), .val (.int (f j))] [(.int iv), (.ref b1)])) (fun t k => XS.iloadN XL.here hx rfl (hb hby d13_27) rfl k) ?_
        refine own_by (T' := TL) (f' := (mkF m 30 #[.val (.ref a1), .val (.int iv), .val (.ref b1), .val (.int iv), .val (.int z), .val (.int iv), .val (.int (f j))] [(.int (f j)), (.int iv), (.ref b1)])) (fun t k => XS.iload XL.here hx rfl (hb hby d13_28) rfl k) ?_
        refine own_by (T' := TL) (f' := (mkF m 31 #[.val (.ref a1), .val (.int iv), .val (.ref b1), .val (.int iv), .val (.int z), .val (.int iv), .val (.int (f j))] [(.int ((f j).toInt8.toInt32)), (.int iv), (.ref b1)])) (fun t k => XS.i2b XL.here hx rfl (hb hby d13_30) rfl k) ?_
        refine own_stB XL hx hZ eL (hb hby d13_31) BL (by first | decide | omega) (by first | decide | omega) ?_
        intro T53 h53 X53 e53 W53 A53
        show own_Go p e below _ T53 (mkF m 32 #[.val (.ref a1), .val (.int iv), .val (.ref b1), .val (.int iv), .val (.int z), .val (.int iv), .val (.int (f j))] [])
        have K54 := KL.wr W53 (Or.inl (List.mem_of_getElem? (i := 0) rfl))
        have N53 := Fr.snoc X53 NL gb
        have A55 : own_A Z h53 b1 .byte n (fun i => if i < (j + 1) then own_b8 (f i) else g i) := A53.congr (fun i hi => by rw [show iv.toInt.toNat = j from by omega]; exact own_upd j (fun i => own_b8 (f i)) g i)
        refine own_by (T' := T53) (f' := (mkF m 35 #[.val (.ref a1), .val (.int (iv + (1 : Int32))), .val (.ref b1), .val (.int iv), .val (.int z), .val (.int iv), .val (.int (f j))] [])) (fun t k => XS.iinc X53.here hx rfl (hb hby d13_32) rfl (l' := #[.val (.ref a1), .val (.int (iv + (1 : Int32))), .val (.ref b1), .val (.int iv), .val (.int z), .val (.int iv), .val (.int (f j))]) rfl k) ?_
        refine own_by (T' := T53) (f' := (mkF m 38 #[.val (.ref a1), .val (.int (iv + (1 : Int32))), .val (.ref b1), .val (.int (iv + (1 : Int32))), .val (.int z), .val (.int iv), .val (.int (f j))] [])) (fun t k => XS.iinc X53.here hx rfl (hb hby d13_35) rfl (l' := #[.val (.ref a1), .val (.int (iv + (1 : Int32))), .val (.ref b1), .val (.int (iv + (1 : Int32))), .val (.int z), .val (.int iv), .val (.int (f j))]) rfl k) ?_
        refine own_by (T' := T53) (f' := (mkF m 41 #[.val (.ref a1), .val (.int (iv + (1 : Int32))), .val (.ref b1), .val (.int (iv + (1 : Int32))), .val (.int z), .val (.int (iv + (1 : Int32))), .val (.int (f j))] [])) (fun t k => XS.iinc X53.here hx rfl (hb hby d13_38) rfl (l' := #[.val (.ref a1), .val (.int (iv + (1 : Int32))), .val (.ref b1), .val (.int (iv + (1 : Int32))), .val (.int z), .val (.int (iv + (1 : Int32))), .val (.int (f j))]) rfl k) ?_
        refine own_by (T' := T53) (f' := (mkF m 3 #[.val (.ref a1), .val (.int (iv + (1 : Int32))), .val (.ref b1), .val (.int (iv + (1 : Int32))), .val (.int z), .val (.int (iv + (1 : Int32))), .val (.int (f j))] [])) (fun t k => XS.goto X53.here hx rfl (pc0 := 41) (pc' := 3) rfl (hb hby d13_41) (by decide) (by decide) k) ?_
        have f56 := (AL.other W53 hab)
        exact ih (j + 1) (iv + (1 : Int32)) _ T53 h53 _ (by omega) (own_inc hiv (by omega) hn) (One.val rfl) (hF.trans (by rw [own_fstA, if_neg hc20_52])) X53 e53 f56 A55 K54 N53
  rw [ef_rmC5]
  refine own_by (T' := s₁) (f' := (mkF m 1 #[.val (.ref a1), .val (.int (0 : Int32)), .val (.ref b1), .val (.int (0 : Int32)), .val (.int z), .unset, .unset] [(.int (0 : Int32))])) (fun t k => XS.iconst X0.here hx rfl (hb hby d13_0) k) ?_
  refine own_by (T' := s₁) (f' := (mkF m 3 #[.val (.ref a1), .val (.int (0 : Int32)), .val (.ref b1), .val (.int (0 : Int32)), .val (.int z), .val (.int (0 : Int32)), .unset] [])) (fun t k => XS.istore X0.here hx rfl (hb hby d13_1) rfl (l' := #[.val (.ref a1), .val (.int (0 : Int32)), .val (.ref b1), .val (.int (0 : Int32)), .val (.int z), .val (.int (0 : Int32)), .unset]) rfl k) ?_
  exact loop n 0 0 _ s₁ h0 [] (by omega) (by decide) One.u rfl X0 e0 A1 (B1.congr fun i _ => by simp) (Keep.refl h0 [b1]) (Fr.nil n0)
theorem ef_rmPCn (m : MethodId) (x0 : Int32) (x1 : Int32) : entryFrame m #[(.int x0), (.int x1), .null] 3 = mkF m 0 #[.val (.int x0), .val (.int x1), .val .null] [] := by first | (simp [entryFrame, mkF, argsToLocals, Value.category]; done) | rfl
set_option maxRecDepth 65536 in
set_option maxHeartbeats 40000000 in
theorem rmPCn (l : Launch) (Z : State) (a0 : Array Value) (hw : ∀ d ∈ tables_1, d.before a0 Z = true) (ws : List Jvm.Cond) (iv ln : Int32) (h0 : Heap) (g0 : 0 ≤ iv.toInt) (hlt : iv < ln) :
    own_Ct l Z (⟨"jdk/internal/util/Preconditions", "checkIndex", "(IILjava/util/function/BiFunction;)I"⟩ : MethodName) jdk_41_method_11_code 3 (some .int) ws ({ frames := 0, cells := 0, slots := 0, locals := 0 } : Room) #[(.int iv), (.int ln), .null] h0 (fun v h L => v = some (.int iv) ∧ L = [] ∧ h = h0) := by
  refine own_of (plainFor_of_name pn_jdk_internal_util_Preconditions) ?_
  intro p e s m below meth c s₁ hx hby hml hown hnm hret hlk hZ X0 e0
  rw [ef_rmPCn]
  refine own_by (T' := s₁) (f' := (mkF m 1 #[.val (.int iv), .val (.int ln), .val .null] [(.int iv)])) (fun t k => XS.iloadN X0.here hx rfl (hb hby d20_0) rfl k) ?_
  have hc1_1 : ¬ (iv < (0 : Int32)) := own_nl0 g0
  refine own_by (T' := s₁) (f' := (mkF m 4 #[.val (.int iv), .val (.int ln), .val .null] [])) (fun t k => XS.ifNo X0.here hx rfl (hb hby d20_1) rfl ((if0 _ _).trans (flt hc1_1).1) k) ?_
  refine own_by (T' := s₁) (f' := (mkF m 5 #[.val (.int iv), .val (.int ln), .val .null] [(.int iv)])) (fun t k => XS.iloadN X0.here hx rfl (hb hby d20_4) rfl k) ?_
  refine own_by (T' := s₁) (f' := (mkF m 6 #[.val (.int iv), .val (.int ln), .val .null] [(.int ln), (.int iv)])) (fun t k => XS.iloadN X0.here hx rfl (hb hby d20_5) rfl k) ?_
  have hc6_2 : iv < ln := hlt
  refine own_by (T' := s₁) (f' := (mkF m 16 #[.val (.int iv), .val (.int ln), .val .null] [])) (fun t k => XS.icmpYes X0.here hx rfl (pc0 := 6) (pc' := 16) rfl (hb hby d20_6) rfl (tlt hc6_2).1 (by decide) (by decide) k) ?_
  refine own_by (T' := s₁) (f' := (mkF m 17 #[.val (.int iv), .val (.int ln), .val .null] [(.int iv)])) (fun t k => XS.iloadN X0.here hx rfl (hb hby d20_16) rfl k) ?_
  refine own_retI X0 hx hret hlk (hb hby d20_17) (by decide) (by decide) ?_
  try rw [e0]
  exact ⟨rfl, rfl, rfl⟩
theorem ef_rmPCr (m : MethodId) (x0 : Int32) (x1 : Int32) (x2 : Addr) : entryFrame m #[(.int x0), (.int x1), (.ref x2)] 3 = mkF m 0 #[.val (.int x0), .val (.int x1), .val (.ref x2)] [] := by first | (simp [entryFrame, mkF, argsToLocals, Value.category]; done) | rfl
set_option maxRecDepth 65536 in
set_option maxHeartbeats 40000000 in
theorem rmPCr (l : Launch) (Z : State) (a0 : Array Value) (hw : ∀ d ∈ tables_1, d.before a0 Z = true) (ws : List Jvm.Cond) (iv ln : Int32) (a9 : Addr) (h0 : Heap) (g0 : 0 ≤ iv.toInt) (hlt : iv < ln) :
    own_Ct l Z (⟨"jdk/internal/util/Preconditions", "checkIndex", "(IILjava/util/function/BiFunction;)I"⟩ : MethodName) jdk_41_method_11_code 3 (some .int) ws ({ frames := 0, cells := 0, slots := 0, locals := 0 } : Room) #[(.int iv), (.int ln), (.ref a9)] h0 (fun v h L => v = some (.int iv) ∧ L = [] ∧ h = h0) := by
  refine own_of (plainFor_of_name pn_jdk_internal_util_Preconditions) ?_
  intro p e s m below meth c s₁ hx hby hml hown hnm hret hlk hZ X0 e0
  rw [ef_rmPCr]
  refine own_by (T' := s₁) (f' := (mkF m 1 #[.val (.int iv), .val (.int ln), .val (.ref a9)] [(.int iv)])) (fun t k => XS.iloadN X0.here hx rfl (hb hby d20_0) rfl k) ?_
  have hc1_1 : ¬ (iv < (0 : Int32)) := own_nl0 g0
  refine own_by (T' := s₁) (f' := (mkF m 4 #[.val (.int iv), .val (.int ln), .val (.ref a9)] [])) (fun t k => XS.ifNo X0.here hx rfl (hb hby d20_1) rfl ((if0 _ _).trans (flt hc1_1).1) k) ?_
  refine own_by (T' := s₁) (f' := (mkF m 5 #[.val (.int iv), .val (.int ln), .val (.ref a9)] [(.int iv)])) (fun t k => XS.iloadN X0.here hx rfl (hb hby d20_4) rfl k) ?_
  refine own_by (T' := s₁) (f' := (mkF m 6 #[.val (.int iv), .val (.int ln), .val (.ref a9)] [(.int ln), (.int iv)])) (fun t k => XS.iloadN X0.here hx rfl (hb hby d20_5) rfl k) ?_
  have hc6_2 : iv < ln := hlt
  refine own_by (T' := s₁) (f' := (mkF m 16 #[.val (.int iv), .val (.int ln), .val (.ref a9)] [])) (fun t k => XS.icmpYes X0.here hx rfl (pc0 := 6) (pc' := 16) rfl (hb hby d20_6) rfl (tlt hc6_2).1 (by decide) (by decide) k) ?_
  refine own_by (T' := s₁) (f' := (mkF m 17 #[.val (.int iv), .val (.int ln), .val (.ref a9)] [(.int iv)])) (fun t k => XS.iloadN X0.here hx rfl (hb hby d20_16) rfl k) ?_
  refine own_retI X0 hx hret hlk (hb hby d20_17) (by decide) (by decide) ?_
  try rw [e0]
  exact ⟨rfl, rfl, rfl⟩
theorem rmPC (l : Launch) (Z : State) (a0 : Array Value) (hw : ∀ d ∈ tables_1, d.before a0 Z = true) (ws : List Jvm.Cond) (iv ln : Int32) (fm : Value) (h0 : Heap) (g0 : 0 ≤ iv.toInt) (hlt : iv < ln) (hfm : fm.isRef = true) : own_Ct l Z (⟨"jdk/internal/util/Preconditions", "checkIndex", "(IILjava/util/function/BiFunction;)I"⟩ : MethodName) jdk_41_method_11_code 3 (some .int) ws ({ frames := 0, cells := 0, slots := 0, locals := 0 } : Room) #[(.int iv), (.int ln), fm] h0 (fun v h L => v = some (.int iv) ∧ L = [] ∧ h = h0) := by
  rcases ref_cases hfm with rfl | ⟨a9, rfl⟩
  · exact rmPCn l Z a0 hw ws iv ln h0 g0 hlt
  · exact rmPCr l Z a0 hw ws iv ln a9 h0 g0 hlt
theorem ef_rmCI (m : MethodId) (x0 : Int32) (x1 : Int32) : entryFrame m #[(.int x0), (.int x1)] 2 = mkF m 0 #[.val (.int x0), .val (.int x1)] [] := by first | (simp [entryFrame, mkF, argsToLocals, Value.category]; done) | rfl
set_option maxRecDepth 65536 in
set_option maxHeartbeats 40000000 in
theorem rmCI (l : Launch) (Z : State) (a0 : Array Value) (hw : ∀ d ∈ tables_1, d.before a0 Z = true) (ws : List Jvm.Cond) (iv ln : Int32) (cs : Int32) (fm : Value) (h0 : Heap) (g0 : 0 ≤ iv.toInt) (hlt : iv < ln) (ST : own_St Z h0 cs fm) :
    own_Ct l Z (⟨"java/lang/String", "checkIndex", "(II)V"⟩ : MethodName) jdk_42_method_155_code 2 none ws ({ frames := 1, cells := 0, slots := 0, locals := 14 } : Room) #[(.int iv), (.int ln)] h0 (fun v h L => v = none ∧ L = [] ∧ h = h0) := by
  refine own_of (plainFor_of_name pn_java_lang_String) ?_
  intro p e s m below meth c s₁ hx hby hml hown hnm hret hlk hZ X0 e0
  rw [ef_rmCI]
  refine own_by (T' := s₁) (f' := (mkF m 1 #[.val (.int iv), .val (.int ln)] [(.int iv)])) (fun t k => XS.iloadN X0.here hx rfl (hb hby d19_0) rfl k) ?_
  refine own_by (T' := s₁) (f' := (mkF m 2 #[.val (.int iv), .val (.int ln)] [(.int ln), (.int iv)])) (fun t k => XS.iloadN X0.here hx rfl (hb hby d19_1) rfl k) ?_
  refine own_getS (host := "") X0 hx hZ hown e0 (hb hby d19_2) (Or.inl (own_w hw 85 rfl)) Via.refl ST.2.2.2.2.1 ?_
  intro T11 X11 e11
  show own_Go p e below _ T11 (mkF m 5 #[.val (.int iv), .val (.int ln)] [fm, (.int ln), (.int iv)])
  refine own_callS X11 hx hZ hown e11 (hb hby d19_5) [(.int iv), (.int ln), fm] [] 0 (rmPC l Z a0 hw [] iv ln fm h0 g0 hlt ST.2.2.2.2.2.2) (own_w hw 87 rfl) (own_w hw 88 rfl) (own_w hw 86 rfl) (own_w hw 89 rfl) (by decide) pd__IILjava_util_function_BiFunction__I (by rw [hml]; rfl) rfl rfl (Nat.le_of_eq rfl) (by decide) (by decide) (by decide) (by decide) ?_
  rintro T12 _ L12 X12 ⟨rfl, rfl, e12⟩
  show own_Go p e below _ T12 (mkF m 8 #[.val (.int iv), .val (.int ln)] [(.int iv)])
  rw [List.append_nil] at X12
  refine own_by (T' := T12) (f' := (mkF m 9 #[.val (.int iv), .val (.int ln)] [])) (fun t k => XS.pop X12.here hx rfl (hb hby d19_8) rfl rfl k) ?_
  refine own_retV X12 hx hret hlk (hb hby d19_9) (by decide) (by decide) ?_
  try rw [e12]
  exact ⟨rfl, rfl, rfl⟩
theorem ef_rmLC (m : MethodId) (x0 : Addr) (x1 : Int32) : entryFrame m #[(.ref x0), (.int x1)] 2 = mkF m 0 #[.val (.ref x0), .val (.int x1)] [] := by first | (simp [entryFrame, mkF, argsToLocals, Value.category]; done) | rfl
set_option maxRecDepth 65536 in
set_option maxHeartbeats 40000000 in
theorem rmLC (l : Launch) (Z : State) (a0 : Array Value) (hw : ∀ d ∈ tables_1, d.before a0 Z = true) (ws : List Jvm.Cond) (b1 : Addr) (iv z : Int32) (j n : Nat) (f : Nat → Int32) (cs : Int32) (fm : Value) (h0 : Heap) (hj : iv.toInt = (j : Nat)) (hjn : j < n) (g0 : 0 ≤ iv.toInt) (hz : z.toInt = n) (hc : 0 ≤ (f j).toInt ∧ (f j).toInt < 256) (B1 : own_A Z h0 b1 .byte n (fun i => own_b8 (f i))) (ST : own_St Z h0 cs fm) :
    own_Ct l Z (⟨"java/lang/StringLatin1", "charAt", "([BI)C"⟩ : MethodName) jdk_43_method_2_code 2 (some .char) ws ({ frames := 2, cells := 0, slots := 0, locals := 27 } : Room) #[(.ref b1), (.int iv)] h0 (fun v h L => v = some (.int (f j)) ∧ L = [] ∧ h = h0) := by
  refine own_of (plainFor_of_name pn_java_lang_StringLatin1) ?_
  intro p e s m below meth c s₁ hx hby hml hown hnm hret hlk hZ X0 e0
  rw [ef_rmLC]
  refine own_by (T' := s₁) (f' := (mkF m 1 #[.val (.ref b1), .val (.int iv)] [(.int iv)])) (fun t k => XS.iloadN X0.here hx rfl (hb hby d18_0) rfl k) ?_
  refine own_by (T' := s₁) (f' := (mkF m 2 #[.val (.ref b1), .val (.int iv)] [(.ref b1), (.int iv)])) (fun t k => XS.aloadN X0.here hx rfl (hb hby d18_1) rfl rfl k) ?_
  refine own_alen (j := z) X0 hx hZ e0 (hb hby d18_2) B1 hz ?_
  show own_Go p e below _ s₁ (mkF m 3 #[.val (.ref b1), .val (.int iv)] [(.int z), (.int iv)])
  refine own_callS X0 hx hZ hown e0 (hb hby d18_3) [(.int iv), (.int z)] [] 0 (rmCI l Z a0 hw [] iv z cs fm h0 g0 (by rw [Int32.lt_iff_toInt_lt]; omega) ST) (own_w hw 82 rfl) (own_w hw 83 rfl) (own_w hw 15 rfl) (own_w hw 84 rfl) (by decide) pd__II_V (by rw [hml]; rfl) rfl rfl (Nat.le_of_eq rfl) (by decide) (by decide) (by decide) (by decide) ?_
  rintro T11 _ L11 X11 ⟨rfl, rfl, e11⟩
  show own_Go p e below _ T11 (mkF m 6 #[.val (.ref b1), .val (.int iv)] [])
  rw [List.append_nil] at X11
  refine own_by (T' := T11) (f' := (mkF m 7 #[.val (.ref b1), .val (.int iv)] [(.ref b1)])) (fun t k => XS.aloadN X11.here hx rfl (hb hby d18_6) rfl rfl k) ?_
  refine own_by (T' := T11) (f' := (mkF m 8 #[.val (.ref b1), .val (.int iv)] [(.int iv), (.ref b1)])) (fun t k => XS.iloadN X11.here hx rfl (hb hby d18_7) rfl k) ?_
  refine own_ldB X11 hx hZ e11 (hb hby d18_8) B1 (by first | decide | omega) (by first | decide | omega) ?_
  rw [show iv.toInt.toNat = j from by omega]
  show own_Go p e below _ T11 (mkF m 9 #[.val (.ref b1), .val (.int iv)] [(.int (own_b8 (f j)))])
  refine own_by (T' := T11) (f' := (mkF m 12 #[.val (.ref b1), .val (.int iv)] [(.int (255 : Int32)), (.int (own_b8 (f j)))])) (fun t k => XS.sipush X11.here hx rfl (hb hby d18_9) k) ?_
  refine own_by (T' := T11) (f' := (mkF m 13 #[.val (.ref b1), .val (.int iv)] [(.int ((own_b8 (f j)) &&& (255 : Int32)))])) (fun t k => XS.iand X11.here hx rfl (hb hby d18_12) rfl k) ?_
  refine own_by (T' := T11) (f' := (mkF m 14 #[.val (.ref b1), .val (.int iv)] [(.int (((own_b8 (f j)) &&& (255 : Int32)).toUInt32.toUInt16.toUInt32.toInt32))])) (fun t k => XS.i2c X11.here hx rfl (hb hby d18_13) rfl k) ?_
  rw [own_b8_char (f j) hc.1 hc.2]
  show own_Go p e below _ T11 (mkF m 14 #[.val (.ref b1), .val (.int iv)] [(.int (f j))])
  refine own_ret X11 hx hret hlk (hb hby d18_14) (own_narC hc.1 (by omega)) (Or.inl ⟨rfl, Or.inr (Or.inr (Or.inr (Or.inl rfl))), _, rfl⟩) (by decide) (by decide) ?_
  try rw [e11]
  exact ⟨rfl, rfl, rfl⟩
theorem ef_rmUL (m : MethodId) (x0 : Addr) : entryFrame m #[(.ref x0)] 1 = mkF m 0 #[.val (.ref x0)] [] := by first | (simp [entryFrame, mkF, argsToLocals, Value.category]; done) | rfl
set_option maxRecDepth 65536 in
set_option maxHeartbeats 40000000 in
theorem rmUL (l : Launch) (Z : State) (a0 : Array Value) (hw : ∀ d ∈ tables_1, d.before a0 Z = true) (ws : List Jvm.Cond) (b1 : Addr) (z : Int32) (n : Nat) (f : Nat → Int32) (h0 : Heap) (hz : z.toInt = (2 * n : Nat)) (B1 : own_A Z h0 b1 .byte (2 * n) (own_u16 f n)) :
    own_Ct l Z (⟨"java/lang/StringUTF16", "length", "([B)I"⟩ : MethodName) jdk_52_method_6_code 1 (some .int) ws ({ frames := 0, cells := 0, slots := 0, locals := 0 } : Room) #[(.ref b1)] h0 (fun v h L => v = some (.int (z >>> ((1 : Int32) &&& 31))) ∧ L = [] ∧ h = h0) := by
  refine own_of (plainFor_of_name pn_java_lang_StringUTF16) ?_
  intro p e s m below meth c s₁ hx hby hml hown hnm hret hlk hZ X0 e0
  rw [ef_rmUL]
  refine own_by (T' := s₁) (f' := (mkF m 1 #[.val (.ref b1)] [(.ref b1)])) (fun t k => XS.aloadN X0.here hx rfl (hb hby d28_0) rfl rfl k) ?_
  refine own_alen (j := z) X0 hx hZ e0 (hb hby d28_1) B1 hz ?_
  show own_Go p e below _ s₁ (mkF m 2 #[.val (.ref b1)] [(.int z)])
  refine own_by (T' := s₁) (f' := (mkF m 3 #[.val (.ref b1)] [(.int (1 : Int32)), (.int z)])) (fun t k => XS.iconst X0.here hx rfl (hb hby d28_2) k) ?_
  refine own_by (T' := s₁) (f' := (mkF m 4 #[.val (.ref b1)] [(.int (z >>> ((1 : Int32) &&& 31)))])) (fun t k => XS.ishr X0.here hx rfl (hb hby d28_3) rfl k) ?_
  refine own_retI X0 hx hret hlk (hb hby d28_4) (by decide) (by decide) ?_
  try rw [e0]
  exact ⟨rfl, rfl, rfl⟩
theorem ef_rmUCI (m : MethodId) (x0 : Int32) (x1 : Addr) : entryFrame m #[(.int x0), (.ref x1)] 2 = mkF m 0 #[.val (.int x0), .val (.ref x1)] [] := by first | (simp [entryFrame, mkF, argsToLocals, Value.category]; done) | rfl
set_option maxRecDepth 65536 in
set_option maxHeartbeats 40000000 in
theorem rmUCI (l : Launch) (Z : State) (a0 : Array Value) (hw : ∀ d ∈ tables_1, d.before a0 Z = true) (ws : List Jvm.Cond) (b1 : Addr) (iv z : Int32) (j n : Nat) (f : Nat → Int32) (cs : Int32) (fm : Value) (h0 : Heap) (hj : iv.toInt = (j : Nat)) (hjn : j < n) (g0 : 0 ≤ iv.toInt) (hz : z.toInt = (2 * n : Nat)) (hn : n < 1073741824) (hc : 0 ≤ (f j).toInt ∧ (f j).toInt < 65536) (B1 : own_A Z h0 b1 .byte (2 * n) (own_u16 f n)) (ST : own_St Z h0 cs fm) :
    own_Ct l Z (⟨"java/lang/StringUTF16", "checkIndex", "(I[B)V"⟩ : MethodName) jdk_52_method_91_code 2 none ws ({ frames := 2, cells := 0, slots := 0, locals := 27 } : Room) #[(.int iv), (.ref b1)] h0 (fun v h L => v = none ∧ L = [] ∧ h = h0) := by
  refine own_of (plainFor_of_name pn_java_lang_StringUTF16) ?_
  intro p e s m below meth c s₁ hx hby hml hown hnm hret hlk hZ X0 e0
  rw [ef_rmUCI]
  refine own_by (T' := s₁) (f' := (mkF m 1 #[.val (.int iv), .val (.ref b1)] [(.int iv)])) (fun t k => XS.iloadN X0.here hx rfl (hb hby d27_0) rfl k) ?_
  refine own_by (T' := s₁) (f' := (mkF m 2 #[.val (.int iv), .val (.ref b1)] [(.ref b1), (.int iv)])) (fun t k => XS.aloadN X0.here hx rfl (hb hby d27_1) rfl rfl k) ?_
  refine own_callS X0 hx hZ hown e0 (hb hby d27_2) [(.ref b1)] [(.int iv)] 1 (rmUL l Z a0 hw [] b1 z n f h0 hz B1) (own_w hw 115 rfl) (own_w hw 116 rfl) (own_w hw 57 rfl) (own_w hw 117 rfl) (by decide) pd___B_I (by rw [hml]; rfl) rfl rfl (Nat.le_of_eq rfl) (by decide) (by decide) (by decide) (by decide) ?_
  rintro T11 _ L11 X11 ⟨rfl, rfl, e11⟩
  show own_Go p e below _ T11 (mkF m 5 #[.val (.int iv), .val (.ref b1)] [(.int (z >>> ((1 : Int32) &&& 31))), (.int iv)])
  rw [List.append_nil] at X11
  refine own_callS X11 hx hZ hown e11 (hb hby d27_5) [(.int iv), (.int (z >>> ((1 : Int32) &&& 31)))] [] 0 (rmCI l Z a0 hw [] iv (z >>> ((1 : Int32) &&& 31)) cs fm h0 g0 (by rw [Int32.lt_iff_toInt_lt, own_shr1 hz]; omega) ST) (own_w hw 118 rfl) (own_w hw 83 rfl) (own_w hw 15 rfl) (own_w hw 84 rfl) (by decide) pd__II_V (by rw [hml]; rfl) rfl rfl (Nat.le_of_eq rfl) (by decide) (by decide) (by decide) (by decide) ?_
  rintro T12 _ L12 X12 ⟨rfl, rfl, e12⟩
  show own_Go p e below _ T12 (mkF m 8 #[.val (.int iv), .val (.ref b1)] [])
  rw [List.append_nil] at X12
  refine own_retV X12 hx hret hlk (hb hby d27_8) (by decide) (by decide) ?_
  try rw [e12]
  exact ⟨rfl, rfl, rfl⟩
theorem ef_rmGC (m : MethodId) (x0 : Addr) (x1 : Int32) : entryFrame m #[(.ref x0), (.int x1)] 2 = mkF m 0 #[.val (.ref x0), .val (.int x1)] [] := by first | (simp [entryFrame, mkF, argsToLocals, Value.category]; done) | rfl
set_option maxRecDepth 65536 in
set_option maxHeartbeats 40000000 in
theorem rmGC (l : Launch) (Z : State) (a0 : Array Value) (hw : ∀ d ∈ tables_1, d.before a0 Z = true) (ws : List Jvm.Cond) (b1 : Addr) (iv z : Int32) (j n : Nat) (f : Nat → Int32) (cs : Int32) (fm : Value) (h0 : Heap) (hj : iv.toInt = (j : Nat)) (hjn : j < n) (g0 : 0 ≤ iv.toInt) (hz : z.toInt = (2 * n : Nat)) (hn : n < 1073741824) (hc : 0 ≤ (f j).toInt ∧ (f j).toInt < 65536) (B1 : own_A Z h0 b1 .byte (2 * n) (own_u16 f n)) (ST : own_St Z h0 cs fm) :
    own_Ct l Z (⟨"java/lang/StringUTF16", "getChar", "([BI)C"⟩ : MethodName) jdk_52_method_5_code 2 (some .char) ws ({ frames := 0, cells := 0, slots := 0, locals := 0 } : Room) #[(.ref b1), (.int iv)] h0 (fun v h L => v = some (.int (f j)) ∧ L = [] ∧ h = h0) := by
  refine own_of (plainFor_of_name pn_java_lang_StringUTF16) ?_
  intro p e s m below meth c s₁ hx hby hml hown hnm hret hlk hZ X0 e0
  rw [ef_rmGC]
  refine own_getS (host := "") X0 hx hZ hown e0 (hb hby d25_0) (Or.inl (own_w hw 103 rfl)) Via.refl ST.2.1 ?_
  intro T11 X11 e11
  show own_Go p e below _ T11 (mkF m 3 #[.val (.ref b1), .val (.int iv)] [(.int (1 : Int32))])
  refine own_by (T' := T11) (f' := (mkF m 28 #[.val (.ref b1), .val (.int iv)] [])) (fun t k => XS.ifYes X11.here hx rfl (pc0 := 3) (pc' := 28) rfl (hb hby d25_3) rfl ((if0 _ _).trans (feq (by decide)).2) (by decide) (by decide) k) ?_
  refine own_by (T' := T11) (f' := (mkF m 29 #[.val (.ref b1), .val (.int iv)] [(.int iv)])) (fun t k => XS.iloadN X11.here hx rfl (hb hby d25_28) rfl k) ?_
  refine own_by (T' := T11) (f' := (mkF m 30 #[.val (.ref b1), .val (.int iv)] [(.int (1 : Int32)), (.int iv)])) (fun t k => XS.iconst X11.here hx rfl (hb hby d25_29) k) ?_
  refine own_by (T' := T11) (f' := (mkF m 31 #[.val (.ref b1), .val (.int iv)] [(.int (iv <<< ((1 : Int32) &&& 31)))])) (fun t k => XS.ishl X11.here hx rfl (hb hby d25_30) rfl k) ?_
  obtain ⟨wv, hwv⟩ : ∃ z : Int32, z = (iv <<< ((1 : Int32) &&& 31)) := ⟨_, rfl⟩
  rw [← hwv]
  have ew : wv.toInt = ((2 * j : Nat) : Int) := by rw [hwv]; exact own_shl1 hj (by omega)
  have ew1 := own_inc (n := 2 * n) ew (by omega) (by omega)
  show own_Go p e below _ T11 (mkF m 31 #[.val (.ref b1), .val (.int iv)] [(.int wv)])
  refine own_by (T' := T11) (f' := (mkF m 32 #[.val (.ref b1), .val (.int wv)] [])) (fun t k => XS.istoreN X11.here hx rfl (hb hby d25_31) rfl (l' := #[.val (.ref b1), .val (.int wv)]) rfl k) ?_
  refine own_by (T' := T11) (f' := (mkF m 33 #[.val (.ref b1), .val (.int wv)] [(.ref b1)])) (fun t k => XS.aloadN X11.here hx rfl (hb hby d25_32) rfl rfl k) ?_
  refine own_by (T' := T11) (f' := (mkF m 34 #[.val (.ref b1), .val (.int wv)] [(.int wv), (.ref b1)])) (fun t k => XS.iloadN X11.here hx rfl (hb hby d25_33) rfl k) ?_
  refine own_by (T' := T11) (f' := (mkF m 37 #[.val (.ref b1), .val (.int (wv + (1 : Int32)))] [(.int wv), (.ref b1)])) (fun t k => XS.iinc X11.here hx rfl (hb hby d25_34) rfl (l' := #[.val (.ref b1), .val (.int (wv + (1 : Int32)))]) rfl k) ?_
  refine own_ldB X11 hx hZ e11 (hb hby d25_37) B1 (by first | decide | omega) (by first | decide | omega) ?_
  rw [show wv.toInt.toNat = 2 * j from by omega, own_u16_lo hjn]
  show own_Go p e below _ T11 (mkF m 38 #[.val (.ref b1), .val (.int (wv + (1 : Int32)))] [(.int (own_lo (f j)))])
  refine own_by (T' := T11) (f' := (mkF m 41 #[.val (.ref b1), .val (.int (wv + (1 : Int32)))] [(.int (255 : Int32)), (.int (own_lo (f j)))])) (fun t k => XS.sipush X11.here hx rfl (hb hby d25_38) k) ?_
  refine own_by (T' := T11) (f' := (mkF m 42 #[.val (.ref b1), .val (.int (wv + (1 : Int32)))] [(.int ((own_lo (f j)) &&& (255 : Int32)))])) (fun t k => XS.iand X11.here hx rfl (hb hby d25_41) rfl k) ?_
  refine own_getS (host := "") X11 hx hZ hown e11 (hb hby d25_42) (Or.inl (own_w hw 104 rfl)) Via.refl ST.2.2.1 ?_
  intro T12 X12 e12
  show own_Go p e below _ T12 (mkF m 45 #[.val (.ref b1), .val (.int (wv + (1 : Int32)))] [(.int (0 : Int32)), (.int ((own_lo (f j)) &&& (255 : Int32)))])
  refine own_by (T' := T12) (f' := (mkF m 46 #[.val (.ref b1), .val (.int (wv + (1 : Int32)))] [(.int (((own_lo (f j)) &&& (255 : Int32)) <<< ((0 : Int32) &&& 31)))])) (fun t k => XS.ishl X12.here hx rfl (hb hby d25_45) rfl k) ?_
  refine own_by (T' := T12) (f' := (mkF m 47 #[.val (.ref b1), .val (.int (wv + (1 : Int32)))] [(.ref b1), (.int (((own_lo (f j)) &&& (255 : Int32)) <<< ((0 : Int32) &&& 31)))])) (fun t k => XS.aloadN X12.here hx rfl (hb hby d25_46) rfl rfl k) ?_
  refine own_by (T' := T12) (f' := (mkF m 48 #[.val (.ref b1), .val (.int (wv + (1 : Int32)))] [(.int (wv + (1 : Int32))), (.ref b1), (.int (((own_lo (f j)) &&& (255 : Int32)) <<< ((0 : Int32) &&& 31)))])) (fun t k => XS.iloadN X12.here hx rfl (hb hby d25_47) rfl k) ?_
  have _ : (1 : Int32).toInt = 1 := by decide
  refine own_ldB X12 hx hZ e12 (hb hby d25_48) B1 (by first | decide | omega) (by first | decide | omega) ?_
  rw [show (wv + (1 : Int32)).toInt.toNat = 2 * j + 1 from by omega, own_u16_hi hjn]
  show own_Go p e below _ T12 (mkF m 49 #[.val (.ref b1), .val (.int (wv + (1 : Int32)))] [(.int (own_hi (f j))), (.int (((own_lo (f j)) &&& (255 : Int32)) <<< ((0 : Int32) &&& 31)))])
  refine own_by (T' := T12) (f' := (mkF m 52 #[.val (.ref b1), .val (.int (wv + (1 : Int32)))] [(.int (255 : Int32)), (.int (own_hi (f j))), (.int (((own_lo (f j)) &&& (255 : Int32)) <<< ((0 : Int32) &&& 31)))])) (fun t k => XS.sipush X12.here hx rfl (hb hby d25_49) k) ?_
  refine own_by (T' := T12) (f' := (mkF m 53 #[.val (.ref b1), .val (.int (wv + (1 : Int32)))] [(.int ((own_hi (f j)) &&& (255 : Int32))), (.int (((own_lo (f j)) &&& (255 : Int32)) <<< ((0 : Int32) &&& 31)))])) (fun t k => XS.iand X12.here hx rfl (hb hby d25_52) rfl k) ?_
  refine own_getS (host := "") X12 hx hZ hown e12 (hb hby d25_53) (Or.inl (own_w hw 105 rfl)) Via.refl ST.2.2.2.1 ?_
  intro T13 X13 e13
  show own_Go p e below _ T13 (mkF m 56 #[.val (.ref b1), .val (.int (wv + (1 : Int32)))] [(.int (8 : Int32)), (.int ((own_hi (f j)) &&& (255 : Int32))), (.int (((own_lo (f j)) &&& (255 : Int32)) <<< ((0 : Int32) &&& 31)))])
  refine own_by (T' := T13) (f' := (mkF m 57 #[.val (.ref b1), .val (.int (wv + (1 : Int32)))] [(.int (((own_hi (f j)) &&& (255 : Int32)) <<< ((8 : Int32) &&& 31))), (.int (((own_lo (f j)) &&& (255 : Int32)) <<< ((0 : Int32) &&& 31)))])) (fun t k => XS.ishl X13.here hx rfl (hb hby d25_56) rfl k) ?_
  refine own_by (T' := T13) (f' := (mkF m 58 #[.val (.ref b1), .val (.int (wv + (1 : Int32)))] [(.int ((((own_lo (f j)) &&& (255 : Int32)) <<< ((0 : Int32) &&& 31)) ||| (((own_hi (f j)) &&& (255 : Int32)) <<< ((8 : Int32) &&& 31))))])) (fun t k => XS.ior X13.here hx rfl (hb hby d25_57) rfl k) ?_
  refine own_by (T' := T13) (f' := (mkF m 59 #[.val (.ref b1), .val (.int (wv + (1 : Int32)))] [(.int (((((own_lo (f j)) &&& (255 : Int32)) <<< ((0 : Int32) &&& 31)) ||| (((own_hi (f j)) &&& (255 : Int32)) <<< ((8 : Int32) &&& 31))).toUInt32.toUInt16.toUInt32.toInt32))])) (fun t k => XS.i2c X13.here hx rfl (hb hby d25_58) rfl k) ?_
  rw [own_u16_char (f j) hc.1 hc.2]
  show own_Go p e below _ T13 (mkF m 59 #[.val (.ref b1), .val (.int (wv + (1 : Int32)))] [(.int (f j))])
  refine own_ret X13 hx hret hlk (hb hby d25_59) (own_narC hc.1 hc.2) (Or.inl ⟨rfl, Or.inr (Or.inr (Or.inr (Or.inl rfl))), _, rfl⟩) (by decide) (by decide) ?_
  try rw [e13]
  exact ⟨rfl, rfl, rfl⟩
theorem ef_rmUC (m : MethodId) (x0 : Addr) (x1 : Int32) : entryFrame m #[(.ref x0), (.int x1)] 2 = mkF m 0 #[.val (.ref x0), .val (.int x1)] [] := by first | (simp [entryFrame, mkF, argsToLocals, Value.category]; done) | rfl
set_option maxRecDepth 65536 in
set_option maxHeartbeats 40000000 in
theorem rmUC (l : Launch) (Z : State) (a0 : Array Value) (hw : ∀ d ∈ tables_1, d.before a0 Z = true) (ws : List Jvm.Cond) (b1 : Addr) (iv z : Int32) (j n : Nat) (f : Nat → Int32) (cs : Int32) (fm : Value) (h0 : Heap) (hj : iv.toInt = (j : Nat)) (hjn : j < n) (g0 : 0 ≤ iv.toInt) (hz : z.toInt = (2 * n : Nat)) (hn : n < 1073741824) (hc : 0 ≤ (f j).toInt ∧ (f j).toInt < 65536) (B1 : own_A Z h0 b1 .byte (2 * n) (own_u16 f n)) (ST : own_St Z h0 cs fm) :
    own_Ct l Z (⟨"java/lang/StringUTF16", "charAt", "([BI)C"⟩ : MethodName) jdk_52_method_83_code 2 (some .char) ws ({ frames := 3, cells := 0, slots := 0, locals := 40 } : Room) #[(.ref b1), (.int iv)] h0 (fun v h L => v = some (.int (f j)) ∧ L = [] ∧ h = h0) := by
  refine own_of (plainFor_of_name pn_java_lang_StringUTF16) ?_
  intro p e s m below meth c s₁ hx hby hml hown hnm hret hlk hZ X0 e0
  rw [ef_rmUC]
  refine own_by (T' := s₁) (f' := (mkF m 1 #[.val (.ref b1), .val (.int iv)] [(.int iv)])) (fun t k => XS.iloadN X0.here hx rfl (hb hby d26_0) rfl k) ?_
  refine own_by (T' := s₁) (f' := (mkF m 2 #[.val (.ref b1), .val (.int iv)] [(.ref b1), (.int iv)])) (fun t k => XS.aloadN X0.here hx rfl (hb hby d26_1) rfl rfl k) ?_
  refine own_callS X0 hx hZ hown e0 (hb hby d26_2) [(.int iv), (.ref b1)] [] 0 (rmUCI l Z a0 hw [] b1 iv z j n f cs fm h0 hj hjn g0 hz hn hc B1 ST) (own_w hw 112 rfl) (own_w hw 113 rfl) (own_w hw 57 rfl) (own_w hw 114 rfl) (by decide) pd__I_B_V (by rw [hml]; rfl) rfl rfl (Nat.le_of_eq rfl) (by decide) (by decide) (by decide) (by decide) ?_
  rintro T11 _ L11 X11 ⟨rfl, rfl, e11⟩
  show own_Go p e below _ T11 (mkF m 5 #[.val (.ref b1), .val (.int iv)] [])
  rw [List.append_nil] at X11
  refine own_by (T' := T11) (f' := (mkF m 6 #[.val (.ref b1), .val (.int iv)] [(.ref b1)])) (fun t k => XS.aloadN X11.here hx rfl (hb hby d26_5) rfl rfl k) ?_
  refine own_by (T' := T11) (f' := (mkF m 7 #[.val (.ref b1), .val (.int iv)] [(.int iv), (.ref b1)])) (fun t k => XS.iloadN X11.here hx rfl (hb hby d26_6) rfl k) ?_
  refine own_callS X11 hx hZ hown e11 (hb hby d26_7) [(.ref b1), (.int iv)] [] 0 (rmGC l Z a0 hw [] b1 iv z j n f cs fm h0 hj hjn g0 hz hn hc B1 ST) (own_w hw 106 rfl) (own_w hw 107 rfl) (own_w hw 57 rfl) (own_w hw 108 rfl) (by decide) pd___BI_C (by rw [hml]; rfl) rfl rfl (Nat.le_of_eq rfl) (by decide) (by decide) (by decide) (by decide) ?_
  rintro T12 _ L12 X12 ⟨rfl, rfl, e12⟩
  show own_Go p e below _ T12 (mkF m 10 #[.val (.ref b1), .val (.int iv)] [(.int (f j))])
  rw [List.append_nil] at X12
  refine own_ret X12 hx hret hlk (hb hby d26_10) (own_narC hc.1 hc.2) (Or.inl ⟨rfl, Or.inr (Or.inr (Or.inr (Or.inl rfl))), _, rfl⟩) (by decide) (by decide) ?_
  try rw [e12]
  exact ⟨rfl, rfl, rfl⟩
theorem ef_rmIL0 (m : MethodId) (x0 : Addr) : entryFrame m #[(.ref x0)] 1 = mkF m 0 #[.val (.ref x0)] [] := by first | (simp [entryFrame, mkF, argsToLocals, Value.category]; done) | rfl
set_option maxRecDepth 65536 in
set_option maxHeartbeats 40000000 in
theorem rmIL0 (l : Launch) (Z : State) (a0 : Array Value) (hw : ∀ d ∈ tables_1, d.before a0 Z = true) (ws : List Jvm.Cond) (a b1 : Addr) (z : Int32) (n : Nat) (f : Nat → Int32) (cs : Int32) (fm : Value) (h0 : Heap) (hz : z.toInt = (n : Nat)) (E1 : Exa Z h0 a "java/lang/String") (V1 : Fld Z h0 a "java/lang/String" "value" "[B" (.ref b1)) (C1 : Fld Z h0 a "java/lang/String" "coder" "B" (.int 0)) (B1 : own_A Z h0 b1 .byte n (fun i => own_b8 (f i))) (ST : own_St Z h0 cs fm) :
    own_Ct l Z (⟨"java/lang/String", "isLatin1", "()Z"⟩ : MethodName) jdk_42_method_154_code 1 (some .boolean) ws ({ frames := 0, cells := 0, slots := 0, locals := 0 } : Room) #[(.ref a)] h0 (fun v h L => v = some (.int (1 : Int32)) ∧ L = [] ∧ h = h0) := by
  refine own_of (plainFor_of_name pn_java_lang_String) ?_
  intro p e s m below meth c s₁ hx hby hml hown hnm hret hlk hZ X0 e0
  rw [ef_rmIL0]
  refine own_getS (host := "") X0 hx hZ hown e0 (hb hby d17_0) (Or.inl (own_w hw 51 rfl)) Via.refl ST.1 ?_
  intro T11 X11 e11
  show own_Go p e below _ T11 (mkF m 3 #[.val (.ref a)] [(.int cs)])
  refine own_by (T' := T11) (f' := (mkF m 6 #[.val (.ref a)] [])) (fun t k => XS.ifNo X11.here hx rfl (hb hby d17_3) rfl ((if0 _ _).trans (feq ST.2.2.2.2.2.1).1) k) ?_
  refine own_by (T' := T11) (f' := (mkF m 7 #[.val (.ref a)] [(.ref a)])) (fun t k => XS.aloadN X11.here hx rfl (hb hby d17_6) rfl rfl k) ?_
  refine own_getF (host := "") X11 hx hZ hown e11 (hb hby d17_7) (Or.inl (own_w hw 33 rfl)) Via.refl C1 ?_
  intro T12 X12 e12
  show own_Go p e below _ T12 (mkF m 10 #[.val (.ref a)] [(.int (0 : Int32))])
  refine own_by (T' := T12) (f' := (mkF m 13 #[.val (.ref a)] [])) (fun t k => XS.ifNo X12.here hx rfl (hb hby d17_10) rfl ((if0 _ _).trans (teq rfl).2) k) ?_
  refine own_by (T' := T12) (f' := (mkF m 14 #[.val (.ref a)] [(.int (1 : Int32))])) (fun t k => XS.iconst X12.here hx rfl (hb hby d17_13) k) ?_
  refine own_by (T' := T12) (f' := (mkF m 18 #[.val (.ref a)] [(.int (1 : Int32))])) (fun t k => XS.goto X12.here hx rfl (pc0 := 14) (pc' := 18) rfl (hb hby d17_14) (by decide) (by decide) k) ?_
  refine own_retZ X12 hx hret hlk (hb hby d17_18) (Or.inr rfl) (by decide) (by decide) ?_
  try rw [e12]
  exact ⟨rfl, rfl, rfl⟩
theorem ef_rmCO0 (m : MethodId) (x0 : Addr) : entryFrame m #[(.ref x0)] 1 = mkF m 0 #[.val (.ref x0)] [] := by first | (simp [entryFrame, mkF, argsToLocals, Value.category]; done) | rfl
set_option maxRecDepth 65536 in
set_option maxHeartbeats 40000000 in
theorem rmCO0 (l : Launch) (Z : State) (a0 : Array Value) (hw : ∀ d ∈ tables_1, d.before a0 Z = true) (ws : List Jvm.Cond) (a b1 : Addr) (z : Int32) (n : Nat) (f : Nat → Int32) (cs : Int32) (fm : Value) (h0 : Heap) (hz : z.toInt = (n : Nat)) (E1 : Exa Z h0 a "java/lang/String") (V1 : Fld Z h0 a "java/lang/String" "value" "[B" (.ref b1)) (C1 : Fld Z h0 a "java/lang/String" "coder" "B" (.int 0)) (B1 : own_A Z h0 b1 .byte n (fun i => own_b8 (f i))) (ST : own_St Z h0 cs fm) :
    own_Ct l Z (⟨"java/lang/String", "coder", "()B"⟩ : MethodName) jdk_42_method_152_code 1 (some .byte) ws ({ frames := 0, cells := 0, slots := 0, locals := 0 } : Room) #[(.ref a)] h0 (fun v h L => v = some (.int (0 : Int32)) ∧ L = [] ∧ h = h0) := by
  refine own_of (plainFor_of_name pn_java_lang_String) ?_
  intro p e s m below meth c s₁ hx hby hml hown hnm hret hlk hZ X0 e0
  rw [ef_rmCO0]
  refine own_getS (host := "") X0 hx hZ hown e0 (hb hby d10_0) (Or.inl (own_w hw 51 rfl)) Via.refl ST.1 ?_
  intro T11 X11 e11
  show own_Go p e below _ T11 (mkF m 3 #[.val (.ref a)] [(.int cs)])
  refine own_by (T' := T11) (f' := (mkF m 6 #[.val (.ref a)] [])) (fun t k => XS.ifNo X11.here hx rfl (hb hby d10_3) rfl ((if0 _ _).trans (feq ST.2.2.2.2.2.1).1) k) ?_
  refine own_by (T' := T11) (f' := (mkF m 7 #[.val (.ref a)] [(.ref a)])) (fun t k => XS.aloadN X11.here hx rfl (hb hby d10_6) rfl rfl k) ?_
  refine own_getF (host := "") X11 hx hZ hown e11 (hb hby d10_7) (Or.inl (own_w hw 33 rfl)) Via.refl C1 ?_
  intro T12 X12 e12
  show own_Go p e below _ T12 (mkF m 10 #[.val (.ref a)] [(.int (0 : Int32))])
  refine own_by (T' := T12) (f' := (mkF m 14 #[.val (.ref a)] [(.int (0 : Int32))])) (fun t k => XS.goto X12.here hx rfl (pc0 := 10) (pc' := 14) rfl (hb hby d10_10) (by decide) (by decide) k) ?_
  refine own_ret X12 hx hret hlk (hb hby d10_14) rfl (Or.inl ⟨rfl, Or.inr (Or.inr (Or.inl rfl)), _, rfl⟩) (by decide) (by decide) ?_
  try rw [e12]
  exact ⟨rfl, rfl, rfl⟩
theorem ef_rmLN0 (m : MethodId) (x0 : Addr) : entryFrame m #[(.ref x0)] 1 = mkF m 0 #[.val (.ref x0)] [] := by first | (simp [entryFrame, mkF, argsToLocals, Value.category]; done) | rfl
set_option maxRecDepth 65536 in
set_option maxHeartbeats 40000000 in
theorem rmLN0 (l : Launch) (Z : State) (a0 : Array Value) (hw : ∀ d ∈ tables_1, d.before a0 Z = true) (ws : List Jvm.Cond) (a b1 : Addr) (z : Int32) (n : Nat) (f : Nat → Int32) (cs : Int32) (fm : Value) (h0 : Heap) (hz : z.toInt = (n : Nat)) (E1 : Exa Z h0 a "java/lang/String") (V1 : Fld Z h0 a "java/lang/String" "value" "[B" (.ref b1)) (C1 : Fld Z h0 a "java/lang/String" "coder" "B" (.int 0)) (B1 : own_A Z h0 b1 .byte n (fun i => own_b8 (f i))) (ST : own_St Z h0 cs fm) :
    own_Ct l Z (⟨"java/lang/String", "length", "()I"⟩ : MethodName) jdk_42_method_54_code 1 (some .int) ws ({ frames := 1, cells := 0, slots := 0, locals := 14 } : Room) #[(.ref a)] h0 (fun v h L => v = some (.int (z >>> ((0 : Int32) &&& 31))) ∧ L = [] ∧ h = h0) := by
  refine own_of (plainFor_of_name pn_java_lang_String) ?_
  intro p e s m below meth c s₁ hx hby hml hown hnm hret hlk hZ X0 e0
  rw [ef_rmLN0]
  refine own_by (T' := s₁) (f' := (mkF m 1 #[.val (.ref a)] [(.ref a)])) (fun t k => XS.aloadN X0.here hx rfl (hb hby d9_0) rfl rfl k) ?_
  refine own_getF (host := "") X0 hx hZ hown e0 (hb hby d9_1) (Or.inl (own_w hw 32 rfl)) Via.refl V1 ?_
  intro T11 X11 e11
  show own_Go p e below _ T11 (mkF m 4 #[.val (.ref a)] [(.ref b1)])
  refine own_alen (j := z) X11 hx hZ e11 (hb hby d9_4) B1 hz ?_
  show own_Go p e below _ T11 (mkF m 5 #[.val (.ref a)] [(.int z)])
  refine own_by (T' := T11) (f' := (mkF m 6 #[.val (.ref a)] [(.ref a), (.int z)])) (fun t k => XS.aloadN X11.here hx rfl (hb hby d9_5) rfl rfl k) ?_
  refine own_callV X11 hx hZ hown e11 (hb hby d9_6) [] [(.int z)] 1 (rmCO0 l Z a0 hw [] a b1 z n f cs fm h0 hz E1 V1 C1 B1 ST) E1 (own_w hw 46 rfl) (own_w hw 47 rfl) (notFace_of_selects (args := #[]) (mvT hZ (own_w hw 49 rfl))) (own_w hw 49 rfl) (own_w hw 48 rfl) (own_w hw 15 rfl) (own_w hw 50 rfl) (by decide) pd___B (by rw [hml]; rfl) rfl rfl (Nat.le_of_eq rfl) (by decide) (by decide) (by decide) (by decide) ?_
  rintro T12 _ L12 X12 ⟨rfl, rfl, e12⟩
  show own_Go p e below _ T12 (mkF m 9 #[.val (.ref a)] [(.int (0 : Int32)), (.int z)])
  rw [List.append_nil] at X12
  refine own_by (T' := T12) (f' := (mkF m 10 #[.val (.ref a)] [(.int (z >>> ((0 : Int32) &&& 31)))])) (fun t k => XS.ishr X12.here hx rfl (hb hby d9_9) rfl k) ?_
  refine own_retI X12 hx hret hlk (hb hby d9_10) (by decide) (by decide) ?_
  try rw [e12]
  exact ⟨rfl, rfl, rfl⟩
theorem ef_rmCA0 (m : MethodId) (x0 : Addr) (x1 : Int32) : entryFrame m #[(.ref x0), (.int x1)] 2 = mkF m 0 #[.val (.ref x0), .val (.int x1)] [] := by first | (simp [entryFrame, mkF, argsToLocals, Value.category]; done) | rfl
set_option maxRecDepth 65536 in
set_option maxHeartbeats 40000000 in
theorem rmCA0 (l : Launch) (Z : State) (a0 : Array Value) (hw : ∀ d ∈ tables_1, d.before a0 Z = true) (ws : List Jvm.Cond) (iv : Int32) (j : Nat) (a b1 : Addr) (z : Int32) (n : Nat) (f : Nat → Int32) (cs : Int32) (fm : Value) (h0 : Heap) (hj : iv.toInt = (j : Nat)) (hjn : j < n) (g0 : 0 ≤ iv.toInt) (hn : n < 1073741824) (hc : 0 ≤ (f j).toInt ∧ (f j).toInt < 256) (hz : z.toInt = (n : Nat)) (E1 : Exa Z h0 a "java/lang/String") (V1 : Fld Z h0 a "java/lang/String" "value" "[B" (.ref b1)) (C1 : Fld Z h0 a "java/lang/String" "coder" "B" (.int 0)) (B1 : own_A Z h0 b1 .byte n (fun i => own_b8 (f i))) (ST : own_St Z h0 cs fm) :
    own_Ct l Z (⟨"java/lang/String", "charAt", "(I)C"⟩ : MethodName) jdk_42_method_56_code 2 (some .char) ws ({ frames := 4, cells := 0, slots := 0, locals := 56 } : Room) #[(.ref a), (.int iv)] h0 (fun v h L => v = some (.int (f j)) ∧ L = [] ∧ h = h0) := by
  refine own_of (plainFor_of_name pn_java_lang_String) ?_
  intro p e s m below meth c s₁ hx hby hml hown hnm hret hlk hZ X0 e0
  rw [ef_rmCA0]
  refine own_by (T' := s₁) (f' := (mkF m 1 #[.val (.ref a), .val (.int iv)] [(.ref a)])) (fun t k => XS.aloadN X0.here hx rfl (hb hby d16_0) rfl rfl k) ?_
  refine own_callV X0 hx hZ hown e0 (hb hby d16_1) [] [] 0 (rmIL0 l Z a0 hw [] a b1 z n f cs fm h0 hz E1 V1 C1 B1 ST) E1 (own_w hw 73 rfl) (own_w hw 74 rfl) (notFace_of_selects (args := #[]) (mvT hZ (own_w hw 76 rfl))) (own_w hw 76 rfl) (own_w hw 75 rfl) (own_w hw 15 rfl) (own_w hw 77 rfl) (by decide) pd___Z (by rw [hml]; rfl) rfl rfl (Nat.le_of_eq rfl) (by decide) (by decide) (by decide) (by decide) ?_
  rintro T11 _ L11 X11 ⟨rfl, rfl, e11⟩
  show own_Go p e below _ T11 (mkF m 4 #[.val (.ref a), .val (.int iv)] [(.int (1 : Int32))])
  rw [List.append_nil] at X11
  refine own_by (T' := T11) (f' := (mkF m 7 #[.val (.ref a), .val (.int iv)] [])) (fun t k => XS.ifNo X11.here hx rfl (hb hby d16_4) rfl ((if0 _ _).trans (feq (by decide)).1) k) ?_
  refine own_by (T' := T11) (f' := (mkF m 8 #[.val (.ref a), .val (.int iv)] [(.ref a)])) (fun t k => XS.aloadN X11.here hx rfl (hb hby d16_7) rfl rfl k) ?_
  refine own_getF (host := "") X11 hx hZ hown e11 (hb hby d16_8) (Or.inl (own_w hw 32 rfl)) Via.refl V1 ?_
  intro T12 X12 e12
  show own_Go p e below _ T12 (mkF m 11 #[.val (.ref a), .val (.int iv)] [(.ref b1)])
  refine own_by (T' := T12) (f' := (mkF m 12 #[.val (.ref a), .val (.int iv)] [(.int iv), (.ref b1)])) (fun t k => XS.iloadN X12.here hx rfl (hb hby d16_11) rfl k) ?_
  refine own_callS X12 hx hZ hown e12 (hb hby d16_12) [(.ref b1), (.int iv)] [] 0 (rmLC l Z a0 hw [] b1 iv z j n f cs fm h0 hj hjn g0 hz hc B1 ST) (own_w hw 78 rfl) (own_w hw 79 rfl) (own_w hw 80 rfl) (own_w hw 81 rfl) (by decide) pd___BI_C (by rw [hml]; rfl) rfl rfl (Nat.le_of_eq rfl) (by decide) (by decide) (by decide) (by decide) ?_
  rintro T13 _ L13 X13 ⟨rfl, rfl, e13⟩
  show own_Go p e below _ T13 (mkF m 15 #[.val (.ref a), .val (.int iv)] [(.int (f j))])
  rw [List.append_nil] at X13
  refine own_ret X13 hx hret hlk (hb hby d16_15) (own_narC hc.1 (by omega)) (Or.inl ⟨rfl, Or.inr (Or.inr (Or.inr (Or.inl rfl))), _, rfl⟩) (by decide) (by decide) ?_
  try rw [e13]
  exact ⟨rfl, rfl, rfl⟩
theorem ef_rmIL1 (m : MethodId) (x0 : Addr) : entryFrame m #[(.ref x0)] 1 = mkF m 0 #[.val (.ref x0)] [] := by first | (simp [entryFrame, mkF, argsToLocals, Value.category]; done) | rfl
set_option maxRecDepth 65536 in
set_option maxHeartbeats 40000000 in
theorem rmIL1 (l : Launch) (Z : State) (a0 : Array Value) (hw : ∀ d ∈ tables_1, d.before a0 Z = true) (ws : List Jvm.Cond) (a b1 : Addr) (z : Int32) (n : Nat) (f : Nat → Int32) (cs : Int32) (fm : Value) (h0 : Heap) (hz : z.toInt = (2 * n : Nat)) (E1 : Exa Z h0 a "java/lang/String") (V1 : Fld Z h0 a "java/lang/String" "value" "[B" (.ref b1)) (C1 : Fld Z h0 a "java/lang/String" "coder" "B" (.int 1)) (B1 : own_A Z h0 b1 .byte (2 * n) (own_u16 f n)) (ST : own_St Z h0 cs fm) :
    own_Ct l Z (⟨"java/lang/String", "isLatin1", "()Z"⟩ : MethodName) jdk_42_method_154_code 1 (some .boolean) ws ({ frames := 0, cells := 0, slots := 0, locals := 0 } : Room) #[(.ref a)] h0 (fun v h L => v = some (.int (0 : Int32)) ∧ L = [] ∧ h = h0) := by
  refine own_of (plainFor_of_name pn_java_lang_String) ?_
  intro p e s m below meth c s₁ hx hby hml hown hnm hret hlk hZ X0 e0
  rw [ef_rmIL1]
  refine own_getS (host := "") X0 hx hZ hown e0 (hb hby d17_0) (Or.inl (own_w hw 51 rfl)) Via.refl ST.1 ?_
  intro T11 X11 e11
  show own_Go p e below _ T11 (mkF m 3 #[.val (.ref a)] [(.int cs)])
  refine own_by (T' := T11) (f' := (mkF m 6 #[.val (.ref a)] [])) (fun t k => XS.ifNo X11.here hx rfl (hb hby d17_3) rfl ((if0 _ _).trans (feq ST.2.2.2.2.2.1).1) k) ?_
  refine own_by (T' := T11) (f' := (mkF m 7 #[.val (.ref a)] [(.ref a)])) (fun t k => XS.aloadN X11.here hx rfl (hb hby d17_6) rfl rfl k) ?_
  refine own_getF (host := "") X11 hx hZ hown e11 (hb hby d17_7) (Or.inl (own_w hw 33 rfl)) Via.refl C1 ?_
  intro T12 X12 e12
  show own_Go p e below _ T12 (mkF m 10 #[.val (.ref a)] [(.int (1 : Int32))])
  refine own_by (T' := T12) (f' := (mkF m 17 #[.val (.ref a)] [])) (fun t k => XS.ifYes X12.here hx rfl (pc0 := 10) (pc' := 17) rfl (hb hby d17_10) rfl ((if0 _ _).trans (feq (by decide)).2) (by decide) (by decide) k) ?_
  refine own_by (T' := T12) (f' := (mkF m 18 #[.val (.ref a)] [(.int (0 : Int32))])) (fun t k => XS.iconst X12.here hx rfl (hb hby d17_17) k) ?_
  refine own_retZ X12 hx hret hlk (hb hby d17_18) (Or.inl rfl) (by decide) (by decide) ?_
  try rw [e12]
  exact ⟨rfl, rfl, rfl⟩
theorem ef_rmCO1 (m : MethodId) (x0 : Addr) : entryFrame m #[(.ref x0)] 1 = mkF m 0 #[.val (.ref x0)] [] := by first | (simp [entryFrame, mkF, argsToLocals, Value.category]; done) | rfl
set_option maxRecDepth 65536 in
set_option maxHeartbeats 40000000 in
theorem rmCO1 (l : Launch) (Z : State) (a0 : Array Value) (hw : ∀ d ∈ tables_1, d.before a0 Z = true) (ws : List Jvm.Cond) (a b1 : Addr) (z : Int32) (n : Nat) (f : Nat → Int32) (cs : Int32) (fm : Value) (h0 : Heap) (hz : z.toInt = (2 * n : Nat)) (E1 : Exa Z h0 a "java/lang/String") (V1 : Fld Z h0 a "java/lang/String" "value" "[B" (.ref b1)) (C1 : Fld Z h0 a "java/lang/String" "coder" "B" (.int 1)) (B1 : own_A Z h0 b1 .byte (2 * n) (own_u16 f n)) (ST : own_St Z h0 cs fm) :
    own_Ct l Z (⟨"java/lang/String", "coder", "()B"⟩ : MethodName) jdk_42_method_152_code 1 (some .byte) ws ({ frames := 0, cells := 0, slots := 0, locals := 0 } : Room) #[(.ref a)] h0 (fun v h L => v = some (.int (1 : Int32)) ∧ L = [] ∧ h = h0) := by
  refine own_of (plainFor_of_name pn_java_lang_String) ?_
  intro p e s m below meth c s₁ hx hby hml hown hnm hret hlk hZ X0 e0
  rw [ef_rmCO1]
  refine own_getS (host := "") X0 hx hZ hown e0 (hb hby d10_0) (Or.inl (own_w hw 51 rfl)) Via.refl ST.1 ?_
  intro T11 X11 e11
  show own_Go p e below _ T11 (mkF m 3 #[.val (.ref a)] [(.int cs)])
  refine own_by (T' := T11) (f' := (mkF m 6 #[.val (.ref a)] [])) (fun t k => XS.ifNo X11.here hx rfl (hb hby d10_3) rfl ((if0 _ _).trans (feq ST.2.2.2.2.2.1).1) k) ?_
  refine own_by (T' := T11) (f' := (mkF m 7 #[.val (.ref a)] [(.ref a)])) (fun t k => XS.aloadN X11.here hx rfl (hb hby d10_6) rfl rfl k) ?_
  refine own_getF (host := "") X11 hx hZ hown e11 (hb hby d10_7) (Or.inl (own_w hw 33 rfl)) Via.refl C1 ?_
  intro T12 X12 e12
  show own_Go p e below _ T12 (mkF m 10 #[.val (.ref a)] [(.int (1 : Int32))])
  refine own_by (T' := T12) (f' := (mkF m 14 #[.val (.ref a)] [(.int (1 : Int32))])) (fun t k => XS.goto X12.here hx rfl (pc0 := 10) (pc' := 14) rfl (hb hby d10_10) (by decide) (by decide) k) ?_
  refine own_ret X12 hx hret hlk (hb hby d10_14) rfl (Or.inl ⟨rfl, Or.inr (Or.inr (Or.inl rfl)), _, rfl⟩) (by decide) (by decide) ?_
  try rw [e12]
  exact ⟨rfl, rfl, rfl⟩
theorem ef_rmLN1 (m : MethodId) (x0 : Addr) : entryFrame m #[(.ref x0)] 1 = mkF m 0 #[.val (.ref x0)] [] := by first | (simp [entryFrame, mkF, argsToLocals, Value.category]; done) | rfl
set_option maxRecDepth 65536 in
set_option maxHeartbeats 40000000 in
theorem rmLN1 (l : Launch) (Z : State) (a0 : Array Value) (hw : ∀ d ∈ tables_1, d.before a0 Z = true) (ws : List Jvm.Cond) (a b1 : Addr) (z : Int32) (n : Nat) (f : Nat → Int32) (cs : Int32) (fm : Value) (h0 : Heap) (hz : z.toInt = (2 * n : Nat)) (E1 : Exa Z h0 a "java/lang/String") (V1 : Fld Z h0 a "java/lang/String" "value" "[B" (.ref b1)) (C1 : Fld Z h0 a "java/lang/String" "coder" "B" (.int 1)) (B1 : own_A Z h0 b1 .byte (2 * n) (own_u16 f n)) (ST : own_St Z h0 cs fm) :
    own_Ct l Z (⟨"java/lang/String", "length", "()I"⟩ : MethodName) jdk_42_method_54_code 1 (some .int) ws ({ frames := 1, cells := 0, slots := 0, locals := 14 } : Room) #[(.ref a)] h0 (fun v h L => v = some (.int (z >>> ((1 : Int32) &&& 31))) ∧ L = [] ∧ h = h0) := by
  refine own_of (plainFor_of_name pn_java_lang_String) ?_
  intro p e s m below meth c s₁ hx hby hml hown hnm hret hlk hZ X0 e0
  rw [ef_rmLN1]
  refine own_by (T' := s₁) (f' := (mkF m 1 #[.val (.ref a)] [(.ref a)])) (fun t k => XS.aloadN X0.here hx rfl (hb hby d9_0) rfl rfl k) ?_
  refine own_getF (host := "") X0 hx hZ hown e0 (hb hby d9_1) (Or.inl (own_w hw 32 rfl)) Via.refl V1 ?_
  intro T11 X11 e11
  show own_Go p e below _ T11 (mkF m 4 #[.val (.ref a)] [(.ref b1)])
  refine own_alen (j := z) X11 hx hZ e11 (hb hby d9_4) B1 hz ?_
  show own_Go p e below _ T11 (mkF m 5 #[.val (.ref a)] [(.int z)])
  refine own_by (T' := T11) (f' := (mkF m 6 #[.val (.ref a)] [(.ref a), (.int z)])) (fun t k => XS.aloadN X11.here hx rfl (hb hby d9_5) rfl rfl k) ?_
  refine own_callV X11 hx hZ hown e11 (hb hby d9_6) [] [(.int z)] 1 (rmCO1 l Z a0 hw [] a b1 z n f cs fm h0 hz E1 V1 C1 B1 ST) E1 (own_w hw 46 rfl) (own_w hw 47 rfl) (notFace_of_selects (args := #[]) (mvT hZ (own_w hw 49 rfl))) (own_w hw 49 rfl) (own_w hw 48 rfl) (own_w hw 15 rfl) (own_w hw 50 rfl) (by decide) pd___B (by rw [hml]; rfl) rfl rfl (Nat.le_of_eq rfl) (by decide) (by decide) (by decide) (by decide) ?_
  rintro T12 _ L12 X12 ⟨rfl, rfl, e12⟩
  show own_Go p e below _ T12 (mkF m 9 #[.val (.ref a)] [(.int (1 : Int32)), (.int z)])
  rw [List.append_nil] at X12
  refine own_by (T' := T12) (f' := (mkF m 10 #[.val (.ref a)] [(.int (z >>> ((1 : Int32) &&& 31)))])) (fun t k => XS.ishr X12.here hx rfl (hb hby d9_9) rfl k) ?_
  refine own_retI X12 hx hret hlk (hb hby d9_10) (by decide) (by decide) ?_
  try rw [e12]
  exact ⟨rfl, rfl, rfl⟩
theorem ef_rmCA1 (m : MethodId) (x0 : Addr) (x1 : Int32) : entryFrame m #[(.ref x0), (.int x1)] 2 = mkF m 0 #[.val (.ref x0), .val (.int x1)] [] := by first | (simp [entryFrame, mkF, argsToLocals, Value.category]; done) | rfl
set_option maxRecDepth 65536 in
set_option maxHeartbeats 40000000 in
theorem rmCA1 (l : Launch) (Z : State) (a0 : Array Value) (hw : ∀ d ∈ tables_1, d.before a0 Z = true) (ws : List Jvm.Cond) (iv : Int32) (j : Nat) (a b1 : Addr) (z : Int32) (n : Nat) (f : Nat → Int32) (cs : Int32) (fm : Value) (h0 : Heap) (hj : iv.toInt = (j : Nat)) (hjn : j < n) (g0 : 0 ≤ iv.toInt) (hn : n < 1073741824) (hc : 0 ≤ (f j).toInt ∧ (f j).toInt < 65536) (hz : z.toInt = (2 * n : Nat)) (E1 : Exa Z h0 a "java/lang/String") (V1 : Fld Z h0 a "java/lang/String" "value" "[B" (.ref b1)) (C1 : Fld Z h0 a "java/lang/String" "coder" "B" (.int 1)) (B1 : own_A Z h0 b1 .byte (2 * n) (own_u16 f n)) (ST : own_St Z h0 cs fm) :
    own_Ct l Z (⟨"java/lang/String", "charAt", "(I)C"⟩ : MethodName) jdk_42_method_56_code 2 (some .char) ws ({ frames := 4, cells := 0, slots := 0, locals := 56 } : Room) #[(.ref a), (.int iv)] h0 (fun v h L => v = some (.int (f j)) ∧ L = [] ∧ h = h0) := by
  refine own_of (plainFor_of_name pn_java_lang_String) ?_
  intro p e s m below meth c s₁ hx hby hml hown hnm hret hlk hZ X0 e0
  rw [ef_rmCA1]
  refine own_by (T' := s₁) (f' := (mkF m 1 #[.val (.ref a), .val (.int iv)] [(.ref a)])) (fun t k => XS.aloadN X0.here hx rfl (hb hby d16_0) rfl rfl k) ?_
  refine own_callV X0 hx hZ hown e0 (hb hby d16_1) [] [] 0 (rmIL1 l Z a0 hw [] a b1 z n f cs fm h0 hz E1 V1 C1 B1 ST) E1 (own_w hw 73 rfl) (own_w hw 74 rfl) (notFace_of_selects (args := #[]) (mvT hZ (own_w hw 76 rfl))) (own_w hw 76 rfl) (own_w hw 75 rfl) (own_w hw 15 rfl) (own_w hw 77 rfl) (by decide) pd___Z (by rw [hml]; rfl) rfl rfl (Nat.le_of_eq rfl) (by decide) (by decide) (by decide) (by decide) ?_
  rintro T11 _ L11 X11 ⟨rfl, rfl, e11⟩
  show own_Go p e below _ T11 (mkF m 4 #[.val (.ref a), .val (.int iv)] [(.int (0 : Int32))])
  rw [List.append_nil] at X11
  refine own_by (T' := T11) (f' := (mkF m 16 #[.val (.ref a), .val (.int iv)] [])) (fun t k => XS.ifYes X11.here hx rfl (pc0 := 4) (pc' := 16) rfl (hb hby d16_4) rfl ((if0 _ _).trans (teq rfl).1) (by decide) (by decide) k) ?_
  refine own_by (T' := T11) (f' := (mkF m 17 #[.val (.ref a), .val (.int iv)] [(.ref a)])) (fun t k => XS.aloadN X11.here hx rfl (hb hby d16_16) rfl rfl k) ?_
  refine own_getF (host := "") X11 hx hZ hown e11 (hb hby d16_17) (Or.inl (own_w hw 32 rfl)) Via.refl V1 ?_
  intro T12 X12 e12
  show own_Go p e below _ T12 (mkF m 20 #[.val (.ref a), .val (.int iv)] [(.ref b1)])
  refine own_by (T' := T12) (f' := (mkF m 21 #[.val (.ref a), .val (.int iv)] [(.int iv), (.ref b1)])) (fun t k => XS.iloadN X12.here hx rfl (hb hby d16_20) rfl k) ?_
  refine own_callS X12 hx hZ hown e12 (hb hby d16_21) [(.ref b1), (.int iv)] [] 0 (rmUC l Z a0 hw [] b1 iv z j n f cs fm h0 hj hjn g0 hz hn hc B1 ST) (own_w hw 109 rfl) (own_w hw 110 rfl) (own_w hw 57 rfl) (own_w hw 111 rfl) (by decide) pd___BI_C (by rw [hml]; rfl) rfl rfl (Nat.le_of_eq rfl) (by decide) (by decide) (by decide) (by decide) ?_
  rintro T13 _ L13 X13 ⟨rfl, rfl, e13⟩
  show own_Go p e below _ T13 (mkF m 24 #[.val (.ref a), .val (.int iv)] [(.int (f j))])
  rw [List.append_nil] at X13
  refine own_ret X13 hx hret hlk (hb hby d16_24) (own_narC hc.1 (by omega)) (Or.inl ⟨rfl, Or.inr (Or.inr (Or.inr (Or.inl rfl))), _, rfl⟩) (by decide) (by decide) ?_
  try rw [e13]
  exact ⟨rfl, rfl, rfl⟩
theorem rmLN (l : Launch) (Z : State) (a0 : Array Value) (hw : ∀ d ∈ tables_1, d.before a0 Z = true) (ws : List Jvm.Cond) (a : Addr) (ln : Int32) (n : Nat) (f : Nat → Int32) (cs : Int32) (fm : Value) (h0 : Heap) (hl : ln.toInt = (n : Nat)) (J : own_JS Z h0 a n f) (ST : own_St Z h0 cs fm) : own_Ct l Z (⟨"java/lang/String", "length", "()I"⟩ : MethodName) jdk_42_method_54_code 1 (some .int) ws ({ frames := 1, cells := 0, slots := 0, locals := 14 } : Room) #[(.ref a)] h0 (fun v h L => v = some (.int ln) ∧ L = [] ∧ h = h0) := by
  obtain ⟨hn, -, E1, b1, z, V1, h4⟩ := J
  rcases h4 with ⟨C1, hz, -, B1⟩ | ⟨C1, hz, -, B1⟩
  · have e : ln = (z >>> ((0 : Int32) &&& 31)) := Int32.toInt_inj.mp (by rw [own_shr0, hl, hz])
    rw [e]; exact rmLN0 l Z a0 hw ws a b1 z n f cs fm h0 hz E1 V1 C1 B1 ST
  · have e : ln = (z >>> ((1 : Int32) &&& 31)) := Int32.toInt_inj.mp (by rw [own_shr1 hz, hl])
    rw [e]; exact rmLN1 l Z a0 hw ws a b1 z n f cs fm h0 hz E1 V1 C1 B1 ST
theorem rmCA (l : Launch) (Z : State) (a0 : Array Value) (hw : ∀ d ∈ tables_1, d.before a0 Z = true) (ws : List Jvm.Cond) (a : Addr) (iv : Int32) (j n : Nat) (f : Nat → Int32) (cs : Int32) (fm : Value) (h0 : Heap) (hj : iv.toInt = (j : Nat)) (hjn : j < n) (J : own_JS Z h0 a n f) (ST : own_St Z h0 cs fm) : own_Ct l Z (⟨"java/lang/String", "charAt", "(I)C"⟩ : MethodName) jdk_42_method_56_code 2 (some .char) ws ({ frames := 4, cells := 0, slots := 0, locals := 56 } : Room) #[(.ref a), (.int iv)] h0 (fun v h L => v = some (.int (f j)) ∧ L = [] ∧ h = h0) := by
  obtain ⟨hn, hc, E1, b1, z, V1, h4⟩ := J
  have g0 : 0 ≤ iv.toInt := by omega
  rcases h4 with ⟨C1, hz, hl, B1⟩ | ⟨C1, hz, -, B1⟩
  · exact rmCA0 l Z a0 hw ws iv j a b1 z n f cs fm h0 hj hjn g0 hn ⟨(hc j hjn).1, own_lt256 (hl j hjn)⟩ hz E1 V1 C1 B1 ST
  · exact rmCA1 l Z a0 hw ws iv j a b1 z n f cs fm h0 hj hjn g0 hn (hc j hjn) hz E1 V1 C1 B1 ST
theorem ef_rmNL (m : MethodId) (x0 : Int32) : entryFrame m #[(.int x0)] 1 = mkF m 0 #[.val (.int x0)] [] := by first | (simp [entryFrame, mkF, argsToLocals, Value.category]; done) | rfl
set_option maxRecDepth 65536 in
set_option maxHeartbeats 40000000 in
theorem rmNL (l : Launch) (Z : State) (a0 : Array Value) (hw : ∀ d ∈ tables_1, d.before a0 Z = true) (ws : List Jvm.Cond) (z : Int32) (h0 : Heap) (g0 : 0 ≤ z.toInt) (hlt : z < (1073741823 : Int32)) :
    own_Ct l Z (⟨"java/lang/StringUTF16", "newBytesLength", "(I)I"⟩ : MethodName) jdk_52_method_3_code 1 (some .int) ws ({ frames := 0, cells := 0, slots := 0, locals := 0 } : Room) #[(.int z)] h0 (fun v h L => v = some (.int (z <<< ((1 : Int32) &&& 31))) ∧ L = [] ∧ h = h0) := by
  refine own_of (plainFor_of_name pn_java_lang_StringUTF16) ?_
  intro p e s m below meth c s₁ hx hby hml hown hnm hret hlk hZ X0 e0
  rw [ef_rmNL]
  refine own_by (T' := s₁) (f' := (mkF m 1 #[.val (.int z)] [(.int z)])) (fun t k => XS.iloadN X0.here hx rfl (hb hby d23_0) rfl k) ?_
  have hc1_1 : ¬ (z < (0 : Int32)) := own_nl0 g0
  refine own_by (T' := s₁) (f' := (mkF m 12 #[.val (.int z)] [])) (fun t k => XS.ifYes X0.here hx rfl (pc0 := 1) (pc' := 12) rfl (hb hby d23_1) rfl ((if0 _ _).trans (flt hc1_1).2.1) (by decide) (by decide) k) ?_
  refine own_by (T' := s₁) (f' := (mkF m 13 #[.val (.int z)] [(.int z)])) (fun t k => XS.iloadN X0.here hx rfl (hb hby d23_12) rfl k) ?_
  refine own_by (T' := s₁) (f' := (mkF m 15 #[.val (.int z)] [(.int (1073741823 : Int32)), (.int z)])) (fun t k => X0.ldcInt hx hown (mvT hZ (own_w hw 99 rfl)) (g := (mkF m 13 #[.val (.int z)] [(.int z)])) rfl (hb hby d23_13) _ k) ?_
  have hc15_2 : z < (1073741823 : Int32) := hlt
  refine own_by (T' := s₁) (f' := (mkF m 55 #[.val (.int z)] [])) (fun t k => XS.icmpYes X0.here hx rfl (pc0 := 15) (pc' := 55) rfl (hb hby d23_15) rfl (tlt hc15_2).1 (by decide) (by decide) k) ?_
  refine own_by (T' := s₁) (f' := (mkF m 56 #[.val (.int z)] [(.int z)])) (fun t k => XS.iloadN X0.here hx rfl (hb hby d23_55) rfl k) ?_
  refine own_by (T' := s₁) (f' := (mkF m 57 #[.val (.int z)] [(.int (1 : Int32)), (.int z)])) (fun t k => XS.iconst X0.here hx rfl (hb hby d23_56) k) ?_
  refine own_by (T' := s₁) (f' := (mkF m 58 #[.val (.int z)] [(.int (z <<< ((1 : Int32) &&& 31)))])) (fun t k => XS.ishl X0.here hx rfl (hb hby d23_57) rfl k) ?_
  refine own_retI X0 hx hret hlk (hb hby d23_58) (by decide) (by decide) ?_
  try rw [e0]
  exact ⟨rfl, rfl, rfl⟩
theorem ef_rmNB (m : MethodId) (x0 : Int32) : entryFrame m #[(.int x0)] 1 = mkF m 0 #[.val (.int x0)] [] := by first | (simp [entryFrame, mkF, argsToLocals, Value.category]; done) | rfl
set_option maxRecDepth 65536 in
set_option maxHeartbeats 40000000 in
theorem rmNB (l : Launch) (Z : State) (a0 : Array Value) (hw : ∀ d ∈ tables_1, d.before a0 Z = true) (ws : List Jvm.Cond) (z : Int32) (n : Nat) (h0 : Heap) (n0 : Nat) (Z0 : n0 ≤ h0.size) (hz : z.toInt = (n : Nat)) (hcap : n ≤ 6) :
    own_Ct l Z (⟨"java/lang/StringUTF16", "newBytesFor", "(I)[B"⟩ : MethodName) jdk_52_method_2_code 1 (some (.array .byte)) ws ({ frames := 1, cells := 1, slots := 12, locals := 12 } : Room) #[(.int z)] h0 (fun v h L => ∃ (b : Addr) (z2 : Int32), z2.toInt = ((2 * n : Nat) : Int) ∧ v = some (.ref b) ∧ Fr n0 L ∧ Keep h0 h [] ∧ h0.size ≤ b ∧ own_A Z h b .byte (2 * n) (fun _ => 0)) := by
  refine own_of (plainFor_of_name pn_java_lang_StringUTF16) ?_
  intro p e s m below meth c s₁ hx hby hml hown hnm hret hlk hZ X0 e0
  have N0 := Fr.nil n0
  have K0 := Keep.refl h0 []
  rw [ef_rmNB]
  refine own_by (T' := s₁) (f' := (mkF m 1 #[.val (.int z)] [(.int z)])) (fun t k => XS.iloadN X0.here hx rfl (hb hby d22_0) rfl k) ?_
  refine own_callS X0 hx hZ hown e0 (hb hby d22_1) [(.int z)] [] 0 (rmNL l Z a0 hw [] z h0 (by omega) (own_lt30 hz hcap (by decide))) (own_w hw 96 rfl) (own_w hw 97 rfl) (own_w hw 57 rfl) (own_w hw 98 rfl) (by decide) pd__I_I (by rw [hml]; rfl) rfl rfl (Nat.le_of_eq rfl) (by decide) (by decide) (by decide) (by decide) ?_
  rintro T11 _ L11 X11 ⟨rfl, rfl, e11⟩
  show own_Go p e below _ T11 (mkF m 4 #[.val (.int z)] [(.int (z <<< ((1 : Int32) &&& 31)))])
  rw [List.append_nil] at X11
  obtain ⟨z2, hz2⟩ : ∃ q : Int32, q = (z <<< ((1 : Int32) &&& 31)) := ⟨_, rfl⟩
  rw [← hz2]
  have e2 : z2.toInt = ((2 * n : Nat) : Int) := by rw [hz2]; exact own_shl1 hz (by omega)
  show own_Go p e below _ T11 (mkF m 4 #[.val (.int z)] [(.int z2)])
  refine own_mkA X11 hx hZ e11 (hb hby d22_4) (own_w hw 27 rfl) (v := 0) rfl (by omega) 12 (by omega) (by decide) (by decide) (by decide) ?_
  intro T12 h12 b12 X12 e12 g12 E12 A12r
  have gn12 : n0 ≤ b12 := by rw [g12]; exact Z0
  have gh12 : h0.size ≤ b12 := by rw [g12]; exact K0.1
  show own_Go p e below _ T12 (mkF m 6 #[.val (.int z)] [(.ref b12)])
  have A12 : own_A Z h12 b12 .byte (2 * n) (fun _ => 0) := (by rw [show 2 * n = z2.toInt.toNat from by omega]; exact A12r)
  have sz13 : n0 ≤ h12.size := Nat.le_trans Z0 E12.1
  have K14 := K0.ext E12
  refine own_retA X12 hx hret hlk (hb hby d22_6) rfl rfl rfl (by decide) (by decide) ?_
  try rw [e12]
  exact ⟨b12, z2, e2, rfl, N0, K14, gh12, A12⟩
theorem ef_rmPU (m : MethodId) (x0 : Addr) (x1 : Int32) (x2 : Int32) : entryFrame m #[(.ref x0), (.int x1), (.int x2)] 3 = mkF m 0 #[.val (.ref x0), .val (.int x1), .val (.int x2)] [] := by first | (simp [entryFrame, mkF, argsToLocals, Value.category]; done) | rfl
set_option maxRecDepth 65536 in
set_option maxHeartbeats 40000000 in
theorem rmPU (l : Launch) (Z : State) (a0 : Array Value) (hw : ∀ d ∈ tables_1, d.before a0 Z = true) (ws : List Jvm.Cond) (b1 : Addr) (iv p1 : Int32) (j n : Nat) (g : Nat → Int32) (cs : Int32) (fm : Value) (h0 : Heap) (n0 : Nat) (Z0 : n0 ≤ h0.size) (g1 : n0 ≤ b1) (hj : iv.toInt = (j : Nat)) (hjn : j < n) (hn : n < 1073741824) (B1 : own_A Z h0 b1 .byte (2 * n) g) (ST : own_St Z h0 cs fm) :
    own_Ct l Z (⟨"java/lang/StringUTF16", "putChar", "([BII)V"⟩ : MethodName) jdk_52_method_4_code 3 none ws ({ frames := 0, cells := 0, slots := 0, locals := 0 } : Room) #[(.ref b1), (.int iv), (.int p1)] h0 (fun v h L => v = none ∧ Fr n0 L ∧ Keep h0 h [b1] ∧ own_A Z h b1 .byte (2 * n) (fun i => if i = 2 * j + 1 then own_hi p1 else if i = 2 * j then own_lo p1 else g i)) := by
  refine own_of (plainFor_of_name pn_java_lang_StringUTF16) ?_
  intro p e s m below meth c s₁ hx hby hml hown hnm hret hlk hZ X0 e0
  have N0 := Fr.nil n0
  have K0 := Keep.refl h0 [b1]
  rw [ef_rmPU]
  refine own_getS (host := "") X0 hx hZ hown e0 (hb hby d24_0) (Or.inl (own_w hw 103 rfl)) Via.refl ST.2.1 ?_
  intro T11 X11 e11
  show own_Go p e below _ T11 (mkF m 3 #[.val (.ref b1), .val (.int iv), .val (.int p1)] [(.int (1 : Int32))])
  refine own_by (T' := T11) (f' := (mkF m 28 #[.val (.ref b1), .val (.int iv), .val (.int p1)] [])) (fun t k => XS.ifYes X11.here hx rfl (pc0 := 3) (pc' := 28) rfl (hb hby d24_3) rfl ((if0 _ _).trans (feq (by decide)).2) (by decide) (by decide) k) ?_
  refine own_by (T' := T11) (f' := (mkF m 29 #[.val (.ref b1), .val (.int iv), .val (.int p1)] [(.int iv)])) (fun t k => XS.iloadN X11.here hx rfl (hb hby d24_28) rfl k) ?_
  refine own_by (T' := T11) (f' := (mkF m 30 #[.val (.ref b1), .val (.int iv), .val (.int p1)] [(.int (1 : Int32)), (.int iv)])) (fun t k => XS.iconst X11.here hx rfl (hb hby d24_29) k) ?_
  refine own_by (T' := T11) (f' := (mkF m 31 #[.val (.ref b1), .val (.int iv), .val (.int p1)] [(.int (iv <<< ((1 : Int32) &&& 31)))])) (fun t k => XS.ishl X11.here hx rfl (hb hby d24_30) rfl k) ?_
  obtain ⟨wv, hwv⟩ : ∃ z : Int32, z = (iv <<< ((1 : Int32) &&& 31)) := ⟨_, rfl⟩
  rw [← hwv]
  have ew : wv.toInt = ((2 * j : Nat) : Int) := by rw [hwv]; exact own_shl1 hj (by omega)
  have ew1 := own_inc (n := 2 * n) ew (by omega) (by omega)
  show own_Go p e below _ T11 (mkF m 31 #[.val (.ref b1), .val (.int iv), .val (.int p1)] [(.int wv)])
  refine own_by (T' := T11) (f' := (mkF m 32 #[.val (.ref b1), .val (.int wv), .val (.int p1)] [])) (fun t k => XS.istoreN X11.here hx rfl (hb hby d24_31) rfl (l' := #[.val (.ref b1), .val (.int wv), .val (.int p1)]) rfl k) ?_
  refine own_by (T' := T11) (f' := (mkF m 33 #[.val (.ref b1), .val (.int wv), .val (.int p1)] [(.ref b1)])) (fun t k => XS.aloadN X11.here hx rfl (hb hby d24_32) rfl rfl k) ?_
  refine own_by (T' := T11) (f' := (mkF m 34 #[.val (.ref b1), .val (.int wv), .val (.int p1)] [(.int wv), (.ref b1)])) (fun t k => XS.iloadN X11.here hx rfl (hb hby d24_33) rfl k) ?_
  refine own_by (T' := T11) (f' := (mkF m 37 #[.val (.ref b1), .val (.int (wv + (1 : Int32))), .val (.int p1)] [(.int wv), (.ref b1)])) (fun t k => XS.iinc X11.here hx rfl (hb hby d24_34) rfl (l' := #[.val (.ref b1), .val (.int (wv + (1 : Int32))), .val (.int p1)]) rfl k) ?_
  refine own_by (T' := T11) (f' := (mkF m 38 #[.val (.ref b1), .val (.int (wv + (1 : Int32))), .val (.int p1)] [(.int p1), (.int wv), (.ref b1)])) (fun t k => XS.iloadN X11.here hx rfl (hb hby d24_37) rfl k) ?_
  refine own_getS (host := "") X11 hx hZ hown e11 (hb hby d24_38) (Or.inl (own_w hw 104 rfl)) Via.refl ST.2.2.1 ?_
  intro T12 X12 e12
  show own_Go p e below _ T12 (mkF m 41 #[.val (.ref b1), .val (.int (wv + (1 : Int32))), .val (.int p1)] [(.int (0 : Int32)), (.int p1), (.int wv), (.ref b1)])
  refine own_by (T' := T12) (f' := (mkF m 42 #[.val (.ref b1), .val (.int (wv + (1 : Int32))), .val (.int p1)] [(.int (p1 >>> ((0 : Int32) &&& 31))), (.int wv), (.ref b1)])) (fun t k => XS.ishr X12.here hx rfl (hb hby d24_41) rfl k) ?_
  refine own_by (T' := T12) (f' := (mkF m 43 #[.val (.ref b1), .val (.int (wv + (1 : Int32))), .val (.int p1)] [(.int ((p1 >>> ((0 : Int32) &&& 31)).toInt8.toInt32)), (.int wv), (.ref b1)])) (fun t k => XS.i2b X12.here hx rfl (hb hby d24_42) rfl k) ?_
  refine own_stB X12 hx hZ e12 (hb hby d24_43) B1 (by first | decide | omega) (by first | decide | omega) ?_
  intro T13 h13 X13 e13 W13 A13
  show own_Go p e below _ T13 (mkF m 44 #[.val (.ref b1), .val (.int (wv + (1 : Int32))), .val (.int p1)] [])
  have sz14 : n0 ≤ h13.size := by rw [W13.size]; exact Z0
  have K15 := K0.wr W13 (Or.inl (List.mem_of_getElem? (i := 0) rfl))
  have N13 := Fr.snoc X13 N0 g1
  have A16 : own_A Z h13 b1 .byte (2 * n) (fun i => if i = 2 * j then own_lo p1 else g i) := A13.congr (fun i hi => by rw [show wv.toInt.toNat = 2 * j from by omega]; rfl)
  refine own_by (T' := T13) (f' := (mkF m 45 #[.val (.ref b1), .val (.int (wv + (1 : Int32))), .val (.int p1)] [(.ref b1)])) (fun t k => XS.aloadN X13.here hx rfl (hb hby d24_44) rfl rfl k) ?_
  refine own_by (T' := T13) (f' := (mkF m 46 #[.val (.ref b1), .val (.int (wv + (1 : Int32))), .val (.int p1)] [(.int (wv + (1 : Int32))), (.ref b1)])) (fun t k => XS.iloadN X13.here hx rfl (hb hby d24_45) rfl k) ?_
  refine own_by (T' := T13) (f' := (mkF m 47 #[.val (.ref b1), .val (.int (wv + (1 : Int32))), .val (.int p1)] [(.int p1), (.int (wv + (1 : Int32))), (.ref b1)])) (fun t k => XS.iloadN X13.here hx rfl (hb hby d24_46) rfl k) ?_
  have f17 := (ST.2.2.2.1.wr W13)
  refine own_getS (host := "") X13 hx hZ hown e13 (hb hby d24_47) (Or.inl (own_w hw 105 rfl)) Via.refl f17 ?_
  intro T18 X18 e18
  show own_Go p e below _ T18 (mkF m 50 #[.val (.ref b1), .val (.int (wv + (1 : Int32))), .val (.int p1)] [(.int (8 : Int32)), (.int p1), (.int (wv + (1 : Int32))), (.ref b1)])
  refine own_by (T' := T18) (f' := (mkF m 51 #[.val (.ref b1), .val (.int (wv + (1 : Int32))), .val (.int p1)] [(.int (p1 >>> ((8 : Int32) &&& 31))), (.int (wv + (1 : Int32))), (.ref b1)])) (fun t k => XS.ishr X18.here hx rfl (hb hby d24_50) rfl k) ?_
  refine own_by (T' := T18) (f' := (mkF m 52 #[.val (.ref b1), .val (.int (wv + (1 : Int32))), .val (.int p1)] [(.int ((p1 >>> ((8 : Int32) &&& 31)).toInt8.toInt32)), (.int (wv + (1 : Int32))), (.ref b1)])) (fun t k => XS.i2b X18.here hx rfl (hb hby d24_51) rfl k) ?_
  have _ : (1 : Int32).toInt = 1 := by decide
  refine own_stB X18 hx hZ e18 (hb hby d24_52) A16 (by first | decide | omega) (by first | decide | omega) ?_
  intro T19 h19 X19 e19 W19 A19
  show own_Go p e below _ T19 (mkF m 53 #[.val (.ref b1), .val (.int (wv + (1 : Int32))), .val (.int p1)] [])
  have sz20 : n0 ≤ h19.size := by rw [W19.size]; exact sz14
  have K21 := K15.wr W19 (Or.inl (List.mem_of_getElem? (i := 0) rfl))
  have N19 := Fr.snoc X19 N13 g1
  have A22 : own_A Z h19 b1 .byte (2 * n) (fun i => if i = 2 * j + 1 then own_hi p1 else if i = 2 * j then own_lo p1 else g i) := A19.congr (fun i hi => by rw [show (wv + (1 : Int32)).toInt.toNat = 2 * j + 1 from by omega]; rfl)
  refine own_retV X19 hx hret hlk (hb hby d24_53) (by decide) (by decide) ?_
  try rw [e19]
  exact ⟨rfl, N19, K21, A22⟩
theorem ef_rmTU (m : MethodId) (x0 : Addr) (x1 : Int32) (x2 : Int32) : entryFrame m #[(.ref x0), (.int x1), (.int x2)] 5 = mkF m 0 #[.val (.ref x0), .val (.int x1), .val (.int x2), .unset, .unset] [] := by first | (simp [entryFrame, mkF, argsToLocals, Value.category]; done) | rfl
set_option maxRecDepth 65536 in
set_option maxHeartbeats 40000000 in
theorem rmTU (l : Launch) (Z : State) (a0 : Array Value) (hw : ∀ d ∈ tables_1, d.before a0 Z = true) (ws : List Jvm.Cond) (a1 : Addr) (z : Int32) (n : Nat) (f : Nat → Int32) (cs : Int32) (fm : Value) (h0 : Heap) (n0 : Nat) (Z0 : n0 ≤ h0.size) (hz : z.toInt = (n : Nat)) (hcap : n ≤ 6) (A1 : own_A Z h0 a1 .char n f) (ST : own_St Z h0 cs fm) :
    own_Ct l Z (⟨"java/lang/StringUTF16", "toBytes", "([CII)[B"⟩ : MethodName) jdk_52_method_14_code 5 (some (.array .byte)) ws ({ frames := 2, cells := 1, slots := 12, locals := 32 } : Room) #[(.ref a1), (.int (0 : Int32)), (.int z)] h0 (fun v h L => ∃ b : Addr, v = some (.ref b) ∧ Fr n0 L ∧ Keep h0 h [] ∧ h0.size ≤ b ∧ (∃ z2 : Int32, z2.toInt = ((2 * n : Nat) : Int)) ∧ own_A Z h b .byte (2 * n) (own_u16 f n)) := by
  refine own_of (plainFor_of_name pn_java_lang_StringUTF16) ?_
  intro p e s m below meth c s₁ hx hby hml hown hnm hret hlk hZ X0 e0
  have N0 := Fr.nil n0
  have K0 := Keep.refl h0 []
  have loop : ∀ (b1 : Addr) (z2 : Int32), z2.toInt = ((2 * n : Nat) : Int) → a1 ≠ b1 → h0.size ≤ b1 → ∀ (k j : Nat) (iv : Int32) (TL : State) (hL : Heap) (LL : List Loc), j + k = n → iv.toInt = (j : Nat) → Stand p l e ({ frames := 2, cells := 1, slots := 12, locals := 32 } : Room) s m #[(.ref a1), (.int (0 : Int32)), (.int z)] below meth c TL LL 1 12 → TL.heap = hL → own_A Z hL a1 .char n f → own_A Z hL b1 .byte (2 * n) (own_u16 f j) → own_St Z hL cs fm → Keep h0 hL [] → Fr n0 LL → n0 ≤ hL.size → own_Go p e below (own_Ends s ({ frames := 2, cells := 1, slots := 12, locals := 32 } : Room) (fun v h L => ∃ b : Addr, v = some (.ref b) ∧ Fr n0 L ∧ Keep h0 h [] ∧ h0.size ≤ b ∧ (∃ z2 : Int32, z2.toInt = ((2 * n : Nat) : Int)) ∧ own_A Z h b .byte (2 * n) (own_u16 f n))) TL (mkF m 8 #[.val (.ref a1), .val (.int iv), .val (.int z), .val (.ref b1), .val (.int iv)] []) := by
    intro b1 z2 hz2 hab hb1 k
    induction k with
    | zero =>
      intro j iv TL hL LL hjk hiv XL eL AL BL ST KL NL ZL
      refine own_by (T' := TL) (f' := (mkF m 10 #[.val (.ref a1), .val (.int iv), .val (.int z), .val (.ref b1), .val (.int iv)] [(.int iv)])) (fun t k => XS.iload XL.here hx rfl (hb hby d21_8) rfl k) ?_
      refine own_by (T' := TL) (f' := (mkF m 11 #[.val (.ref a1), .val (.int iv), .val (.int z), .val (.ref b1), .val (.int iv)] [(.int z), (.int iv)])) (fun t k => XS.iloadN XL.here hx rfl (hb hby d21_10) rfl k) ?_
      have hc11_51 : ¬ (iv < z) := (by rw [Int32.lt_iff_toInt_lt]; omega)
      refine own_by (T' := TL) (f' := (mkF m 32 #[.val (.ref a1), .val (.int iv), .val (.int z), .val (.ref b1), .val (.int iv)] [])) (fun t k => XS.icmpYes XL.here hx rfl (pc0 := 11) (pc' := 32) rfl (hb hby d21_11) rfl (flt hc11_51).2.1 (by decide) (by decide) k) ?_
      refine own_by (T' := TL) (f' := (mkF m 33 #[.val (.ref a1), .val (.int iv), .val (.int z), .val (.ref b1), .val (.int iv)] [(.ref b1)])) (fun t k => XS.aloadN XL.here hx rfl (hb hby d21_32) rfl rfl k) ?_
      refine own_retA XL hx hret hlk (hb hby d21_33) rfl rfl rfl (by decide) (by decide) ?_
      try rw [eL]
      obtain rfl : j = n := by omega
      exact ⟨b1, rfl, NL, KL, hb1, ⟨z2, hz2⟩, BL⟩
    | succ k ih =>
      intro j iv TL hL LL hjk hiv XL eL AL BL ST KL NL ZL
      refine own_by (T' := TL) (f' := (mkF m 10 #[.val (.ref a1), .val (.int iv), .val (.int z), .val (.ref b1), .val (.int iv)] [(.int iv)])) (fun t k => XS.iload XL.here hx rfl (hb hby d21_8) rfl k) ?_
      refine own_by (T' := TL) (f' := (mkF m 11 #[.val (.ref a1), .val (.int iv), .val (.int z), .val (.ref b1), .val (.int iv)] [(.int z), (.int iv)])) (fun t k => XS.iloadN XL.here hx rfl (hb hby d21_10) rfl k) ?_
      have hc11_51 : iv < z := (by rw [Int32.lt_iff_toInt_lt]; omega)
      refine own_by (T' := TL) (f' := (mkF m 14 #[.val (.ref a1), .val (.int iv), .val (.int z), .val (.ref b1), .val (.int iv)] [])) (fun t k => XS.icmpNo XL.here hx rfl (hb hby d21_11) rfl (tlt hc11_51).2.1 k) ?_
      refine own_by (T' := TL) (f' := (mkF m 15 #[.val (.ref a1), .val (.int iv), .val (.int z), .val (.ref b1), .val (.int iv)] [(.ref b1)])) (fun t k => XS.aloadN XL.here hx rfl (hb hby d21_14) rfl rfl k) ?_
      refine own_by (T' := TL) (f' := (mkF m 17 #[.val (.ref a1), .val (.int iv), .val (.int z), .val (.ref b1), .val (.int iv)] [(.int iv), (.ref b1)])) (fun t k => XS.iload XL.here hx rfl (hb hby d21_15) rfl k) ?_
      refine own_by (T' := TL) (f' := (mkF m 18 #[.val (.ref a1), .val (.int iv), .val (.int z), .val (.ref b1), .val (.int iv)] [(.ref a1), (.int iv), (.ref b1)])) (fun t k => XS.aloadN XL.here hx rfl (hb hby d21_17) rfl rfl k) ?_
      refine own_by (T' := TL) (f' := (mkF m 19 #[.val (.ref a1), .val (.int iv), .val (.int z), .val (.ref b1), .val (.int iv)] [(.int iv), (.ref a1), (.int iv), (.ref b1)])) (fun t k => XS.iloadN XL.here hx rfl (hb hby d21_18) rfl k) ?_
      refine own_ldC XL hx hZ eL (hb hby d21_19) AL (by first | decide | omega) (by first | decide | omega) ?_
      rw [show iv.toInt.toNat = j from by omega]
      show own_Go p e below _ TL (mkF m 20 #[.val (.ref a1), .val (.int iv), .val (.int z), .val (.ref b1), .val (.int iv)] [(.int (f j)), (.int iv), (.ref b1)])
      have q52 : ∀ x ∈ [b1], ∃ c : Cell, hL[x]? = some c ∧ c.vm.isStatics = false := (allS (own_nsA BL) all0)
      refine own_callS XL hx hZ hown eL (hb hby d21_20) [(.ref b1), (.int iv), (.int (f j))] [] 0 (rmPU l Z a0 hw [] b1 iv (f j) j n _ cs fm hL n0 ZL (Nat.le_trans Z0 hb1) hiv (by omega) (by omega) BL ST) (own_w hw 100 rfl) (own_w hw 101 rfl) (own_w hw 57 rfl) (own_w hw 102 rfl) (by decide) pd___BII_V (by rw [hml]; rfl) rfl rfl (Nat.le_of_eq rfl) (by decide) (by decide) (by decide) (by decide) ?_
      rintro T53 _ L53 X53 ⟨rfl, N53q, K53, B53⟩
      show own_Go p e below _ T53 (mkF m 23 #[.val (.ref a1), .val (.int iv), .val (.int z), .val (.ref b1), .val (.int iv)] [])
      have N53 := Fr.app NL N53q
      have sz54 : n0 ≤ T53.heap.size := Nat.le_trans ZL K53.1
      have K55 := KL.trans K53 (allS (Or.inr hb1) all0)
      have A56 : own_A Z T53.heap b1 .byte (2 * n) (own_u16 f (j + 1)) := B53.congr (fun i hi => by exact own_u16_step f j i)
      refine own_by (T' := T53) (f' := (mkF m 26 #[.val (.ref a1), .val (.int (iv + (1 : Int32))), .val (.int z), .val (.ref b1), .val (.int iv)] [])) (fun t k => XS.iinc X53.here hx rfl (hb hby d21_23) rfl (l' := #[.val (.ref a1), .val (.int (iv + (1 : Int32))), .val (.int z), .val (.ref b1), .val (.int iv)]) rfl k) ?_
      refine own_by (T' := T53) (f' := (mkF m 29 #[.val (.ref a1), .val (.int (iv + (1 : Int32))), .val (.int z), .val (.ref b1), .val (.int (iv + (1 : Int32)))] [])) (fun t k => XS.iinc X53.here hx rfl (hb hby d21_26) rfl (l' := #[.val (.ref a1), .val (.int (iv + (1 : Int32))), .val (.int z), .val (.ref b1), .val (.int (iv + (1 : Int32)))]) rfl k) ?_
      refine own_by (T' := T53) (f' := (mkF m 8 #[.val (.ref a1), .val (.int (iv + (1 : Int32))), .val (.int z), .val (.ref b1), .val (.int (iv + (1 : Int32)))] [])) (fun t k => XS.goto X53.here hx rfl (pc0 := 29) (pc' := 8) rfl (hb hby d21_29) (by decide) (by decide) k) ?_
      have f57 := (AL.keep K53 (ninS hab nin0))
      have f58 := (ST.keep K53 q52)
      exact ih (j + 1) (iv + (1 : Int32)) T53 T53.heap _ (by omega) (own_inc hiv (by omega : j < n) (by omega)) X53 rfl f57 A56 f58 K55 N53 sz54
  rw [ef_rmTU]
  refine own_by (T' := s₁) (f' := (mkF m 1 #[.val (.ref a1), .val (.int (0 : Int32)), .val (.int z), .unset, .unset] [(.int z)])) (fun t k => XS.iloadN X0.here hx rfl (hb hby d21_0) rfl k) ?_
  refine own_callS X0 hx hZ hown e0 (hb hby d21_1) [(.int z)] [] 0 (rmNB l Z a0 hw [] z n h0 n0 Z0 hz hcap) (own_w hw 93 rfl) (own_w hw 94 rfl) (own_w hw 57 rfl) (own_w hw 95 rfl) (by decide) pd__I__B (by rw [hml]; rfl) rfl rfl (Nat.le_of_eq rfl) (by decide) (by decide) (by decide) (by decide) ?_
  rintro T11 _ L11 X11 ⟨b11, z11, hz11, rfl, N11q, K11, gb11, B11⟩
  show own_Go p e below _ T11 (mkF m 4 #[.val (.ref a1), .val (.int (0 : Int32)), .val (.int z), .unset, .unset] [(.ref b11)])
  have N11 := Fr.app N0 N11q
  have neab : a1 ≠ b11 := Nat.ne_of_lt (Nat.lt_of_lt_of_le A1.lt gb11)
  have sz12 : n0 ≤ T11.heap.size := Nat.le_trans Z0 K11.1
  have K13 := K0.trans K11 all0
  refine own_by (T' := T11) (f' := (mkF m 5 #[.val (.ref a1), .val (.int (0 : Int32)), .val (.int z), .val (.ref b11), .unset] [])) (fun t k => XS.astoreN X11.here hx rfl (hb hby d21_4) rfl rfl (l' := #[.val (.ref a1), .val (.int (0 : Int32)), .val (.int z), .val (.ref b11), .unset]) rfl k) ?_
  refine own_by (T' := T11) (f' := (mkF m 6 #[.val (.ref a1), .val (.int (0 : Int32)), .val (.int z), .val (.ref b11), .unset] [(.int (0 : Int32))])) (fun t k => XS.iconst X11.here hx rfl (hb hby d21_5) k) ?_
  refine own_by (T' := T11) (f' := (mkF m 8 #[.val (.ref a1), .val (.int (0 : Int32)), .val (.int z), .val (.ref b11), .val (.int (0 : Int32))] [])) (fun t k => XS.istore X11.here hx rfl (hb hby d21_6) rfl (l' := #[.val (.ref a1), .val (.int (0 : Int32)), .val (.int z), .val (.ref b11), .val (.int (0 : Int32))]) rfl k) ?_
  have f14 := (A1.keep K11 nin0)
  have f15 := (ST.keep K11 all0)
  exact loop b11 z11 hz11 neab gb11 n 0 0 T11 T11.heap _ (by omega) (by decide) X11 rfl f14 (B11.congr fun i _ => by simp [own_u16]) f15 K13 N11 sz12
theorem ef_rmCd1 (m : MethodId) (x0 : Addr) (x1 : Int32) : entryFrame m #[(.ref x0), (.int x1)] 2 = mkF m 0 #[.val (.ref x0), .val (.int x1)] [] := by first | (simp [entryFrame, mkF, argsToLocals, Value.category]; done) | rfl
set_option maxRecDepth 65536 in
set_option maxHeartbeats 40000000 in
theorem rmCd1 (l : Launch) (Z : State) (a0 : Array Value) (hw : ∀ d ∈ tables_1, d.before a0 Z = true) (ws : List Jvm.Cond) (b1 : Addr) (z z2 : Int32) (n : Nat) (f : Nat → Int32) (h0 : Heap) (F1 : own_A Z h0 b1 .byte (2 * n) f) (hz : z.toInt = n) (hz2 : z2.toInt = ((2 * n : Nat) : Int)) (hn1 : 1 ≤ n) :
    own_Ct l Z (⟨"java/lang/StringUTF16", "coderFromArrayLen", "([BI)B"⟩ : MethodName) jdk_52_method_15_code 2 (some .byte) ws ({ frames := 0, cells := 0, slots := 0, locals := 0 } : Room) #[(.ref b1), (.int z)] h0 (fun v h L => v = some (.int 1) ∧ L = [] ∧ h = h0) := by
  refine own_of (plainFor_of_name pn_java_lang_StringUTF16) ?_
  intro p e s m below meth c s₁ hx hby hml hown hnm hret hlk hZ X0 e0
  rw [ef_rmCd1]
  refine own_by (T' := s₁) (f' := (mkF m 1 #[.val (.ref b1), .val (.int z)] [(.int z)])) (fun t k => XS.iloadN X0.here hx rfl (hb hby d14_0) rfl k) ?_
  refine own_by (T' := s₁) (f' := (mkF m 2 #[.val (.ref b1), .val (.int z)] [(.ref b1), (.int z)])) (fun t k => XS.aloadN X0.here hx rfl (hb hby d14_1) rfl rfl k) ?_
  refine own_alen (j := z2) X0 hx hZ e0 (hb hby d14_2) F1 hz2 ?_
  show own_Go p e below _ s₁ (mkF m 3 #[.val (.ref b1), .val (.int z)] [(.int z2), (.int z)])
  refine own_by (T' := s₁) (f' := (mkF m 4 #[.val (.ref b1), .val (.int z)] [(.int (z - z2))])) (fun t k => XS.isub X0.here hx rfl (hb hby d14_3) rfl k) ?_
  refine own_by (T' := s₁) (f' := (mkF m 6 #[.val (.ref b1), .val (.int z)] [(.int (31 : Int32)), (.int (z - z2))])) (fun t k => XS.bipush X0.here hx rfl (hb hby d14_4) k) ?_
  refine own_by (T' := s₁) (f' := (mkF m 7 #[.val (.ref b1), .val (.int z)] [(.int (((z - z2).toUInt32 >>> ((31 : Int32) &&& 31).toUInt32).toInt32))])) (fun t k => XS.iushr X0.here hx rfl (hb hby d14_6) rfl k) ?_
  refine own_by (T' := s₁) (f' := (mkF m 8 #[.val (.ref b1), .val (.int z)] [(.int ((((z - z2).toUInt32 >>> ((31 : Int32) &&& 31).toUInt32).toInt32).toInt8.toInt32))])) (fun t k => XS.i2b X0.here hx rfl (hb hby d14_7) rfl k) ?_
  rw [own_cd1 hz hz2 hn1]
  show own_Go p e below _ s₁ (mkF m 8 #[.val (.ref b1), .val (.int z)] [(.int (1 : Int32))])
  refine own_ret X0 hx hret hlk (hb hby d14_8) rfl (Or.inl ⟨rfl, Or.inr (Or.inr (Or.inl rfl)), _, rfl⟩) (by decide) (by decide) ?_
  try rw [e0]
  exact ⟨rfl, rfl, rfl⟩
theorem ef_rmC3 (m : MethodId) (x0 : Addr) (x1 : Int32) (x2 : Int32) : entryFrame m #[(.ref x0), (.int x1), (.int x2)] 6 = mkF m 0 #[.val (.ref x0), .val (.int x1), .val (.int x2), .unset, .unset, .unset] [] := by first | (simp [entryFrame, mkF, argsToLocals, Value.category]; done) | rfl
set_option maxRecDepth 65536 in
set_option maxHeartbeats 40000000 in
theorem rmC3 (l : Launch) (Z : State) (a0 : Array Value) (hw : ∀ d ∈ tables_1, d.before a0 Z = true) (ws : List Jvm.Cond) (a1 : Addr) (z : Int32) (n : Nat) (f : Nat → Int32) (cs : Int32) (fm : Value) (h0 : Heap) (n0 : Nat) (Z0 : n0 ≤ h0.size) (hz : z.toInt = n) (hcap : n ≤ 6) (hch : ∀ i, i < n → 0 ≤ (f i).toInt ∧ (f i).toInt < 65536) (A1 : own_A Z h0 a1 .char n f) (ST : own_St Z h0 cs fm) :
    own_Ct l Z (⟨"java/lang/StringUTF16", "compress", "([CII)[B"⟩ : MethodName) jdk_52_method_16_code 6 (some (.array .byte)) ws ({ frames := 3, cells := 2, slots := 18, locals := 60 } : Room) #[(.ref a1), (.int (0 : Int32)), (.int z)] h0 (fun v h L => ∃ b : Addr, v = some (.ref b) ∧ Fr n0 L ∧ Keep h0 h [] ∧ h0.size ≤ b ∧ (((∀ q, q < n → ¬ (255 : Int32) < f q) ∧ own_A Z h b .byte n (fun i => own_b8 (f i))) ∨ ((∃ z2 : Int32, z2.toInt = ((2 * n : Nat) : Int)) ∧ (∃ q, q < n ∧ (255 : Int32) < f q) ∧ own_A Z h b .byte (2 * n) (own_u16 f n)))) := by
  refine own_of (plainFor_of_name pn_java_lang_StringUTF16) ?_
  intro p e s m below meth c s₁ hx hby hml hown hnm hret hlk hZ X0 e0
  have N0 := Fr.nil n0
  have K0 := Keep.refl h0 []
  rw [ef_rmC3]
  refine own_by (T' := s₁) (f' := (mkF m 1 #[.val (.ref a1), .val (.int (0 : Int32)), .val (.int z), .unset, .unset, .unset] [(.int z)])) (fun t k => XS.iloadN X0.here hx rfl (hb hby d12_0) rfl k) ?_
  refine own_mkA X0 hx hZ e0 (hb hby d12_1) (own_w hw 27 rfl) (v := 0) rfl (by omega) 6 (by omega) (by decide) (by decide) (by decide) ?_
  intro T11 h11 b11 X11 e11 g11 E11 A11r
  have ne11_a1 : a1 ≠ b11 := Nat.ne_of_lt (by rw [g11]; exact A1.lt)
  have gn11 : n0 ≤ b11 := by rw [g11]; exact Z0
  have gh11 : h0.size ≤ b11 := by rw [g11]; exact K0.1
  show own_Go p e below _ T11 (mkF m 3 #[.val (.ref a1), .val (.int (0 : Int32)), .val (.int z), .unset, .unset, .unset] [(.ref b11)])
  have A11 : own_A Z h11 b11 .byte n (fun _ => 0) := (by rw [show n = z.toInt.toNat from by omega]; exact A11r)
  have sz12 : n0 ≤ h11.size := Nat.le_trans Z0 E11.1
  have K13 := K0.ext E11
  refine own_by (T' := T11) (f' := (mkF m 4 #[.val (.ref a1), .val (.int (0 : Int32)), .val (.int z), .val (.ref b11), .unset, .unset] [])) (fun t k => XS.astoreN X11.here hx rfl (hb hby d12_3) rfl rfl (l' := #[.val (.ref a1), .val (.int (0 : Int32)), .val (.int z), .val (.ref b11), .unset, .unset]) rfl k) ?_
  refine own_by (T' := T11) (f' := (mkF m 5 #[.val (.ref a1), .val (.int (0 : Int32)), .val (.int z), .val (.ref b11), .unset, .unset] [(.ref a1)])) (fun t k => XS.aloadN X11.here hx rfl (hb hby d12_4) rfl rfl k) ?_
  refine own_by (T' := T11) (f' := (mkF m 6 #[.val (.ref a1), .val (.int (0 : Int32)), .val (.int z), .val (.ref b11), .unset, .unset] [(.int (0 : Int32)), (.ref a1)])) (fun t k => XS.iloadN X11.here hx rfl (hb hby d12_5) rfl k) ?_
  refine own_by (T' := T11) (f' := (mkF m 7 #[.val (.ref a1), .val (.int (0 : Int32)), .val (.int z), .val (.ref b11), .unset, .unset] [(.ref b11), (.int (0 : Int32)), (.ref a1)])) (fun t k => XS.aloadN X11.here hx rfl (hb hby d12_6) rfl rfl k) ?_
  refine own_by (T' := T11) (f' := (mkF m 8 #[.val (.ref a1), .val (.int (0 : Int32)), .val (.int z), .val (.ref b11), .unset, .unset] [(.int (0 : Int32)), (.ref b11), (.int (0 : Int32)), (.ref a1)])) (fun t k => XS.iconst X11.here hx rfl (hb hby d12_7) k) ?_
  refine own_by (T' := T11) (f' := (mkF m 9 #[.val (.ref a1), .val (.int (0 : Int32)), .val (.int z), .val (.ref b11), .unset, .unset] [(.int z), (.int (0 : Int32)), (.ref b11), (.int (0 : Int32)), (.ref a1)])) (fun t k => XS.iloadN X11.here hx rfl (hb hby d12_8) rfl k) ?_
  have q14 : ∀ x ∈ [b11], ∃ c : Cell, h11[x]? = some c ∧ c.vm.isStatics = false := (allS (own_nsA A11) all0)
  have f15 := (A1.ext E11)
  refine own_callS X11 hx hZ hown e11 (hb hby d12_9) [(.ref a1), (.int (0 : Int32)), (.ref b11), (.int (0 : Int32)), (.int z)] [] 0 (rmC5 l Z a0 hw [] a1 b11 z n f (fun _ => 0) h11 n0 gn11 ne11_a1 hz A1.small f15 A11) (own_w hw 59 rfl) (own_w hw 60 rfl) (own_w hw 57 rfl) (own_w hw 61 rfl) (by decide) pd___CI_BII_I (by rw [hml]; rfl) rfl rfl (Nat.le_of_eq rfl) (by decide) (by decide) (by decide) (by decide) ?_
  rintro T16 _ L16 X16 ⟨r16, rfl, hr16, N16q, K16, B16⟩
  show own_Go p e below _ T16 (mkF m 12 #[.val (.ref a1), .val (.int (0 : Int32)), .val (.int z), .val (.ref b11), .unset, .unset] [(.int r16)])
  have N16 := Fr.app N0 N16q
  have sz17 : n0 ≤ T16.heap.size := Nat.le_trans sz12 K16.1
  have K18 := K13.trans K16 (allS (Or.inr gh11) all0)
  have sp := own_fstA_spec (f := f) n 0
  have spe : own_fstA f n 0 = own_fst f n := rfl
  rw [spe] at sp
  refine own_by (T' := T16) (f' := (mkF m 14 #[.val (.ref a1), .val (.int (0 : Int32)), .val (.int z), .val (.ref b11), .val (.int r16), .unset] [])) (fun t k => XS.istore X16.here hx rfl (hb hby d12_12) rfl (l' := #[.val (.ref a1), .val (.int (0 : Int32)), .val (.int z), .val (.ref b11), .val (.int r16), .unset]) rfl k) ?_
  refine own_by (T' := T16) (f' := (mkF m 16 #[.val (.ref a1), .val (.int (0 : Int32)), .val (.int z), .val (.ref b11), .val (.int r16), .unset] [(.int r16)])) (fun t k => XS.iload X16.here hx rfl (hb hby d12_14) rfl k) ?_
  refine own_by (T' := T16) (f' := (mkF m 17 #[.val (.ref a1), .val (.int (0 : Int32)), .val (.int z), .val (.ref b11), .val (.int r16), .unset] [(.int z), (.int r16)])) (fun t k => XS.iloadN X16.here hx rfl (hb hby d12_16) rfl k) ?_
  by_cases hc17_19 : r16 = z
  · have _ := X16
    refine own_by (T' := T16) (f' := (mkF m 57 #[.val (.ref a1), .val (.int (0 : Int32)), .val (.int z), .val (.ref b11), .val (.int r16), .unset] [])) (fun t k => XS.icmpYes X16.here hx rfl (pc0 := 17) (pc' := 57) rfl (hb hby d12_17) rfl (teq hc17_19).1 (by decide) (by decide) k) ?_
    refine own_by (T' := T16) (f' := (mkF m 58 #[.val (.ref a1), .val (.int (0 : Int32)), .val (.int z), .val (.ref b11), .val (.int r16), .unset] [(.ref b11)])) (fun t k => XS.aloadN X16.here hx rfl (hb hby d12_57) rfl rfl k) ?_
    have hfn : own_fst f n = n := by have q := hr16; rw [hc17_19, hz] at q; omega
    rw [hfn] at sp
    have A20 : own_A Z T16.heap b11 .byte n (fun i => own_b8 (f i)) := B16.congr (fun i hi => by show (if i < own_fst f n then own_b8 (f i) else _) = _; rw [hfn, if_pos hi])
    refine own_retA X16 hx hret hlk (hb hby d12_58) rfl rfl rfl (by decide) (by decide) ?_
    exact ⟨b11, rfl, N16, K18, gh11, Or.inl ⟨fun q hq => sp.2.2.2 q (Nat.zero_le _) hq, A20⟩⟩
  · have _ := X16
    refine own_by (T' := T16) (f' := (mkF m 20 #[.val (.ref a1), .val (.int (0 : Int32)), .val (.int z), .val (.ref b11), .val (.int r16), .unset] [])) (fun t k => XS.icmpNo X16.here hx rfl (hb hby d12_17) rfl (feq hc17_19).1 k) ?_
    refine own_by (T' := T16) (f' := (mkF m 21 #[.val (.ref a1), .val (.int (0 : Int32)), .val (.int z), .val (.ref b11), .val (.int r16), .unset] [(.ref a1)])) (fun t k => XS.aloadN X16.here hx rfl (hb hby d12_20) rfl rfl k) ?_
    refine own_by (T' := T16) (f' := (mkF m 22 #[.val (.ref a1), .val (.int (0 : Int32)), .val (.int z), .val (.ref b11), .val (.int r16), .unset] [(.int (0 : Int32)), (.ref a1)])) (fun t k => XS.iloadN X16.here hx rfl (hb hby d12_21) rfl k) ?_
    refine own_by (T' := T16) (f' := (mkF m 23 #[.val (.ref a1), .val (.int (0 : Int32)), .val (.int z), .val (.ref b11), .val (.int r16), .unset] [(.int z), (.int (0 : Int32)), (.ref a1)])) (fun t k => XS.iloadN X16.here hx rfl (hb hby d12_22) rfl k) ?_
    have f21 := (f15.keep K16 (ninS ne11_a1 nin0))
    have f22 := ((ST.ext E11).keep K16 q14)
    refine own_callS X16 hx hZ hown rfl (hb hby d12_23) [(.ref a1), (.int (0 : Int32)), (.int z)] [] 0 (rmTU l Z a0 hw [] a1 z n f cs fm T16.heap n0 sz17 hz hcap f21 f22) (own_w hw 90 rfl) (own_w hw 91 rfl) (own_w hw 57 rfl) (own_w hw 92 rfl) (by decide) pd___CII__B (by rw [hml]; rfl) rfl rfl (Nat.le_of_eq rfl) (by decide) (by decide) (by decide) (by decide) ?_
    rintro T23 _ L23 X23 ⟨b23, rfl, N23q, K23, gb23, ⟨z23, hz23⟩, B23⟩
    show own_Go p e below _ T23 (mkF m 26 #[.val (.ref a1), .val (.int (0 : Int32)), .val (.int z), .val (.ref b11), .val (.int r16), .unset] [(.ref b23)])
    have N23 := Fr.app N16 N23q
    have gh23 : h0.size ≤ b23 := Nat.le_trans K18.1 gb23
    have sz24 : n0 ≤ T23.heap.size := Nat.le_trans sz17 K23.1
    have K25 := K18.trans K23 all0
    have hlt : own_fst f n < n := Nat.lt_of_le_of_ne (by omega) (fun q => hc17_19 (Int32.toInt_inj.mp (by rw [hr16, q, hz])))
    have hbig := sp.2.2.1 (by omega)
    refine own_by (T' := T23) (f' := (mkF m 28 #[.val (.ref a1), .val (.int (0 : Int32)), .val (.int z), .val (.ref b11), .val (.int r16), .val (.ref b23)] [])) (fun t k => XS.astore X23.here hx rfl (hb hby d12_26) rfl rfl (l' := #[.val (.ref a1), .val (.int (0 : Int32)), .val (.int z), .val (.ref b11), .val (.int r16), .val (.ref b23)]) rfl k) ?_
    refine own_by (T' := T23) (f' := (mkF m 30 #[.val (.ref a1), .val (.int (0 : Int32)), .val (.int z), .val (.ref b11), .val (.int r16), .val (.ref b23)] [(.ref b23)])) (fun t k => XS.aload X23.here hx rfl (hb hby d12_28) rfl rfl k) ?_
    refine own_by (T' := T23) (f' := (mkF m 32 #[.val (.ref a1), .val (.int (0 : Int32)), .val (.int z), .val (.ref b11), .val (.int r16), .val (.ref b23)] [(.int r16), (.ref b23)])) (fun t k => XS.iload X23.here hx rfl (hb hby d12_30) rfl k) ?_
    have f26 := (f22.keep K23 all0)
    refine own_callS X23 hx hZ hown rfl (hb hby d12_32) [(.ref b23), (.int r16)] [] 0 (rmGC l Z a0 hw [] b23 r16 _ (own_fst f n) n f cs fm T23.heap hr16 hlt (by omega) hz23 (by omega) (hch _ hlt) B23 f26) (own_w hw 106 rfl) (own_w hw 107 rfl) (own_w hw 57 rfl) (own_w hw 108 rfl) (by decide) pd___BI_C (by rw [hml]; rfl) rfl rfl (Nat.le_of_eq rfl) (by decide) (by decide) (by decide) (by decide) ?_
    rintro T27 _ L27 X27 ⟨rfl, rfl, e27⟩
    show own_Go p e below _ T27 (mkF m 35 #[.val (.ref a1), .val (.int (0 : Int32)), .val (.int z), .val (.ref b11), .val (.int r16), .val (.ref b23)] [(.int (f (own_fst f n)))])
    rw [List.append_nil] at X27
    refine own_by (T' := T27) (f' := (mkF m 38 #[.val (.ref a1), .val (.int (0 : Int32)), .val (.int z), .val (.ref b11), .val (.int r16), .val (.ref b23)] [(.int (255 : Int32)), (.int (f (own_fst f n)))])) (fun t k => XS.sipush X27.here hx rfl (hb hby d12_35) k) ?_
    have hc38_28 : (255 : Int32) < (f (own_fst f n)) := hbig
    refine own_by (T' := T27) (f' := (mkF m 54 #[.val (.ref a1), .val (.int (0 : Int32)), .val (.int z), .val (.ref b11), .val (.int r16), .val (.ref b23)] [])) (fun t k => XS.icmpYes X27.here hx rfl (pc0 := 38) (pc' := 54) rfl (hb hby d12_38) rfl (tlt hc38_28).2.2.1 (by decide) (by decide) k) ?_
    refine own_by (T' := T27) (f' := (mkF m 56 #[.val (.ref a1), .val (.int (0 : Int32)), .val (.int z), .val (.ref b11), .val (.int r16), .val (.ref b23)] [(.ref b23)])) (fun t k => XS.aload X27.here hx rfl (hb hby d12_54) rfl rfl k) ?_
    refine own_retA X27 hx hret hlk (hb hby d12_56) rfl rfl rfl (by decide) (by decide) ?_
    try rw [e27]
    exact ⟨b23, rfl, N23, K25, gh23, Or.inr ⟨⟨_, hz23⟩, ⟨_, hlt, hbig⟩, B23⟩⟩
theorem ef_rmI4 (m : MethodId) (x0 : Addr) (x1 : Addr) (x2 : Int32) (x3 : Int32) : entryFrame m #[(.ref x0), (.ref x1), (.int x2), (.int x3), .null] 6 = mkF m 0 #[.val (.ref x0), .val (.ref x1), .val (.int x2), .val (.int x3), .val .null, .unset] [] := by first | (simp [entryFrame, mkF, argsToLocals, Value.category]; done) | rfl
set_option maxRecDepth 65536 in
set_option maxHeartbeats 40000000 in
theorem rmI4 (l : Launch) (Z : State) (a0 : Array Value) (hw : ∀ d ∈ tables_1, d.before a0 Z = true) (ws : List Jvm.Cond) (a a1 : Addr) (z : Int32) (n : Nat) (f : Nat → Int32) (u1 u2 : Value) (cs : Int32) (fm : Value) (h0 : Heap) (n0 : Nat) (Z0 : n0 ≤ h0.size) (g1 : n0 ≤ a) (hz : z.toInt = n) (hn1 : 1 ≤ n) (hcap : n ≤ 6) (hch : ∀ i, i < n → 0 ≤ (f i).toInt ∧ (f i).toInt < 65536) (A1 : own_A Z h0 a1 .char n f) (ha1 : a1 ≠ a) (E1 : Exa Z h0 a "java/lang/String") (F1 : Fld Z h0 a "java/lang/String" "value" "[B" u1) (F2 : Fld Z h0 a "java/lang/String" "coder" "B" u2) (ST : own_St Z h0 cs fm) :
    own_Ct l Z (⟨"java/lang/String", "<init>", "([CIILjava/lang/Void;)V"⟩ : MethodName) jdk_42_method_149_code 6 none ws ({ frames := 4, cells := 2, slots := 18, locals := 80 } : Room) #[(.ref a), (.ref a1), (.int (0 : Int32)), (.int z), .null] h0 (fun v h L => v = none ∧ Fr n0 L ∧ Keep h0 h [a] ∧ own_JS Z h a n f) := by
  refine own_of (plainFor_of_name pn_java_lang_String) ?_
  intro p e s m below meth c s₁ hx hby hml hown hnm hret hlk hZ X0 e0
  have N0 := Fr.nil n0
  have K0 := Keep.refl h0 [a]
  have hn30 : n < 1073741824 := by omega
  rw [ef_rmI4]
  refine own_by (T' := s₁) (f' := (mkF m 1 #[.val (.ref a), .val (.ref a1), .val (.int (0 : Int32)), .val (.int z), .val .null, .unset] [(.ref a)])) (fun t k => XS.aloadN X0.here hx rfl (hb hby d5_0) rfl rfl k) ?_
  refine own_init X0 hx hZ hown e0 (hb hby d5_1) 0 (own_w hw 23 rfl) (own_w hw 24 rfl) (own_w hw 25 rfl) (by rw [hml]; rfl) (Nat.le_of_eq rfl) (by decide) (by decide) ?_
  intro T11 X11 e11
  show own_Go p e below _ T11 (mkF m 4 #[.val (.ref a), .val (.ref a1), .val (.int (0 : Int32)), .val (.int z), .val .null, .unset] [])
  refine own_by (T' := T11) (f' := (mkF m 5 #[.val (.ref a), .val (.ref a1), .val (.int (0 : Int32)), .val (.int z), .val .null, .unset] [(.int z)])) (fun t k => XS.iloadN X11.here hx rfl (hb hby d5_4) rfl k) ?_
  have hc5_12 : ¬ (z = (0 : Int32)) := own_nz hz hn1
  refine own_by (T' := T11) (f' := (mkF m 27 #[.val (.ref a), .val (.ref a1), .val (.int (0 : Int32)), .val (.int z), .val .null, .unset] [])) (fun t k => XS.ifYes X11.here hx rfl (pc0 := 5) (pc' := 27) rfl (hb hby d5_5) rfl ((if0 _ _).trans (feq hc5_12).2) (by decide) (by decide) k) ?_
  refine own_getS (host := "") X11 hx hZ hown e11 (hb hby d5_27) (Or.inl (own_w hw 51 rfl)) Via.refl ST.1 ?_
  intro T13 X13 e13
  show own_Go p e below _ T13 (mkF m 30 #[.val (.ref a), .val (.ref a1), .val (.int (0 : Int32)), .val (.int z), .val .null, .unset] [(.int cs)])
  refine own_by (T' := T13) (f' := (mkF m 33 #[.val (.ref a), .val (.ref a1), .val (.int (0 : Int32)), .val (.int z), .val .null, .unset] [])) (fun t k => XS.ifNo X13.here hx rfl (hb hby d5_30) rfl ((if0 _ _).trans (feq ST.2.2.2.2.2.1).1) k) ?_
  refine own_by (T' := T13) (f' := (mkF m 34 #[.val (.ref a), .val (.ref a1), .val (.int (0 : Int32)), .val (.int z), .val .null, .unset] [(.ref a1)])) (fun t k => XS.aloadN X13.here hx rfl (hb hby d5_33) rfl rfl k) ?_
  refine own_by (T' := T13) (f' := (mkF m 35 #[.val (.ref a), .val (.ref a1), .val (.int (0 : Int32)), .val (.int z), .val .null, .unset] [(.int (0 : Int32)), (.ref a1)])) (fun t k => XS.iloadN X13.here hx rfl (hb hby d5_34) rfl k) ?_
  refine own_by (T' := T13) (f' := (mkF m 36 #[.val (.ref a), .val (.ref a1), .val (.int (0 : Int32)), .val (.int z), .val .null, .unset] [(.int z), (.int (0 : Int32)), (.ref a1)])) (fun t k => XS.iloadN X13.here hx rfl (hb hby d5_35) rfl k) ?_
  refine own_callS X13 hx hZ hown e13 (hb hby d5_36) [(.ref a1), (.int (0 : Int32)), (.int z)] [] 0 (rmC3 l Z a0 hw [] a1 z n f cs fm h0 n0 Z0 hz hcap hch A1 ST) (own_w hw 55 rfl) (own_w hw 56 rfl) (own_w hw 57 rfl) (own_w hw 58 rfl) (by decide) pd___CII__B (by rw [hml]; rfl) rfl rfl (Nat.le_of_eq rfl) (by decide) (by decide) (by decide) (by decide) ?_
  rintro T14 _ L14 X14 ⟨b14, rfl, N14q, K14, gb14, D14⟩
  show own_Go p e below _ T14 (mkF m 39 #[.val (.ref a), .val (.ref a1), .val (.int (0 : Int32)), .val (.int z), .val .null, .unset] [(.ref b14)])
  have N14 := Fr.app N0 N14q
  have ne14_a : a ≠ b14 := Nat.ne_of_lt (Nat.lt_of_lt_of_le E1.lt gb14)
  have gh14 : h0.size ≤ b14 := Nat.le_trans K0.1 gb14
  have sz15 : n0 ≤ T14.heap.size := Nat.le_trans Z0 K14.1
  have K16 := K0.trans K14 all0
  rcases D14 with ⟨hlat, B14⟩ | ⟨⟨z2, hz2⟩, hbg, B14⟩
  · have _ := X14
    refine own_by (T' := T14) (f' := (mkF m 41 #[.val (.ref a), .val (.ref a1), .val (.int (0 : Int32)), .val (.int z), .val .null, .val (.ref b14)] [])) (fun t k => XS.astore X14.here hx rfl (hb hby d5_39) rfl rfl (l' := #[.val (.ref a), .val (.ref a1), .val (.int (0 : Int32)), .val (.int z), .val .null, .val (.ref b14)]) rfl k) ?_
    refine own_by (T' := T14) (f' := (mkF m 42 #[.val (.ref a), .val (.ref a1), .val (.int (0 : Int32)), .val (.int z), .val .null, .val (.ref b14)] [(.ref a)])) (fun t k => XS.aloadN X14.here hx rfl (hb hby d5_41) rfl rfl k) ?_
    refine own_by (T' := T14) (f' := (mkF m 44 #[.val (.ref a), .val (.ref a1), .val (.int (0 : Int32)), .val (.int z), .val .null, .val (.ref b14)] [(.ref b14), (.ref a)])) (fun t k => XS.aload X14.here hx rfl (hb hby d5_42) rfl rfl k) ?_
    refine own_by (T' := T14) (f' := (mkF m 45 #[.val (.ref a), .val (.ref a1), .val (.int (0 : Int32)), .val (.int z), .val .null, .val (.ref b14)] [(.int z), (.ref b14), (.ref a)])) (fun t k => XS.iloadN X14.here hx rfl (hb hby d5_44) rfl k) ?_
    refine own_callS X14 hx hZ hown rfl (hb hby d5_45) [(.ref b14), (.int z)] [(.ref a)] 1 (rmCd0 l Z a0 hw [] b14 z n _ T14.heap B14 hz) (own_w hw 62 rfl) (own_w hw 63 rfl) (own_w hw 57 rfl) (own_w hw 64 rfl) (by decide) pd___BI_B (by rw [hml]; rfl) rfl rfl (Nat.le_of_eq rfl) (by decide) (by decide) (by decide) (by decide) ?_
    rintro T17 _ L17 X17 ⟨rfl, rfl, e17⟩
    show own_Go p e below _ T17 (mkF m 48 #[.val (.ref a), .val (.ref a1), .val (.int (0 : Int32)), .val (.int z), .val .null, .val (.ref b14)] [(.int (0 : Int32)), (.ref a)])
    rw [List.append_nil] at X17
    have f18 := (F2.keep K14 nin0)
    have f19 := (E1.keep K14)
    refine own_putF (host := "") X17 hx hZ hown e17 (hb hby d5_48) (Or.inl (own_w hw 33 rfl)) Via.refl f18 f19 (Or.inr ⟨(own_w hw 29 rfl), rfl, hnm⟩) (own_w hw 14 rfl) (ty := .byte) (by decide) rfl rfl ?_
    intro T20 h20 X20 e20 W20
    show own_Go p e below _ T20 (mkF m 51 #[.val (.ref a), .val (.ref a1), .val (.int (0 : Int32)), .val (.int z), .val .null, .val (.ref b14)] [])
    have F20 := f18.same W20
    have sz21 : n0 ≤ h20.size := by rw [W20.size]; exact sz15
    have K22 := K16.wr W20 (Or.inl (List.mem_of_getElem? (i := 0) rfl))
    have N20 := Fr.snoc X20 N14 g1
    refine own_by (T' := T20) (f' := (mkF m 52 #[.val (.ref a), .val (.ref a1), .val (.int (0 : Int32)), .val (.int z), .val .null, .val (.ref b14)] [(.ref a)])) (fun t k => XS.aloadN X20.here hx rfl (hb hby d5_51) rfl rfl k) ?_
    refine own_by (T' := T20) (f' := (mkF m 54 #[.val (.ref a), .val (.ref a1), .val (.int (0 : Int32)), .val (.int z), .val .null, .val (.ref b14)] [(.ref b14), (.ref a)])) (fun t k => XS.aload X20.here hx rfl (hb hby d5_52) rfl rfl k) ?_
    have f23 := ((F1.keep K14 nin0).other W20 (Or.inr (sn_0 hw)))
    have f24 := (f19.wr W20)
    refine own_putF (host := "") X20 hx hZ hown e20 (hb hby d5_54) (Or.inl (own_w hw 32 rfl)) Via.refl f23 f24 (Or.inr ⟨(own_w hw 28 rfl), rfl, hnm⟩) (own_w hw 14 rfl) (ty := (.array .byte)) (by decide) rfl rfl ?_
    intro T25 h25 X25 e25 W25
    show own_Go p e below _ T25 (mkF m 57 #[.val (.ref a), .val (.ref a1), .val (.int (0 : Int32)), .val (.int z), .val .null, .val (.ref b14)] [])
    have F25 := f23.same W25
    have sz26 : n0 ≤ h25.size := by rw [W25.size]; exact sz21
    have K27 := K22.wr W25 (Or.inl (List.mem_of_getElem? (i := 0) rfl))
    have N25 := Fr.snoc X25 N20 g1
    have f28 := (f24.wr W25)
    have f29 := (F20.other W25 (Or.inr (sn_1 hw)))
    have f30 := ((B14.other W20 (Ne.symm ne14_a)).other W25 (Ne.symm ne14_a))
    refine own_retV X25 hx hret hlk (hb hby d5_57) (by decide) (by decide) ?_
    try rw [e25]
    exact ⟨rfl, N25, K27, hn30, hch, f28, b14, _, F25, Or.inl ⟨f29, hz, hlat, f30⟩⟩
  · have _ := X14
    refine own_by (T' := T14) (f' := (mkF m 41 #[.val (.ref a), .val (.ref a1), .val (.int (0 : Int32)), .val (.int z), .val .null, .val (.ref b14)] [])) (fun t k => XS.astore X14.here hx rfl (hb hby d5_39) rfl rfl (l' := #[.val (.ref a), .val (.ref a1), .val (.int (0 : Int32)), .val (.int z), .val .null, .val (.ref b14)]) rfl k) ?_
    refine own_by (T' := T14) (f' := (mkF m 42 #[.val (.ref a), .val (.ref a1), .val (.int (0 : Int32)), .val (.int z), .val .null, .val (.ref b14)] [(.ref a)])) (fun t k => XS.aloadN X14.here hx rfl (hb hby d5_41) rfl rfl k) ?_
    refine own_by (T' := T14) (f' := (mkF m 44 #[.val (.ref a), .val (.ref a1), .val (.int (0 : Int32)), .val (.int z), .val .null, .val (.ref b14)] [(.ref b14), (.ref a)])) (fun t k => XS.aload X14.here hx rfl (hb hby d5_42) rfl rfl k) ?_
    refine own_by (T' := T14) (f' := (mkF m 45 #[.val (.ref a), .val (.ref a1), .val (.int (0 : Int32)), .val (.int z), .val .null, .val (.ref b14)] [(.int z), (.ref b14), (.ref a)])) (fun t k => XS.iloadN X14.here hx rfl (hb hby d5_44) rfl k) ?_
    refine own_callS X14 hx hZ hown rfl (hb hby d5_45) [(.ref b14), (.int z)] [(.ref a)] 1 (rmCd1 l Z a0 hw [] b14 z z2 n _ T14.heap B14 hz hz2 hn1) (own_w hw 62 rfl) (own_w hw 63 rfl) (own_w hw 57 rfl) (own_w hw 64 rfl) (by decide) pd___BI_B (by rw [hml]; rfl) rfl rfl (Nat.le_of_eq rfl) (by decide) (by decide) (by decide) (by decide) ?_
    rintro T31 _ L31 X31 ⟨rfl, rfl, e31⟩
    show own_Go p e below _ T31 (mkF m 48 #[.val (.ref a), .val (.ref a1), .val (.int (0 : Int32)), .val (.int z), .val .null, .val (.ref b14)] [(.int (1 : Int32)), (.ref a)])
    rw [List.append_nil] at X31
    have f32 := (F2.keep K14 nin0)
    have f33 := (E1.keep K14)
    refine own_putF (host := "") X31 hx hZ hown e31 (hb hby d5_48) (Or.inl (own_w hw 33 rfl)) Via.refl f32 f33 (Or.inr ⟨(own_w hw 29 rfl), rfl, hnm⟩) (own_w hw 14 rfl) (ty := .byte) (by decide) rfl rfl ?_
    intro T34 h34 X34 e34 W34
    show own_Go p e below _ T34 (mkF m 51 #[.val (.ref a), .val (.ref a1), .val (.int (0 : Int32)), .val (.int z), .val .null, .val (.ref b14)] [])
    have F34 := f32.same W34
    have sz35 : n0 ≤ h34.size := by rw [W34.size]; exact sz15
    have K36 := K16.wr W34 (Or.inl (List.mem_of_getElem? (i := 0) rfl))
    have N34 := Fr.snoc X34 N14 g1
    refine own_by (T' := T34) (f' := (mkF m 52 #[.val (.ref a), .val (.ref a1), .val (.int (0 : Int32)), .val (.int z), .val .null, .val (.ref b14)] [(.ref a)])) (fun t k => XS.aloadN X34.here hx rfl (hb hby d5_51) rfl rfl k) ?_
    refine own_by (T' := T34) (f' := (mkF m 54 #[.val (.ref a), .val (.ref a1), .val (.int (0 : Int32)), .val (.int z), .val .null, .val (.ref b14)] [(.ref b14), (.ref a)])) (fun t k => XS.aload X34.here hx rfl (hb hby d5_52) rfl rfl k) ?_
    have f37 := ((F1.keep K14 nin0).other W34 (Or.inr (sn_0 hw)))
    have f38 := (f33.wr W34)
    refine own_putF (host := "") X34 hx hZ hown e34 (hb hby d5_54) (Or.inl (own_w hw 32 rfl)) Via.refl f37 f38 (Or.inr ⟨(own_w hw 28 rfl), rfl, hnm⟩) (own_w hw 14 rfl) (ty := (.array .byte)) (by decide) rfl rfl ?_
    intro T39 h39 X39 e39 W39
    show own_Go p e below _ T39 (mkF m 57 #[.val (.ref a), .val (.ref a1), .val (.int (0 : Int32)), .val (.int z), .val .null, .val (.ref b14)] [])
    have F39 := f37.same W39
    have sz40 : n0 ≤ h39.size := by rw [W39.size]; exact sz35
    have K41 := K36.wr W39 (Or.inl (List.mem_of_getElem? (i := 0) rfl))
    have N39 := Fr.snoc X39 N34 g1
    have f42 := (f38.wr W39)
    have f43 := (F34.other W39 (Or.inr (sn_1 hw)))
    have f44 := ((B14.other W34 (Ne.symm ne14_a)).other W39 (Ne.symm ne14_a))
    refine own_retV X39 hx hret hlk (hb hby d5_57) (by decide) (by decide) ?_
    try rw [e39]
    exact ⟨rfl, N39, K41, hn30, hch, f42, b14, _, F39, Or.inr ⟨f43, hz2, hbg, f44⟩⟩
theorem ef_rmI1 (m : MethodId) (x0 : Addr) (x1 : Addr) : entryFrame m #[(.ref x0), (.ref x1)] 2 = mkF m 0 #[.val (.ref x0), .val (.ref x1)] [] := by first | (simp [entryFrame, mkF, argsToLocals, Value.category]; done) | rfl
set_option maxRecDepth 65536 in
set_option maxHeartbeats 40000000 in
theorem rmI1 (l : Launch) (Z : State) (a0 : Array Value) (hw : ∀ d ∈ tables_1, d.before a0 Z = true) (ws : List Jvm.Cond) (a a1 : Addr) (z : Int32) (n : Nat) (f : Nat → Int32) (u1 u2 : Value) (cs : Int32) (fm : Value) (h0 : Heap) (n0 : Nat) (Z0 : n0 ≤ h0.size) (g1 : n0 ≤ a) (hz : z.toInt = n) (hn1 : 1 ≤ n) (hcap : n ≤ 6) (hch : ∀ i, i < n → 0 ≤ (f i).toInt ∧ (f i).toInt < 65536) (A1 : own_A Z h0 a1 .char n f) (ha1 : a1 ≠ a) (E1 : Exa Z h0 a "java/lang/String") (F1 : Fld Z h0 a "java/lang/String" "value" "[B" u1) (F2 : Fld Z h0 a "java/lang/String" "coder" "B" u2) (ST : own_St Z h0 cs fm) :
    own_Ct l Z (⟨"java/lang/String", "<init>", "([C)V"⟩ : MethodName) jdk_42_method_3_code 2 none ws ({ frames := 5, cells := 2, slots := 18, locals := 97 } : Room) #[(.ref a), (.ref a1)] h0 (fun v h L => v = none ∧ Fr n0 L ∧ Keep h0 h [a] ∧ own_JS Z h a n f) := by
  refine own_of (plainFor_of_name pn_java_lang_String) ?_
  intro p e s m below meth c s₁ hx hby hml hown hnm hret hlk hZ X0 e0
  have N0 := Fr.nil n0
  have K0 := Keep.refl h0 [a]
  rw [ef_rmI1]
  refine own_by (T' := s₁) (f' := (mkF m 1 #[.val (.ref a), .val (.ref a1)] [(.ref a)])) (fun t k => XS.aloadN X0.here hx rfl (hb hby d4_0) rfl rfl k) ?_
  refine own_by (T' := s₁) (f' := (mkF m 2 #[.val (.ref a), .val (.ref a1)] [(.ref a1), (.ref a)])) (fun t k => XS.aloadN X0.here hx rfl (hb hby d4_1) rfl rfl k) ?_
  refine own_by (T' := s₁) (f' := (mkF m 3 #[.val (.ref a), .val (.ref a1)] [(.int (0 : Int32)), (.ref a1), (.ref a)])) (fun t k => XS.iconst X0.here hx rfl (hb hby d4_2) k) ?_
  refine own_by (T' := s₁) (f' := (mkF m 4 #[.val (.ref a), .val (.ref a1)] [(.ref a1), (.int (0 : Int32)), (.ref a1), (.ref a)])) (fun t k => XS.aloadN X0.here hx rfl (hb hby d4_3) rfl rfl k) ?_
  refine own_alen (j := z) X0 hx hZ e0 (hb hby d4_4) A1 hz ?_
  show own_Go p e below _ s₁ (mkF m 5 #[.val (.ref a), .val (.ref a1)] [(.int z), (.int (0 : Int32)), (.ref a1), (.ref a)])
  refine own_by (T' := s₁) (f' := (mkF m 6 #[.val (.ref a), .val (.ref a1)] [.null, (.int z), (.int (0 : Int32)), (.ref a1), (.ref a)])) (fun t k => XS.aconstNull X0.here hx rfl (hb hby d4_5) k) ?_
  refine own_callN X0 hx hZ hown e0 (hb hby d4_6) [(.ref a1), (.int (0 : Int32)), (.int z), .null] [] 0 (rmI4 l Z a0 hw [] a a1 z n f _ _ cs fm h0 n0 Z0 g1 hz hn1 hcap hch A1 ha1 E1 F1 F2 ST) (own_w hw 19 rfl) (own_w hw 20 rfl) (own_w hw 15 rfl) (own_w hw 22 rfl) rfl (by decide) pd___CIILjava_lang_Void__V (by rw [hml]; rfl) rfl rfl (Nat.le_of_eq rfl) (by decide) (by decide) (by decide) (by decide) ?_
  rintro T11 _ L11 X11 ⟨rfl, N11q, K11, Q11⟩
  show own_Go p e below _ T11 (mkF m 9 #[.val (.ref a), .val (.ref a1)] [])
  have N11 := Fr.app N0 N11q
  refine own_retV X11 hx hret hlk (hb hby d4_9) (by decide) (by decide) ?_
  exact ⟨rfl, N11, K11, Q11⟩
theorem ef_rmI4e (m : MethodId) (x0 : Addr) (x1 : Addr) (x2 : Int32) (x3 : Int32) : entryFrame m #[(.ref x0), (.ref x1), (.int x2), (.int x3), .null] 6 = mkF m 0 #[.val (.ref x0), .val (.ref x1), .val (.int x2), .val (.int x3), .val .null, .unset] [] := by first | (simp [entryFrame, mkF, argsToLocals, Value.category]; done) | rfl
set_option maxRecDepth 65536 in
set_option maxHeartbeats 40000000 in
theorem rmI4e (l : Launch) (Z : State) (a0 : Array Value) (hw : ∀ d ∈ tables_1, d.before a0 Z = true) (ws : List Jvm.Cond) (a a1 : Addr) (f : Nat → Int32) (u2 : Value) (cs : Int32) (fm : Value) (h0 : Heap) (n0 : Nat) (Z0 : n0 ≤ h0.size) (g1 : n0 ≤ a) (E1 : Exa Z h0 a "java/lang/String") (F1 : Fld Z h0 a "java/lang/String" "value" "[B" .null) (F2 : Fld Z h0 a "java/lang/String" "coder" "B" u2) (ST : own_St Z h0 cs fm) :
    own_CtW l Z consts_1 (⟨"java/lang/String", "<init>", "([CIILjava/lang/Void;)V"⟩ : MethodName) jdk_42_method_149_code 6 none ws ({ frames := 1, cells := 2, slots := 4, locals := 16 } : Room) #[(.ref a), (.ref a1), (.int (0 : Int32)), (.int (0 : Int32)), .null] h0 (fun v h L => v = none ∧ Fr n0 L ∧ Keep h0 h [a] ∧ own_JS Z h a 0 f) := by
  have hEL := own_EW hw
  refine own_ofW (plainFor_of_name pn_java_lang_String) ?_
  intro p e s m below meth c s₁ hx hby hml hown hnm hret hlk hZ X0 e0 hs0 hS hk CH
  have N0 := Fr.nil n0
  have K0 := Keep.refl h0 [a]
  have S_a : Safe Z consts_1 s.vm h0 a := own_safe_new hZ.alike E1 F1
  rw [ef_rmI4e]
  refine own_by (T' := s₁) (f' := (mkF m 1 #[.val (.ref a), .val (.ref a1), .val (.int (0 : Int32)), .val (.int (0 : Int32)), .val .null, .unset] [(.ref a)])) (fun t k => XS.aloadN X0.here hx rfl (hb hby d5_0) rfl rfl k) ?_
  refine own_init X0 hx hZ hown e0 (hb hby d5_1) 0 (own_w hw 23 rfl) (own_w hw 24 rfl) (own_w hw 25 rfl) (by rw [hml]; rfl) (Nat.le_of_eq rfl) (by decide) (by decide) ?_
  intro T11 X11 e11
  show own_Go p e below _ T11 (mkF m 4 #[.val (.ref a), .val (.ref a1), .val (.int (0 : Int32)), .val (.int (0 : Int32)), .val .null, .unset] [])
  refine own_by (T' := T11) (f' := (mkF m 5 #[.val (.ref a), .val (.ref a1), .val (.int (0 : Int32)), .val (.int (0 : Int32)), .val .null, .unset] [(.int (0 : Int32))])) (fun t k => XS.iloadN X11.here hx rfl (hb hby d5_4) rfl k) ?_
  refine own_by (T' := T11) (f' := (mkF m 8 #[.val (.ref a), .val (.ref a1), .val (.int (0 : Int32)), .val (.int (0 : Int32)), .val .null, .unset] [])) (fun t k => XS.ifNo X11.here hx rfl (hb hby d5_5) rfl ((if0 _ _).trans (teq rfl).2) k) ?_
  refine own_by (T' := T11) (f' := (mkF m 9 #[.val (.ref a), .val (.ref a1), .val (.int (0 : Int32)), .val (.int (0 : Int32)), .val .null, .unset] [(.ref a)])) (fun t k => XS.aloadN X11.here hx rfl (hb hby d5_8) rfl rfl k) ?_
  have lt12 := E1.lt
  refine own_ldc (us := []) (z := (0 : Int32)) X11 hx hZ hown e11 (hb hby d5_9) (own_w hw 26 rfl) (own_wS hw) hS hk hEL (by decide) CH own_t_26 (by decide) (by decide) 0 (by decide) (by decide) (by decide) (by decide) ?_
  intro a13 T13 h13 kx13 b13 X13 e13 E13 hS hk hZ hown hW13 CHs13 CH L13 A13 C13 V13 B13 sf13
  show own_Go p e below _ T13 (mkF m 11 #[.val (.ref a), .val (.ref a1), .val (.int (0 : Int32)), .val (.int (0 : Int32)), .val .null, .unset] [(.ref a13), (.ref a)])
  have S_a := CHr.safe CHs13 lt12 S_a
  have sz14 : n0 ≤ h13.size := Nat.le_trans Z0 E13.1
  have K15 := K0.ext E13
  have nea13_a := (sf13 a S_a).1
  have neb13_a := (sf13 a S_a).2
  refine own_getF (host := "") X13 hx hZ hown e13 (hb hby d5_11) (Or.inl (own_w hw 32 rfl)) Via.refl V13 ?_
  intro T16 X16 e16
  show own_Go p e below _ T16 (mkF m 14 #[.val (.ref a), .val (.ref a1), .val (.int (0 : Int32)), .val (.int (0 : Int32)), .val .null, .unset] [(.ref b13), (.ref a)])
  have f17 := (F1.ext E13)
  have f18 := (E1.ext E13)
  refine own_putF (host := "") X16 hx hZ hown e16 (hb hby d5_14) (Or.inl (own_w hw 32 rfl)) Via.refl f17 f18 (Or.inr ⟨(own_w hw 28 rfl), rfl, hnm⟩) (own_w hw 14 rfl) (ty := (.array .byte)) (by decide) rfl rfl ?_
  intro T19 h19 X19 e19 W19
  show own_Go p e below _ T19 (mkF m 17 #[.val (.ref a), .val (.ref a1), .val (.int (0 : Int32)), .val (.int (0 : Int32)), .val .null, .unset] [])
  have F19 := f17.same W19
  have S_a' := Safe.wr W19 S_a CH.1 S_a
  have hk := Nat.le_trans hk (Nat.le_of_eq W19.size.symm)
  have CH := CH.trans (CHr.wr W19 S_a CH.1)
  have S_a := S_a'
  have sz20 : n0 ≤ h19.size := by rw [W19.size]; exact sz14
  have K21 := K15.wr W19 (Or.inl (List.mem_of_getElem? (i := 0) rfl))
  have N19 := Fr.snoc X19 N0 g1
  refine own_by (T' := T19) (f' := (mkF m 18 #[.val (.ref a), .val (.ref a1), .val (.int (0 : Int32)), .val (.int (0 : Int32)), .val .null, .unset] [(.ref a)])) (fun t k => XS.aloadN X19.here hx rfl (hb hby d5_17) rfl rfl k) ?_
  refine own_by (T' := T19) (f' := (mkF m 20 #[.val (.ref a), .val (.ref a1), .val (.int (0 : Int32)), .val (.int (0 : Int32)), .val .null, .unset] [(.ref a13), (.ref a)])) (ldcAgain X19 hx hZ hown (own_w hw 26 rfl) L13 (g := (mkF m 18 #[.val (.ref a), .val (.ref a1), .val (.int (0 : Int32)), .val (.int (0 : Int32)), .val .null, .unset] [(.ref a)])) rfl (hb hby d5_18)) ?_
  have f22 := (C13.other W19 (Or.inl (Ne.symm nea13_a)))
  refine own_getF (host := "") X19 hx hZ hown e19 (hb hby d5_20) (Or.inl (own_w hw 33 rfl)) Via.refl f22 ?_
  intro T23 X23 e23
  show own_Go p e below _ T23 (mkF m 23 #[.val (.ref a), .val (.ref a1), .val (.int (0 : Int32)), .val (.int (0 : Int32)), .val .null, .unset] [(.int (0 : Int32)), (.ref a)])
  have f24 := ((F2.ext E13).other W19 (Or.inr (sn_1 hw)))
  have f25 := (f18.wr W19)
  refine own_putF (host := "") X23 hx hZ hown e23 (hb hby d5_23) (Or.inl (own_w hw 33 rfl)) Via.refl f24 f25 (Or.inr ⟨(own_w hw 29 rfl), rfl, hnm⟩) (own_w hw 14 rfl) (ty := .byte) (by decide) rfl rfl ?_
  intro T26 h26 X26 e26 W26
  show own_Go p e below _ T26 (mkF m 26 #[.val (.ref a), .val (.ref a1), .val (.int (0 : Int32)), .val (.int (0 : Int32)), .val .null, .unset] [])
  have F26 := f24.same W26
  have S_a' := Safe.wr W26 S_a CH.1 S_a
  have hk := Nat.le_trans hk (Nat.le_of_eq W26.size.symm)
  have CH := CH.trans (CHr.wr W26 S_a CH.1)
  have S_a := S_a'
  have sz27 : n0 ≤ h26.size := by rw [W26.size]; exact sz20
  have K28 := K21.wr W26 (Or.inl (List.mem_of_getElem? (i := 0) rfl))
  have N26 := Fr.snoc X26 N19 g1
  have f29 := (f25.wr W26)
  have f30 := (F19.other W26 (Or.inr (sn_0 hw)))
  have f31 := ((B13.other W19 (Ne.symm neb13_a)).other W26 (Ne.symm neb13_a))
  refine own_retWV X26 hx hret hlk hZ hEL hs0 e26 hS hk CH (hb hby d5_26) (by decide) (by decide) ?_
  try rw [e26]
  exact ⟨rfl, N26, K28, by decide, fun i hi => absurd hi (Nat.not_lt_zero i), f29, b13, (0 : Int32), f30, Or.inl ⟨F26, by decide, fun i hi => absurd hi (Nat.not_lt_zero i), f31.congr (fun i hi => absurd hi (Nat.not_lt_zero i))⟩⟩
theorem ef_rmI1e (m : MethodId) (x0 : Addr) (x1 : Addr) : entryFrame m #[(.ref x0), (.ref x1)] 2 = mkF m 0 #[.val (.ref x0), .val (.ref x1)] [] := by first | (simp [entryFrame, mkF, argsToLocals, Value.category]; done) | rfl
set_option maxRecDepth 65536 in
set_option maxHeartbeats 40000000 in
theorem rmI1e (l : Launch) (Z : State) (a0 : Array Value) (hw : ∀ d ∈ tables_1, d.before a0 Z = true) (ws : List Jvm.Cond) (a a1 : Addr) (f : Nat → Int32) (u2 : Value) (cs : Int32) (fm : Value) (h0 : Heap) (n0 : Nat) (Z0 : n0 ≤ h0.size) (g1 : n0 ≤ a) (E1 : Exa Z h0 a "java/lang/String") (F1 : Fld Z h0 a "java/lang/String" "value" "[B" .null) (F2 : Fld Z h0 a "java/lang/String" "coder" "B" u2) (ST : own_St Z h0 cs fm) (A1 : own_A Z h0 a1 .char 0 f) :
    own_CtW l Z consts_1 (⟨"java/lang/String", "<init>", "([C)V"⟩ : MethodName) jdk_42_method_3_code 2 none ws ({ frames := 2, cells := 2, slots := 4, locals := 33 } : Room) #[(.ref a), (.ref a1)] h0 (fun v h L => v = none ∧ Fr n0 L ∧ Keep h0 h [a] ∧ own_JS Z h a 0 f) := by
  have hEL := own_EW hw
  refine own_ofW (plainFor_of_name pn_java_lang_String) ?_
  intro p e s m below meth c s₁ hx hby hml hown hnm hret hlk hZ X0 e0 hs0 hS hk CH
  have N0 := Fr.nil n0
  have K0 := Keep.refl h0 [a]
  have S_a : Safe Z consts_1 s.vm h0 a := own_safe_new hZ.alike E1 F1
  rw [ef_rmI1e]
  refine own_by (T' := s₁) (f' := (mkF m 1 #[.val (.ref a), .val (.ref a1)] [(.ref a)])) (fun t k => XS.aloadN X0.here hx rfl (hb hby d4_0) rfl rfl k) ?_
  refine own_by (T' := s₁) (f' := (mkF m 2 #[.val (.ref a), .val (.ref a1)] [(.ref a1), (.ref a)])) (fun t k => XS.aloadN X0.here hx rfl (hb hby d4_1) rfl rfl k) ?_
  refine own_by (T' := s₁) (f' := (mkF m 3 #[.val (.ref a), .val (.ref a1)] [(.int (0 : Int32)), (.ref a1), (.ref a)])) (fun t k => XS.iconst X0.here hx rfl (hb hby d4_2) k) ?_
  refine own_by (T' := s₁) (f' := (mkF m 4 #[.val (.ref a), .val (.ref a1)] [(.ref a1), (.int (0 : Int32)), (.ref a1), (.ref a)])) (fun t k => XS.aloadN X0.here hx rfl (hb hby d4_3) rfl rfl k) ?_
  refine own_alen (j := (0 : Int32)) X0 hx hZ e0 (hb hby d4_4) A1 (by decide) ?_
  show own_Go p e below _ s₁ (mkF m 5 #[.val (.ref a), .val (.ref a1)] [(.int (0 : Int32)), (.int (0 : Int32)), (.ref a1), (.ref a)])
  refine own_by (T' := s₁) (f' := (mkF m 6 #[.val (.ref a), .val (.ref a1)] [.null, (.int (0 : Int32)), (.int (0 : Int32)), (.ref a1), (.ref a)])) (fun t k => XS.aconstNull X0.here hx rfl (hb hby d4_5) k) ?_
  have lt11 := E1.lt
  refine own_callNW X0 hx hZ hown e0 (hb hby d4_6) hS hk hEL CH [(.ref a1), (.int (0 : Int32)), (.int (0 : Int32)), .null] [] 0 (rmI4e l Z a0 hw [] a a1 f _ cs fm h0 n0 Z0 g1 E1 F1 F2 ST) (own_w hw 19 rfl) (own_w hw 20 rfl) (own_w hw 15 rfl) (own_w hw 22 rfl) rfl (by decide) pd___CIILjava_lang_Void__V (by rw [hml]; rfl) rfl rfl (Nat.le_of_eq rfl) (by decide) (by decide) (by decide) (by decide) ?_
  rintro T12 _ L12 X12 hS hk hZ hown hW12 CHs12 CH ⟨rfl, N12q, K12, Q12⟩
  show own_Go p e below _ T12 (mkF m 9 #[.val (.ref a), .val (.ref a1)] [])
  have S_a := CHr.safe CHs12 lt11 S_a
  have N12 := Fr.app N0 N12q
  refine own_retWV X12 hx hret hlk hZ hEL hs0 rfl hS hk CH (hb hby d4_9) (by decide) (by decide) ?_
  exact ⟨rfl, N12, K12, Q12⟩
theorem ef_rmMN (m : MethodId) (x0 : Int32) (x1 : Int32) : entryFrame m #[(.int x0), (.int x1)] 2 = mkF m 0 #[.val (.int x0), .val (.int x1)] [] := by first | (simp [entryFrame, mkF, argsToLocals, Value.category]; done) | rfl
set_option maxRecDepth 65536 in
set_option maxHeartbeats 40000000 in
theorem rmMN (l : Launch) (Z : State) (a0 : Array Value) (hw : ∀ d ∈ tables_1, d.before a0 Z = true) (ws : List Jvm.Cond) (p1 p2 : Int32) (h0 : Heap)  :
    own_Ct l Z (⟨"java/lang/Math", "min", "(II)I"⟩ : MethodName) jdk_29_method_69_code 2 (some .int) ws ({ frames := 0, cells := 0, slots := 0, locals := 0 } : Room) #[(.int p1), (.int p2)] h0 (fun v h L => v = some (.int (if p2 < p1 then p2 else p1)) ∧ L = [] ∧ h = h0) := by
  refine own_of pf_java_lang_Mathmin_II_I ?_
  intro p e s m below meth c s₁ hx hby hml hown hnm hret hlk hZ X0 e0
  rw [ef_rmMN]
  refine own_by (T' := s₁) (f' := (mkF m 1 #[.val (.int p1), .val (.int p2)] [(.int p1)])) (fun t k => XS.iloadN X0.here hx rfl (hb hby d1_0) rfl k) ?_
  refine own_by (T' := s₁) (f' := (mkF m 2 #[.val (.int p1), .val (.int p2)] [(.int p2), (.int p1)])) (fun t k => XS.iloadN X0.here hx rfl (hb hby d1_1) rfl k) ?_
  by_cases hc2_1 : p2 < p1
  · have _ := X0
    refine own_by (T' := s₁) (f' := (mkF m 9 #[.val (.int p1), .val (.int p2)] [])) (fun t k => XS.icmpYes X0.here hx rfl (pc0 := 2) (pc' := 9) rfl (hb hby d1_2) rfl (tlt hc2_1).2.2.1 (by decide) (by decide) k) ?_
    refine own_by (T' := s₁) (f' := (mkF m 10 #[.val (.int p1), .val (.int p2)] [(.int p2)])) (fun t k => XS.iloadN X0.here hx rfl (hb hby d1_9) rfl k) ?_
    refine own_retI X0 hx hret hlk (hb hby d1_10) (by decide) (by decide) ?_
    try rw [e0]
    exact ⟨by rw [if_pos hc2_1], rfl, rfl⟩
  · have _ := X0
    refine own_by (T' := s₁) (f' := (mkF m 5 #[.val (.int p1), .val (.int p2)] [])) (fun t k => XS.icmpNo X0.here hx rfl (hb hby d1_2) rfl (flt hc2_1).2.2.1 k) ?_
    refine own_by (T' := s₁) (f' := (mkF m 6 #[.val (.int p1), .val (.int p2)] [(.int p1)])) (fun t k => XS.iloadN X0.here hx rfl (hb hby d1_5) rfl k) ?_
    refine own_by (T' := s₁) (f' := (mkF m 10 #[.val (.int p1), .val (.int p2)] [(.int p1)])) (fun t k => XS.goto X0.here hx rfl (pc0 := 6) (pc' := 10) rfl (hb hby d1_6) (by decide) (by decide) k) ?_
    refine own_retI X0 hx hret hlk (hb hby d1_10) (by decide) (by decide) ?_
    try rw [e0]
    exact ⟨by rw [if_neg hc2_1], rfl, rfl⟩
theorem ef_rmCH (m : MethodId) (x0 : Int32) : entryFrame m #[(.int x0)] 3 = mkF m 0 #[.val (.int x0), .unset, .unset] [] := by first | (simp [entryFrame, mkF, argsToLocals, Value.category]; done) | rfl
set_option maxRecDepth 65536 in
set_option maxHeartbeats 40000000 in
theorem rmCH (l : Launch) (Z : State) (a0 : Array Value) (hw : ∀ d ∈ tables_1, d.before a0 Z = true) (ws : List Jvm.Cond) (p1 : Int32) (h0 : Heap)  :
    own_Ct l Z (⟨"com/example/kissena/kissena/ColumnsIsDecimalPinLaw", "ch", "(I)C"⟩ : MethodName) method_3_code 3 (some .char) ws ({ frames := 0, cells := 0, slots := 0, locals := 0 } : Room) #[(.int p1)] h0 (fun v h L => ∃ c : Int32, v = some (.int c) ∧ (0 ≤ c.toInt ∧ c.toInt < 65536) ∧ L = [] ∧ h = h0) := by
  refine own_of (plainFor_of_name pn_com_example_kissena_kissena_ColumnsIsDecimalPinLaw) ?_
  intro p e s m below meth c s₁ hx hby hml hown hnm hret hlk hZ X0 e0
  rw [ef_rmCH]
  refine own_by (T' := s₁) (f' := (mkF m 1 #[.val (.int p1), .unset, .unset] [(.int p1)])) (fun t k => XS.iloadN X0.here hx rfl (hb hby d2_0) rfl k) ?_
  refine own_by (T' := s₁) (f' := (mkF m 3 #[.val (.int p1), .unset, .unset] [(.int (15 : Int32)), (.int p1)])) (fun t k => XS.bipush X0.here hx rfl (hb hby d2_1) k) ?_
  refine own_by (T' := s₁) (f' := (mkF m 4 #[.val (.int p1), .unset, .unset] [(.int (p1 &&& (15 : Int32)))])) (fun t k => XS.iand X0.here hx rfl (hb hby d2_3) rfl k) ?_
  refine own_by (T' := s₁) (f' := (mkF m 5 #[.val (.int p1), .val (.int (p1 &&& (15 : Int32))), .unset] [])) (fun t k => XS.istoreN X0.here hx rfl (hb hby d2_4) rfl (l' := #[.val (.int p1), .val (.int (p1 &&& (15 : Int32))), .unset]) rfl k) ?_
  refine own_by (T' := s₁) (f' := (mkF m 6 #[.val (.int p1), .val (.int (p1 &&& (15 : Int32))), .unset] [(.int p1)])) (fun t k => XS.iloadN X0.here hx rfl (hb hby d2_5) rfl k) ?_
  refine own_by (T' := s₁) (f' := (mkF m 7 #[.val (.int p1), .val (.int (p1 &&& (15 : Int32))), .unset] [(.int (4 : Int32)), (.int p1)])) (fun t k => XS.iconst X0.here hx rfl (hb hby d2_6) k) ?_
  refine own_by (T' := s₁) (f' := (mkF m 8 #[.val (.int p1), .val (.int (p1 &&& (15 : Int32))), .unset] [(.int ((p1.toUInt32 >>> ((4 : Int32) &&& 31).toUInt32).toInt32))])) (fun t k => XS.iushr X0.here hx rfl (hb hby d2_7) rfl k) ?_
  refine own_by (T' := s₁) (f' := (mkF m 10 #[.val (.int p1), .val (.int (p1 &&& (15 : Int32))), .unset] [(.int (65535 : Int32)), (.int ((p1.toUInt32 >>> ((4 : Int32) &&& 31).toUInt32).toInt32))])) (fun t k => X0.ldcInt hx hown (mvT hZ (own_w hw 8 rfl)) (g := (mkF m 8 #[.val (.int p1), .val (.int (p1 &&& (15 : Int32))), .unset] [(.int ((p1.toUInt32 >>> ((4 : Int32) &&& 31).toUInt32).toInt32))])) rfl (hb hby d2_8) _ k) ?_
  refine own_by (T' := s₁) (f' := (mkF m 11 #[.val (.int p1), .val (.int (p1 &&& (15 : Int32))), .unset] [(.int (((p1.toUInt32 >>> ((4 : Int32) &&& 31).toUInt32).toInt32) &&& (65535 : Int32)))])) (fun t k => XS.iand X0.here hx rfl (hb hby d2_10) rfl k) ?_
  refine own_by (T' := s₁) (f' := (mkF m 12 #[.val (.int p1), .val (.int (p1 &&& (15 : Int32))), .val (.int (((p1.toUInt32 >>> ((4 : Int32) &&& 31).toUInt32).toInt32) &&& (65535 : Int32)))] [])) (fun t k => XS.istoreN X0.here hx rfl (hb hby d2_11) rfl (l' := #[.val (.int p1), .val (.int (p1 &&& (15 : Int32))), .val (.int (((p1.toUInt32 >>> ((4 : Int32) &&& 31).toUInt32).toInt32) &&& (65535 : Int32)))]) rfl k) ?_
  refine own_by (T' := s₁) (f' := (mkF m 13 #[.val (.int p1), .val (.int (p1 &&& (15 : Int32))), .val (.int (((p1.toUInt32 >>> ((4 : Int32) &&& 31).toUInt32).toInt32) &&& (65535 : Int32)))] [(.int (p1 &&& (15 : Int32)))])) (fun t k => XS.iloadN X0.here hx rfl (hb hby d2_12) rfl k) ?_
  refine own_by (T' := s₁) (f' := (mkF m 14 #[.val (.int p1), .val (.int (p1 &&& (15 : Int32))), .val (.int (((p1.toUInt32 >>> ((4 : Int32) &&& 31).toUInt32).toInt32) &&& (65535 : Int32)))] [(.int (4 : Int32)), (.int (p1 &&& (15 : Int32)))])) (fun t k => XS.iconst X0.here hx rfl (hb hby d2_13) k) ?_
  by_cases hc14_1 : (p1 &&& (15 : Int32)) < (4 : Int32)
  · have _ := X0
    refine own_by (T' := s₁) (f' := (mkF m 17 #[.val (.int p1), .val (.int (p1 &&& (15 : Int32))), .val (.int (((p1.toUInt32 >>> ((4 : Int32) &&& 31).toUInt32).toInt32) &&& (65535 : Int32)))] [])) (fun t k => XS.icmpNo X0.here hx rfl (hb hby d2_14) rfl (tlt hc14_1).2.1 k) ?_
    refine own_by (T' := s₁) (f' := (mkF m 19 #[.val (.int p1), .val (.int (p1 &&& (15 : Int32))), .val (.int (((p1.toUInt32 >>> ((4 : Int32) &&& 31).toUInt32).toInt32) &&& (65535 : Int32)))] [(.int (48 : Int32))])) (fun t k => XS.bipush X0.here hx rfl (hb hby d2_17) k) ?_
    refine own_by (T' := s₁) (f' := (mkF m 20 #[.val (.int p1), .val (.int (p1 &&& (15 : Int32))), .val (.int (((p1.toUInt32 >>> ((4 : Int32) &&& 31).toUInt32).toInt32) &&& (65535 : Int32)))] [(.int (((p1.toUInt32 >>> ((4 : Int32) &&& 31).toUInt32).toInt32) &&& (65535 : Int32))), (.int (48 : Int32))])) (fun t k => XS.iloadN X0.here hx rfl (hb hby d2_19) rfl k) ?_
    refine own_by (T' := s₁) (f' := (mkF m 22 #[.val (.int p1), .val (.int (p1 &&& (15 : Int32))), .val (.int (((p1.toUInt32 >>> ((4 : Int32) &&& 31).toUInt32).toInt32) &&& (65535 : Int32)))] [(.int (10 : Int32)), (.int (((p1.toUInt32 >>> ((4 : Int32) &&& 31).toUInt32).toInt32) &&& (65535 : Int32))), (.int (48 : Int32))])) (fun t k => XS.bipush X0.here hx rfl (hb hby d2_20) k) ?_
    refine own_by (T' := s₁) (f' := (mkF m 23 #[.val (.int p1), .val (.int (p1 &&& (15 : Int32))), .val (.int (((p1.toUInt32 >>> ((4 : Int32) &&& 31).toUInt32).toInt32) &&& (65535 : Int32)))] [(.int ((((p1.toUInt32 >>> ((4 : Int32) &&& 31).toUInt32).toInt32) &&& (65535 : Int32)) % (10 : Int32))), (.int (48 : Int32))])) (fun t k => iremM X0 hx rfl (hb hby d2_22) rfl (by decide) k) ?_
    refine own_by (T' := s₁) (f' := (mkF m 24 #[.val (.int p1), .val (.int (p1 &&& (15 : Int32))), .val (.int (((p1.toUInt32 >>> ((4 : Int32) &&& 31).toUInt32).toInt32) &&& (65535 : Int32)))] [(.int ((48 : Int32) + ((((p1.toUInt32 >>> ((4 : Int32) &&& 31).toUInt32).toInt32) &&& (65535 : Int32)) % (10 : Int32))))])) (fun t k => XS.iadd X0.here hx rfl (hb hby d2_23) rfl k) ?_
    refine own_by (T' := s₁) (f' := (mkF m 25 #[.val (.int p1), .val (.int (p1 &&& (15 : Int32))), .val (.int (((p1.toUInt32 >>> ((4 : Int32) &&& 31).toUInt32).toInt32) &&& (65535 : Int32)))] [(.int (((48 : Int32) + ((((p1.toUInt32 >>> ((4 : Int32) &&& 31).toUInt32).toInt32) &&& (65535 : Int32)) % (10 : Int32))).toUInt32.toUInt16.toUInt32.toInt32))])) (fun t k => XS.i2c X0.here hx rfl (hb hby d2_24) rfl k) ?_
    refine own_ret X0 hx hret hlk (hb hby d2_25) (own_narC (own_chr _).1 (own_chr _).2) (Or.inl ⟨rfl, Or.inr (Or.inr (Or.inr (Or.inl rfl))), _, rfl⟩) (by decide) (by decide) ?_
    try rw [e0]
    exact ⟨_, rfl, own_chr _, rfl, rfl⟩
  · have _ := X0
    refine own_by (T' := s₁) (f' := (mkF m 26 #[.val (.int p1), .val (.int (p1 &&& (15 : Int32))), .val (.int (((p1.toUInt32 >>> ((4 : Int32) &&& 31).toUInt32).toInt32) &&& (65535 : Int32)))] [])) (fun t k => XS.icmpYes X0.here hx rfl (pc0 := 14) (pc' := 26) rfl (hb hby d2_14) rfl (flt hc14_1).2.1 (by decide) (by decide) k) ?_
    refine own_by (T' := s₁) (f' := (mkF m 27 #[.val (.int p1), .val (.int (p1 &&& (15 : Int32))), .val (.int (((p1.toUInt32 >>> ((4 : Int32) &&& 31).toUInt32).toInt32) &&& (65535 : Int32)))] [(.int (p1 &&& (15 : Int32)))])) (fun t k => XS.iloadN X0.here hx rfl (hb hby d2_26) rfl k) ?_
    refine own_by (T' := s₁) (f' := (mkF m 28 #[.val (.int p1), .val (.int (p1 &&& (15 : Int32))), .val (.int (((p1.toUInt32 >>> ((4 : Int32) &&& 31).toUInt32).toInt32) &&& (65535 : Int32)))] [(.int (4 : Int32)), (.int (p1 &&& (15 : Int32)))])) (fun t k => XS.iconst X0.here hx rfl (hb hby d2_27) k) ?_
    by_cases hc28_2 : (p1 &&& (15 : Int32)) = (4 : Int32)
    · have _ := X0
      refine own_by (T' := s₁) (f' := (mkF m 31 #[.val (.int p1), .val (.int (p1 &&& (15 : Int32))), .val (.int (((p1.toUInt32 >>> ((4 : Int32) &&& 31).toUInt32).toInt32) &&& (65535 : Int32)))] [])) (fun t k => XS.icmpNo X0.here hx rfl (hb hby d2_28) rfl (teq hc28_2).2 k) ?_
      refine own_by (T' := s₁) (f' := (mkF m 33 #[.val (.int p1), .val (.int (p1 &&& (15 : Int32))), .val (.int (((p1.toUInt32 >>> ((4 : Int32) &&& 31).toUInt32).toInt32) &&& (65535 : Int32)))] [(.int (46 : Int32))])) (fun t k => XS.bipush X0.here hx rfl (hb hby d2_31) k) ?_
      refine own_ret X0 hx hret hlk (hb hby d2_33) rfl (Or.inl ⟨rfl, Or.inr (Or.inr (Or.inr (Or.inl rfl))), _, rfl⟩) (by decide) (by decide) ?_
      try rw [e0]
      exact ⟨_, rfl, by decide, rfl, rfl⟩
    · have _ := X0
      refine own_by (T' := s₁) (f' := (mkF m 34 #[.val (.int p1), .val (.int (p1 &&& (15 : Int32))), .val (.int (((p1.toUInt32 >>> ((4 : Int32) &&& 31).toUInt32).toInt32) &&& (65535 : Int32)))] [])) (fun t k => XS.icmpYes X0.here hx rfl (pc0 := 28) (pc' := 34) rfl (hb hby d2_28) rfl (feq hc28_2).2 (by decide) (by decide) k) ?_
      refine own_by (T' := s₁) (f' := (mkF m 35 #[.val (.int p1), .val (.int (p1 &&& (15 : Int32))), .val (.int (((p1.toUInt32 >>> ((4 : Int32) &&& 31).toUInt32).toInt32) &&& (65535 : Int32)))] [(.int (p1 &&& (15 : Int32)))])) (fun t k => XS.iloadN X0.here hx rfl (hb hby d2_34) rfl k) ?_
      refine own_by (T' := s₁) (f' := (mkF m 36 #[.val (.int p1), .val (.int (p1 &&& (15 : Int32))), .val (.int (((p1.toUInt32 >>> ((4 : Int32) &&& 31).toUInt32).toInt32) &&& (65535 : Int32)))] [(.int (5 : Int32)), (.int (p1 &&& (15 : Int32)))])) (fun t k => XS.iconst X0.here hx rfl (hb hby d2_35) k) ?_
      by_cases hc36_3 : (p1 &&& (15 : Int32)) = (5 : Int32)
      · have _ := X0
        refine own_by (T' := s₁) (f' := (mkF m 39 #[.val (.int p1), .val (.int (p1 &&& (15 : Int32))), .val (.int (((p1.toUInt32 >>> ((4 : Int32) &&& 31).toUInt32).toInt32) &&& (65535 : Int32)))] [])) (fun t k => XS.icmpNo X0.here hx rfl (hb hby d2_36) rfl (teq hc36_3).2 k) ?_
        refine own_by (T' := s₁) (f' := (mkF m 41 #[.val (.int p1), .val (.int (p1 &&& (15 : Int32))), .val (.int (((p1.toUInt32 >>> ((4 : Int32) &&& 31).toUInt32).toInt32) &&& (65535 : Int32)))] [(.int (43 : Int32))])) (fun t k => XS.bipush X0.here hx rfl (hb hby d2_39) k) ?_
        refine own_ret X0 hx hret hlk (hb hby d2_41) rfl (Or.inl ⟨rfl, Or.inr (Or.inr (Or.inr (Or.inl rfl))), _, rfl⟩) (by decide) (by decide) ?_
        try rw [e0]
        exact ⟨_, rfl, by decide, rfl, rfl⟩
      · have _ := X0
        refine own_by (T' := s₁) (f' := (mkF m 42 #[.val (.int p1), .val (.int (p1 &&& (15 : Int32))), .val (.int (((p1.toUInt32 >>> ((4 : Int32) &&& 31).toUInt32).toInt32) &&& (65535 : Int32)))] [])) (fun t k => XS.icmpYes X0.here hx rfl (pc0 := 36) (pc' := 42) rfl (hb hby d2_36) rfl (feq hc36_3).2 (by decide) (by decide) k) ?_
        refine own_by (T' := s₁) (f' := (mkF m 43 #[.val (.int p1), .val (.int (p1 &&& (15 : Int32))), .val (.int (((p1.toUInt32 >>> ((4 : Int32) &&& 31).toUInt32).toInt32) &&& (65535 : Int32)))] [(.int (p1 &&& (15 : Int32)))])) (fun t k => XS.iloadN X0.here hx rfl (hb hby d2_42) rfl k) ?_
        refine own_by (T' := s₁) (f' := (mkF m 45 #[.val (.int p1), .val (.int (p1 &&& (15 : Int32))), .val (.int (((p1.toUInt32 >>> ((4 : Int32) &&& 31).toUInt32).toInt32) &&& (65535 : Int32)))] [(.int (6 : Int32)), (.int (p1 &&& (15 : Int32)))])) (fun t k => XS.bipush X0.here hx rfl (hb hby d2_43) k) ?_
        by_cases hc45_4 : (p1 &&& (15 : Int32)) = (6 : Int32)
        · have _ := X0
          refine own_by (T' := s₁) (f' := (mkF m 48 #[.val (.int p1), .val (.int (p1 &&& (15 : Int32))), .val (.int (((p1.toUInt32 >>> ((4 : Int32) &&& 31).toUInt32).toInt32) &&& (65535 : Int32)))] [])) (fun t k => XS.icmpNo X0.here hx rfl (hb hby d2_45) rfl (teq hc45_4).2 k) ?_
          refine own_by (T' := s₁) (f' := (mkF m 50 #[.val (.int p1), .val (.int (p1 &&& (15 : Int32))), .val (.int (((p1.toUInt32 >>> ((4 : Int32) &&& 31).toUInt32).toInt32) &&& (65535 : Int32)))] [(.int (45 : Int32))])) (fun t k => XS.bipush X0.here hx rfl (hb hby d2_48) k) ?_
          refine own_ret X0 hx hret hlk (hb hby d2_50) rfl (Or.inl ⟨rfl, Or.inr (Or.inr (Or.inr (Or.inl rfl))), _, rfl⟩) (by decide) (by decide) ?_
          try rw [e0]
          exact ⟨_, rfl, by decide, rfl, rfl⟩
        · have _ := X0
          refine own_by (T' := s₁) (f' := (mkF m 51 #[.val (.int p1), .val (.int (p1 &&& (15 : Int32))), .val (.int (((p1.toUInt32 >>> ((4 : Int32) &&& 31).toUInt32).toInt32) &&& (65535 : Int32)))] [])) (fun t k => XS.icmpYes X0.here hx rfl (pc0 := 45) (pc' := 51) rfl (hb hby d2_45) rfl (feq hc45_4).2 (by decide) (by decide) k) ?_
          refine own_by (T' := s₁) (f' := (mkF m 52 #[.val (.int p1), .val (.int (p1 &&& (15 : Int32))), .val (.int (((p1.toUInt32 >>> ((4 : Int32) &&& 31).toUInt32).toInt32) &&& (65535 : Int32)))] [(.int (p1 &&& (15 : Int32)))])) (fun t k => XS.iloadN X0.here hx rfl (hb hby d2_51) rfl k) ?_
          refine own_by (T' := s₁) (f' := (mkF m 54 #[.val (.int p1), .val (.int (p1 &&& (15 : Int32))), .val (.int (((p1.toUInt32 >>> ((4 : Int32) &&& 31).toUInt32).toInt32) &&& (65535 : Int32)))] [(.int (7 : Int32)), (.int (p1 &&& (15 : Int32)))])) (fun t k => XS.bipush X0.here hx rfl (hb hby d2_52) k) ?_
          by_cases hc54_5 : (p1 &&& (15 : Int32)) = (7 : Int32)
          · have _ := X0
            refine own_by (T' := s₁) (f' := (mkF m 57 #[.val (.int p1), .val (.int (p1 &&& (15 : Int32))), .val (.int (((p1.toUInt32 >>> ((4 : Int32) &&& 31).toUInt32).toInt32) &&& (65535 : Int32)))] [])) (fun t k => XS.icmpNo X0.here hx rfl (hb hby d2_54) rfl (teq hc54_5).2 k) ?_
            refine own_by (T' := s₁) (f' := (mkF m 59 #[.val (.int p1), .val (.int (p1 &&& (15 : Int32))), .val (.int (((p1.toUInt32 >>> ((4 : Int32) &&& 31).toUInt32).toInt32) &&& (65535 : Int32)))] [(.int (101 : Int32))])) (fun t k => XS.bipush X0.here hx rfl (hb hby d2_57) k) ?_
            refine own_ret X0 hx hret hlk (hb hby d2_59) rfl (Or.inl ⟨rfl, Or.inr (Or.inr (Or.inr (Or.inl rfl))), _, rfl⟩) (by decide) (by decide) ?_
            try rw [e0]
            exact ⟨_, rfl, by decide, rfl, rfl⟩
          · have _ := X0
            refine own_by (T' := s₁) (f' := (mkF m 60 #[.val (.int p1), .val (.int (p1 &&& (15 : Int32))), .val (.int (((p1.toUInt32 >>> ((4 : Int32) &&& 31).toUInt32).toInt32) &&& (65535 : Int32)))] [])) (fun t k => XS.icmpYes X0.here hx rfl (pc0 := 54) (pc' := 60) rfl (hb hby d2_54) rfl (feq hc54_5).2 (by decide) (by decide) k) ?_
            refine own_by (T' := s₁) (f' := (mkF m 61 #[.val (.int p1), .val (.int (p1 &&& (15 : Int32))), .val (.int (((p1.toUInt32 >>> ((4 : Int32) &&& 31).toUInt32).toInt32) &&& (65535 : Int32)))] [(.int (p1 &&& (15 : Int32)))])) (fun t k => XS.iloadN X0.here hx rfl (hb hby d2_60) rfl k) ?_
            refine own_by (T' := s₁) (f' := (mkF m 63 #[.val (.int p1), .val (.int (p1 &&& (15 : Int32))), .val (.int (((p1.toUInt32 >>> ((4 : Int32) &&& 31).toUInt32).toInt32) &&& (65535 : Int32)))] [(.int (8 : Int32)), (.int (p1 &&& (15 : Int32)))])) (fun t k => XS.bipush X0.here hx rfl (hb hby d2_61) k) ?_
            by_cases hc63_6 : (p1 &&& (15 : Int32)) = (8 : Int32)
            · have _ := X0
              refine own_by (T' := s₁) (f' := (mkF m 66 #[.val (.int p1), .val (.int (p1 &&& (15 : Int32))), .val (.int (((p1.toUInt32 >>> ((4 : Int32) &&& 31).toUInt32).toInt32) &&& (65535 : Int32)))] [])) (fun t k => XS.icmpNo X0.here hx rfl (hb hby d2_63) rfl (teq hc63_6).2 k) ?_
              refine own_by (T' := s₁) (f' := (mkF m 68 #[.val (.int p1), .val (.int (p1 &&& (15 : Int32))), .val (.int (((p1.toUInt32 >>> ((4 : Int32) &&& 31).toUInt32).toInt32) &&& (65535 : Int32)))] [(.int (69 : Int32))])) (fun t k => XS.bipush X0.here hx rfl (hb hby d2_66) k) ?_
              refine own_ret X0 hx hret hlk (hb hby d2_68) rfl (Or.inl ⟨rfl, Or.inr (Or.inr (Or.inr (Or.inl rfl))), _, rfl⟩) (by decide) (by decide) ?_
              try rw [e0]
              exact ⟨_, rfl, by decide, rfl, rfl⟩
            · have _ := X0
              refine own_by (T' := s₁) (f' := (mkF m 69 #[.val (.int p1), .val (.int (p1 &&& (15 : Int32))), .val (.int (((p1.toUInt32 >>> ((4 : Int32) &&& 31).toUInt32).toInt32) &&& (65535 : Int32)))] [])) (fun t k => XS.icmpYes X0.here hx rfl (pc0 := 63) (pc' := 69) rfl (hb hby d2_63) rfl (feq hc63_6).2 (by decide) (by decide) k) ?_
              refine own_by (T' := s₁) (f' := (mkF m 70 #[.val (.int p1), .val (.int (p1 &&& (15 : Int32))), .val (.int (((p1.toUInt32 >>> ((4 : Int32) &&& 31).toUInt32).toInt32) &&& (65535 : Int32)))] [(.int (((p1.toUInt32 >>> ((4 : Int32) &&& 31).toUInt32).toInt32) &&& (65535 : Int32)))])) (fun t k => XS.iloadN X0.here hx rfl (hb hby d2_69) rfl k) ?_
              refine own_by (T' := s₁) (f' := (mkF m 71 #[.val (.int p1), .val (.int (p1 &&& (15 : Int32))), .val (.int (((p1.toUInt32 >>> ((4 : Int32) &&& 31).toUInt32).toInt32) &&& (65535 : Int32)))] [(.int ((((p1.toUInt32 >>> ((4 : Int32) &&& 31).toUInt32).toInt32) &&& (65535 : Int32)).toUInt32.toUInt16.toUInt32.toInt32))])) (fun t k => XS.i2c X0.here hx rfl (hb hby d2_70) rfl k) ?_
              refine own_ret X0 hx hret hlk (hb hby d2_71) (own_narC (own_chr _).1 (own_chr _).2) (Or.inl ⟨rfl, Or.inr (Or.inr (Or.inr (Or.inl rfl))), _, rfl⟩) (by decide) (by decide) ?_
              try rw [e0]
              exact ⟨_, rfl, own_chr _, rfl, rfl⟩
theorem ef_rmMK0 (m : MethodId) (x0 : Int32) (x1 : Int32) (x2 : Int32) (x3 : Int32) (x4 : Int32) (x5 : Int32) (x6 : Int32) : entryFrame m #[(.int x0), (.int x1), (.int x2), (.int x3), (.int x4), (.int x5), (.int x6)] 7 = mkF m 0 #[.val (.int x0), .val (.int x1), .val (.int x2), .val (.int x3), .val (.int x4), .val (.int x5), .val (.int x6)] [] := by first | (simp [entryFrame, mkF, argsToLocals, Value.category]; done) | rfl
set_option maxRecDepth 65536 in
set_option maxHeartbeats 40000000 in
theorem rmMK0 (l : Launch) (Z : State) (a0 : Array Value) (hw : ∀ d ∈ tables_1, d.before a0 Z = true) (ws : List Jvm.Cond) (c0 c1 c2 c3 c4 c5 : Int32) (h0 : Heap) (n0 : Nat) (Z0 : n0 ≤ h0.size) (hc0 : 0 ≤ c0.toInt ∧ c0.toInt < 65536) (hc1 : 0 ≤ c1.toInt ∧ c1.toInt < 65536) (hc2 : 0 ≤ c2.toInt ∧ c2.toInt < 65536) (hc3 : 0 ≤ c3.toInt ∧ c3.toInt < 65536) (hc4 : 0 ≤ c4.toInt ∧ c4.toInt < 65536) (hc5 : 0 ≤ c5.toInt ∧ c5.toInt < 65536) :
    own_Ct l Z (⟨"com/example/kissena/kissena/ColumnsIsDecimalPinLaw", "make", "(ICCCCCC)[C"⟩ : MethodName) method_4_code 7 (some (.array .char)) ws ({ frames := 0, cells := 1, slots := 6, locals := 0 } : Room) #[(.int (0 : Int32)), (.int c0), (.int c1), (.int c2), (.int c3), (.int c4), (.int c5)] h0 (fun v h L => ∃ b : Addr, v = some (.ref b) ∧ Fr n0 L ∧ Keep h0 h [] ∧ h0.size ≤ b ∧ own_A Z h b .char 0 (fun i => List.getD [] i 0)) := by
  refine own_of (plainFor_of_name pn_com_example_kissena_kissena_ColumnsIsDecimalPinLaw) ?_
  intro p e s m below meth c s₁ hx hby hml hown hnm hret hlk hZ X0 e0
  have N0 := Fr.nil n0
  have K0 := Keep.refl h0 []
  rw [ef_rmMK0]
  refine own_by (T' := s₁) (f' := (mkF m 1 #[.val (.int (0 : Int32)), .val (.int c0), .val (.int c1), .val (.int c2), .val (.int c3), .val (.int c4), .val (.int c5)] [(.int (0 : Int32))])) (fun t k => XS.iloadN X0.here hx rfl (hb hby d3_0) rfl k) ?_
  refine own_by (T' := s₁) (f' := (mkF m 4 #[.val (.int (0 : Int32)), .val (.int c0), .val (.int c1), .val (.int c2), .val (.int c3), .val (.int c4), .val (.int c5)] [])) (fun t k => XS.ifNo X0.here hx rfl (hb hby d3_1) rfl ((if0 _ _).trans (teq rfl).2) k) ?_
  refine own_by (T' := s₁) (f' := (mkF m 5 #[.val (.int (0 : Int32)), .val (.int c0), .val (.int c1), .val (.int c2), .val (.int c3), .val (.int c4), .val (.int c5)] [(.int (0 : Int32))])) (fun t k => XS.iconst X0.here hx rfl (hb hby d3_4) k) ?_
  refine own_mkA X0 hx hZ e0 (hb hby d3_5) (own_w hw 12 rfl) (v := 0) rfl (by decide) 0 (by decide) (by decide) (by decide) (by decide) ?_
  intro T11 h11 b11 X11 e11 g11 E11 A11r
  have gn11 : n0 ≤ b11 := by rw [g11]; exact Z0
  have gh11 : h0.size ≤ b11 := by rw [g11]; exact K0.1
  show own_Go p e below _ T11 (mkF m 7 #[.val (.int (0 : Int32)), .val (.int c0), .val (.int c1), .val (.int c2), .val (.int c3), .val (.int c4), .val (.int c5)] [(.ref b11)])
  have A11 : own_A Z h11 b11 .char 0 (fun _ => 0) := A11r
  have sz12 : n0 ≤ h11.size := Nat.le_trans Z0 E11.1
  have K13 := K0.ext E11
  have A14 : own_A Z h11 b11 .char 0 (fun i => List.getD [] i 0) := A11.congr (fun i hi => by match i, hi with  | (q + 0), h => exact absurd h (by omega))
  refine own_retA X11 hx hret hlk (hb hby d3_7) rfl rfl rfl (by decide) (by decide) ?_
  try rw [e11]
  exact ⟨b11, rfl, N0, K13, gh11, A14⟩
theorem ef_rmMK1 (m : MethodId) (x0 : Int32) (x1 : Int32) (x2 : Int32) (x3 : Int32) (x4 : Int32) (x5 : Int32) (x6 : Int32) : entryFrame m #[(.int x0), (.int x1), (.int x2), (.int x3), (.int x4), (.int x5), (.int x6)] 7 = mkF m 0 #[.val (.int x0), .val (.int x1), .val (.int x2), .val (.int x3), .val (.int x4), .val (.int x5), .val (.int x6)] [] := by first | (simp [entryFrame, mkF, argsToLocals, Value.category]; done) | rfl
set_option maxRecDepth 65536 in
set_option maxHeartbeats 40000000 in
theorem rmMK1 (l : Launch) (Z : State) (a0 : Array Value) (hw : ∀ d ∈ tables_1, d.before a0 Z = true) (ws : List Jvm.Cond) (c0 c1 c2 c3 c4 c5 : Int32) (h0 : Heap) (n0 : Nat) (Z0 : n0 ≤ h0.size) (hc0 : 0 ≤ c0.toInt ∧ c0.toInt < 65536) (hc1 : 0 ≤ c1.toInt ∧ c1.toInt < 65536) (hc2 : 0 ≤ c2.toInt ∧ c2.toInt < 65536) (hc3 : 0 ≤ c3.toInt ∧ c3.toInt < 65536) (hc4 : 0 ≤ c4.toInt ∧ c4.toInt < 65536) (hc5 : 0 ≤ c5.toInt ∧ c5.toInt < 65536) :
    own_Ct l Z (⟨"com/example/kissena/kissena/ColumnsIsDecimalPinLaw", "make", "(ICCCCCC)[C"⟩ : MethodName) method_4_code 7 (some (.array .char)) ws ({ frames := 0, cells := 1, slots := 6, locals := 0 } : Room) #[(.int (1 : Int32)), (.int c0), (.int c1), (.int c2), (.int c3), (.int c4), (.int c5)] h0 (fun v h L => ∃ b : Addr, v = some (.ref b) ∧ Fr n0 L ∧ Keep h0 h [] ∧ h0.size ≤ b ∧ own_A Z h b .char 1 (fun i => List.getD [c0] i 0)) := by
  refine own_of (plainFor_of_name pn_com_example_kissena_kissena_ColumnsIsDecimalPinLaw) ?_
  intro p e s m below meth c s₁ hx hby hml hown hnm hret hlk hZ X0 e0
  have N0 := Fr.nil n0
  have K0 := Keep.refl h0 []
  rw [ef_rmMK1]
  refine own_by (T' := s₁) (f' := (mkF m 1 #[.val (.int (1 : Int32)), .val (.int c0), .val (.int c1), .val (.int c2), .val (.int c3), .val (.int c4), .val (.int c5)] [(.int (1 : Int32))])) (fun t k => XS.iloadN X0.here hx rfl (hb hby d3_0) rfl k) ?_
  refine own_by (T' := s₁) (f' := (mkF m 8 #[.val (.int (1 : Int32)), .val (.int c0), .val (.int c1), .val (.int c2), .val (.int c3), .val (.int c4), .val (.int c5)] [])) (fun t k => XS.ifYes X0.here hx rfl (pc0 := 1) (pc' := 8) rfl (hb hby d3_1) rfl ((if0 _ _).trans (feq (by decide)).2) (by decide) (by decide) k) ?_
  refine own_by (T' := s₁) (f' := (mkF m 9 #[.val (.int (1 : Int32)), .val (.int c0), .val (.int c1), .val (.int c2), .val (.int c3), .val (.int c4), .val (.int c5)] [(.int (1 : Int32))])) (fun t k => XS.iloadN X0.here hx rfl (hb hby d3_8) rfl k) ?_
  refine own_by (T' := s₁) (f' := (mkF m 10 #[.val (.int (1 : Int32)), .val (.int c0), .val (.int c1), .val (.int c2), .val (.int c3), .val (.int c4), .val (.int c5)] [(.int (1 : Int32)), (.int (1 : Int32))])) (fun t k => XS.iconst X0.here hx rfl (hb hby d3_9) k) ?_
  refine own_by (T' := s₁) (f' := (mkF m 13 #[.val (.int (1 : Int32)), .val (.int c0), .val (.int c1), .val (.int c2), .val (.int c3), .val (.int c4), .val (.int c5)] [])) (fun t k => XS.icmpNo X0.here hx rfl (hb hby d3_10) rfl (teq rfl).2 k) ?_
  refine own_by (T' := s₁) (f' := (mkF m 14 #[.val (.int (1 : Int32)), .val (.int c0), .val (.int c1), .val (.int c2), .val (.int c3), .val (.int c4), .val (.int c5)] [(.int (1 : Int32))])) (fun t k => XS.iconst X0.here hx rfl (hb hby d3_13) k) ?_
  refine own_mkA X0 hx hZ e0 (hb hby d3_14) (own_w hw 12 rfl) (v := 0) rfl (by decide) 1 (by decide) (by decide) (by decide) (by decide) ?_
  intro T11 h11 b11 X11 e11 g11 E11 A11r
  have gn11 : n0 ≤ b11 := by rw [g11]; exact Z0
  have gh11 : h0.size ≤ b11 := by rw [g11]; exact K0.1
  show own_Go p e below _ T11 (mkF m 16 #[.val (.int (1 : Int32)), .val (.int c0), .val (.int c1), .val (.int c2), .val (.int c3), .val (.int c4), .val (.int c5)] [(.ref b11)])
  have A11 : own_A Z h11 b11 .char 1 (fun _ => 0) := A11r
  have sz12 : n0 ≤ h11.size := Nat.le_trans Z0 E11.1
  have K13 := K0.ext E11
  refine own_by (T' := T11) (f' := (mkF m 17 #[.val (.int (1 : Int32)), .val (.int c0), .val (.int c1), .val (.int c2), .val (.int c3), .val (.int c4), .val (.int c5)] [(.ref b11), (.ref b11)])) (fun t k => XS.dup X11.here hx rfl (hb hby d3_16) rfl rfl k) ?_
  refine own_by (T' := T11) (f' := (mkF m 18 #[.val (.int (1 : Int32)), .val (.int c0), .val (.int c1), .val (.int c2), .val (.int c3), .val (.int c4), .val (.int c5)] [(.int (0 : Int32)), (.ref b11), (.ref b11)])) (fun t k => XS.iconst X11.here hx rfl (hb hby d3_17) k) ?_
  refine own_by (T' := T11) (f' := (mkF m 19 #[.val (.int (1 : Int32)), .val (.int c0), .val (.int c1), .val (.int c2), .val (.int c3), .val (.int c4), .val (.int c5)] [(.int c0), (.int (0 : Int32)), (.ref b11), (.ref b11)])) (fun t k => XS.iloadN X11.here hx rfl (hb hby d3_18) rfl k) ?_
  have _ : (0 : Int32).toInt = 0 := by decide
  refine own_stC X11 hx hZ e11 (hb hby d3_19) A11 (by first | decide | omega) (by first | decide | omega) ?_
  intro T14 h14 X14 e14 W14 A14
  show own_Go p e below _ T14 (mkF m 20 #[.val (.int (1 : Int32)), .val (.int c0), .val (.int c1), .val (.int c2), .val (.int c3), .val (.int c4), .val (.int c5)] [(.ref b11)])
  have sz15 : n0 ≤ h14.size := by rw [W14.size]; exact sz12
  have K16 := K13.wr W14 (Or.inr gh11)
  have N14 := Fr.snoc X14 N0 gn11
  have A17 : own_A Z h14 b11 .char 1 (fun i => if i = 0 then c0 else 0) := A14.congr (fun i hi => by have q : (0 : Int32).toInt.toNat = 0 := (by decide); simp only [q, own_nc hc0])
  have A18 : own_A Z h14 b11 .char 1 (fun i => List.getD [c0] i 0) := A17.congr (fun i hi => by match i, hi with | 0, _ => rfl | (q + 1), h => exact absurd h (by omega))
  refine own_retA X14 hx hret hlk (hb hby d3_20) rfl rfl rfl (by decide) (by decide) ?_
  try rw [e14]
  exact ⟨b11, rfl, N14, K16, gh11, A18⟩
theorem ef_rmMK2 (m : MethodId) (x0 : Int32) (x1 : Int32) (x2 : Int32) (x3 : Int32) (x4 : Int32) (x5 : Int32) (x6 : Int32) : entryFrame m #[(.int x0), (.int x1), (.int x2), (.int x3), (.int x4), (.int x5), (.int x6)] 7 = mkF m 0 #[.val (.int x0), .val (.int x1), .val (.int x2), .val (.int x3), .val (.int x4), .val (.int x5), .val (.int x6)] [] := by first | (simp [entryFrame, mkF, argsToLocals, Value.category]; done) | rfl
set_option maxRecDepth 65536 in
set_option maxHeartbeats 40000000 in
theorem rmMK2 (l : Launch) (Z : State) (a0 : Array Value) (hw : ∀ d ∈ tables_1, d.before a0 Z = true) (ws : List Jvm.Cond) (c0 c1 c2 c3 c4 c5 : Int32) (h0 : Heap) (n0 : Nat) (Z0 : n0 ≤ h0.size) (hc0 : 0 ≤ c0.toInt ∧ c0.toInt < 65536) (hc1 : 0 ≤ c1.toInt ∧ c1.toInt < 65536) (hc2 : 0 ≤ c2.toInt ∧ c2.toInt < 65536) (hc3 : 0 ≤ c3.toInt ∧ c3.toInt < 65536) (hc4 : 0 ≤ c4.toInt ∧ c4.toInt < 65536) (hc5 : 0 ≤ c5.toInt ∧ c5.toInt < 65536) :
    own_Ct l Z (⟨"com/example/kissena/kissena/ColumnsIsDecimalPinLaw", "make", "(ICCCCCC)[C"⟩ : MethodName) method_4_code 7 (some (.array .char)) ws ({ frames := 0, cells := 1, slots := 6, locals := 0 } : Room) #[(.int (2 : Int32)), (.int c0), (.int c1), (.int c2), (.int c3), (.int c4), (.int c5)] h0 (fun v h L => ∃ b : Addr, v = some (.ref b) ∧ Fr n0 L ∧ Keep h0 h [] ∧ h0.size ≤ b ∧ own_A Z h b .char 2 (fun i => List.getD [c0, c1] i 0)) := by
  refine own_of (plainFor_of_name pn_com_example_kissena_kissena_ColumnsIsDecimalPinLaw) ?_
  intro p e s m below meth c s₁ hx hby hml hown hnm hret hlk hZ X0 e0
  have N0 := Fr.nil n0
  have K0 := Keep.refl h0 []
  rw [ef_rmMK2]
  refine own_by (T' := s₁) (f' := (mkF m 1 #[.val (.int (2 : Int32)), .val (.int c0), .val (.int c1), .val (.int c2), .val (.int c3), .val (.int c4), .val (.int c5)] [(.int (2 : Int32))])) (fun t k => XS.iloadN X0.here hx rfl (hb hby d3_0) rfl k) ?_
  refine own_by (T' := s₁) (f' := (mkF m 8 #[.val (.int (2 : Int32)), .val (.int c0), .val (.int c1), .val (.int c2), .val (.int c3), .val (.int c4), .val (.int c5)] [])) (fun t k => XS.ifYes X0.here hx rfl (pc0 := 1) (pc' := 8) rfl (hb hby d3_1) rfl ((if0 _ _).trans (feq (by decide)).2) (by decide) (by decide) k) ?_
  refine own_by (T' := s₁) (f' := (mkF m 9 #[.val (.int (2 : Int32)), .val (.int c0), .val (.int c1), .val (.int c2), .val (.int c3), .val (.int c4), .val (.int c5)] [(.int (2 : Int32))])) (fun t k => XS.iloadN X0.here hx rfl (hb hby d3_8) rfl k) ?_
  refine own_by (T' := s₁) (f' := (mkF m 10 #[.val (.int (2 : Int32)), .val (.int c0), .val (.int c1), .val (.int c2), .val (.int c3), .val (.int c4), .val (.int c5)] [(.int (1 : Int32)), (.int (2 : Int32))])) (fun t k => XS.iconst X0.here hx rfl (hb hby d3_9) k) ?_
  refine own_by (T' := s₁) (f' := (mkF m 21 #[.val (.int (2 : Int32)), .val (.int c0), .val (.int c1), .val (.int c2), .val (.int c3), .val (.int c4), .val (.int c5)] [])) (fun t k => XS.icmpYes X0.here hx rfl (pc0 := 10) (pc' := 21) rfl (hb hby d3_10) rfl (feq (by decide)).2 (by decide) (by decide) k) ?_
  refine own_by (T' := s₁) (f' := (mkF m 22 #[.val (.int (2 : Int32)), .val (.int c0), .val (.int c1), .val (.int c2), .val (.int c3), .val (.int c4), .val (.int c5)] [(.int (2 : Int32))])) (fun t k => XS.iloadN X0.here hx rfl (hb hby d3_21) rfl k) ?_
  refine own_by (T' := s₁) (f' := (mkF m 23 #[.val (.int (2 : Int32)), .val (.int c0), .val (.int c1), .val (.int c2), .val (.int c3), .val (.int c4), .val (.int c5)] [(.int (2 : Int32)), (.int (2 : Int32))])) (fun t k => XS.iconst X0.here hx rfl (hb hby d3_22) k) ?_
  refine own_by (T' := s₁) (f' := (mkF m 26 #[.val (.int (2 : Int32)), .val (.int c0), .val (.int c1), .val (.int c2), .val (.int c3), .val (.int c4), .val (.int c5)] [])) (fun t k => XS.icmpNo X0.here hx rfl (hb hby d3_23) rfl (teq rfl).2 k) ?_
  refine own_by (T' := s₁) (f' := (mkF m 27 #[.val (.int (2 : Int32)), .val (.int c0), .val (.int c1), .val (.int c2), .val (.int c3), .val (.int c4), .val (.int c5)] [(.int (2 : Int32))])) (fun t k => XS.iconst X0.here hx rfl (hb hby d3_26) k) ?_
  refine own_mkA X0 hx hZ e0 (hb hby d3_27) (own_w hw 12 rfl) (v := 0) rfl (by decide) 2 (by decide) (by decide) (by decide) (by decide) ?_
  intro T11 h11 b11 X11 e11 g11 E11 A11r
  have gn11 : n0 ≤ b11 := by rw [g11]; exact Z0
  have gh11 : h0.size ≤ b11 := by rw [g11]; exact K0.1
  show own_Go p e below _ T11 (mkF m 29 #[.val (.int (2 : Int32)), .val (.int c0), .val (.int c1), .val (.int c2), .val (.int c3), .val (.int c4), .val (.int c5)] [(.ref b11)])
  have A11 : own_A Z h11 b11 .char 2 (fun _ => 0) := A11r
  have sz12 : n0 ≤ h11.size := Nat.le_trans Z0 E11.1
  have K13 := K0.ext E11
  refine own_by (T' := T11) (f' := (mkF m 30 #[.val (.int (2 : Int32)), .val (.int c0), .val (.int c1), .val (.int c2), .val (.int c3), .val (.int c4), .val (.int c5)] [(.ref b11), (.ref b11)])) (fun t k => XS.dup X11.here hx rfl (hb hby d3_29) rfl rfl k) ?_
  refine own_by (T' := T11) (f' := (mkF m 31 #[.val (.int (2 : Int32)), .val (.int c0), .val (.int c1), .val (.int c2), .val (.int c3), .val (.int c4), .val (.int c5)] [(.int (0 : Int32)), (.ref b11), (.ref b11)])) (fun t k => XS.iconst X11.here hx rfl (hb hby d3_30) k) ?_
  refine own_by (T' := T11) (f' := (mkF m 32 #[.val (.int (2 : Int32)), .val (.int c0), .val (.int c1), .val (.int c2), .val (.int c3), .val (.int c4), .val (.int c5)] [(.int c0), (.int (0 : Int32)), (.ref b11), (.ref b11)])) (fun t k => XS.iloadN X11.here hx rfl (hb hby d3_31) rfl k) ?_
  have _ : (0 : Int32).toInt = 0 := by decide
  refine own_stC X11 hx hZ e11 (hb hby d3_32) A11 (by first | decide | omega) (by first | decide | omega) ?_
  intro T14 h14 X14 e14 W14 A14
  show own_Go p e below _ T14 (mkF m 33 #[.val (.int (2 : Int32)), .val (.int c0), .val (.int c1), .val (.int c2), .val (.int c3), .val (.int c4), .val (.int c5)] [(.ref b11)])
  have sz15 : n0 ≤ h14.size := by rw [W14.size]; exact sz12
  have K16 := K13.wr W14 (Or.inr gh11)
  have N14 := Fr.snoc X14 N0 gn11
  have A17 : own_A Z h14 b11 .char 2 (fun i => if i = 0 then c0 else 0) := A14.congr (fun i hi => by have q : (0 : Int32).toInt.toNat = 0 := (by decide); simp only [q, own_nc hc0])
  refine own_by (T' := T14) (f' := (mkF m 34 #[.val (.int (2 : Int32)), .val (.int c0), .val (.int c1), .val (.int c2), .val (.int c3), .val (.int c4), .val (.int c5)] [(.ref b11), (.ref b11)])) (fun t k => XS.dup X14.here hx rfl (hb hby d3_33) rfl rfl k) ?_
  refine own_by (T' := T14) (f' := (mkF m 35 #[.val (.int (2 : Int32)), .val (.int c0), .val (.int c1), .val (.int c2), .val (.int c3), .val (.int c4), .val (.int c5)] [(.int (1 : Int32)), (.ref b11), (.ref b11)])) (fun t k => XS.iconst X14.here hx rfl (hb hby d3_34) k) ?_
  refine own_by (T' := T14) (f' := (mkF m 36 #[.val (.int (2 : Int32)), .val (.int c0), .val (.int c1), .val (.int c2), .val (.int c3), .val (.int c4), .val (.int c5)] [(.int c1), (.int (1 : Int32)), (.ref b11), (.ref b11)])) (fun t k => XS.iloadN X14.here hx rfl (hb hby d3_35) rfl k) ?_
  have _ : (1 : Int32).toInt = 1 := by decide
  refine own_stC X14 hx hZ e14 (hb hby d3_36) A17 (by first | decide | omega) (by first | decide | omega) ?_
  intro T18 h18 X18 e18 W18 A18
  show own_Go p e below _ T18 (mkF m 37 #[.val (.int (2 : Int32)), .val (.int c0), .val (.int c1), .val (.int c2), .val (.int c3), .val (.int c4), .val (.int c5)] [(.ref b11)])
  have sz19 : n0 ≤ h18.size := by rw [W18.size]; exact sz15
  have K20 := K16.wr W18 (Or.inr gh11)
  have N18 := Fr.snoc X18 N14 gn11
  have A21 : own_A Z h18 b11 .char 2 (fun i => if i = 1 then c1 else if i = 0 then c0 else 0) := A18.congr (fun i hi => by have q : (1 : Int32).toInt.toNat = 1 := (by decide); simp only [q, own_nc hc1])
  have A22 : own_A Z h18 b11 .char 2 (fun i => List.getD [c0, c1] i 0) := A21.congr (fun i hi => by match i, hi with | 0, _ => rfl | 1, _ => rfl | (q + 2), h => exact absurd h (by omega))
  refine own_retA X18 hx hret hlk (hb hby d3_37) rfl rfl rfl (by decide) (by decide) ?_
  try rw [e18]
  exact ⟨b11, rfl, N18, K20, gh11, A22⟩
theorem ef_rmMK3 (m : MethodId) (x0 : Int32) (x1 : Int32) (x2 : Int32) (x3 : Int32) (x4 : Int32) (x5 : Int32) (x6 : Int32) : entryFrame m #[(.int x0), (.int x1), (.int x2), (.int x3), (.int x4), (.int x5), (.int x6)] 7 = mkF m 0 #[.val (.int x0), .val (.int x1), .val (.int x2), .val (.int x3), .val (.int x4), .val (.int x5), .val (.int x6)] [] := by first | (simp [entryFrame, mkF, argsToLocals, Value.category]; done) | rfl
set_option maxRecDepth 65536 in
set_option maxHeartbeats 40000000 in
theorem rmMK3 (l : Launch) (Z : State) (a0 : Array Value) (hw : ∀ d ∈ tables_1, d.before a0 Z = true) (ws : List Jvm.Cond) (c0 c1 c2 c3 c4 c5 : Int32) (h0 : Heap) (n0 : Nat) (Z0 : n0 ≤ h0.size) (hc0 : 0 ≤ c0.toInt ∧ c0.toInt < 65536) (hc1 : 0 ≤ c1.toInt ∧ c1.toInt < 65536) (hc2 : 0 ≤ c2.toInt ∧ c2.toInt < 65536) (hc3 : 0 ≤ c3.toInt ∧ c3.toInt < 65536) (hc4 : 0 ≤ c4.toInt ∧ c4.toInt < 65536) (hc5 : 0 ≤ c5.toInt ∧ c5.toInt < 65536) :
    own_Ct l Z (⟨"com/example/kissena/kissena/ColumnsIsDecimalPinLaw", "make", "(ICCCCCC)[C"⟩ : MethodName) method_4_code 7 (some (.array .char)) ws ({ frames := 0, cells := 1, slots := 6, locals := 0 } : Room) #[(.int (3 : Int32)), (.int c0), (.int c1), (.int c2), (.int c3), (.int c4), (.int c5)] h0 (fun v h L => ∃ b : Addr, v = some (.ref b) ∧ Fr n0 L ∧ Keep h0 h [] ∧ h0.size ≤ b ∧ own_A Z h b .char 3 (fun i => List.getD [c0, c1, c2] i 0)) := by
  refine own_of (plainFor_of_name pn_com_example_kissena_kissena_ColumnsIsDecimalPinLaw) ?_
  intro p e s m below meth c s₁ hx hby hml hown hnm hret hlk hZ X0 e0
  have N0 := Fr.nil n0
  have K0 := Keep.refl h0 []
  rw [ef_rmMK3]
  refine own_by (T' := s₁) (f' := (mkF m 1 #[.val (.int (3 : Int32)), .val (.int c0), .val (.int c1), .val (.int c2), .val (.int c3), .val (.int c4), .val (.int c5)] [(.int (3 : Int32))])) (fun t k => XS.iloadN X0.here hx rfl (hb hby d3_0) rfl k) ?_
  refine own_by (T' := s₁) (f' := (mkF m 8 #[.val (.int (3 : Int32)), .val (.int c0), .val (.int c1), .val (.int c2), .val (.int c3), .val (.int c4), .val (.int c5)] [])) (fun t k => XS.ifYes X0.here hx rfl (pc0 := 1) (pc' := 8) rfl (hb hby d3_1) rfl ((if0 _ _).trans (feq (by decide)).2) (by decide) (by decide) k) ?_
  refine own_by (T' := s₁) (f' := (mkF m 9 #[.val (.int (3 : Int32)), .val (.int c0), .val (.int c1), .val (.int c2), .val (.int c3), .val (.int c4), .val (.int c5)] [(.int (3 : Int32))])) (fun t k => XS.iloadN X0.here hx rfl (hb hby d3_8) rfl k) ?_
  refine own_by (T' := s₁) (f' := (mkF m 10 #[.val (.int (3 : Int32)), .val (.int c0), .val (.int c1), .val (.int c2), .val (.int c3), .val (.int c4), .val (.int c5)] [(.int (1 : Int32)), (.int (3 : Int32))])) (fun t k => XS.iconst X0.here hx rfl (hb hby d3_9) k) ?_
  refine own_by (T' := s₁) (f' := (mkF m 21 #[.val (.int (3 : Int32)), .val (.int c0), .val (.int c1), .val (.int c2), .val (.int c3), .val (.int c4), .val (.int c5)] [])) (fun t k => XS.icmpYes X0.here hx rfl (pc0 := 10) (pc' := 21) rfl (hb hby d3_10) rfl (feq (by decide)).2 (by decide) (by decide) k) ?_
  refine own_by (T' := s₁) (f' := (mkF m 22 #[.val (.int (3 : Int32)), .val (.int c0), .val (.int c1), .val (.int c2), .val (.int c3), .val (.int c4), .val (.int c5)] [(.int (3 : Int32))])) (fun t k => XS.iloadN X0.here hx rfl (hb hby d3_21) rfl k) ?_
  refine own_by (T' := s₁) (f' := (mkF m 23 #[.val (.int (3 : Int32)), .val (.int c0), .val (.int c1), .val (.int c2), .val (.int c3), .val (.int c4), .val (.int c5)] [(.int (2 : Int32)), (.int (3 : Int32))])) (fun t k => XS.iconst X0.here hx rfl (hb hby d3_22) k) ?_
  refine own_by (T' := s₁) (f' := (mkF m 38 #[.val (.int (3 : Int32)), .val (.int c0), .val (.int c1), .val (.int c2), .val (.int c3), .val (.int c4), .val (.int c5)] [])) (fun t k => XS.icmpYes X0.here hx rfl (pc0 := 23) (pc' := 38) rfl (hb hby d3_23) rfl (feq (by decide)).2 (by decide) (by decide) k) ?_
  refine own_by (T' := s₁) (f' := (mkF m 39 #[.val (.int (3 : Int32)), .val (.int c0), .val (.int c1), .val (.int c2), .val (.int c3), .val (.int c4), .val (.int c5)] [(.int (3 : Int32))])) (fun t k => XS.iloadN X0.here hx rfl (hb hby d3_38) rfl k) ?_
  refine own_by (T' := s₁) (f' := (mkF m 40 #[.val (.int (3 : Int32)), .val (.int c0), .val (.int c1), .val (.int c2), .val (.int c3), .val (.int c4), .val (.int c5)] [(.int (3 : Int32)), (.int (3 : Int32))])) (fun t k => XS.iconst X0.here hx rfl (hb hby d3_39) k) ?_
  refine own_by (T' := s₁) (f' := (mkF m 43 #[.val (.int (3 : Int32)), .val (.int c0), .val (.int c1), .val (.int c2), .val (.int c3), .val (.int c4), .val (.int c5)] [])) (fun t k => XS.icmpNo X0.here hx rfl (hb hby d3_40) rfl (teq rfl).2 k) ?_
  refine own_by (T' := s₁) (f' := (mkF m 44 #[.val (.int (3 : Int32)), .val (.int c0), .val (.int c1), .val (.int c2), .val (.int c3), .val (.int c4), .val (.int c5)] [(.int (3 : Int32))])) (fun t k => XS.iconst X0.here hx rfl (hb hby d3_43) k) ?_
  refine own_mkA X0 hx hZ e0 (hb hby d3_44) (own_w hw 12 rfl) (v := 0) rfl (by decide) 3 (by decide) (by decide) (by decide) (by decide) ?_
  intro T11 h11 b11 X11 e11 g11 E11 A11r
  have gn11 : n0 ≤ b11 := by rw [g11]; exact Z0
  have gh11 : h0.size ≤ b11 := by rw [g11]; exact K0.1
  show own_Go p e below _ T11 (mkF m 46 #[.val (.int (3 : Int32)), .val (.int c0), .val (.int c1), .val (.int c2), .val (.int c3), .val (.int c4), .val (.int c5)] [(.ref b11)])
  have A11 : own_A Z h11 b11 .char 3 (fun _ => 0) := A11r
  have sz12 : n0 ≤ h11.size := Nat.le_trans Z0 E11.1
  have K13 := K0.ext E11
  refine own_by (T' := T11) (f' := (mkF m 47 #[.val (.int (3 : Int32)), .val (.int c0), .val (.int c1), .val (.int c2), .val (.int c3), .val (.int c4), .val (.int c5)] [(.ref b11), (.ref b11)])) (fun t k => XS.dup X11.here hx rfl (hb hby d3_46) rfl rfl k) ?_
  refine own_by (T' := T11) (f' := (mkF m 48 #[.val (.int (3 : Int32)), .val (.int c0), .val (.int c1), .val (.int c2), .val (.int c3), .val (.int c4), .val (.int c5)] [(.int (0 : Int32)), (.ref b11), (.ref b11)])) (fun t k => XS.iconst X11.here hx rfl (hb hby d3_47) k) ?_
  refine own_by (T' := T11) (f' := (mkF m 49 #[.val (.int (3 : Int32)), .val (.int c0), .val (.int c1), .val (.int c2), .val (.int c3), .val (.int c4), .val (.int c5)] [(.int c0), (.int (0 : Int32)), (.ref b11), (.ref b11)])) (fun t k => XS.iloadN X11.here hx rfl (hb hby d3_48) rfl k) ?_
  have _ : (0 : Int32).toInt = 0 := by decide
  refine own_stC X11 hx hZ e11 (hb hby d3_49) A11 (by first | decide | omega) (by first | decide | omega) ?_
  intro T14 h14 X14 e14 W14 A14
  show own_Go p e below _ T14 (mkF m 50 #[.val (.int (3 : Int32)), .val (.int c0), .val (.int c1), .val (.int c2), .val (.int c3), .val (.int c4), .val (.int c5)] [(.ref b11)])
  have sz15 : n0 ≤ h14.size := by rw [W14.size]; exact sz12
  have K16 := K13.wr W14 (Or.inr gh11)
  have N14 := Fr.snoc X14 N0 gn11
  have A17 : own_A Z h14 b11 .char 3 (fun i => if i = 0 then c0 else 0) := A14.congr (fun i hi => by have q : (0 : Int32).toInt.toNat = 0 := (by decide); simp only [q, own_nc hc0])
  refine own_by (T' := T14) (f' := (mkF m 51 #[.val (.int (3 : Int32)), .val (.int c0), .val (.int c1), .val (.int c2), .val (.int c3), .val (.int c4), .val (.int c5)] [(.ref b11), (.ref b11)])) (fun t k => XS.dup X14.here hx rfl (hb hby d3_50) rfl rfl k) ?_
  refine own_by (T' := T14) (f' := (mkF m 52 #[.val (.int (3 : Int32)), .val (.int c0), .val (.int c1), .val (.int c2), .val (.int c3), .val (.int c4), .val (.int c5)] [(.int (1 : Int32)), (.ref b11), (.ref b11)])) (fun t k => XS.iconst X14.here hx rfl (hb hby d3_51) k) ?_
  refine own_by (T' := T14) (f' := (mkF m 53 #[.val (.int (3 : Int32)), .val (.int c0), .val (.int c1), .val (.int c2), .val (.int c3), .val (.int c4), .val (.int c5)] [(.int c1), (.int (1 : Int32)), (.ref b11), (.ref b11)])) (fun t k => XS.iloadN X14.here hx rfl (hb hby d3_52) rfl k) ?_
  have _ : (1 : Int32).toInt = 1 := by decide
  refine own_stC X14 hx hZ e14 (hb hby d3_53) A17 (by first | decide | omega) (by first | decide | omega) ?_
  intro T18 h18 X18 e18 W18 A18
  show own_Go p e below _ T18 (mkF m 54 #[.val (.int (3 : Int32)), .val (.int c0), .val (.int c1), .val (.int c2), .val (.int c3), .val (.int c4), .val (.int c5)] [(.ref b11)])
  have sz19 : n0 ≤ h18.size := by rw [W18.size]; exact sz15
  have K20 := K16.wr W18 (Or.inr gh11)
  have N18 := Fr.snoc X18 N14 gn11
  have A21 : own_A Z h18 b11 .char 3 (fun i => if i = 1 then c1 else if i = 0 then c0 else 0) := A18.congr (fun i hi => by have q : (1 : Int32).toInt.toNat = 1 := (by decide); simp only [q, own_nc hc1])
  refine own_by (T' := T18) (f' := (mkF m 55 #[.val (.int (3 : Int32)), .val (.int c0), .val (.int c1), .val (.int c2), .val (.int c3), .val (.int c4), .val (.int c5)] [(.ref b11), (.ref b11)])) (fun t k => XS.dup X18.here hx rfl (hb hby d3_54) rfl rfl k) ?_
  refine own_by (T' := T18) (f' := (mkF m 56 #[.val (.int (3 : Int32)), .val (.int c0), .val (.int c1), .val (.int c2), .val (.int c3), .val (.int c4), .val (.int c5)] [(.int (2 : Int32)), (.ref b11), (.ref b11)])) (fun t k => XS.iconst X18.here hx rfl (hb hby d3_55) k) ?_
  refine own_by (T' := T18) (f' := (mkF m 57 #[.val (.int (3 : Int32)), .val (.int c0), .val (.int c1), .val (.int c2), .val (.int c3), .val (.int c4), .val (.int c5)] [(.int c2), (.int (2 : Int32)), (.ref b11), (.ref b11)])) (fun t k => XS.iloadN X18.here hx rfl (hb hby d3_56) rfl k) ?_
  have _ : (2 : Int32).toInt = 2 := by decide
  refine own_stC X18 hx hZ e18 (hb hby d3_57) A21 (by first | decide | omega) (by first | decide | omega) ?_
  intro T22 h22 X22 e22 W22 A22
  show own_Go p e below _ T22 (mkF m 58 #[.val (.int (3 : Int32)), .val (.int c0), .val (.int c1), .val (.int c2), .val (.int c3), .val (.int c4), .val (.int c5)] [(.ref b11)])
  have sz23 : n0 ≤ h22.size := by rw [W22.size]; exact sz19
  have K24 := K20.wr W22 (Or.inr gh11)
  have N22 := Fr.snoc X22 N18 gn11
  have A25 : own_A Z h22 b11 .char 3 (fun i => if i = 2 then c2 else if i = 1 then c1 else if i = 0 then c0 else 0) := A22.congr (fun i hi => by have q : (2 : Int32).toInt.toNat = 2 := (by decide); simp only [q, own_nc hc2])
  have A26 : own_A Z h22 b11 .char 3 (fun i => List.getD [c0, c1, c2] i 0) := A25.congr (fun i hi => by match i, hi with | 0, _ => rfl | 1, _ => rfl | 2, _ => rfl | (q + 3), h => exact absurd h (by omega))
  refine own_retA X22 hx hret hlk (hb hby d3_58) rfl rfl rfl (by decide) (by decide) ?_
  try rw [e22]
  exact ⟨b11, rfl, N22, K24, gh11, A26⟩
theorem ef_rmMK4 (m : MethodId) (x0 : Int32) (x1 : Int32) (x2 : Int32) (x3 : Int32) (x4 : Int32) (x5 : Int32) (x6 : Int32) : entryFrame m #[(.int x0), (.int x1), (.int x2), (.int x3), (.int x4), (.int x5), (.int x6)] 7 = mkF m 0 #[.val (.int x0), .val (.int x1), .val (.int x2), .val (.int x3), .val (.int x4), .val (.int x5), .val (.int x6)] [] := by first | (simp [entryFrame, mkF, argsToLocals, Value.category]; done) | rfl
set_option maxRecDepth 65536 in
set_option maxHeartbeats 40000000 in
theorem rmMK4 (l : Launch) (Z : State) (a0 : Array Value) (hw : ∀ d ∈ tables_1, d.before a0 Z = true) (ws : List Jvm.Cond) (c0 c1 c2 c3 c4 c5 : Int32) (h0 : Heap) (n0 : Nat) (Z0 : n0 ≤ h0.size) (hc0 : 0 ≤ c0.toInt ∧ c0.toInt < 65536) (hc1 : 0 ≤ c1.toInt ∧ c1.toInt < 65536) (hc2 : 0 ≤ c2.toInt ∧ c2.toInt < 65536) (hc3 : 0 ≤ c3.toInt ∧ c3.toInt < 65536) (hc4 : 0 ≤ c4.toInt ∧ c4.toInt < 65536) (hc5 : 0 ≤ c5.toInt ∧ c5.toInt < 65536) :
    own_Ct l Z (⟨"com/example/kissena/kissena/ColumnsIsDecimalPinLaw", "make", "(ICCCCCC)[C"⟩ : MethodName) method_4_code 7 (some (.array .char)) ws ({ frames := 0, cells := 1, slots := 6, locals := 0 } : Room) #[(.int (4 : Int32)), (.int c0), (.int c1), (.int c2), (.int c3), (.int c4), (.int c5)] h0 (fun v h L => ∃ b : Addr, v = some (.ref b) ∧ Fr n0 L ∧ Keep h0 h [] ∧ h0.size ≤ b ∧ own_A Z h b .char 4 (fun i => List.getD [c0, c1, c2, c3] i 0)) := by
  refine own_of (plainFor_of_name pn_com_example_kissena_kissena_ColumnsIsDecimalPinLaw) ?_
  intro p e s m below meth c s₁ hx hby hml hown hnm hret hlk hZ X0 e0
  have N0 := Fr.nil n0
  have K0 := Keep.refl h0 []
  rw [ef_rmMK4]
  refine own_by (T' := s₁) (f' := (mkF m 1 #[.val (.int (4 : Int32)), .val (.int c0), .val (.int c1), .val (.int c2), .val (.int c3), .val (.int c4), .val (.int c5)] [(.int (4 : Int32))])) (fun t k => XS.iloadN X0.here hx rfl (hb hby d3_0) rfl k) ?_
  refine own_by (T' := s₁) (f' := (mkF m 8 #[.val (.int (4 : Int32)), .val (.int c0), .val (.int c1), .val (.int c2), .val (.int c3), .val (.int c4), .val (.int c5)] [])) (fun t k => XS.ifYes X0.here hx rfl (pc0 := 1) (pc' := 8) rfl (hb hby d3_1) rfl ((if0 _ _).trans (feq (by decide)).2) (by decide) (by decide) k) ?_
  refine own_by (T' := s₁) (f' := (mkF m 9 #[.val (.int (4 : Int32)), .val (.int c0), .val (.int c1), .val (.int c2), .val (.int c3), .val (.int c4), .val (.int c5)] [(.int (4 : Int32))])) (fun t k => XS.iloadN X0.here hx rfl (hb hby d3_8) rfl k) ?_
  refine own_by (T' := s₁) (f' := (mkF m 10 #[.val (.int (4 : Int32)), .val (.int c0), .val (.int c1), .val (.int c2), .val (.int c3), .val (.int c4), .val (.int c5)] [(.int (1 : Int32)), (.int (4 : Int32))])) (fun t k => XS.iconst X0.here hx rfl (hb hby d3_9) k) ?_
  refine own_by (T' := s₁) (f' := (mkF m 21 #[.val (.int (4 : Int32)), .val (.int c0), .val (.int c1), .val (.int c2), .val (.int c3), .val (.int c4), .val (.int c5)] [])) (fun t k => XS.icmpYes X0.here hx rfl (pc0 := 10) (pc' := 21) rfl (hb hby d3_10) rfl (feq (by decide)).2 (by decide) (by decide) k) ?_
  refine own_by (T' := s₁) (f' := (mkF m 22 #[.val (.int (4 : Int32)), .val (.int c0), .val (.int c1), .val (.int c2), .val (.int c3), .val (.int c4), .val (.int c5)] [(.int (4 : Int32))])) (fun t k => XS.iloadN X0.here hx rfl (hb hby d3_21) rfl k) ?_
  refine own_by (T' := s₁) (f' := (mkF m 23 #[.val (.int (4 : Int32)), .val (.int c0), .val (.int c1), .val (.int c2), .val (.int c3), .val (.int c4), .val (.int c5)] [(.int (2 : Int32)), (.int (4 : Int32))])) (fun t k => XS.iconst X0.here hx rfl (hb hby d3_22) k) ?_
  refine own_by (T' := s₁) (f' := (mkF m 38 #[.val (.int (4 : Int32)), .val (.int c0), .val (.int c1), .val (.int c2), .val (.int c3), .val (.int c4), .val (.int c5)] [])) (fun t k => XS.icmpYes X0.here hx rfl (pc0 := 23) (pc' := 38) rfl (hb hby d3_23) rfl (feq (by decide)).2 (by decide) (by decide) k) ?_
  refine own_by (T' := s₁) (f' := (mkF m 39 #[.val (.int (4 : Int32)), .val (.int c0), .val (.int c1), .val (.int c2), .val (.int c3), .val (.int c4), .val (.int c5)] [(.int (4 : Int32))])) (fun t k => XS.iloadN X0.here hx rfl (hb hby d3_38) rfl k) ?_
  refine own_by (T' := s₁) (f' := (mkF m 40 #[.val (.int (4 : Int32)), .val (.int c0), .val (.int c1), .val (.int c2), .val (.int c3), .val (.int c4), .val (.int c5)] [(.int (3 : Int32)), (.int (4 : Int32))])) (fun t k => XS.iconst X0.here hx rfl (hb hby d3_39) k) ?_
  refine own_by (T' := s₁) (f' := (mkF m 59 #[.val (.int (4 : Int32)), .val (.int c0), .val (.int c1), .val (.int c2), .val (.int c3), .val (.int c4), .val (.int c5)] [])) (fun t k => XS.icmpYes X0.here hx rfl (pc0 := 40) (pc' := 59) rfl (hb hby d3_40) rfl (feq (by decide)).2 (by decide) (by decide) k) ?_
  refine own_by (T' := s₁) (f' := (mkF m 60 #[.val (.int (4 : Int32)), .val (.int c0), .val (.int c1), .val (.int c2), .val (.int c3), .val (.int c4), .val (.int c5)] [(.int (4 : Int32))])) (fun t k => XS.iloadN X0.here hx rfl (hb hby d3_59) rfl k) ?_
  refine own_by (T' := s₁) (f' := (mkF m 61 #[.val (.int (4 : Int32)), .val (.int c0), .val (.int c1), .val (.int c2), .val (.int c3), .val (.int c4), .val (.int c5)] [(.int (4 : Int32)), (.int (4 : Int32))])) (fun t k => XS.iconst X0.here hx rfl (hb hby d3_60) k) ?_
  refine own_by (T' := s₁) (f' := (mkF m 64 #[.val (.int (4 : Int32)), .val (.int c0), .val (.int c1), .val (.int c2), .val (.int c3), .val (.int c4), .val (.int c5)] [])) (fun t k => XS.icmpNo X0.here hx rfl (hb hby d3_61) rfl (teq rfl).2 k) ?_
  refine own_by (T' := s₁) (f' := (mkF m 65 #[.val (.int (4 : Int32)), .val (.int c0), .val (.int c1), .val (.int c2), .val (.int c3), .val (.int c4), .val (.int c5)] [(.int (4 : Int32))])) (fun t k => XS.iconst X0.here hx rfl (hb hby d3_64) k) ?_
  refine own_mkA X0 hx hZ e0 (hb hby d3_65) (own_w hw 12 rfl) (v := 0) rfl (by decide) 4 (by decide) (by decide) (by decide) (by decide) ?_
  intro T11 h11 b11 X11 e11 g11 E11 A11r
  have gn11 : n0 ≤ b11 := by rw [g11]; exact Z0
  have gh11 : h0.size ≤ b11 := by rw [g11]; exact K0.1
  show own_Go p e below _ T11 (mkF m 67 #[.val (.int (4 : Int32)), .val (.int c0), .val (.int c1), .val (.int c2), .val (.int c3), .val (.int c4), .val (.int c5)] [(.ref b11)])
  have A11 : own_A Z h11 b11 .char 4 (fun _ => 0) := A11r
  have sz12 : n0 ≤ h11.size := Nat.le_trans Z0 E11.1
  have K13 := K0.ext E11
  refine own_by (T' := T11) (f' := (mkF m 68 #[.val (.int (4 : Int32)), .val (.int c0), .val (.int c1), .val (.int c2), .val (.int c3), .val (.int c4), .val (.int c5)] [(.ref b11), (.ref b11)])) (fun t k => XS.dup X11.here hx rfl (hb hby d3_67) rfl rfl k) ?_
  refine own_by (T' := T11) (f' := (mkF m 69 #[.val (.int (4 : Int32)), .val (.int c0), .val (.int c1), .val (.int c2), .val (.int c3), .val (.int c4), .val (.int c5)] [(.int (0 : Int32)), (.ref b11), (.ref b11)])) (fun t k => XS.iconst X11.here hx rfl (hb hby d3_68) k) ?_
  refine own_by (T' := T11) (f' := (mkF m 70 #[.val (.int (4 : Int32)), .val (.int c0), .val (.int c1), .val (.int c2), .val (.int c3), .val (.int c4), .val (.int c5)] [(.int c0), (.int (0 : Int32)), (.ref b11), (.ref b11)])) (fun t k => XS.iloadN X11.here hx rfl (hb hby d3_69) rfl k) ?_
  have _ : (0 : Int32).toInt = 0 := by decide
  refine own_stC X11 hx hZ e11 (hb hby d3_70) A11 (by first | decide | omega) (by first | decide | omega) ?_
  intro T14 h14 X14 e14 W14 A14
  show own_Go p e below _ T14 (mkF m 71 #[.val (.int (4 : Int32)), .val (.int c0), .val (.int c1), .val (.int c2), .val (.int c3), .val (.int c4), .val (.int c5)] [(.ref b11)])
  have sz15 : n0 ≤ h14.size := by rw [W14.size]; exact sz12
  have K16 := K13.wr W14 (Or.inr gh11)
  have N14 := Fr.snoc X14 N0 gn11
  have A17 : own_A Z h14 b11 .char 4 (fun i => if i = 0 then c0 else 0) := A14.congr (fun i hi => by have q : (0 : Int32).toInt.toNat = 0 := (by decide); simp only [q, own_nc hc0])
  refine own_by (T' := T14) (f' := (mkF m 72 #[.val (.int (4 : Int32)), .val (.int c0), .val (.int c1), .val (.int c2), .val (.int c3), .val (.int c4), .val (.int c5)] [(.ref b11), (.ref b11)])) (fun t k => XS.dup X14.here hx rfl (hb hby d3_71) rfl rfl k) ?_
  refine own_by (T' := T14) (f' := (mkF m 73 #[.val (.int (4 : Int32)), .val (.int c0), .val (.int c1), .val (.int c2), .val (.int c3), .val (.int c4), .val (.int c5)] [(.int (1 : Int32)), (.ref b11), (.ref b11)])) (fun t k => XS.iconst X14.here hx rfl (hb hby d3_72) k) ?_
  refine own_by (T' := T14) (f' := (mkF m 74 #[.val (.int (4 : Int32)), .val (.int c0), .val (.int c1), .val (.int c2), .val (.int c3), .val (.int c4), .val (.int c5)] [(.int c1), (.int (1 : Int32)), (.ref b11), (.ref b11)])) (fun t k => XS.iloadN X14.here hx rfl (hb hby d3_73) rfl k) ?_
  have _ : (1 : Int32).toInt = 1 := by decide
  refine own_stC X14 hx hZ e14 (hb hby d3_74) A17 (by first | decide | omega) (by first | decide | omega) ?_
  intro T18 h18 X18 e18 W18 A18
  show own_Go p e below _ T18 (mkF m 75 #[.val (.int (4 : Int32)), .val (.int c0), .val (.int c1), .val (.int c2), .val (.int c3), .val (.int c4), .val (.int c5)] [(.ref b11)])
  have sz19 : n0 ≤ h18.size := by rw [W18.size]; exact sz15
  have K20 := K16.wr W18 (Or.inr gh11)
  have N18 := Fr.snoc X18 N14 gn11
  have A21 : own_A Z h18 b11 .char 4 (fun i => if i = 1 then c1 else if i = 0 then c0 else 0) := A18.congr (fun i hi => by have q : (1 : Int32).toInt.toNat = 1 := (by decide); simp only [q, own_nc hc1])
  refine own_by (T' := T18) (f' := (mkF m 76 #[.val (.int (4 : Int32)), .val (.int c0), .val (.int c1), .val (.int c2), .val (.int c3), .val (.int c4), .val (.int c5)] [(.ref b11), (.ref b11)])) (fun t k => XS.dup X18.here hx rfl (hb hby d3_75) rfl rfl k) ?_
  refine own_by (T' := T18) (f' := (mkF m 77 #[.val (.int (4 : Int32)), .val (.int c0), .val (.int c1), .val (.int c2), .val (.int c3), .val (.int c4), .val (.int c5)] [(.int (2 : Int32)), (.ref b11), (.ref b11)])) (fun t k => XS.iconst X18.here hx rfl (hb hby d3_76) k) ?_
  refine own_by (T' := T18) (f' := (mkF m 78 #[.val (.int (4 : Int32)), .val (.int c0), .val (.int c1), .val (.int c2), .val (.int c3), .val (.int c4), .val (.int c5)] [(.int c2), (.int (2 : Int32)), (.ref b11), (.ref b11)])) (fun t k => XS.iloadN X18.here hx rfl (hb hby d3_77) rfl k) ?_
  have _ : (2 : Int32).toInt = 2 := by decide
  refine own_stC X18 hx hZ e18 (hb hby d3_78) A21 (by first | decide | omega) (by first | decide | omega) ?_
  intro T22 h22 X22 e22 W22 A22
  show own_Go p e below _ T22 (mkF m 79 #[.val (.int (4 : Int32)), .val (.int c0), .val (.int c1), .val (.int c2), .val (.int c3), .val (.int c4), .val (.int c5)] [(.ref b11)])
  have sz23 : n0 ≤ h22.size := by rw [W22.size]; exact sz19
  have K24 := K20.wr W22 (Or.inr gh11)
  have N22 := Fr.snoc X22 N18 gn11
  have A25 : own_A Z h22 b11 .char 4 (fun i => if i = 2 then c2 else if i = 1 then c1 else if i = 0 then c0 else 0) := A22.congr (fun i hi => by have q : (2 : Int32).toInt.toNat = 2 := (by decide); simp only [q, own_nc hc2])
  refine own_by (T' := T22) (f' := (mkF m 80 #[.val (.int (4 : Int32)), .val (.int c0), .val (.int c1), .val (.int c2), .val (.int c3), .val (.int c4), .val (.int c5)] [(.ref b11), (.ref b11)])) (fun t k => XS.dup X22.here hx rfl (hb hby d3_79) rfl rfl k) ?_
  refine own_by (T' := T22) (f' := (mkF m 81 #[.val (.int (4 : Int32)), .val (.int c0), .val (.int c1), .val (.int c2), .val (.int c3), .val (.int c4), .val (.int c5)] [(.int (3 : Int32)), (.ref b11), (.ref b11)])) (fun t k => XS.iconst X22.here hx rfl (hb hby d3_80) k) ?_
  refine own_by (T' := T22) (f' := (mkF m 83 #[.val (.int (4 : Int32)), .val (.int c0), .val (.int c1), .val (.int c2), .val (.int c3), .val (.int c4), .val (.int c5)] [(.int c3), (.int (3 : Int32)), (.ref b11), (.ref b11)])) (fun t k => XS.iload X22.here hx rfl (hb hby d3_81) rfl k) ?_
  have _ : (3 : Int32).toInt = 3 := by decide
  refine own_stC X22 hx hZ e22 (hb hby d3_83) A25 (by first | decide | omega) (by first | decide | omega) ?_
  intro T26 h26 X26 e26 W26 A26
  show own_Go p e below _ T26 (mkF m 84 #[.val (.int (4 : Int32)), .val (.int c0), .val (.int c1), .val (.int c2), .val (.int c3), .val (.int c4), .val (.int c5)] [(.ref b11)])
  have sz27 : n0 ≤ h26.size := by rw [W26.size]; exact sz23
  have K28 := K24.wr W26 (Or.inr gh11)
  have N26 := Fr.snoc X26 N22 gn11
  have A29 : own_A Z h26 b11 .char 4 (fun i => if i = 3 then c3 else if i = 2 then c2 else if i = 1 then c1 else if i = 0 then c0 else 0) := A26.congr (fun i hi => by have q : (3 : Int32).toInt.toNat = 3 := (by decide); simp only [q, own_nc hc3])
  have A30 : own_A Z h26 b11 .char 4 (fun i => List.getD [c0, c1, c2, c3] i 0) := A29.congr (fun i hi => by match i, hi with | 0, _ => rfl | 1, _ => rfl | 2, _ => rfl | 3, _ => rfl | (q + 4), h => exact absurd h (by omega))
  refine own_retA X26 hx hret hlk (hb hby d3_84) rfl rfl rfl (by decide) (by decide) ?_
  try rw [e26]
  exact ⟨b11, rfl, N26, K28, gh11, A30⟩
theorem ef_rmMK5 (m : MethodId) (x0 : Int32) (x1 : Int32) (x2 : Int32) (x3 : Int32) (x4 : Int32) (x5 : Int32) (x6 : Int32) : entryFrame m #[(.int x0), (.int x1), (.int x2), (.int x3), (.int x4), (.int x5), (.int x6)] 7 = mkF m 0 #[.val (.int x0), .val (.int x1), .val (.int x2), .val (.int x3), .val (.int x4), .val (.int x5), .val (.int x6)] [] := by first | (simp [entryFrame, mkF, argsToLocals, Value.category]; done) | rfl
set_option maxRecDepth 65536 in
set_option maxHeartbeats 40000000 in
theorem rmMK5 (l : Launch) (Z : State) (a0 : Array Value) (hw : ∀ d ∈ tables_1, d.before a0 Z = true) (ws : List Jvm.Cond) (c0 c1 c2 c3 c4 c5 : Int32) (h0 : Heap) (n0 : Nat) (Z0 : n0 ≤ h0.size) (hc0 : 0 ≤ c0.toInt ∧ c0.toInt < 65536) (hc1 : 0 ≤ c1.toInt ∧ c1.toInt < 65536) (hc2 : 0 ≤ c2.toInt ∧ c2.toInt < 65536) (hc3 : 0 ≤ c3.toInt ∧ c3.toInt < 65536) (hc4 : 0 ≤ c4.toInt ∧ c4.toInt < 65536) (hc5 : 0 ≤ c5.toInt ∧ c5.toInt < 65536) :
    own_Ct l Z (⟨"com/example/kissena/kissena/ColumnsIsDecimalPinLaw", "make", "(ICCCCCC)[C"⟩ : MethodName) method_4_code 7 (some (.array .char)) ws ({ frames := 0, cells := 1, slots := 6, locals := 0 } : Room) #[(.int (5 : Int32)), (.int c0), (.int c1), (.int c2), (.int c3), (.int c4), (.int c5)] h0 (fun v h L => ∃ b : Addr, v = some (.ref b) ∧ Fr n0 L ∧ Keep h0 h [] ∧ h0.size ≤ b ∧ own_A Z h b .char 5 (fun i => List.getD [c0, c1, c2, c3, c4] i 0)) := by
  refine own_of (plainFor_of_name pn_com_example_kissena_kissena_ColumnsIsDecimalPinLaw) ?_
  intro p e s m below meth c s₁ hx hby hml hown hnm hret hlk hZ X0 e0
  have N0 := Fr.nil n0
  have K0 := Keep.refl h0 []
  rw [ef_rmMK5]
  refine own_by (T' := s₁) (f' := (mkF m 1 #[.val (.int (5 : Int32)), .val (.int c0), .val (.int c1), .val (.int c2), .val (.int c3), .val (.int c4), .val (.int c5)] [(.int (5 : Int32))])) (fun t k => XS.iloadN X0.here hx rfl (hb hby d3_0) rfl k) ?_
  refine own_by (T' := s₁) (f' := (mkF m 8 #[.val (.int (5 : Int32)), .val (.int c0), .val (.int c1), .val (.int c2), .val (.int c3), .val (.int c4), .val (.int c5)] [])) (fun t k => XS.ifYes X0.here hx rfl (pc0 := 1) (pc' := 8) rfl (hb hby d3_1) rfl ((if0 _ _).trans (feq (by decide)).2) (by decide) (by decide) k) ?_
  refine own_by (T' := s₁) (f' := (mkF m 9 #[.val (.int (5 : Int32)), .val (.int c0), .val (.int c1), .val (.int c2), .val (.int c3), .val (.int c4), .val (.int c5)] [(.int (5 : Int32))])) (fun t k => XS.iloadN X0.here hx rfl (hb hby d3_8) rfl k) ?_
  refine own_by (T' := s₁) (f' := (mkF m 10 #[.val (.int (5 : Int32)), .val (.int c0), .val (.int c1), .val (.int c2), .val (.int c3), .val (.int c4), .val (.int c5)] [(.int (1 : Int32)), (.int (5 : Int32))])) (fun t k => XS.iconst X0.here hx rfl (hb hby d3_9) k) ?_
  refine own_by (T' := s₁) (f' := (mkF m 21 #[.val (.int (5 : Int32)), .val (.int c0), .val (.int c1), .val (.int c2), .val (.int c3), .val (.int c4), .val (.int c5)] [])) (fun t k => XS.icmpYes X0.here hx rfl (pc0 := 10) (pc' := 21) rfl (hb hby d3_10) rfl (feq (by decide)).2 (by decide) (by decide) k) ?_
  refine own_by (T' := s₁) (f' := (mkF m 22 #[.val (.int (5 : Int32)), .val (.int c0), .val (.int c1), .val (.int c2), .val (.int c3), .val (.int c4), .val (.int c5)] [(.int (5 : Int32))])) (fun t k => XS.iloadN X0.here hx rfl (hb hby d3_21) rfl k) ?_
  refine own_by (T' := s₁) (f' := (mkF m 23 #[.val (.int (5 : Int32)), .val (.int c0), .val (.int c1), .val (.int c2), .val (.int c3), .val (.int c4), .val (.int c5)] [(.int (2 : Int32)), (.int (5 : Int32))])) (fun t k => XS.iconst X0.here hx rfl (hb hby d3_22) k) ?_
  refine own_by (T' := s₁) (f' := (mkF m 38 #[.val (.int (5 : Int32)), .val (.int c0), .val (.int c1), .val (.int c2), .val (.int c3), .val (.int c4), .val (.int c5)] [])) (fun t k => XS.icmpYes X0.here hx rfl (pc0 := 23) (pc' := 38) rfl (hb hby d3_23) rfl (feq (by decide)).2 (by decide) (by decide) k) ?_
  refine own_by (T' := s₁) (f' := (mkF m 39 #[.val (.int (5 : Int32)), .val (.int c0), .val (.int c1), .val (.int c2), .val (.int c3), .val (.int c4), .val (.int c5)] [(.int (5 : Int32))])) (fun t k => XS.iloadN X0.here hx rfl (hb hby d3_38) rfl k) ?_
  refine own_by (T' := s₁) (f' := (mkF m 40 #[.val (.int (5 : Int32)), .val (.int c0), .val (.int c1), .val (.int c2), .val (.int c3), .val (.int c4), .val (.int c5)] [(.int (3 : Int32)), (.int (5 : Int32))])) (fun t k => XS.iconst X0.here hx rfl (hb hby d3_39) k) ?_
  refine own_by (T' := s₁) (f' := (mkF m 59 #[.val (.int (5 : Int32)), .val (.int c0), .val (.int c1), .val (.int c2), .val (.int c3), .val (.int c4), .val (.int c5)] [])) (fun t k => XS.icmpYes X0.here hx rfl (pc0 := 40) (pc' := 59) rfl (hb hby d3_40) rfl (feq (by decide)).2 (by decide) (by decide) k) ?_
  refine own_by (T' := s₁) (f' := (mkF m 60 #[.val (.int (5 : Int32)), .val (.int c0), .val (.int c1), .val (.int c2), .val (.int c3), .val (.int c4), .val (.int c5)] [(.int (5 : Int32))])) (fun t k => XS.iloadN X0.here hx rfl (hb hby d3_59) rfl k) ?_
  refine own_by (T' := s₁) (f' := (mkF m 61 #[.val (.int (5 : Int32)), .val (.int c0), .val (.int c1), .val (.int c2), .val (.int c3), .val (.int c4), .val (.int c5)] [(.int (4 : Int32)), (.int (5 : Int32))])) (fun t k => XS.iconst X0.here hx rfl (hb hby d3_60) k) ?_
  refine own_by (T' := s₁) (f' := (mkF m 85 #[.val (.int (5 : Int32)), .val (.int c0), .val (.int c1), .val (.int c2), .val (.int c3), .val (.int c4), .val (.int c5)] [])) (fun t k => XS.icmpYes X0.here hx rfl (pc0 := 61) (pc' := 85) rfl (hb hby d3_61) rfl (feq (by decide)).2 (by decide) (by decide) k) ?_
  refine own_by (T' := s₁) (f' := (mkF m 86 #[.val (.int (5 : Int32)), .val (.int c0), .val (.int c1), .val (.int c2), .val (.int c3), .val (.int c4), .val (.int c5)] [(.int (5 : Int32))])) (fun t k => XS.iloadN X0.here hx rfl (hb hby d3_85) rfl k) ?_
  refine own_by (T' := s₁) (f' := (mkF m 87 #[.val (.int (5 : Int32)), .val (.int c0), .val (.int c1), .val (.int c2), .val (.int c3), .val (.int c4), .val (.int c5)] [(.int (5 : Int32)), (.int (5 : Int32))])) (fun t k => XS.iconst X0.here hx rfl (hb hby d3_86) k) ?_
  refine own_by (T' := s₁) (f' := (mkF m 90 #[.val (.int (5 : Int32)), .val (.int c0), .val (.int c1), .val (.int c2), .val (.int c3), .val (.int c4), .val (.int c5)] [])) (fun t k => XS.icmpNo X0.here hx rfl (hb hby d3_87) rfl (teq rfl).2 k) ?_
  refine own_by (T' := s₁) (f' := (mkF m 91 #[.val (.int (5 : Int32)), .val (.int c0), .val (.int c1), .val (.int c2), .val (.int c3), .val (.int c4), .val (.int c5)] [(.int (5 : Int32))])) (fun t k => XS.iconst X0.here hx rfl (hb hby d3_90) k) ?_
  refine own_mkA X0 hx hZ e0 (hb hby d3_91) (own_w hw 12 rfl) (v := 0) rfl (by decide) 5 (by decide) (by decide) (by decide) (by decide) ?_
  intro T11 h11 b11 X11 e11 g11 E11 A11r
  have gn11 : n0 ≤ b11 := by rw [g11]; exact Z0
  have gh11 : h0.size ≤ b11 := by rw [g11]; exact K0.1
  show own_Go p e below _ T11 (mkF m 93 #[.val (.int (5 : Int32)), .val (.int c0), .val (.int c1), .val (.int c2), .val (.int c3), .val (.int c4), .val (.int c5)] [(.ref b11)])
  have A11 : own_A Z h11 b11 .char 5 (fun _ => 0) := A11r
  have sz12 : n0 ≤ h11.size := Nat.le_trans Z0 E11.1
  have K13 := K0.ext E11
  refine own_by (T' := T11) (f' := (mkF m 94 #[.val (.int (5 : Int32)), .val (.int c0), .val (.int c1), .val (.int c2), .val (.int c3), .val (.int c4), .val (.int c5)] [(.ref b11), (.ref b11)])) (fun t k => XS.dup X11.here hx rfl (hb hby d3_93) rfl rfl k) ?_
  refine own_by (T' := T11) (f' := (mkF m 95 #[.val (.int (5 : Int32)), .val (.int c0), .val (.int c1), .val (.int c2), .val (.int c3), .val (.int c4), .val (.int c5)] [(.int (0 : Int32)), (.ref b11), (.ref b11)])) (fun t k => XS.iconst X11.here hx rfl (hb hby d3_94) k) ?_
  refine own_by (T' := T11) (f' := (mkF m 96 #[.val (.int (5 : Int32)), .val (.int c0), .val (.int c1), .val (.int c2), .val (.int c3), .val (.int c4), .val (.int c5)] [(.int c0), (.int (0 : Int32)), (.ref b11), (.ref b11)])) (fun t k => XS.iloadN X11.here hx rfl (hb hby d3_95) rfl k) ?_
  have _ : (0 : Int32).toInt = 0 := by decide
  refine own_stC X11 hx hZ e11 (hb hby d3_96) A11 (by first | decide | omega) (by first | decide | omega) ?_
  intro T14 h14 X14 e14 W14 A14
  show own_Go p e below _ T14 (mkF m 97 #[.val (.int (5 : Int32)), .val (.int c0), .val (.int c1), .val (.int c2), .val (.int c3), .val (.int c4), .val (.int c5)] [(.ref b11)])
  have sz15 : n0 ≤ h14.size := by rw [W14.size]; exact sz12
  have K16 := K13.wr W14 (Or.inr gh11)
  have N14 := Fr.snoc X14 N0 gn11
  have A17 : own_A Z h14 b11 .char 5 (fun i => if i = 0 then c0 else 0) := A14.congr (fun i hi => by have q : (0 : Int32).toInt.toNat = 0 := (by decide); simp only [q, own_nc hc0])
  refine own_by (T' := T14) (f' := (mkF m 98 #[.val (.int (5 : Int32)), .val (.int c0), .val (.int c1), .val (.int c2), .val (.int c3), .val (.int c4), .val (.int c5)] [(.ref b11), (.ref b11)])) (fun t k => XS.dup X14.here hx rfl (hb hby d3_97) rfl rfl k) ?_
  refine own_by (T' := T14) (f' := (mkF m 99 #[.val (.int (5 : Int32)), .val (.int c0), .val (.int c1), .val (.int c2), .val (.int c3), .val (.int c4), .val (.int c5)] [(.int (1 : Int32)), (.ref b11), (.ref b11)])) (fun t k => XS.iconst X14.here hx rfl (hb hby d3_98) k) ?_
  refine own_by (T' := T14) (f' := (mkF m 100 #[.val (.int (5 : Int32)), .val (.int c0), .val (.int c1), .val (.int c2), .val (.int c3), .val (.int c4), .val (.int c5)] [(.int c1), (.int (1 : Int32)), (.ref b11), (.ref b11)])) (fun t k => XS.iloadN X14.here hx rfl (hb hby d3_99) rfl k) ?_
  have _ : (1 : Int32).toInt = 1 := by decide
  refine own_stC X14 hx hZ e14 (hb hby d3_100) A17 (by first | decide | omega) (by first | decide | omega) ?_
  intro T18 h18 X18 e18 W18 A18
  show own_Go p e below _ T18 (mkF m 101 #[.val (.int (5 : Int32)), .val (.int c0), .val (.int c1), .val (.int c2), .val (.int c3), .val (.int c4), .val (.int c5)] [(.ref b11)])
  have sz19 : n0 ≤ h18.size := by rw [W18.size]; exact sz15
  have K20 := K16.wr W18 (Or.inr gh11)
  have N18 := Fr.snoc X18 N14 gn11
  have A21 : own_A Z h18 b11 .char 5 (fun i => if i = 1 then c1 else if i = 0 then c0 else 0) := A18.congr (fun i hi => by have q : (1 : Int32).toInt.toNat = 1 := (by decide); simp only [q, own_nc hc1])
  refine own_by (T' := T18) (f' := (mkF m 102 #[.val (.int (5 : Int32)), .val (.int c0), .val (.int c1), .val (.int c2), .val (.int c3), .val (.int c4), .val (.int c5)] [(.ref b11), (.ref b11)])) (fun t k => XS.dup X18.here hx rfl (hb hby d3_101) rfl rfl k) ?_
  refine own_by (T' := T18) (f' := (mkF m 103 #[.val (.int (5 : Int32)), .val (.int c0), .val (.int c1), .val (.int c2), .val (.int c3), .val (.int c4), .val (.int c5)] [(.int (2 : Int32)), (.ref b11), (.ref b11)])) (fun t k => XS.iconst X18.here hx rfl (hb hby d3_102) k) ?_
  refine own_by (T' := T18) (f' := (mkF m 104 #[.val (.int (5 : Int32)), .val (.int c0), .val (.int c1), .val (.int c2), .val (.int c3), .val (.int c4), .val (.int c5)] [(.int c2), (.int (2 : Int32)), (.ref b11), (.ref b11)])) (fun t k => XS.iloadN X18.here hx rfl (hb hby d3_103) rfl k) ?_
  have _ : (2 : Int32).toInt = 2 := by decide
  refine own_stC X18 hx hZ e18 (hb hby d3_104) A21 (by first | decide | omega) (by first | decide | omega) ?_
  intro T22 h22 X22 e22 W22 A22
  show own_Go p e below _ T22 (mkF m 105 #[.val (.int (5 : Int32)), .val (.int c0), .val (.int c1), .val (.int c2), .val (.int c3), .val (.int c4), .val (.int c5)] [(.ref b11)])
  have sz23 : n0 ≤ h22.size := by rw [W22.size]; exact sz19
  have K24 := K20.wr W22 (Or.inr gh11)
  have N22 := Fr.snoc X22 N18 gn11
  have A25 : own_A Z h22 b11 .char 5 (fun i => if i = 2 then c2 else if i = 1 then c1 else if i = 0 then c0 else 0) := A22.congr (fun i hi => by have q : (2 : Int32).toInt.toNat = 2 := (by decide); simp only [q, own_nc hc2])
  refine own_by (T' := T22) (f' := (mkF m 106 #[.val (.int (5 : Int32)), .val (.int c0), .val (.int c1), .val (.int c2), .val (.int c3), .val (.int c4), .val (.int c5)] [(.ref b11), (.ref b11)])) (fun t k => XS.dup X22.here hx rfl (hb hby d3_105) rfl rfl k) ?_
  refine own_by (T' := T22) (f' := (mkF m 107 #[.val (.int (5 : Int32)), .val (.int c0), .val (.int c1), .val (.int c2), .val (.int c3), .val (.int c4), .val (.int c5)] [(.int (3 : Int32)), (.ref b11), (.ref b11)])) (fun t k => XS.iconst X22.here hx rfl (hb hby d3_106) k) ?_
  refine own_by (T' := T22) (f' := (mkF m 109 #[.val (.int (5 : Int32)), .val (.int c0), .val (.int c1), .val (.int c2), .val (.int c3), .val (.int c4), .val (.int c5)] [(.int c3), (.int (3 : Int32)), (.ref b11), (.ref b11)])) (fun t k => XS.iload X22.here hx rfl (hb hby d3_107) rfl k) ?_
  have _ : (3 : Int32).toInt = 3 := by decide
  refine own_stC X22 hx hZ e22 (hb hby d3_109) A25 (by first | decide | omega) (by first | decide | omega) ?_
  intro T26 h26 X26 e26 W26 A26
  show own_Go p e below _ T26 (mkF m 110 #[.val (.int (5 : Int32)), .val (.int c0), .val (.int c1), .val (.int c2), .val (.int c3), .val (.int c4), .val (.int c5)] [(.ref b11)])
  have sz27 : n0 ≤ h26.size := by rw [W26.size]; exact sz23
  have K28 := K24.wr W26 (Or.inr gh11)
  have N26 := Fr.snoc X26 N22 gn11
  have A29 : own_A Z h26 b11 .char 5 (fun i => if i = 3 then c3 else if i = 2 then c2 else if i = 1 then c1 else if i = 0 then c0 else 0) := A26.congr (fun i hi => by have q : (3 : Int32).toInt.toNat = 3 := (by decide); simp only [q, own_nc hc3])
  refine own_by (T' := T26) (f' := (mkF m 111 #[.val (.int (5 : Int32)), .val (.int c0), .val (.int c1), .val (.int c2), .val (.int c3), .val (.int c4), .val (.int c5)] [(.ref b11), (.ref b11)])) (fun t k => XS.dup X26.here hx rfl (hb hby d3_110) rfl rfl k) ?_
  refine own_by (T' := T26) (f' := (mkF m 112 #[.val (.int (5 : Int32)), .val (.int c0), .val (.int c1), .val (.int c2), .val (.int c3), .val (.int c4), .val (.int c5)] [(.int (4 : Int32)), (.ref b11), (.ref b11)])) (fun t k => XS.iconst X26.here hx rfl (hb hby d3_111) k) ?_
  refine own_by (T' := T26) (f' := (mkF m 114 #[.val (.int (5 : Int32)), .val (.int c0), .val (.int c1), .val (.int c2), .val (.int c3), .val (.int c4), .val (.int c5)] [(.int c4), (.int (4 : Int32)), (.ref b11), (.ref b11)])) (fun t k => XS.iload X26.here hx rfl (hb hby d3_112) rfl k) ?_
  have _ : (4 : Int32).toInt = 4 := by decide
  refine own_stC X26 hx hZ e26 (hb hby d3_114) A29 (by first | decide | omega) (by first | decide | omega) ?_
  intro T30 h30 X30 e30 W30 A30
  show own_Go p e below _ T30 (mkF m 115 #[.val (.int (5 : Int32)), .val (.int c0), .val (.int c1), .val (.int c2), .val (.int c3), .val (.int c4), .val (.int c5)] [(.ref b11)])
  have sz31 : n0 ≤ h30.size := by rw [W30.size]; exact sz27
  have K32 := K28.wr W30 (Or.inr gh11)
  have N30 := Fr.snoc X30 N26 gn11
  have A33 : own_A Z h30 b11 .char 5 (fun i => if i = 4 then c4 else if i = 3 then c3 else if i = 2 then c2 else if i = 1 then c1 else if i = 0 then c0 else 0) := A30.congr (fun i hi => by have q : (4 : Int32).toInt.toNat = 4 := (by decide); simp only [q, own_nc hc4])
  have A34 : own_A Z h30 b11 .char 5 (fun i => List.getD [c0, c1, c2, c3, c4] i 0) := A33.congr (fun i hi => by match i, hi with | 0, _ => rfl | 1, _ => rfl | 2, _ => rfl | 3, _ => rfl | 4, _ => rfl | (q + 5), h => exact absurd h (by omega))
  refine own_retA X30 hx hret hlk (hb hby d3_115) rfl rfl rfl (by decide) (by decide) ?_
  try rw [e30]
  exact ⟨b11, rfl, N30, K32, gh11, A34⟩
theorem ef_rmMK6 (m : MethodId) (x0 : Int32) (x1 : Int32) (x2 : Int32) (x3 : Int32) (x4 : Int32) (x5 : Int32) (x6 : Int32) : entryFrame m #[(.int x0), (.int x1), (.int x2), (.int x3), (.int x4), (.int x5), (.int x6)] 7 = mkF m 0 #[.val (.int x0), .val (.int x1), .val (.int x2), .val (.int x3), .val (.int x4), .val (.int x5), .val (.int x6)] [] := by first | (simp [entryFrame, mkF, argsToLocals, Value.category]; done) | rfl
set_option maxRecDepth 65536 in
set_option maxHeartbeats 40000000 in
theorem rmMK6 (l : Launch) (Z : State) (a0 : Array Value) (hw : ∀ d ∈ tables_1, d.before a0 Z = true) (ws : List Jvm.Cond) (c0 c1 c2 c3 c4 c5 : Int32) (h0 : Heap) (n0 : Nat) (Z0 : n0 ≤ h0.size) (hc0 : 0 ≤ c0.toInt ∧ c0.toInt < 65536) (hc1 : 0 ≤ c1.toInt ∧ c1.toInt < 65536) (hc2 : 0 ≤ c2.toInt ∧ c2.toInt < 65536) (hc3 : 0 ≤ c3.toInt ∧ c3.toInt < 65536) (hc4 : 0 ≤ c4.toInt ∧ c4.toInt < 65536) (hc5 : 0 ≤ c5.toInt ∧ c5.toInt < 65536) :
    own_Ct l Z (⟨"com/example/kissena/kissena/ColumnsIsDecimalPinLaw", "make", "(ICCCCCC)[C"⟩ : MethodName) method_4_code 7 (some (.array .char)) ws ({ frames := 0, cells := 1, slots := 6, locals := 0 } : Room) #[(.int (6 : Int32)), (.int c0), (.int c1), (.int c2), (.int c3), (.int c4), (.int c5)] h0 (fun v h L => ∃ b : Addr, v = some (.ref b) ∧ Fr n0 L ∧ Keep h0 h [] ∧ h0.size ≤ b ∧ own_A Z h b .char 6 (fun i => List.getD [c0, c1, c2, c3, c4, c5] i 0)) := by
  refine own_of (plainFor_of_name pn_com_example_kissena_kissena_ColumnsIsDecimalPinLaw) ?_
  intro p e s m below meth c s₁ hx hby hml hown hnm hret hlk hZ X0 e0
  have N0 := Fr.nil n0
  have K0 := Keep.refl h0 []
  rw [ef_rmMK6]
  refine own_by (T' := s₁) (f' := (mkF m 1 #[.val (.int (6 : Int32)), .val (.int c0), .val (.int c1), .val (.int c2), .val (.int c3), .val (.int c4), .val (.int c5)] [(.int (6 : Int32))])) (fun t k => XS.iloadN X0.here hx rfl (hb hby d3_0) rfl k) ?_
  refine own_by (T' := s₁) (f' := (mkF m 8 #[.val (.int (6 : Int32)), .val (.int c0), .val (.int c1), .val (.int c2), .val (.int c3), .val (.int c4), .val (.int c5)] [])) (fun t k => XS.ifYes X0.here hx rfl (pc0 := 1) (pc' := 8) rfl (hb hby d3_1) rfl ((if0 _ _).trans (feq (by decide)).2) (by decide) (by decide) k) ?_
  refine own_by (T' := s₁) (f' := (mkF m 9 #[.val (.int (6 : Int32)), .val (.int c0), .val (.int c1), .val (.int c2), .val (.int c3), .val (.int c4), .val (.int c5)] [(.int (6 : Int32))])) (fun t k => XS.iloadN X0.here hx rfl (hb hby d3_8) rfl k) ?_
  refine own_by (T' := s₁) (f' := (mkF m 10 #[.val (.int (6 : Int32)), .val (.int c0), .val (.int c1), .val (.int c2), .val (.int c3), .val (.int c4), .val (.int c5)] [(.int (1 : Int32)), (.int (6 : Int32))])) (fun t k => XS.iconst X0.here hx rfl (hb hby d3_9) k) ?_
  refine own_by (T' := s₁) (f' := (mkF m 21 #[.val (.int (6 : Int32)), .val (.int c0), .val (.int c1), .val (.int c2), .val (.int c3), .val (.int c4), .val (.int c5)] [])) (fun t k => XS.icmpYes X0.here hx rfl (pc0 := 10) (pc' := 21) rfl (hb hby d3_10) rfl (feq (by decide)).2 (by decide) (by decide) k) ?_
  refine own_by (T' := s₁) (f' := (mkF m 22 #[.val (.int (6 : Int32)), .val (.int c0), .val (.int c1), .val (.int c2), .val (.int c3), .val (.int c4), .val (.int c5)] [(.int (6 : Int32))])) (fun t k => XS.iloadN X0.here hx rfl (hb hby d3_21) rfl k) ?_
  refine own_by (T' := s₁) (f' := (mkF m 23 #[.val (.int (6 : Int32)), .val (.int c0), .val (.int c1), .val (.int c2), .val (.int c3), .val (.int c4), .val (.int c5)] [(.int (2 : Int32)), (.int (6 : Int32))])) (fun t k => XS.iconst X0.here hx rfl (hb hby d3_22) k) ?_
  refine own_by (T' := s₁) (f' := (mkF m 38 #[.val (.int (6 : Int32)), .val (.int c0), .val (.int c1), .val (.int c2), .val (.int c3), .val (.int c4), .val (.int c5)] [])) (fun t k => XS.icmpYes X0.here hx rfl (pc0 := 23) (pc' := 38) rfl (hb hby d3_23) rfl (feq (by decide)).2 (by decide) (by decide) k) ?_
  refine own_by (T' := s₁) (f' := (mkF m 39 #[.val (.int (6 : Int32)), .val (.int c0), .val (.int c1), .val (.int c2), .val (.int c3), .val (.int c4), .val (.int c5)] [(.int (6 : Int32))])) (fun t k => XS.iloadN X0.here hx rfl (hb hby d3_38) rfl k) ?_
  refine own_by (T' := s₁) (f' := (mkF m 40 #[.val (.int (6 : Int32)), .val (.int c0), .val (.int c1), .val (.int c2), .val (.int c3), .val (.int c4), .val (.int c5)] [(.int (3 : Int32)), (.int (6 : Int32))])) (fun t k => XS.iconst X0.here hx rfl (hb hby d3_39) k) ?_
  refine own_by (T' := s₁) (f' := (mkF m 59 #[.val (.int (6 : Int32)), .val (.int c0), .val (.int c1), .val (.int c2), .val (.int c3), .val (.int c4), .val (.int c5)] [])) (fun t k => XS.icmpYes X0.here hx rfl (pc0 := 40) (pc' := 59) rfl (hb hby d3_40) rfl (feq (by decide)).2 (by decide) (by decide) k) ?_
  refine own_by (T' := s₁) (f' := (mkF m 60 #[.val (.int (6 : Int32)), .val (.int c0), .val (.int c1), .val (.int c2), .val (.int c3), .val (.int c4), .val (.int c5)] [(.int (6 : Int32))])) (fun t k => XS.iloadN X0.here hx rfl (hb hby d3_59) rfl k) ?_
  refine own_by (T' := s₁) (f' := (mkF m 61 #[.val (.int (6 : Int32)), .val (.int c0), .val (.int c1), .val (.int c2), .val (.int c3), .val (.int c4), .val (.int c5)] [(.int (4 : Int32)), (.int (6 : Int32))])) (fun t k => XS.iconst X0.here hx rfl (hb hby d3_60) k) ?_
  refine own_by (T' := s₁) (f' := (mkF m 85 #[.val (.int (6 : Int32)), .val (.int c0), .val (.int c1), .val (.int c2), .val (.int c3), .val (.int c4), .val (.int c5)] [])) (fun t k => XS.icmpYes X0.here hx rfl (pc0 := 61) (pc' := 85) rfl (hb hby d3_61) rfl (feq (by decide)).2 (by decide) (by decide) k) ?_
  refine own_by (T' := s₁) (f' := (mkF m 86 #[.val (.int (6 : Int32)), .val (.int c0), .val (.int c1), .val (.int c2), .val (.int c3), .val (.int c4), .val (.int c5)] [(.int (6 : Int32))])) (fun t k => XS.iloadN X0.here hx rfl (hb hby d3_85) rfl k) ?_
  refine own_by (T' := s₁) (f' := (mkF m 87 #[.val (.int (6 : Int32)), .val (.int c0), .val (.int c1), .val (.int c2), .val (.int c3), .val (.int c4), .val (.int c5)] [(.int (5 : Int32)), (.int (6 : Int32))])) (fun t k => XS.iconst X0.here hx rfl (hb hby d3_86) k) ?_
  refine own_by (T' := s₁) (f' := (mkF m 116 #[.val (.int (6 : Int32)), .val (.int c0), .val (.int c1), .val (.int c2), .val (.int c3), .val (.int c4), .val (.int c5)] [])) (fun t k => XS.icmpYes X0.here hx rfl (pc0 := 87) (pc' := 116) rfl (hb hby d3_87) rfl (feq (by decide)).2 (by decide) (by decide) k) ?_
  refine own_by (T' := s₁) (f' := (mkF m 118 #[.val (.int (6 : Int32)), .val (.int c0), .val (.int c1), .val (.int c2), .val (.int c3), .val (.int c4), .val (.int c5)] [(.int (6 : Int32))])) (fun t k => XS.bipush X0.here hx rfl (hb hby d3_116) k) ?_
  refine own_mkA X0 hx hZ e0 (hb hby d3_118) (own_w hw 12 rfl) (v := 0) rfl (by decide) 6 (by decide) (by decide) (by decide) (by decide) ?_
  intro T11 h11 b11 X11 e11 g11 E11 A11r
  have gn11 : n0 ≤ b11 := by rw [g11]; exact Z0
  have gh11 : h0.size ≤ b11 := by rw [g11]; exact K0.1
  show own_Go p e below _ T11 (mkF m 120 #[.val (.int (6 : Int32)), .val (.int c0), .val (.int c1), .val (.int c2), .val (.int c3), .val (.int c4), .val (.int c5)] [(.ref b11)])
  have A11 : own_A Z h11 b11 .char 6 (fun _ => 0) := A11r
  have sz12 : n0 ≤ h11.size := Nat.le_trans Z0 E11.1
  have K13 := K0.ext E11
  refine own_by (T' := T11) (f' := (mkF m 121 #[.val (.int (6 : Int32)), .val (.int c0), .val (.int c1), .val (.int c2), .val (.int c3), .val (.int c4), .val (.int c5)] [(.ref b11), (.ref b11)])) (fun t k => XS.dup X11.here hx rfl (hb hby d3_120) rfl rfl k) ?_
  refine own_by (T' := T11) (f' := (mkF m 122 #[.val (.int (6 : Int32)), .val (.int c0), .val (.int c1), .val (.int c2), .val (.int c3), .val (.int c4), .val (.int c5)] [(.int (0 : Int32)), (.ref b11), (.ref b11)])) (fun t k => XS.iconst X11.here hx rfl (hb hby d3_121) k) ?_
  refine own_by (T' := T11) (f' := (mkF m 123 #[.val (.int (6 : Int32)), .val (.int c0), .val (.int c1), .val (.int c2), .val (.int c3), .val (.int c4), .val (.int c5)] [(.int c0), (.int (0 : Int32)), (.ref b11), (.ref b11)])) (fun t k => XS.iloadN X11.here hx rfl (hb hby d3_122) rfl k) ?_
  have _ : (0 : Int32).toInt = 0 := by decide
  refine own_stC X11 hx hZ e11 (hb hby d3_123) A11 (by first | decide | omega) (by first | decide | omega) ?_
  intro T14 h14 X14 e14 W14 A14
  show own_Go p e below _ T14 (mkF m 124 #[.val (.int (6 : Int32)), .val (.int c0), .val (.int c1), .val (.int c2), .val (.int c3), .val (.int c4), .val (.int c5)] [(.ref b11)])
  have sz15 : n0 ≤ h14.size := by rw [W14.size]; exact sz12
  have K16 := K13.wr W14 (Or.inr gh11)
  have N14 := Fr.snoc X14 N0 gn11
  have A17 : own_A Z h14 b11 .char 6 (fun i => if i = 0 then c0 else 0) := A14.congr (fun i hi => by have q : (0 : Int32).toInt.toNat = 0 := (by decide); simp only [q, own_nc hc0])
  refine own_by (T' := T14) (f' := (mkF m 125 #[.val (.int (6 : Int32)), .val (.int c0), .val (.int c1), .val (.int c2), .val (.int c3), .val (.int c4), .val (.int c5)] [(.ref b11), (.ref b11)])) (fun t k => XS.dup X14.here hx rfl (hb hby d3_124) rfl rfl k) ?_
  refine own_by (T' := T14) (f' := (mkF m 126 #[.val (.int (6 : Int32)), .val (.int c0), .val (.int c1), .val (.int c2), .val (.int c3), .val (.int c4), .val (.int c5)] [(.int (1 : Int32)), (.ref b11), (.ref b11)])) (fun t k => XS.iconst X14.here hx rfl (hb hby d3_125) k) ?_
  refine own_by (T' := T14) (f' := (mkF m 127 #[.val (.int (6 : Int32)), .val (.int c0), .val (.int c1), .val (.int c2), .val (.int c3), .val (.int c4), .val (.int c5)] [(.int c1), (.int (1 : Int32)), (.ref b11), (.ref b11)])) (fun t k => XS.iloadN X14.here hx rfl (hb hby d3_126) rfl k) ?_
  have _ : (1 : Int32).toInt = 1 := by decide
  refine own_stC X14 hx hZ e14 (hb hby d3_127) A17 (by first | decide | omega) (by first | decide | omega) ?_
  intro T18 h18 X18 e18 W18 A18
  show own_Go p e below _ T18 (mkF m 128 #[.val (.int (6 : Int32)), .val (.int c0), .val (.int c1), .val (.int c2), .val (.int c3), .val (.int c4), .val (.int c5)] [(.ref b11)])
  have sz19 : n0 ≤ h18.size := by rw [W18.size]; exact sz15
  have K20 := K16.wr W18 (Or.inr gh11)
  have N18 := Fr.snoc X18 N14 gn11
  have A21 : own_A Z h18 b11 .char 6 (fun i => if i = 1 then c1 else if i = 0 then c0 else 0) := A18.congr (fun i hi => by have q : (1 : Int32).toInt.toNat = 1 := (by decide); simp only [q, own_nc hc1])
  refine own_by (T' := T18) (f' := (mkF m 129 #[.val (.int (6 : Int32)), .val (.int c0), .val (.int c1), .val (.int c2), .val (.int c3), .val (.int c4), .val (.int c5)] [(.ref b11), (.ref b11)])) (fun t k => XS.dup X18.here hx rfl (hb hby d3_128) rfl rfl k) ?_
  refine own_by (T' := T18) (f' := (mkF m 130 #[.val (.int (6 : Int32)), .val (.int c0), .val (.int c1), .val (.int c2), .val (.int c3), .val (.int c4), .val (.int c5)] [(.int (2 : Int32)), (.ref b11), (.ref b11)])) (fun t k => XS.iconst X18.here hx rfl (hb hby d3_129) k) ?_
  refine own_by (T' := T18) (f' := (mkF m 131 #[.val (.int (6 : Int32)), .val (.int c0), .val (.int c1), .val (.int c2), .val (.int c3), .val (.int c4), .val (.int c5)] [(.int c2), (.int (2 : Int32)), (.ref b11), (.ref b11)])) (fun t k => XS.iloadN X18.here hx rfl (hb hby d3_130) rfl k) ?_
  have _ : (2 : Int32).toInt = 2 := by decide
  refine own_stC X18 hx hZ e18 (hb hby d3_131) A21 (by first | decide | omega) (by first | decide | omega) ?_
  intro T22 h22 X22 e22 W22 A22
  show own_Go p e below _ T22 (mkF m 132 #[.val (.int (6 : Int32)), .val (.int c0), .val (.int c1), .val (.int c2), .val (.int c3), .val (.int c4), .val (.int c5)] [(.ref b11)])
  have sz23 : n0 ≤ h22.size := by rw [W22.size]; exact sz19
  have K24 := K20.wr W22 (Or.inr gh11)
  have N22 := Fr.snoc X22 N18 gn11
  have A25 : own_A Z h22 b11 .char 6 (fun i => if i = 2 then c2 else if i = 1 then c1 else if i = 0 then c0 else 0) := A22.congr (fun i hi => by have q : (2 : Int32).toInt.toNat = 2 := (by decide); simp only [q, own_nc hc2])
  refine own_by (T' := T22) (f' := (mkF m 133 #[.val (.int (6 : Int32)), .val (.int c0), .val (.int c1), .val (.int c2), .val (.int c3), .val (.int c4), .val (.int c5)] [(.ref b11), (.ref b11)])) (fun t k => XS.dup X22.here hx rfl (hb hby d3_132) rfl rfl k) ?_
  refine own_by (T' := T22) (f' := (mkF m 134 #[.val (.int (6 : Int32)), .val (.int c0), .val (.int c1), .val (.int c2), .val (.int c3), .val (.int c4), .val (.int c5)] [(.int (3 : Int32)), (.ref b11), (.ref b11)])) (fun t k => XS.iconst X22.here hx rfl (hb hby d3_133) k) ?_
  refine own_by (T' := T22) (f' := (mkF m 136 #[.val (.int (6 : Int32)), .val (.int c0), .val (.int c1), .val (.int c2), .val (.int c3), .val (.int c4), .val (.int c5)] [(.int c3), (.int (3 : Int32)), (.ref b11), (.ref b11)])) (fun t k => XS.iload X22.here hx rfl (hb hby d3_134) rfl k) ?_
  have _ : (3 : Int32).toInt = 3 := by decide
  refine own_stC X22 hx hZ e22 (hb hby d3_136) A25 (by first | decide | omega) (by first | decide | omega) ?_
  intro T26 h26 X26 e26 W26 A26
  show own_Go p e below _ T26 (mkF m 137 #[.val (.int (6 : Int32)), .val (.int c0), .val (.int c1), .val (.int c2), .val (.int c3), .val (.int c4), .val (.int c5)] [(.ref b11)])
  have sz27 : n0 ≤ h26.size := by rw [W26.size]; exact sz23
  have K28 := K24.wr W26 (Or.inr gh11)
  have N26 := Fr.snoc X26 N22 gn11
  have A29 : own_A Z h26 b11 .char 6 (fun i => if i = 3 then c3 else if i = 2 then c2 else if i = 1 then c1 else if i = 0 then c0 else 0) := A26.congr (fun i hi => by have q : (3 : Int32).toInt.toNat = 3 := (by decide); simp only [q, own_nc hc3])
  refine own_by (T' := T26) (f' := (mkF m 138 #[.val (.int (6 : Int32)), .val (.int c0), .val (.int c1), .val (.int c2), .val (.int c3), .val (.int c4), .val (.int c5)] [(.ref b11), (.ref b11)])) (fun t k => XS.dup X26.here hx rfl (hb hby d3_137) rfl rfl k) ?_
  refine own_by (T' := T26) (f' := (mkF m 139 #[.val (.int (6 : Int32)), .val (.int c0), .val (.int c1), .val (.int c2), .val (.int c3), .val (.int c4), .val (.int c5)] [(.int (4 : Int32)), (.ref b11), (.ref b11)])) (fun t k => XS.iconst X26.here hx rfl (hb hby d3_138) k) ?_
  refine own_by (T' := T26) (f' := (mkF m 141 #[.val (.int (6 : Int32)), .val (.int c0), .val (.int c1), .val (.int c2), .val (.int c3), .val (.int c4), .val (.int c5)] [(.int c4), (.int (4 : Int32)), (.ref b11), (.ref b11)])) (fun t k => XS.iload X26.here hx rfl (hb hby d3_139) rfl k) ?_
  have _ : (4 : Int32).toInt = 4 := by decide
  refine own_stC X26 hx hZ e26 (hb hby d3_141) A29 (by first | decide | omega) (by first | decide | omega) ?_
  intro T30 h30 X30 e30 W30 A30
  show own_Go p e below _ T30 (mkF m 142 #[.val (.int (6 : Int32)), .val (.int c0), .val (.int c1), .val (.int c2), .val (.int c3), .val (.int c4), .val (.int c5)] [(.ref b11)])
  have sz31 : n0 ≤ h30.size := by rw [W30.size]; exact sz27
  have K32 := K28.wr W30 (Or.inr gh11)
  have N30 := Fr.snoc X30 N26 gn11
  have A33 : own_A Z h30 b11 .char 6 (fun i => if i = 4 then c4 else if i = 3 then c3 else if i = 2 then c2 else if i = 1 then c1 else if i = 0 then c0 else 0) := A30.congr (fun i hi => by have q : (4 : Int32).toInt.toNat = 4 := (by decide); simp only [q, own_nc hc4])
  refine own_by (T' := T30) (f' := (mkF m 143 #[.val (.int (6 : Int32)), .val (.int c0), .val (.int c1), .val (.int c2), .val (.int c3), .val (.int c4), .val (.int c5)] [(.ref b11), (.ref b11)])) (fun t k => XS.dup X30.here hx rfl (hb hby d3_142) rfl rfl k) ?_
  refine own_by (T' := T30) (f' := (mkF m 144 #[.val (.int (6 : Int32)), .val (.int c0), .val (.int c1), .val (.int c2), .val (.int c3), .val (.int c4), .val (.int c5)] [(.int (5 : Int32)), (.ref b11), (.ref b11)])) (fun t k => XS.iconst X30.here hx rfl (hb hby d3_143) k) ?_
  refine own_by (T' := T30) (f' := (mkF m 146 #[.val (.int (6 : Int32)), .val (.int c0), .val (.int c1), .val (.int c2), .val (.int c3), .val (.int c4), .val (.int c5)] [(.int c5), (.int (5 : Int32)), (.ref b11), (.ref b11)])) (fun t k => XS.iload X30.here hx rfl (hb hby d3_144) rfl k) ?_
  have _ : (5 : Int32).toInt = 5 := by decide
  refine own_stC X30 hx hZ e30 (hb hby d3_146) A33 (by first | decide | omega) (by first | decide | omega) ?_
  intro T34 h34 X34 e34 W34 A34
  show own_Go p e below _ T34 (mkF m 147 #[.val (.int (6 : Int32)), .val (.int c0), .val (.int c1), .val (.int c2), .val (.int c3), .val (.int c4), .val (.int c5)] [(.ref b11)])
  have sz35 : n0 ≤ h34.size := by rw [W34.size]; exact sz31
  have K36 := K32.wr W34 (Or.inr gh11)
  have N34 := Fr.snoc X34 N30 gn11
  have A37 : own_A Z h34 b11 .char 6 (fun i => if i = 5 then c5 else if i = 4 then c4 else if i = 3 then c3 else if i = 2 then c2 else if i = 1 then c1 else if i = 0 then c0 else 0) := A34.congr (fun i hi => by have q : (5 : Int32).toInt.toNat = 5 := (by decide); simp only [q, own_nc hc5])
  have A38 : own_A Z h34 b11 .char 6 (fun i => List.getD [c0, c1, c2, c3, c4, c5] i 0) := A37.congr (fun i hi => by match i, hi with | 0, _ => rfl | 1, _ => rfl | 2, _ => rfl | 3, _ => rfl | 4, _ => rfl | 5, _ => rfl | (q + 6), h => exact absurd h (by omega))
  refine own_retA X34 hx hret hlk (hb hby d3_147) rfl rfl rfl (by decide) (by decide) ?_
  try rw [e34]
  exact ⟨b11, rfl, N34, K36, gh11, A38⟩
theorem ef_rmSP (m : MethodId) (x0 : Int32) (x1 : Int32) : entryFrame m #[(.int x0), (.int x1)] 6 = mkF m 0 #[.val (.int x0), .val (.int x1), .unset, .unset, .unset, .unset] [] := by first | (simp [entryFrame, mkF, argsToLocals, Value.category]; done) | rfl
set_option maxRecDepth 65536 in
set_option maxHeartbeats 40000000 in
theorem rmSP (l : Launch) (Z : State) (a0 : Array Value) (hw : ∀ d ∈ tables_1, d.before a0 Z = true) (ws : List Jvm.Cond) (s0 c0 : Int32) (k : Nat) (h0 : Heap) (hs : s0 = own_i9 k) (hk : k < 9) :
    own_Ct l Z (⟨"com/example/kissena/kissena/ColumnsIsDecimalPinLaw", "step", "(IC)I"⟩ : MethodName) method_5_code 6 (some .int) ws ({ frames := 0, cells := 0, slots := 0, locals := 0 } : Room) #[(.int s0), (.int c0)] h0 (fun v h L => v = some (.int (own_i9 (own_st k (own_cl c0)))) ∧ L = [] ∧ h = h0) := by
  refine own_of (plainFor_of_name pn_com_example_kissena_kissena_ColumnsIsDecimalPinLaw) ?_
  intro p e s m below meth c s₁ hx hby hml hown hnm hret hlk hZ X0 e0
  rw [ef_rmSP]
  refine own_by (T' := s₁) (f' := (mkF m 1 #[.val (.int s0), .val (.int c0), .unset, .unset, .unset, .unset] [(.int c0)])) (fun t k => XS.iloadN X0.here hx rfl (hb hby d15_0) rfl k) ?_
  refine own_by (T' := s₁) (f' := (mkF m 3 #[.val (.int s0), .val (.int c0), .unset, .unset, .unset, .unset] [(.int (48 : Int32)), (.int c0)])) (fun t k => XS.bipush X0.here hx rfl (hb hby d15_1) k) ?_
  have mg3 : ∀ t, Steps p.tables e below (s₁.setTop (mkF m 17 #[.val (.int s0), .val (.int c0), .unset, .unset, .unset, .unset] [(.int (if c0 < (48 : Int32) then (0 : Int32) else (if (57 : Int32) < c0 then (0 : Int32) else (1 : Int32))))])) t → Steps p.tables e below (s₁.setTop (mkF m 3 #[.val (.int s0), .val (.int c0), .unset, .unset, .unset, .unset] [(.int (48 : Int32)), (.int c0)])) t := by
    intro t k0
    by_cases hm1 : c0 < (48 : Int32)
    · skip
      refine XS.icmpYes X0.here hx rfl (pc0 := 3) (pc' := 16) rfl (hb hby d15_3) rfl (tlt hm1).1 (by decide) (by decide) ?_
      show Steps p.tables e below (s₁.setTop (mkF m 16 #[.val (.int s0), .val (.int c0), .unset, .unset, .unset, .unset] [])) _
      refine XS.iconst X0.here hx rfl (hb hby d15_16) ?_
      show Steps p.tables e below (s₁.setTop (mkF m 17 #[.val (.int s0), .val (.int c0), .unset, .unset, .unset, .unset] [(.int (0 : Int32))])) _
      try simp only [if_pos hm1] at k0
      exact k0
    · skip
      refine XS.icmpNo X0.here hx rfl (hb hby d15_3) rfl (flt hm1).1 ?_
      show Steps p.tables e below (s₁.setTop (mkF m 6 #[.val (.int s0), .val (.int c0), .unset, .unset, .unset, .unset] [])) _
      refine XS.iloadN X0.here hx rfl (hb hby d15_6) rfl ?_
      show Steps p.tables e below (s₁.setTop (mkF m 7 #[.val (.int s0), .val (.int c0), .unset, .unset, .unset, .unset] [(.int c0)])) _
      refine XS.bipush X0.here hx rfl (hb hby d15_7) ?_
      show Steps p.tables e below (s₁.setTop (mkF m 9 #[.val (.int s0), .val (.int c0), .unset, .unset, .unset, .unset] [(.int (57 : Int32)), (.int c0)])) _
      by_cases hm2 : (57 : Int32) < c0
      · skip
        refine XS.icmpYes X0.here hx rfl (pc0 := 9) (pc' := 16) rfl (hb hby d15_9) rfl (tlt hm2).2.2.1 (by decide) (by decide) ?_
        show Steps p.tables e below (s₁.setTop (mkF m 16 #[.val (.int s0), .val (.int c0), .unset, .unset, .unset, .unset] [])) _
        refine XS.iconst X0.here hx rfl (hb hby d15_16) ?_
        show Steps p.tables e below (s₁.setTop (mkF m 17 #[.val (.int s0), .val (.int c0), .unset, .unset, .unset, .unset] [(.int (0 : Int32))])) _
        try simp only [if_neg hm1, if_pos hm2] at k0
        exact k0
      · skip
        refine XS.icmpNo X0.here hx rfl (hb hby d15_9) rfl (flt hm2).2.2.1 ?_
        show Steps p.tables e below (s₁.setTop (mkF m 12 #[.val (.int s0), .val (.int c0), .unset, .unset, .unset, .unset] [])) _
        refine XS.iconst X0.here hx rfl (hb hby d15_12) ?_
        show Steps p.tables e below (s₁.setTop (mkF m 13 #[.val (.int s0), .val (.int c0), .unset, .unset, .unset, .unset] [(.int (1 : Int32))])) _
        refine XS.goto X0.here hx rfl (pc0 := 13) (pc' := 17) rfl (hb hby d15_13) (by decide) (by decide) ?_
        show Steps p.tables e below (s₁.setTop (mkF m 17 #[.val (.int s0), .val (.int c0), .unset, .unset, .unset, .unset] [(.int (1 : Int32))])) _
        try simp only [if_neg hm1, if_neg hm2] at k0
        exact k0
  refine own_by mg3 ?_
  obtain ⟨bd, hbd⟩ : ∃ z : Int32, z = own_bD c0 := ⟨_, rfl⟩
  rw [show (if c0 < (48 : Int32) then (0 : Int32) else (if (57 : Int32) < c0 then (0 : Int32) else (1 : Int32))) = bd from hbd.symm]
  show own_Go p e below _ s₁ (mkF m 17 #[.val (.int s0), .val (.int c0), .unset, .unset, .unset, .unset] [(.int bd)])
  refine own_by (T' := s₁) (f' := (mkF m 18 #[.val (.int s0), .val (.int c0), .val (.int bd), .unset, .unset, .unset] [])) (fun t k => XS.istoreN X0.here hx rfl (hb hby d15_17) rfl (l' := #[.val (.int s0), .val (.int c0), .val (.int bd), .unset, .unset, .unset]) rfl k) ?_
  refine own_by (T' := s₁) (f' := (mkF m 19 #[.val (.int s0), .val (.int c0), .val (.int bd), .unset, .unset, .unset] [(.int c0)])) (fun t k => XS.iloadN X0.here hx rfl (hb hby d15_18) rfl k) ?_
  refine own_by (T' := s₁) (f' := (mkF m 21 #[.val (.int s0), .val (.int c0), .val (.int bd), .unset, .unset, .unset] [(.int (43 : Int32)), (.int c0)])) (fun t k => XS.bipush X0.here hx rfl (hb hby d15_19) k) ?_
  have mg6 : ∀ t, Steps p.tables e below (s₁.setTop (mkF m 35 #[.val (.int s0), .val (.int c0), .val (.int bd), .unset, .unset, .unset] [(.int (if c0 = (43 : Int32) then (1 : Int32) else (if c0 = (45 : Int32) then (1 : Int32) else (0 : Int32))))])) t → Steps p.tables e below (s₁.setTop (mkF m 21 #[.val (.int s0), .val (.int c0), .val (.int bd), .unset, .unset, .unset] [(.int (43 : Int32)), (.int c0)])) t := by
    intro t k0
    by_cases hm4 : c0 = (43 : Int32)
    · skip
      refine XS.icmpYes X0.here hx rfl (pc0 := 21) (pc' := 30) rfl (hb hby d15_21) rfl (teq hm4).1 (by decide) (by decide) ?_
      show Steps p.tables e below (s₁.setTop (mkF m 30 #[.val (.int s0), .val (.int c0), .val (.int bd), .unset, .unset, .unset] [])) _
      refine XS.iconst X0.here hx rfl (hb hby d15_30) ?_
      show Steps p.tables e below (s₁.setTop (mkF m 31 #[.val (.int s0), .val (.int c0), .val (.int bd), .unset, .unset, .unset] [(.int (1 : Int32))])) _
      refine XS.goto X0.here hx rfl (pc0 := 31) (pc' := 35) rfl (hb hby d15_31) (by decide) (by decide) ?_
      show Steps p.tables e below (s₁.setTop (mkF m 35 #[.val (.int s0), .val (.int c0), .val (.int bd), .unset, .unset, .unset] [(.int (1 : Int32))])) _
      try simp only [if_pos hm4] at k0
      exact k0
    · skip
      refine XS.icmpNo X0.here hx rfl (hb hby d15_21) rfl (feq hm4).1 ?_
      show Steps p.tables e below (s₁.setTop (mkF m 24 #[.val (.int s0), .val (.int c0), .val (.int bd), .unset, .unset, .unset] [])) _
      refine XS.iloadN X0.here hx rfl (hb hby d15_24) rfl ?_
      show Steps p.tables e below (s₁.setTop (mkF m 25 #[.val (.int s0), .val (.int c0), .val (.int bd), .unset, .unset, .unset] [(.int c0)])) _
      refine XS.bipush X0.here hx rfl (hb hby d15_25) ?_
      show Steps p.tables e below (s₁.setTop (mkF m 27 #[.val (.int s0), .val (.int c0), .val (.int bd), .unset, .unset, .unset] [(.int (45 : Int32)), (.int c0)])) _
      by_cases hm5 : c0 = (45 : Int32)
      · skip
        refine XS.icmpNo X0.here hx rfl (hb hby d15_27) rfl (teq hm5).2 ?_
        show Steps p.tables e below (s₁.setTop (mkF m 30 #[.val (.int s0), .val (.int c0), .val (.int bd), .unset, .unset, .unset] [])) _
        refine XS.iconst X0.here hx rfl (hb hby d15_30) ?_
        show Steps p.tables e below (s₁.setTop (mkF m 31 #[.val (.int s0), .val (.int c0), .val (.int bd), .unset, .unset, .unset] [(.int (1 : Int32))])) _
        refine XS.goto X0.here hx rfl (pc0 := 31) (pc' := 35) rfl (hb hby d15_31) (by decide) (by decide) ?_
        show Steps p.tables e below (s₁.setTop (mkF m 35 #[.val (.int s0), .val (.int c0), .val (.int bd), .unset, .unset, .unset] [(.int (1 : Int32))])) _
        try simp only [if_neg hm4, if_pos hm5] at k0
        exact k0
      · skip
        refine XS.icmpYes X0.here hx rfl (pc0 := 27) (pc' := 34) rfl (hb hby d15_27) rfl (feq hm5).2 (by decide) (by decide) ?_
        show Steps p.tables e below (s₁.setTop (mkF m 34 #[.val (.int s0), .val (.int c0), .val (.int bd), .unset, .unset, .unset] [])) _
        refine XS.iconst X0.here hx rfl (hb hby d15_34) ?_
        show Steps p.tables e below (s₁.setTop (mkF m 35 #[.val (.int s0), .val (.int c0), .val (.int bd), .unset, .unset, .unset] [(.int (0 : Int32))])) _
        try simp only [if_neg hm4, if_neg hm5] at k0
        exact k0
  refine own_by mg6 ?_
  obtain ⟨bs, hbs⟩ : ∃ z : Int32, z = own_bS c0 := ⟨_, rfl⟩
  rw [show (if c0 = (43 : Int32) then (1 : Int32) else (if c0 = (45 : Int32) then (1 : Int32) else (0 : Int32))) = bs from hbs.symm]
  show own_Go p e below _ s₁ (mkF m 35 #[.val (.int s0), .val (.int c0), .val (.int bd), .unset, .unset, .unset] [(.int bs)])
  refine own_by (T' := s₁) (f' := (mkF m 36 #[.val (.int s0), .val (.int c0), .val (.int bd), .val (.int bs), .unset, .unset] [])) (fun t k => XS.istoreN X0.here hx rfl (hb hby d15_35) rfl (l' := #[.val (.int s0), .val (.int c0), .val (.int bd), .val (.int bs), .unset, .unset]) rfl k) ?_
  refine own_by (T' := s₁) (f' := (mkF m 37 #[.val (.int s0), .val (.int c0), .val (.int bd), .val (.int bs), .unset, .unset] [(.int c0)])) (fun t k => XS.iloadN X0.here hx rfl (hb hby d15_36) rfl k) ?_
  refine own_by (T' := s₁) (f' := (mkF m 39 #[.val (.int s0), .val (.int c0), .val (.int bd), .val (.int bs), .unset, .unset] [(.int (46 : Int32)), (.int c0)])) (fun t k => XS.bipush X0.here hx rfl (hb hby d15_37) k) ?_
  have mg8 : ∀ t, Steps p.tables e below (s₁.setTop (mkF m 47 #[.val (.int s0), .val (.int c0), .val (.int bd), .val (.int bs), .unset, .unset] [(.int (if c0 = (46 : Int32) then (1 : Int32) else (0 : Int32)))])) t → Steps p.tables e below (s₁.setTop (mkF m 39 #[.val (.int s0), .val (.int c0), .val (.int bd), .val (.int bs), .unset, .unset] [(.int (46 : Int32)), (.int c0)])) t := by
    intro t k0
    by_cases hm7 : c0 = (46 : Int32)
    · skip
      refine XS.icmpNo X0.here hx rfl (hb hby d15_39) rfl (teq hm7).2 ?_
      show Steps p.tables e below (s₁.setTop (mkF m 42 #[.val (.int s0), .val (.int c0), .val (.int bd), .val (.int bs), .unset, .unset] [])) _
      refine XS.iconst X0.here hx rfl (hb hby d15_42) ?_
      show Steps p.tables e below (s₁.setTop (mkF m 43 #[.val (.int s0), .val (.int c0), .val (.int bd), .val (.int bs), .unset, .unset] [(.int (1 : Int32))])) _
      refine XS.goto X0.here hx rfl (pc0 := 43) (pc' := 47) rfl (hb hby d15_43) (by decide) (by decide) ?_
      show Steps p.tables e below (s₁.setTop (mkF m 47 #[.val (.int s0), .val (.int c0), .val (.int bd), .val (.int bs), .unset, .unset] [(.int (1 : Int32))])) _
      try simp only [if_pos hm7] at k0
      exact k0
    · skip
      refine XS.icmpYes X0.here hx rfl (pc0 := 39) (pc' := 46) rfl (hb hby d15_39) rfl (feq hm7).2 (by decide) (by decide) ?_
      show Steps p.tables e below (s₁.setTop (mkF m 46 #[.val (.int s0), .val (.int c0), .val (.int bd), .val (.int bs), .unset, .unset] [])) _
      refine XS.iconst X0.here hx rfl (hb hby d15_46) ?_
      show Steps p.tables e below (s₁.setTop (mkF m 47 #[.val (.int s0), .val (.int c0), .val (.int bd), .val (.int bs), .unset, .unset] [(.int (0 : Int32))])) _
      try simp only [if_neg hm7] at k0
      exact k0
  refine own_by mg8 ?_
  obtain ⟨bp, hbp⟩ : ∃ z : Int32, z = own_bP c0 := ⟨_, rfl⟩
  rw [show (if c0 = (46 : Int32) then (1 : Int32) else (0 : Int32)) = bp from hbp.symm]
  show own_Go p e below _ s₁ (mkF m 47 #[.val (.int s0), .val (.int c0), .val (.int bd), .val (.int bs), .unset, .unset] [(.int bp)])
  refine own_by (T' := s₁) (f' := (mkF m 49 #[.val (.int s0), .val (.int c0), .val (.int bd), .val (.int bs), .val (.int bp), .unset] [])) (fun t k => XS.istore X0.here hx rfl (hb hby d15_47) rfl (l' := #[.val (.int s0), .val (.int c0), .val (.int bd), .val (.int bs), .val (.int bp), .unset]) rfl k) ?_
  refine own_by (T' := s₁) (f' := (mkF m 50 #[.val (.int s0), .val (.int c0), .val (.int bd), .val (.int bs), .val (.int bp), .unset] [(.int c0)])) (fun t k => XS.iloadN X0.here hx rfl (hb hby d15_49) rfl k) ?_
  refine own_by (T' := s₁) (f' := (mkF m 52 #[.val (.int s0), .val (.int c0), .val (.int bd), .val (.int bs), .val (.int bp), .unset] [(.int (101 : Int32)), (.int c0)])) (fun t k => XS.bipush X0.here hx rfl (hb hby d15_50) k) ?_
  have mg11 : ∀ t, Steps p.tables e below (s₁.setTop (mkF m 66 #[.val (.int s0), .val (.int c0), .val (.int bd), .val (.int bs), .val (.int bp), .unset] [(.int (if c0 = (101 : Int32) then (1 : Int32) else (if c0 = (69 : Int32) then (1 : Int32) else (0 : Int32))))])) t → Steps p.tables e below (s₁.setTop (mkF m 52 #[.val (.int s0), .val (.int c0), .val (.int bd), .val (.int bs), .val (.int bp), .unset] [(.int (101 : Int32)), (.int c0)])) t := by
    intro t k0
    by_cases hm9 : c0 = (101 : Int32)
    · skip
      refine XS.icmpYes X0.here hx rfl (pc0 := 52) (pc' := 61) rfl (hb hby d15_52) rfl (teq hm9).1 (by decide) (by decide) ?_
      show Steps p.tables e below (s₁.setTop (mkF m 61 #[.val (.int s0), .val (.int c0), .val (.int bd), .val (.int bs), .val (.int bp), .unset] [])) _
      refine XS.iconst X0.here hx rfl (hb hby d15_61) ?_
      show Steps p.tables e below (s₁.setTop (mkF m 62 #[.val (.int s0), .val (.int c0), .val (.int bd), .val (.int bs), .val (.int bp), .unset] [(.int (1 : Int32))])) _
      refine XS.goto X0.here hx rfl (pc0 := 62) (pc' := 66) rfl (hb hby d15_62) (by decide) (by decide) ?_
      show Steps p.tables e below (s₁.setTop (mkF m 66 #[.val (.int s0), .val (.int c0), .val (.int bd), .val (.int bs), .val (.int bp), .unset] [(.int (1 : Int32))])) _
      try simp only [if_pos hm9] at k0
      exact k0
    · skip
      refine XS.icmpNo X0.here hx rfl (hb hby d15_52) rfl (feq hm9).1 ?_
      show Steps p.tables e below (s₁.setTop (mkF m 55 #[.val (.int s0), .val (.int c0), .val (.int bd), .val (.int bs), .val (.int bp), .unset] [])) _
      refine XS.iloadN X0.here hx rfl (hb hby d15_55) rfl ?_
      show Steps p.tables e below (s₁.setTop (mkF m 56 #[.val (.int s0), .val (.int c0), .val (.int bd), .val (.int bs), .val (.int bp), .unset] [(.int c0)])) _
      refine XS.bipush X0.here hx rfl (hb hby d15_56) ?_
      show Steps p.tables e below (s₁.setTop (mkF m 58 #[.val (.int s0), .val (.int c0), .val (.int bd), .val (.int bs), .val (.int bp), .unset] [(.int (69 : Int32)), (.int c0)])) _
      by_cases hm10 : c0 = (69 : Int32)
      · skip
        refine XS.icmpNo X0.here hx rfl (hb hby d15_58) rfl (teq hm10).2 ?_
        show Steps p.tables e below (s₁.setTop (mkF m 61 #[.val (.int s0), .val (.int c0), .val (.int bd), .val (.int bs), .val (.int bp), .unset] [])) _
        refine XS.iconst X0.here hx rfl (hb hby d15_61) ?_
        show Steps p.tables e below (s₁.setTop (mkF m 62 #[.val (.int s0), .val (.int c0), .val (.int bd), .val (.int bs), .val (.int bp), .unset] [(.int (1 : Int32))])) _
        refine XS.goto X0.here hx rfl (pc0 := 62) (pc' := 66) rfl (hb hby d15_62) (by decide) (by decide) ?_
        show Steps p.tables e below (s₁.setTop (mkF m 66 #[.val (.int s0), .val (.int c0), .val (.int bd), .val (.int bs), .val (.int bp), .unset] [(.int (1 : Int32))])) _
        try simp only [if_neg hm9, if_pos hm10] at k0
        exact k0
      · skip
        refine XS.icmpYes X0.here hx rfl (pc0 := 58) (pc' := 65) rfl (hb hby d15_58) rfl (feq hm10).2 (by decide) (by decide) ?_
        show Steps p.tables e below (s₁.setTop (mkF m 65 #[.val (.int s0), .val (.int c0), .val (.int bd), .val (.int bs), .val (.int bp), .unset] [])) _
        refine XS.iconst X0.here hx rfl (hb hby d15_65) ?_
        show Steps p.tables e below (s₁.setTop (mkF m 66 #[.val (.int s0), .val (.int c0), .val (.int bd), .val (.int bs), .val (.int bp), .unset] [(.int (0 : Int32))])) _
        try simp only [if_neg hm9, if_neg hm10] at k0
        exact k0
  refine own_by mg11 ?_
  obtain ⟨be, hbe⟩ : ∃ z : Int32, z = own_bE c0 := ⟨_, rfl⟩
  rw [show (if c0 = (101 : Int32) then (1 : Int32) else (if c0 = (69 : Int32) then (1 : Int32) else (0 : Int32))) = be from hbe.symm]
  show own_Go p e below _ s₁ (mkF m 66 #[.val (.int s0), .val (.int c0), .val (.int bd), .val (.int bs), .val (.int bp), .unset] [(.int be)])
  refine own_by (T' := s₁) (f' := (mkF m 68 #[.val (.int s0), .val (.int c0), .val (.int bd), .val (.int bs), .val (.int bp), .val (.int be)] [])) (fun t k => XS.istore X0.here hx rfl (hb hby d15_66) rfl (l' := #[.val (.int s0), .val (.int c0), .val (.int bd), .val (.int bs), .val (.int bp), .val (.int be)]) rfl k) ?_
  refine own_by (T' := s₁) (f' := (mkF m 69 #[.val (.int s0), .val (.int c0), .val (.int bd), .val (.int bs), .val (.int bp), .val (.int be)] [(.int s0)])) (fun t k => XS.iloadN X0.here hx rfl (hb hby d15_68) rfl k) ?_
  by_cases hc69_12 : s0 = (0 : Int32)
  · have _ := X0
    refine own_by (T' := s₁) (f' := (mkF m 72 #[.val (.int s0), .val (.int c0), .val (.int bd), .val (.int bs), .val (.int bp), .val (.int be)] [])) (fun t k => XS.ifNo X0.here hx rfl (hb hby d15_69) rfl ((if0 _ _).trans (teq hc69_12).2) k) ?_
    refine own_by (T' := s₁) (f' := (mkF m 73 #[.val (.int s0), .val (.int c0), .val (.int bd), .val (.int bs), .val (.int bp), .val (.int be)] [(.int bs)])) (fun t k => XS.iloadN X0.here hx rfl (hb hby d15_72) rfl k) ?_
    by_cases hc73_13 : bs = (0 : Int32)
    · have _ := X0
      refine own_by (T' := s₁) (f' := (mkF m 80 #[.val (.int s0), .val (.int c0), .val (.int bd), .val (.int bs), .val (.int bp), .val (.int be)] [])) (fun t k => XS.ifYes X0.here hx rfl (pc0 := 73) (pc' := 80) rfl (hb hby d15_73) rfl ((if0 _ _).trans (teq hc73_13).1) (by decide) (by decide) k) ?_
      refine own_by (T' := s₁) (f' := (mkF m 81 #[.val (.int s0), .val (.int c0), .val (.int bd), .val (.int bs), .val (.int bp), .val (.int be)] [(.int bd)])) (fun t k => XS.iloadN X0.here hx rfl (hb hby d15_80) rfl k) ?_
      by_cases hc81_14 : bd = (0 : Int32)
      · have _ := X0
        refine own_by (T' := s₁) (f' := (mkF m 88 #[.val (.int s0), .val (.int c0), .val (.int bd), .val (.int bs), .val (.int bp), .val (.int be)] [])) (fun t k => XS.ifYes X0.here hx rfl (pc0 := 81) (pc' := 88) rfl (hb hby d15_81) rfl ((if0 _ _).trans (teq hc81_14).1) (by decide) (by decide) k) ?_
        refine own_by (T' := s₁) (f' := (mkF m 90 #[.val (.int s0), .val (.int c0), .val (.int bd), .val (.int bs), .val (.int bp), .val (.int be)] [(.int bp)])) (fun t k => XS.iload X0.here hx rfl (hb hby d15_88) rfl k) ?_
        by_cases hc90_15 : bp = (0 : Int32)
        · have _ := X0
          refine own_by (T' := s₁) (f' := (mkF m 97 #[.val (.int s0), .val (.int c0), .val (.int bd), .val (.int bs), .val (.int bp), .val (.int be)] [])) (fun t k => XS.ifYes X0.here hx rfl (pc0 := 90) (pc' := 97) rfl (hb hby d15_90) rfl ((if0 _ _).trans (teq hc90_15).1) (by decide) (by decide) k) ?_
          refine own_by (T' := s₁) (f' := (mkF m 99 #[.val (.int s0), .val (.int c0), .val (.int bd), .val (.int bs), .val (.int bp), .val (.int be)] [(.int (8 : Int32))])) (fun t k => XS.bipush X0.here hx rfl (hb hby d15_97) k) ?_
          refine own_retI X0 hx hret hlk (hb hby d15_99) (by decide) (by decide) ?_
          try rw [e0]
          refine ⟨congrArg (fun z => some (Value.int z)) ?_, rfl, rfl⟩
          rw [← own_stp_st k hk c0, ← hs, ← hbd, ← hbs, ← hbp, ← hbe, own_stp]
          simp only [if_pos hc69_12, if_pos hc73_13, if_pos hc81_14, if_pos hc90_15]
        · have _ := X0
          refine own_by (T' := s₁) (f' := (mkF m 93 #[.val (.int s0), .val (.int c0), .val (.int bd), .val (.int bs), .val (.int bp), .val (.int be)] [])) (fun t k => XS.ifNo X0.here hx rfl (hb hby d15_90) rfl ((if0 _ _).trans (feq hc90_15).1) k) ?_
          refine own_by (T' := s₁) (f' := (mkF m 94 #[.val (.int s0), .val (.int c0), .val (.int bd), .val (.int bs), .val (.int bp), .val (.int be)] [(.int (3 : Int32))])) (fun t k => XS.iconst X0.here hx rfl (hb hby d15_93) k) ?_
          refine own_by (T' := s₁) (f' := (mkF m 99 #[.val (.int s0), .val (.int c0), .val (.int bd), .val (.int bs), .val (.int bp), .val (.int be)] [(.int (3 : Int32))])) (fun t k => XS.goto X0.here hx rfl (pc0 := 94) (pc' := 99) rfl (hb hby d15_94) (by decide) (by decide) k) ?_
          refine own_retI X0 hx hret hlk (hb hby d15_99) (by decide) (by decide) ?_
          try rw [e0]
          refine ⟨congrArg (fun z => some (Value.int z)) ?_, rfl, rfl⟩
          rw [← own_stp_st k hk c0, ← hs, ← hbd, ← hbs, ← hbp, ← hbe, own_stp]
          simp only [if_pos hc69_12, if_pos hc73_13, if_pos hc81_14, if_neg hc90_15]
      · have _ := X0
        refine own_by (T' := s₁) (f' := (mkF m 84 #[.val (.int s0), .val (.int c0), .val (.int bd), .val (.int bs), .val (.int bp), .val (.int be)] [])) (fun t k => XS.ifNo X0.here hx rfl (hb hby d15_81) rfl ((if0 _ _).trans (feq hc81_14).1) k) ?_
        refine own_by (T' := s₁) (f' := (mkF m 85 #[.val (.int s0), .val (.int c0), .val (.int bd), .val (.int bs), .val (.int bp), .val (.int be)] [(.int (2 : Int32))])) (fun t k => XS.iconst X0.here hx rfl (hb hby d15_84) k) ?_
        refine own_by (T' := s₁) (f' := (mkF m 99 #[.val (.int s0), .val (.int c0), .val (.int bd), .val (.int bs), .val (.int bp), .val (.int be)] [(.int (2 : Int32))])) (fun t k => XS.goto X0.here hx rfl (pc0 := 85) (pc' := 99) rfl (hb hby d15_85) (by decide) (by decide) k) ?_
        refine own_retI X0 hx hret hlk (hb hby d15_99) (by decide) (by decide) ?_
        try rw [e0]
        refine ⟨congrArg (fun z => some (Value.int z)) ?_, rfl, rfl⟩
        rw [← own_stp_st k hk c0, ← hs, ← hbd, ← hbs, ← hbp, ← hbe, own_stp]
        simp only [if_pos hc69_12, if_pos hc73_13, if_neg hc81_14]
    · have _ := X0
      refine own_by (T' := s₁) (f' := (mkF m 76 #[.val (.int s0), .val (.int c0), .val (.int bd), .val (.int bs), .val (.int bp), .val (.int be)] [])) (fun t k => XS.ifNo X0.here hx rfl (hb hby d15_73) rfl ((if0 _ _).trans (feq hc73_13).1) k) ?_
      refine own_by (T' := s₁) (f' := (mkF m 77 #[.val (.int s0), .val (.int c0), .val (.int bd), .val (.int bs), .val (.int bp), .val (.int be)] [(.int (1 : Int32))])) (fun t k => XS.iconst X0.here hx rfl (hb hby d15_76) k) ?_
      refine own_by (T' := s₁) (f' := (mkF m 99 #[.val (.int s0), .val (.int c0), .val (.int bd), .val (.int bs), .val (.int bp), .val (.int be)] [(.int (1 : Int32))])) (fun t k => XS.goto X0.here hx rfl (pc0 := 77) (pc' := 99) rfl (hb hby d15_77) (by decide) (by decide) k) ?_
      refine own_retI X0 hx hret hlk (hb hby d15_99) (by decide) (by decide) ?_
      try rw [e0]
      refine ⟨congrArg (fun z => some (Value.int z)) ?_, rfl, rfl⟩
      rw [← own_stp_st k hk c0, ← hs, ← hbd, ← hbs, ← hbp, ← hbe, own_stp]
      simp only [if_pos hc69_12, if_neg hc73_13]
  · have _ := X0
    refine own_by (T' := s₁) (f' := (mkF m 100 #[.val (.int s0), .val (.int c0), .val (.int bd), .val (.int bs), .val (.int bp), .val (.int be)] [])) (fun t k => XS.ifYes X0.here hx rfl (pc0 := 69) (pc' := 100) rfl (hb hby d15_69) rfl ((if0 _ _).trans (feq hc69_12).2) (by decide) (by decide) k) ?_
    refine own_by (T' := s₁) (f' := (mkF m 101 #[.val (.int s0), .val (.int c0), .val (.int bd), .val (.int bs), .val (.int bp), .val (.int be)] [(.int s0)])) (fun t k => XS.iloadN X0.here hx rfl (hb hby d15_100) rfl k) ?_
    refine own_by (T' := s₁) (f' := (mkF m 102 #[.val (.int s0), .val (.int c0), .val (.int bd), .val (.int bs), .val (.int bp), .val (.int be)] [(.int (1 : Int32)), (.int s0)])) (fun t k => XS.iconst X0.here hx rfl (hb hby d15_101) k) ?_
    by_cases hc102_16 : s0 = (1 : Int32)
    · have _ := X0
      refine own_by (T' := s₁) (f' := (mkF m 105 #[.val (.int s0), .val (.int c0), .val (.int bd), .val (.int bs), .val (.int bp), .val (.int be)] [])) (fun t k => XS.icmpNo X0.here hx rfl (hb hby d15_102) rfl (teq hc102_16).2 k) ?_
      refine own_by (T' := s₁) (f' := (mkF m 106 #[.val (.int s0), .val (.int c0), .val (.int bd), .val (.int bs), .val (.int bp), .val (.int be)] [(.int bd)])) (fun t k => XS.iloadN X0.here hx rfl (hb hby d15_105) rfl k) ?_
      by_cases hc106_17 : bd = (0 : Int32)
      · have _ := X0
        refine own_by (T' := s₁) (f' := (mkF m 113 #[.val (.int s0), .val (.int c0), .val (.int bd), .val (.int bs), .val (.int bp), .val (.int be)] [])) (fun t k => XS.ifYes X0.here hx rfl (pc0 := 106) (pc' := 113) rfl (hb hby d15_106) rfl ((if0 _ _).trans (teq hc106_17).1) (by decide) (by decide) k) ?_
        refine own_by (T' := s₁) (f' := (mkF m 115 #[.val (.int s0), .val (.int c0), .val (.int bd), .val (.int bs), .val (.int bp), .val (.int be)] [(.int bp)])) (fun t k => XS.iload X0.here hx rfl (hb hby d15_113) rfl k) ?_
        by_cases hc115_18 : bp = (0 : Int32)
        · have _ := X0
          refine own_by (T' := s₁) (f' := (mkF m 122 #[.val (.int s0), .val (.int c0), .val (.int bd), .val (.int bs), .val (.int bp), .val (.int be)] [])) (fun t k => XS.ifYes X0.here hx rfl (pc0 := 115) (pc' := 122) rfl (hb hby d15_115) rfl ((if0 _ _).trans (teq hc115_18).1) (by decide) (by decide) k) ?_
          refine own_by (T' := s₁) (f' := (mkF m 124 #[.val (.int s0), .val (.int c0), .val (.int bd), .val (.int bs), .val (.int bp), .val (.int be)] [(.int (8 : Int32))])) (fun t k => XS.bipush X0.here hx rfl (hb hby d15_122) k) ?_
          refine own_retI X0 hx hret hlk (hb hby d15_124) (by decide) (by decide) ?_
          try rw [e0]
          refine ⟨congrArg (fun z => some (Value.int z)) ?_, rfl, rfl⟩
          rw [← own_stp_st k hk c0, ← hs, ← hbd, ← hbs, ← hbp, ← hbe, own_stp]
          simp only [if_neg hc69_12, if_pos hc102_16, if_pos hc106_17, if_pos hc115_18]
        · have _ := X0
          refine own_by (T' := s₁) (f' := (mkF m 118 #[.val (.int s0), .val (.int c0), .val (.int bd), .val (.int bs), .val (.int bp), .val (.int be)] [])) (fun t k => XS.ifNo X0.here hx rfl (hb hby d15_115) rfl ((if0 _ _).trans (feq hc115_18).1) k) ?_
          refine own_by (T' := s₁) (f' := (mkF m 119 #[.val (.int s0), .val (.int c0), .val (.int bd), .val (.int bs), .val (.int bp), .val (.int be)] [(.int (3 : Int32))])) (fun t k => XS.iconst X0.here hx rfl (hb hby d15_118) k) ?_
          refine own_by (T' := s₁) (f' := (mkF m 124 #[.val (.int s0), .val (.int c0), .val (.int bd), .val (.int bs), .val (.int bp), .val (.int be)] [(.int (3 : Int32))])) (fun t k => XS.goto X0.here hx rfl (pc0 := 119) (pc' := 124) rfl (hb hby d15_119) (by decide) (by decide) k) ?_
          refine own_retI X0 hx hret hlk (hb hby d15_124) (by decide) (by decide) ?_
          try rw [e0]
          refine ⟨congrArg (fun z => some (Value.int z)) ?_, rfl, rfl⟩
          rw [← own_stp_st k hk c0, ← hs, ← hbd, ← hbs, ← hbp, ← hbe, own_stp]
          simp only [if_neg hc69_12, if_pos hc102_16, if_pos hc106_17, if_neg hc115_18]
      · have _ := X0
        refine own_by (T' := s₁) (f' := (mkF m 109 #[.val (.int s0), .val (.int c0), .val (.int bd), .val (.int bs), .val (.int bp), .val (.int be)] [])) (fun t k => XS.ifNo X0.here hx rfl (hb hby d15_106) rfl ((if0 _ _).trans (feq hc106_17).1) k) ?_
        refine own_by (T' := s₁) (f' := (mkF m 110 #[.val (.int s0), .val (.int c0), .val (.int bd), .val (.int bs), .val (.int bp), .val (.int be)] [(.int (2 : Int32))])) (fun t k => XS.iconst X0.here hx rfl (hb hby d15_109) k) ?_
        refine own_by (T' := s₁) (f' := (mkF m 124 #[.val (.int s0), .val (.int c0), .val (.int bd), .val (.int bs), .val (.int bp), .val (.int be)] [(.int (2 : Int32))])) (fun t k => XS.goto X0.here hx rfl (pc0 := 110) (pc' := 124) rfl (hb hby d15_110) (by decide) (by decide) k) ?_
        refine own_retI X0 hx hret hlk (hb hby d15_124) (by decide) (by decide) ?_
        try rw [e0]
        refine ⟨congrArg (fun z => some (Value.int z)) ?_, rfl, rfl⟩
        rw [← own_stp_st k hk c0, ← hs, ← hbd, ← hbs, ← hbp, ← hbe, own_stp]
        simp only [if_neg hc69_12, if_pos hc102_16, if_neg hc106_17]
    · have _ := X0
      refine own_by (T' := s₁) (f' := (mkF m 125 #[.val (.int s0), .val (.int c0), .val (.int bd), .val (.int bs), .val (.int bp), .val (.int be)] [])) (fun t k => XS.icmpYes X0.here hx rfl (pc0 := 102) (pc' := 125) rfl (hb hby d15_102) rfl (feq hc102_16).2 (by decide) (by decide) k) ?_
      refine own_by (T' := s₁) (f' := (mkF m 126 #[.val (.int s0), .val (.int c0), .val (.int bd), .val (.int bs), .val (.int bp), .val (.int be)] [(.int s0)])) (fun t k => XS.iloadN X0.here hx rfl (hb hby d15_125) rfl k) ?_
      refine own_by (T' := s₁) (f' := (mkF m 127 #[.val (.int s0), .val (.int c0), .val (.int bd), .val (.int bs), .val (.int bp), .val (.int be)] [(.int (2 : Int32)), (.int s0)])) (fun t k => XS.iconst X0.here hx rfl (hb hby d15_126) k) ?_
      by_cases hc127_19 : s0 = (2 : Int32)
      · have _ := X0
        refine own_by (T' := s₁) (f' := (mkF m 130 #[.val (.int s0), .val (.int c0), .val (.int bd), .val (.int bs), .val (.int bp), .val (.int be)] [])) (fun t k => XS.icmpNo X0.here hx rfl (hb hby d15_127) rfl (teq hc127_19).2 k) ?_
        refine own_by (T' := s₁) (f' := (mkF m 131 #[.val (.int s0), .val (.int c0), .val (.int bd), .val (.int bs), .val (.int bp), .val (.int be)] [(.int bd)])) (fun t k => XS.iloadN X0.here hx rfl (hb hby d15_130) rfl k) ?_
        by_cases hc131_20 : bd = (0 : Int32)
        · have _ := X0
          refine own_by (T' := s₁) (f' := (mkF m 138 #[.val (.int s0), .val (.int c0), .val (.int bd), .val (.int bs), .val (.int bp), .val (.int be)] [])) (fun t k => XS.ifYes X0.here hx rfl (pc0 := 131) (pc' := 138) rfl (hb hby d15_131) rfl ((if0 _ _).trans (teq hc131_20).1) (by decide) (by decide) k) ?_
          refine own_by (T' := s₁) (f' := (mkF m 140 #[.val (.int s0), .val (.int c0), .val (.int bd), .val (.int bs), .val (.int bp), .val (.int be)] [(.int bp)])) (fun t k => XS.iload X0.here hx rfl (hb hby d15_138) rfl k) ?_
          by_cases hc140_21 : bp = (0 : Int32)
          · have _ := X0
            refine own_by (T' := s₁) (f' := (mkF m 147 #[.val (.int s0), .val (.int c0), .val (.int bd), .val (.int bs), .val (.int bp), .val (.int be)] [])) (fun t k => XS.ifYes X0.here hx rfl (pc0 := 140) (pc' := 147) rfl (hb hby d15_140) rfl ((if0 _ _).trans (teq hc140_21).1) (by decide) (by decide) k) ?_
            refine own_by (T' := s₁) (f' := (mkF m 149 #[.val (.int s0), .val (.int c0), .val (.int bd), .val (.int bs), .val (.int bp), .val (.int be)] [(.int be)])) (fun t k => XS.iload X0.here hx rfl (hb hby d15_147) rfl k) ?_
            by_cases hc149_22 : be = (0 : Int32)
            · have _ := X0
              refine own_by (T' := s₁) (f' := (mkF m 156 #[.val (.int s0), .val (.int c0), .val (.int bd), .val (.int bs), .val (.int bp), .val (.int be)] [])) (fun t k => XS.ifYes X0.here hx rfl (pc0 := 149) (pc' := 156) rfl (hb hby d15_149) rfl ((if0 _ _).trans (teq hc149_22).1) (by decide) (by decide) k) ?_
              refine own_by (T' := s₁) (f' := (mkF m 158 #[.val (.int s0), .val (.int c0), .val (.int bd), .val (.int bs), .val (.int bp), .val (.int be)] [(.int (8 : Int32))])) (fun t k => XS.bipush X0.here hx rfl (hb hby d15_156) k) ?_
              refine own_retI X0 hx hret hlk (hb hby d15_158) (by decide) (by decide) ?_
              try rw [e0]
              refine ⟨congrArg (fun z => some (Value.int z)) ?_, rfl, rfl⟩
              rw [← own_stp_st k hk c0, ← hs, ← hbd, ← hbs, ← hbp, ← hbe, own_stp]
              simp only [if_neg hc69_12, if_neg hc102_16, if_pos hc127_19, if_pos hc131_20, if_pos hc140_21, if_pos hc149_22]
            · have _ := X0
              refine own_by (T' := s₁) (f' := (mkF m 152 #[.val (.int s0), .val (.int c0), .val (.int bd), .val (.int bs), .val (.int bp), .val (.int be)] [])) (fun t k => XS.ifNo X0.here hx rfl (hb hby d15_149) rfl ((if0 _ _).trans (feq hc149_22).1) k) ?_
              refine own_by (T' := s₁) (f' := (mkF m 153 #[.val (.int s0), .val (.int c0), .val (.int bd), .val (.int bs), .val (.int bp), .val (.int be)] [(.int (5 : Int32))])) (fun t k => XS.iconst X0.here hx rfl (hb hby d15_152) k) ?_
              refine own_by (T' := s₁) (f' := (mkF m 158 #[.val (.int s0), .val (.int c0), .val (.int bd), .val (.int bs), .val (.int bp), .val (.int be)] [(.int (5 : Int32))])) (fun t k => XS.goto X0.here hx rfl (pc0 := 153) (pc' := 158) rfl (hb hby d15_153) (by decide) (by decide) k) ?_
              refine own_retI X0 hx hret hlk (hb hby d15_158) (by decide) (by decide) ?_
              try rw [e0]
              refine ⟨congrArg (fun z => some (Value.int z)) ?_, rfl, rfl⟩
              rw [← own_stp_st k hk c0, ← hs, ← hbd, ← hbs, ← hbp, ← hbe, own_stp]
              simp only [if_neg hc69_12, if_neg hc102_16, if_pos hc127_19, if_pos hc131_20, if_pos hc140_21, if_neg hc149_22]
          · have _ := X0
            refine own_by (T' := s₁) (f' := (mkF m 143 #[.val (.int s0), .val (.int c0), .val (.int bd), .val (.int bs), .val (.int bp), .val (.int be)] [])) (fun t k => XS.ifNo X0.here hx rfl (hb hby d15_140) rfl ((if0 _ _).trans (feq hc140_21).1) k) ?_
            refine own_by (T' := s₁) (f' := (mkF m 144 #[.val (.int s0), .val (.int c0), .val (.int bd), .val (.int bs), .val (.int bp), .val (.int be)] [(.int (4 : Int32))])) (fun t k => XS.iconst X0.here hx rfl (hb hby d15_143) k) ?_
            refine own_by (T' := s₁) (f' := (mkF m 158 #[.val (.int s0), .val (.int c0), .val (.int bd), .val (.int bs), .val (.int bp), .val (.int be)] [(.int (4 : Int32))])) (fun t k => XS.goto X0.here hx rfl (pc0 := 144) (pc' := 158) rfl (hb hby d15_144) (by decide) (by decide) k) ?_
            refine own_retI X0 hx hret hlk (hb hby d15_158) (by decide) (by decide) ?_
            try rw [e0]
            refine ⟨congrArg (fun z => some (Value.int z)) ?_, rfl, rfl⟩
            rw [← own_stp_st k hk c0, ← hs, ← hbd, ← hbs, ← hbp, ← hbe, own_stp]
            simp only [if_neg hc69_12, if_neg hc102_16, if_pos hc127_19, if_pos hc131_20, if_neg hc140_21]
        · have _ := X0
          refine own_by (T' := s₁) (f' := (mkF m 134 #[.val (.int s0), .val (.int c0), .val (.int bd), .val (.int bs), .val (.int bp), .val (.int be)] [])) (fun t k => XS.ifNo X0.here hx rfl (hb hby d15_131) rfl ((if0 _ _).trans (feq hc131_20).1) k) ?_
          refine own_by (T' := s₁) (f' := (mkF m 135 #[.val (.int s0), .val (.int c0), .val (.int bd), .val (.int bs), .val (.int bp), .val (.int be)] [(.int (2 : Int32))])) (fun t k => XS.iconst X0.here hx rfl (hb hby d15_134) k) ?_
          refine own_by (T' := s₁) (f' := (mkF m 158 #[.val (.int s0), .val (.int c0), .val (.int bd), .val (.int bs), .val (.int bp), .val (.int be)] [(.int (2 : Int32))])) (fun t k => XS.goto X0.here hx rfl (pc0 := 135) (pc' := 158) rfl (hb hby d15_135) (by decide) (by decide) k) ?_
          refine own_retI X0 hx hret hlk (hb hby d15_158) (by decide) (by decide) ?_
          try rw [e0]
          refine ⟨congrArg (fun z => some (Value.int z)) ?_, rfl, rfl⟩
          rw [← own_stp_st k hk c0, ← hs, ← hbd, ← hbs, ← hbp, ← hbe, own_stp]
          simp only [if_neg hc69_12, if_neg hc102_16, if_pos hc127_19, if_neg hc131_20]
      · have _ := X0
        refine own_by (T' := s₁) (f' := (mkF m 159 #[.val (.int s0), .val (.int c0), .val (.int bd), .val (.int bs), .val (.int bp), .val (.int be)] [])) (fun t k => XS.icmpYes X0.here hx rfl (pc0 := 127) (pc' := 159) rfl (hb hby d15_127) rfl (feq hc127_19).2 (by decide) (by decide) k) ?_
        refine own_by (T' := s₁) (f' := (mkF m 160 #[.val (.int s0), .val (.int c0), .val (.int bd), .val (.int bs), .val (.int bp), .val (.int be)] [(.int s0)])) (fun t k => XS.iloadN X0.here hx rfl (hb hby d15_159) rfl k) ?_
        refine own_by (T' := s₁) (f' := (mkF m 161 #[.val (.int s0), .val (.int c0), .val (.int bd), .val (.int bs), .val (.int bp), .val (.int be)] [(.int (3 : Int32)), (.int s0)])) (fun t k => XS.iconst X0.here hx rfl (hb hby d15_160) k) ?_
        by_cases hc161_23 : s0 = (3 : Int32)
        · have _ := X0
          refine own_by (T' := s₁) (f' := (mkF m 164 #[.val (.int s0), .val (.int c0), .val (.int bd), .val (.int bs), .val (.int bp), .val (.int be)] [])) (fun t k => XS.icmpNo X0.here hx rfl (hb hby d15_161) rfl (teq hc161_23).2 k) ?_
          refine own_by (T' := s₁) (f' := (mkF m 165 #[.val (.int s0), .val (.int c0), .val (.int bd), .val (.int bs), .val (.int bp), .val (.int be)] [(.int bd)])) (fun t k => XS.iloadN X0.here hx rfl (hb hby d15_164) rfl k) ?_
          by_cases hc165_24 : bd = (0 : Int32)
          · have _ := X0
            refine own_by (T' := s₁) (f' := (mkF m 172 #[.val (.int s0), .val (.int c0), .val (.int bd), .val (.int bs), .val (.int bp), .val (.int be)] [])) (fun t k => XS.ifYes X0.here hx rfl (pc0 := 165) (pc' := 172) rfl (hb hby d15_165) rfl ((if0 _ _).trans (teq hc165_24).1) (by decide) (by decide) k) ?_
            refine own_by (T' := s₁) (f' := (mkF m 174 #[.val (.int s0), .val (.int c0), .val (.int bd), .val (.int bs), .val (.int bp), .val (.int be)] [(.int (8 : Int32))])) (fun t k => XS.bipush X0.here hx rfl (hb hby d15_172) k) ?_
            refine own_retI X0 hx hret hlk (hb hby d15_174) (by decide) (by decide) ?_
            try rw [e0]
            refine ⟨congrArg (fun z => some (Value.int z)) ?_, rfl, rfl⟩
            rw [← own_stp_st k hk c0, ← hs, ← hbd, ← hbs, ← hbp, ← hbe, own_stp]
            simp only [if_neg hc69_12, if_neg hc102_16, if_neg hc127_19, if_pos hc161_23, if_pos hc165_24]
          · have _ := X0
            refine own_by (T' := s₁) (f' := (mkF m 168 #[.val (.int s0), .val (.int c0), .val (.int bd), .val (.int bs), .val (.int bp), .val (.int be)] [])) (fun t k => XS.ifNo X0.here hx rfl (hb hby d15_165) rfl ((if0 _ _).trans (feq hc165_24).1) k) ?_
            refine own_by (T' := s₁) (f' := (mkF m 169 #[.val (.int s0), .val (.int c0), .val (.int bd), .val (.int bs), .val (.int bp), .val (.int be)] [(.int (4 : Int32))])) (fun t k => XS.iconst X0.here hx rfl (hb hby d15_168) k) ?_
            refine own_by (T' := s₁) (f' := (mkF m 174 #[.val (.int s0), .val (.int c0), .val (.int bd), .val (.int bs), .val (.int bp), .val (.int be)] [(.int (4 : Int32))])) (fun t k => XS.goto X0.here hx rfl (pc0 := 169) (pc' := 174) rfl (hb hby d15_169) (by decide) (by decide) k) ?_
            refine own_retI X0 hx hret hlk (hb hby d15_174) (by decide) (by decide) ?_
            try rw [e0]
            refine ⟨congrArg (fun z => some (Value.int z)) ?_, rfl, rfl⟩
            rw [← own_stp_st k hk c0, ← hs, ← hbd, ← hbs, ← hbp, ← hbe, own_stp]
            simp only [if_neg hc69_12, if_neg hc102_16, if_neg hc127_19, if_pos hc161_23, if_neg hc165_24]
        · have _ := X0
          refine own_by (T' := s₁) (f' := (mkF m 175 #[.val (.int s0), .val (.int c0), .val (.int bd), .val (.int bs), .val (.int bp), .val (.int be)] [])) (fun t k => XS.icmpYes X0.here hx rfl (pc0 := 161) (pc' := 175) rfl (hb hby d15_161) rfl (feq hc161_23).2 (by decide) (by decide) k) ?_
          refine own_by (T' := s₁) (f' := (mkF m 176 #[.val (.int s0), .val (.int c0), .val (.int bd), .val (.int bs), .val (.int bp), .val (.int be)] [(.int s0)])) (fun t k => XS.iloadN X0.here hx rfl (hb hby d15_175) rfl k) ?_
          refine own_by (T' := s₁) (f' := (mkF m 177 #[.val (.int s0), .val (.int c0), .val (.int bd), .val (.int bs), .val (.int bp), .val (.int be)] [(.int (4 : Int32)), (.int s0)])) (fun t k => XS.iconst X0.here hx rfl (hb hby d15_176) k) ?_
          by_cases hc177_25 : s0 = (4 : Int32)
          · have _ := X0
            refine own_by (T' := s₁) (f' := (mkF m 180 #[.val (.int s0), .val (.int c0), .val (.int bd), .val (.int bs), .val (.int bp), .val (.int be)] [])) (fun t k => XS.icmpNo X0.here hx rfl (hb hby d15_177) rfl (teq hc177_25).2 k) ?_
            refine own_by (T' := s₁) (f' := (mkF m 181 #[.val (.int s0), .val (.int c0), .val (.int bd), .val (.int bs), .val (.int bp), .val (.int be)] [(.int bd)])) (fun t k => XS.iloadN X0.here hx rfl (hb hby d15_180) rfl k) ?_
            by_cases hc181_26 : bd = (0 : Int32)
            · have _ := X0
              refine own_by (T' := s₁) (f' := (mkF m 188 #[.val (.int s0), .val (.int c0), .val (.int bd), .val (.int bs), .val (.int bp), .val (.int be)] [])) (fun t k => XS.ifYes X0.here hx rfl (pc0 := 181) (pc' := 188) rfl (hb hby d15_181) rfl ((if0 _ _).trans (teq hc181_26).1) (by decide) (by decide) k) ?_
              refine own_by (T' := s₁) (f' := (mkF m 190 #[.val (.int s0), .val (.int c0), .val (.int bd), .val (.int bs), .val (.int bp), .val (.int be)] [(.int be)])) (fun t k => XS.iload X0.here hx rfl (hb hby d15_188) rfl k) ?_
              by_cases hc190_27 : be = (0 : Int32)
              · have _ := X0
                refine own_by (T' := s₁) (f' := (mkF m 197 #[.val (.int s0), .val (.int c0), .val (.int bd), .val (.int bs), .val (.int bp), .val (.int be)] [])) (fun t k => XS.ifYes X0.here hx rfl (pc0 := 190) (pc' := 197) rfl (hb hby d15_190) rfl ((if0 _ _).trans (teq hc190_27).1) (by decide) (by decide) k) ?_
                refine own_by (T' := s₁) (f' := (mkF m 199 #[.val (.int s0), .val (.int c0), .val (.int bd), .val (.int bs), .val (.int bp), .val (.int be)] [(.int (8 : Int32))])) (fun t k => XS.bipush X0.here hx rfl (hb hby d15_197) k) ?_
                refine own_retI X0 hx hret hlk (hb hby d15_199) (by decide) (by decide) ?_
                try rw [e0]
                refine ⟨congrArg (fun z => some (Value.int z)) ?_, rfl, rfl⟩
                rw [← own_stp_st k hk c0, ← hs, ← hbd, ← hbs, ← hbp, ← hbe, own_stp]
                simp only [if_neg hc69_12, if_neg hc102_16, if_neg hc127_19, if_neg hc161_23, if_pos hc177_25, if_pos hc181_26, if_pos hc190_27]
              · have _ := X0
                refine own_by (T' := s₁) (f' := (mkF m 193 #[.val (.int s0), .val (.int c0), .val (.int bd), .val (.int bs), .val (.int bp), .val (.int be)] [])) (fun t k => XS.ifNo X0.here hx rfl (hb hby d15_190) rfl ((if0 _ _).trans (feq hc190_27).1) k) ?_
                refine own_by (T' := s₁) (f' := (mkF m 194 #[.val (.int s0), .val (.int c0), .val (.int bd), .val (.int bs), .val (.int bp), .val (.int be)] [(.int (5 : Int32))])) (fun t k => XS.iconst X0.here hx rfl (hb hby d15_193) k) ?_
                refine own_by (T' := s₁) (f' := (mkF m 199 #[.val (.int s0), .val (.int c0), .val (.int bd), .val (.int bs), .val (.int bp), .val (.int be)] [(.int (5 : Int32))])) (fun t k => XS.goto X0.here hx rfl (pc0 := 194) (pc' := 199) rfl (hb hby d15_194) (by decide) (by decide) k) ?_
                refine own_retI X0 hx hret hlk (hb hby d15_199) (by decide) (by decide) ?_
                try rw [e0]
                refine ⟨congrArg (fun z => some (Value.int z)) ?_, rfl, rfl⟩
                rw [← own_stp_st k hk c0, ← hs, ← hbd, ← hbs, ← hbp, ← hbe, own_stp]
                simp only [if_neg hc69_12, if_neg hc102_16, if_neg hc127_19, if_neg hc161_23, if_pos hc177_25, if_pos hc181_26, if_neg hc190_27]
            · have _ := X0
              refine own_by (T' := s₁) (f' := (mkF m 184 #[.val (.int s0), .val (.int c0), .val (.int bd), .val (.int bs), .val (.int bp), .val (.int be)] [])) (fun t k => XS.ifNo X0.here hx rfl (hb hby d15_181) rfl ((if0 _ _).trans (feq hc181_26).1) k) ?_
              refine own_by (T' := s₁) (f' := (mkF m 185 #[.val (.int s0), .val (.int c0), .val (.int bd), .val (.int bs), .val (.int bp), .val (.int be)] [(.int (4 : Int32))])) (fun t k => XS.iconst X0.here hx rfl (hb hby d15_184) k) ?_
              refine own_by (T' := s₁) (f' := (mkF m 199 #[.val (.int s0), .val (.int c0), .val (.int bd), .val (.int bs), .val (.int bp), .val (.int be)] [(.int (4 : Int32))])) (fun t k => XS.goto X0.here hx rfl (pc0 := 185) (pc' := 199) rfl (hb hby d15_185) (by decide) (by decide) k) ?_
              refine own_retI X0 hx hret hlk (hb hby d15_199) (by decide) (by decide) ?_
              try rw [e0]
              refine ⟨congrArg (fun z => some (Value.int z)) ?_, rfl, rfl⟩
              rw [← own_stp_st k hk c0, ← hs, ← hbd, ← hbs, ← hbp, ← hbe, own_stp]
              simp only [if_neg hc69_12, if_neg hc102_16, if_neg hc127_19, if_neg hc161_23, if_pos hc177_25, if_neg hc181_26]
          · have _ := X0
            refine own_by (T' := s₁) (f' := (mkF m 200 #[.val (.int s0), .val (.int c0), .val (.int bd), .val (.int bs), .val (.int bp), .val (.int be)] [])) (fun t k => XS.icmpYes X0.here hx rfl (pc0 := 177) (pc' := 200) rfl (hb hby d15_177) rfl (feq hc177_25).2 (by decide) (by decide) k) ?_
            refine own_by (T' := s₁) (f' := (mkF m 201 #[.val (.int s0), .val (.int c0), .val (.int bd), .val (.int bs), .val (.int bp), .val (.int be)] [(.int s0)])) (fun t k => XS.iloadN X0.here hx rfl (hb hby d15_200) rfl k) ?_
            refine own_by (T' := s₁) (f' := (mkF m 202 #[.val (.int s0), .val (.int c0), .val (.int bd), .val (.int bs), .val (.int bp), .val (.int be)] [(.int (5 : Int32)), (.int s0)])) (fun t k => XS.iconst X0.here hx rfl (hb hby d15_201) k) ?_
            by_cases hc202_28 : s0 = (5 : Int32)
            · have _ := X0
              refine own_by (T' := s₁) (f' := (mkF m 205 #[.val (.int s0), .val (.int c0), .val (.int bd), .val (.int bs), .val (.int bp), .val (.int be)] [])) (fun t k => XS.icmpNo X0.here hx rfl (hb hby d15_202) rfl (teq hc202_28).2 k) ?_
              refine own_by (T' := s₁) (f' := (mkF m 206 #[.val (.int s0), .val (.int c0), .val (.int bd), .val (.int bs), .val (.int bp), .val (.int be)] [(.int bs)])) (fun t k => XS.iloadN X0.here hx rfl (hb hby d15_205) rfl k) ?_
              by_cases hc206_29 : bs = (0 : Int32)
              · have _ := X0
                refine own_by (T' := s₁) (f' := (mkF m 214 #[.val (.int s0), .val (.int c0), .val (.int bd), .val (.int bs), .val (.int bp), .val (.int be)] [])) (fun t k => XS.ifYes X0.here hx rfl (pc0 := 206) (pc' := 214) rfl (hb hby d15_206) rfl ((if0 _ _).trans (teq hc206_29).1) (by decide) (by decide) k) ?_
                refine own_by (T' := s₁) (f' := (mkF m 215 #[.val (.int s0), .val (.int c0), .val (.int bd), .val (.int bs), .val (.int bp), .val (.int be)] [(.int bd)])) (fun t k => XS.iloadN X0.here hx rfl (hb hby d15_214) rfl k) ?_
                by_cases hc215_30 : bd = (0 : Int32)
                · have _ := X0
                  refine own_by (T' := s₁) (f' := (mkF m 223 #[.val (.int s0), .val (.int c0), .val (.int bd), .val (.int bs), .val (.int bp), .val (.int be)] [])) (fun t k => XS.ifYes X0.here hx rfl (pc0 := 215) (pc' := 223) rfl (hb hby d15_215) rfl ((if0 _ _).trans (teq hc215_30).1) (by decide) (by decide) k) ?_
                  refine own_by (T' := s₁) (f' := (mkF m 225 #[.val (.int s0), .val (.int c0), .val (.int bd), .val (.int bs), .val (.int bp), .val (.int be)] [(.int (8 : Int32))])) (fun t k => XS.bipush X0.here hx rfl (hb hby d15_223) k) ?_
                  refine own_retI X0 hx hret hlk (hb hby d15_225) (by decide) (by decide) ?_
                  try rw [e0]
                  refine ⟨congrArg (fun z => some (Value.int z)) ?_, rfl, rfl⟩
                  rw [← own_stp_st k hk c0, ← hs, ← hbd, ← hbs, ← hbp, ← hbe, own_stp]
                  simp only [if_neg hc69_12, if_neg hc102_16, if_neg hc127_19, if_neg hc161_23, if_neg hc177_25, if_pos hc202_28, if_pos hc206_29, if_pos hc215_30]
                · have _ := X0
                  refine own_by (T' := s₁) (f' := (mkF m 218 #[.val (.int s0), .val (.int c0), .val (.int bd), .val (.int bs), .val (.int bp), .val (.int be)] [])) (fun t k => XS.ifNo X0.here hx rfl (hb hby d15_215) rfl ((if0 _ _).trans (feq hc215_30).1) k) ?_
                  refine own_by (T' := s₁) (f' := (mkF m 220 #[.val (.int s0), .val (.int c0), .val (.int bd), .val (.int bs), .val (.int bp), .val (.int be)] [(.int (7 : Int32))])) (fun t k => XS.bipush X0.here hx rfl (hb hby d15_218) k) ?_
                  refine own_by (T' := s₁) (f' := (mkF m 225 #[.val (.int s0), .val (.int c0), .val (.int bd), .val (.int bs), .val (.int bp), .val (.int be)] [(.int (7 : Int32))])) (fun t k => XS.goto X0.here hx rfl (pc0 := 220) (pc' := 225) rfl (hb hby d15_220) (by decide) (by decide) k) ?_
                  refine own_retI X0 hx hret hlk (hb hby d15_225) (by decide) (by decide) ?_
                  try rw [e0]
                  refine ⟨congrArg (fun z => some (Value.int z)) ?_, rfl, rfl⟩
                  rw [← own_stp_st k hk c0, ← hs, ← hbd, ← hbs, ← hbp, ← hbe, own_stp]
                  simp only [if_neg hc69_12, if_neg hc102_16, if_neg hc127_19, if_neg hc161_23, if_neg hc177_25, if_pos hc202_28, if_pos hc206_29, if_neg hc215_30]
              · have _ := X0
                refine own_by (T' := s₁) (f' := (mkF m 209 #[.val (.int s0), .val (.int c0), .val (.int bd), .val (.int bs), .val (.int bp), .val (.int be)] [])) (fun t k => XS.ifNo X0.here hx rfl (hb hby d15_206) rfl ((if0 _ _).trans (feq hc206_29).1) k) ?_
                refine own_by (T' := s₁) (f' := (mkF m 211 #[.val (.int s0), .val (.int c0), .val (.int bd), .val (.int bs), .val (.int bp), .val (.int be)] [(.int (6 : Int32))])) (fun t k => XS.bipush X0.here hx rfl (hb hby d15_209) k) ?_
                refine own_by (T' := s₁) (f' := (mkF m 225 #[.val (.int s0), .val (.int c0), .val (.int bd), .val (.int bs), .val (.int bp), .val (.int be)] [(.int (6 : Int32))])) (fun t k => XS.goto X0.here hx rfl (pc0 := 211) (pc' := 225) rfl (hb hby d15_211) (by decide) (by decide) k) ?_
                refine own_retI X0 hx hret hlk (hb hby d15_225) (by decide) (by decide) ?_
                try rw [e0]
                refine ⟨congrArg (fun z => some (Value.int z)) ?_, rfl, rfl⟩
                rw [← own_stp_st k hk c0, ← hs, ← hbd, ← hbs, ← hbp, ← hbe, own_stp]
                simp only [if_neg hc69_12, if_neg hc102_16, if_neg hc127_19, if_neg hc161_23, if_neg hc177_25, if_pos hc202_28, if_neg hc206_29]
            · have _ := X0
              refine own_by (T' := s₁) (f' := (mkF m 226 #[.val (.int s0), .val (.int c0), .val (.int bd), .val (.int bs), .val (.int bp), .val (.int be)] [])) (fun t k => XS.icmpYes X0.here hx rfl (pc0 := 202) (pc' := 226) rfl (hb hby d15_202) rfl (feq hc202_28).2 (by decide) (by decide) k) ?_
              refine own_by (T' := s₁) (f' := (mkF m 227 #[.val (.int s0), .val (.int c0), .val (.int bd), .val (.int bs), .val (.int bp), .val (.int be)] [(.int s0)])) (fun t k => XS.iloadN X0.here hx rfl (hb hby d15_226) rfl k) ?_
              refine own_by (T' := s₁) (f' := (mkF m 229 #[.val (.int s0), .val (.int c0), .val (.int bd), .val (.int bs), .val (.int bp), .val (.int be)] [(.int (6 : Int32)), (.int s0)])) (fun t k => XS.bipush X0.here hx rfl (hb hby d15_227) k) ?_
              by_cases hc229_31 : s0 = (6 : Int32)
              · have _ := X0
                refine own_by (T' := s₁) (f' := (mkF m 238 #[.val (.int s0), .val (.int c0), .val (.int bd), .val (.int bs), .val (.int bp), .val (.int be)] [])) (fun t k => XS.icmpYes X0.here hx rfl (pc0 := 229) (pc' := 238) rfl (hb hby d15_229) rfl (teq hc229_31).1 (by decide) (by decide) k) ?_
                refine own_by (T' := s₁) (f' := (mkF m 239 #[.val (.int s0), .val (.int c0), .val (.int bd), .val (.int bs), .val (.int bp), .val (.int be)] [(.int bd)])) (fun t k => XS.iloadN X0.here hx rfl (hb hby d15_238) rfl k) ?_
                by_cases hc239_32 : bd = (0 : Int32)
                · have _ := X0
                  refine own_by (T' := s₁) (f' := (mkF m 247 #[.val (.int s0), .val (.int c0), .val (.int bd), .val (.int bs), .val (.int bp), .val (.int be)] [])) (fun t k => XS.ifYes X0.here hx rfl (pc0 := 239) (pc' := 247) rfl (hb hby d15_239) rfl ((if0 _ _).trans (teq hc239_32).1) (by decide) (by decide) k) ?_
                  refine own_by (T' := s₁) (f' := (mkF m 249 #[.val (.int s0), .val (.int c0), .val (.int bd), .val (.int bs), .val (.int bp), .val (.int be)] [(.int (8 : Int32))])) (fun t k => XS.bipush X0.here hx rfl (hb hby d15_247) k) ?_
                  refine own_retI X0 hx hret hlk (hb hby d15_249) (by decide) (by decide) ?_
                  try rw [e0]
                  refine ⟨congrArg (fun z => some (Value.int z)) ?_, rfl, rfl⟩
                  rw [← own_stp_st k hk c0, ← hs, ← hbd, ← hbs, ← hbp, ← hbe, own_stp]
                  simp only [if_neg hc69_12, if_neg hc102_16, if_neg hc127_19, if_neg hc161_23, if_neg hc177_25, if_neg hc202_28, if_pos hc229_31, if_pos hc239_32]
                · have _ := X0
                  refine own_by (T' := s₁) (f' := (mkF m 242 #[.val (.int s0), .val (.int c0), .val (.int bd), .val (.int bs), .val (.int bp), .val (.int be)] [])) (fun t k => XS.ifNo X0.here hx rfl (hb hby d15_239) rfl ((if0 _ _).trans (feq hc239_32).1) k) ?_
                  refine own_by (T' := s₁) (f' := (mkF m 244 #[.val (.int s0), .val (.int c0), .val (.int bd), .val (.int bs), .val (.int bp), .val (.int be)] [(.int (7 : Int32))])) (fun t k => XS.bipush X0.here hx rfl (hb hby d15_242) k) ?_
                  refine own_by (T' := s₁) (f' := (mkF m 249 #[.val (.int s0), .val (.int c0), .val (.int bd), .val (.int bs), .val (.int bp), .val (.int be)] [(.int (7 : Int32))])) (fun t k => XS.goto X0.here hx rfl (pc0 := 244) (pc' := 249) rfl (hb hby d15_244) (by decide) (by decide) k) ?_
                  refine own_retI X0 hx hret hlk (hb hby d15_249) (by decide) (by decide) ?_
                  try rw [e0]
                  refine ⟨congrArg (fun z => some (Value.int z)) ?_, rfl, rfl⟩
                  rw [← own_stp_st k hk c0, ← hs, ← hbd, ← hbs, ← hbp, ← hbe, own_stp]
                  simp only [if_neg hc69_12, if_neg hc102_16, if_neg hc127_19, if_neg hc161_23, if_neg hc177_25, if_neg hc202_28, if_pos hc229_31, if_neg hc239_32]
              · have _ := X0
                refine own_by (T' := s₁) (f' := (mkF m 232 #[.val (.int s0), .val (.int c0), .val (.int bd), .val (.int bs), .val (.int bp), .val (.int be)] [])) (fun t k => XS.icmpNo X0.here hx rfl (hb hby d15_229) rfl (feq hc229_31).1 k) ?_
                refine own_by (T' := s₁) (f' := (mkF m 233 #[.val (.int s0), .val (.int c0), .val (.int bd), .val (.int bs), .val (.int bp), .val (.int be)] [(.int s0)])) (fun t k => XS.iloadN X0.here hx rfl (hb hby d15_232) rfl k) ?_
                refine own_by (T' := s₁) (f' := (mkF m 235 #[.val (.int s0), .val (.int c0), .val (.int bd), .val (.int bs), .val (.int bp), .val (.int be)] [(.int (7 : Int32)), (.int s0)])) (fun t k => XS.bipush X0.here hx rfl (hb hby d15_233) k) ?_
                by_cases hc235_33 : s0 = (7 : Int32)
                · have _ := X0
                  refine own_by (T' := s₁) (f' := (mkF m 238 #[.val (.int s0), .val (.int c0), .val (.int bd), .val (.int bs), .val (.int bp), .val (.int be)] [])) (fun t k => XS.icmpNo X0.here hx rfl (hb hby d15_235) rfl (teq hc235_33).2 k) ?_
                  refine own_by (T' := s₁) (f' := (mkF m 239 #[.val (.int s0), .val (.int c0), .val (.int bd), .val (.int bs), .val (.int bp), .val (.int be)] [(.int bd)])) (fun t k => XS.iloadN X0.here hx rfl (hb hby d15_238) rfl k) ?_
                  by_cases hc239_34 : bd = (0 : Int32)
                  · have _ := X0
                    refine own_by (T' := s₁) (f' := (mkF m 247 #[.val (.int s0), .val (.int c0), .val (.int bd), .val (.int bs), .val (.int bp), .val (.int be)] [])) (fun t k => XS.ifYes X0.here hx rfl (pc0 := 239) (pc' := 247) rfl (hb hby d15_239) rfl ((if0 _ _).trans (teq hc239_34).1) (by decide) (by decide) k) ?_
                    refine own_by (T' := s₁) (f' := (mkF m 249 #[.val (.int s0), .val (.int c0), .val (.int bd), .val (.int bs), .val (.int bp), .val (.int be)] [(.int (8 : Int32))])) (fun t k => XS.bipush X0.here hx rfl (hb hby d15_247) k) ?_
                    refine own_retI X0 hx hret hlk (hb hby d15_249) (by decide) (by decide) ?_
                    try rw [e0]
                    refine ⟨congrArg (fun z => some (Value.int z)) ?_, rfl, rfl⟩
                    rw [← own_stp_st k hk c0, ← hs, ← hbd, ← hbs, ← hbp, ← hbe, own_stp]
                    simp only [if_neg hc69_12, if_neg hc102_16, if_neg hc127_19, if_neg hc161_23, if_neg hc177_25, if_neg hc202_28, if_neg hc229_31, if_pos hc235_33, if_pos hc239_34]
                  · have _ := X0
                    refine own_by (T' := s₁) (f' := (mkF m 242 #[.val (.int s0), .val (.int c0), .val (.int bd), .val (.int bs), .val (.int bp), .val (.int be)] [])) (fun t k => XS.ifNo X0.here hx rfl (hb hby d15_239) rfl ((if0 _ _).trans (feq hc239_34).1) k) ?_
                    refine own_by (T' := s₁) (f' := (mkF m 244 #[.val (.int s0), .val (.int c0), .val (.int bd), .val (.int bs), .val (.int bp), .val (.int be)] [(.int (7 : Int32))])) (fun t k => XS.bipush X0.here hx rfl (hb hby d15_242) k) ?_
                    refine own_by (T' := s₁) (f' := (mkF m 249 #[.val (.int s0), .val (.int c0), .val (.int bd), .val (.int bs), .val (.int bp), .val (.int be)] [(.int (7 : Int32))])) (fun t k => XS.goto X0.here hx rfl (pc0 := 244) (pc' := 249) rfl (hb hby d15_244) (by decide) (by decide) k) ?_
                    refine own_retI X0 hx hret hlk (hb hby d15_249) (by decide) (by decide) ?_
                    try rw [e0]
                    refine ⟨congrArg (fun z => some (Value.int z)) ?_, rfl, rfl⟩
                    rw [← own_stp_st k hk c0, ← hs, ← hbd, ← hbs, ← hbp, ← hbe, own_stp]
                    simp only [if_neg hc69_12, if_neg hc102_16, if_neg hc127_19, if_neg hc161_23, if_neg hc177_25, if_neg hc202_28, if_neg hc229_31, if_pos hc235_33, if_neg hc239_34]
                · have _ := X0
                  refine own_by (T' := s₁) (f' := (mkF m 250 #[.val (.int s0), .val (.int c0), .val (.int bd), .val (.int bs), .val (.int bp), .val (.int be)] [])) (fun t k => XS.icmpYes X0.here hx rfl (pc0 := 235) (pc' := 250) rfl (hb hby d15_235) rfl (feq hc235_33).2 (by decide) (by decide) k) ?_
                  refine own_by (T' := s₁) (f' := (mkF m 252 #[.val (.int s0), .val (.int c0), .val (.int bd), .val (.int bs), .val (.int bp), .val (.int be)] [(.int (8 : Int32))])) (fun t k => XS.bipush X0.here hx rfl (hb hby d15_250) k) ?_
                  refine own_retI X0 hx hret hlk (hb hby d15_252) (by decide) (by decide) ?_
                  try rw [e0]
                  refine ⟨congrArg (fun z => some (Value.int z)) ?_, rfl, rfl⟩
                  rw [← own_stp_st k hk c0, ← hs, ← hbd, ← hbs, ← hbp, ← hbe, own_stp]
                  simp only [if_neg hc69_12, if_neg hc102_16, if_neg hc127_19, if_neg hc161_23, if_neg hc177_25, if_neg hc202_28, if_neg hc229_31, if_neg hc235_33]
theorem ef_rmSS (m : MethodId) (x0 : Addr) (x1 : Int32) : entryFrame m #[(.ref x0), (.int x1)] 3 = mkF m 0 #[.val (.ref x0), .val (.int x1), .unset] [] := by first | (simp [entryFrame, mkF, argsToLocals, Value.category]; done) | rfl
set_option maxRecDepth 65536 in
set_option maxHeartbeats 40000000 in
theorem rmSS (l : Launch) (Z : State) (a0 : Array Value) (hw : ∀ d ∈ tables_1, d.before a0 Z = true) (ws : List Jvm.Cond) (a : Addr) (iv ln : Int32) (j n : Nat) (f : Nat → Int32) (g : Nat → Nat) (cs : Int32) (fm : Value) (h0 : Heap) (hj : iv.toInt = (j : Nat)) (hg : ∀ i, i < n → g i = own_cl (f i)) (hl : ln.toInt = (n : Nat)) (hn : n < 1073741824) (J : own_JS Z h0 a n f) (ST : own_St Z h0 cs fm) :
    own_Ct l Z (⟨"com/example/kissena/kissena/Columns", "skipSign", "(Ljava/lang/String;I)I"⟩ : MethodName) prog_3_method_11_code 3 (some .int) ws ({ frames := 5, cells := 0, slots := 0, locals := 70 } : Room) #[(.ref a), (.int iv)] h0 (fun v h L => ∃ r : Int32, v = some (.int r) ∧ r.toInt = ((own_sg g n j : Nat) : Int) ∧ L = [] ∧ h = h0) := by
  refine own_of (plainFor_of_name pn_com_example_kissena_kissena_Columns) ?_
  intro p e s m below meth c s₁ hx hby hml hown hnm hret hlk hZ X0 e0
  rw [ef_rmSS]
  refine own_by (T' := s₁) (f' := (mkF m 1 #[.val (.ref a), .val (.int iv), .unset] [(.int iv)])) (fun t k => XS.iloadN X0.here hx rfl (hb hby d8_0) rfl k) ?_
  refine own_by (T' := s₁) (f' := (mkF m 2 #[.val (.ref a), .val (.int iv), .unset] [(.ref a), (.int iv)])) (fun t k => XS.aloadN X0.here hx rfl (hb hby d8_1) rfl rfl k) ?_
  refine own_callV X0 hx hZ hown e0 (hb hby d8_2) [] [(.int iv)] 1 (rmLN l Z a0 hw [] a ln n f cs fm h0 hl J ST) J.2.2.1 (own_w hw 41 rfl) (own_w hw 42 rfl) (notFace_of_selects (args := #[]) (mvT hZ (own_w hw 44 rfl))) (own_w hw 44 rfl) (own_w hw 43 rfl) (own_w hw 15 rfl) (own_w hw 45 rfl) (by decide) pd___I (by rw [hml]; rfl) rfl rfl (Nat.le_of_eq rfl) (by decide) (by decide) (by decide) (by decide) ?_
  rintro T11 _ L11 X11 ⟨rfl, rfl, e11⟩
  show own_Go p e below _ T11 (mkF m 5 #[.val (.ref a), .val (.int iv), .unset] [(.int ln), (.int iv)])
  rw [List.append_nil] at X11
  by_cases hc5_12 : iv < ln
  · have _ := X11
    refine own_by (T' := T11) (f' := (mkF m 8 #[.val (.ref a), .val (.int iv), .unset] [])) (fun t k => XS.icmpNo X11.here hx rfl (hb hby d8_5) rfl (tlt hc5_12).2.1 k) ?_
    refine own_by (T' := T11) (f' := (mkF m 9 #[.val (.ref a), .val (.int iv), .unset] [(.ref a)])) (fun t k => XS.aloadN X11.here hx rfl (hb hby d8_8) rfl rfl k) ?_
    refine own_by (T' := T11) (f' := (mkF m 10 #[.val (.ref a), .val (.int iv), .unset] [(.int iv), (.ref a)])) (fun t k => XS.iloadN X11.here hx rfl (hb hby d8_9) rfl k) ?_
    refine own_callV X11 hx hZ hown e11 (hb hby d8_10) [(.int iv)] [] 0 (rmCA l Z a0 hw [] a iv j n f cs fm h0 hj (own_ltn hj hl hc5_12) J ST) J.2.2.1 (own_w hw 68 rfl) (own_w hw 69 rfl) (notFace_of_selects (args := #[]) (mvT hZ (own_w hw 71 rfl))) (own_w hw 71 rfl) (own_w hw 70 rfl) (own_w hw 15 rfl) (own_w hw 72 rfl) (by decide) pd__I_C (by rw [hml]; rfl) rfl rfl (Nat.le_of_eq rfl) (by decide) (by decide) (by decide) (by decide) ?_
    rintro T13 _ L13 X13 ⟨rfl, rfl, e13⟩
    show own_Go p e below _ T13 (mkF m 13 #[.val (.ref a), .val (.int iv), .unset] [(.int (f j))])
    rw [List.append_nil] at X13
    refine own_by (T' := T13) (f' := (mkF m 15 #[.val (.ref a), .val (.int iv), .unset] [(.int (43 : Int32)), (.int (f j))])) (fun t k => XS.bipush X13.here hx rfl (hb hby d8_13) k) ?_
    by_cases hc15_14 : (f j) = (43 : Int32)
    · have _ := X13
      refine own_by (T' := T13) (f' := (mkF m 28 #[.val (.ref a), .val (.int iv), .unset] [])) (fun t k => XS.icmpYes X13.here hx rfl (pc0 := 15) (pc' := 28) rfl (hb hby d8_15) rfl (teq hc15_14).1 (by decide) (by decide) k) ?_
      refine own_by (T' := T13) (f' := (mkF m 29 #[.val (.ref a), .val (.int iv), .unset] [(.int (1 : Int32))])) (fun t k => XS.iconst X13.here hx rfl (hb hby d8_28) k) ?_
      refine own_by (T' := T13) (f' := (mkF m 33 #[.val (.ref a), .val (.int iv), .unset] [(.int (1 : Int32))])) (fun t k => XS.goto X13.here hx rfl (pc0 := 29) (pc' := 33) rfl (hb hby d8_29) (by decide) (by decide) k) ?_
      refine own_by (T' := T13) (f' := (mkF m 34 #[.val (.ref a), .val (.int iv), .val (.int (1 : Int32))] [])) (fun t k => XS.istoreN X13.here hx rfl (hb hby d8_33) rfl (l' := #[.val (.ref a), .val (.int iv), .val (.int (1 : Int32))]) rfl k) ?_
      refine own_by (T' := T13) (f' := (mkF m 35 #[.val (.ref a), .val (.int iv), .val (.int (1 : Int32))] [(.int (1 : Int32))])) (fun t k => XS.iloadN X13.here hx rfl (hb hby d8_34) rfl k) ?_
      refine own_by (T' := T13) (f' := (mkF m 38 #[.val (.ref a), .val (.int iv), .val (.int (1 : Int32))] [])) (fun t k => XS.ifNo X13.here hx rfl (hb hby d8_35) rfl ((if0 _ _).trans (feq (by decide)).1) k) ?_
      refine own_by (T' := T13) (f' := (mkF m 39 #[.val (.ref a), .val (.int iv), .val (.int (1 : Int32))] [(.int iv)])) (fun t k => XS.iloadN X13.here hx rfl (hb hby d8_38) rfl k) ?_
      refine own_by (T' := T13) (f' := (mkF m 40 #[.val (.ref a), .val (.int iv), .val (.int (1 : Int32))] [(.int (1 : Int32)), (.int iv)])) (fun t k => XS.iconst X13.here hx rfl (hb hby d8_39) k) ?_
      refine own_by (T' := T13) (f' := (mkF m 41 #[.val (.ref a), .val (.int iv), .val (.int (1 : Int32))] [(.int (iv + (1 : Int32)))])) (fun t k => XS.iadd X13.here hx rfl (hb hby d8_40) rfl k) ?_
      refine own_by (T' := T13) (f' := (mkF m 45 #[.val (.ref a), .val (.int iv), .val (.int (1 : Int32))] [(.int (iv + (1 : Int32)))])) (fun t k => XS.goto X13.here hx rfl (pc0 := 41) (pc' := 45) rfl (hb hby d8_41) (by decide) (by decide) k) ?_
      have hjn := own_ltn hj hl hc5_12
      refine own_retI X13 hx hret hlk (hb hby d8_45) (by decide) (by decide) ?_
      try rw [e13]
      exact ⟨_, rfl, by rw [own_sg, if_pos (And.intro hjn ((hg j hjn).trans (own_cl1 (Or.inl hc15_14))))]; exact own_inc hj hjn (by omega), rfl, rfl⟩
    · have _ := X13
      refine own_by (T' := T13) (f' := (mkF m 18 #[.val (.ref a), .val (.int iv), .unset] [])) (fun t k => XS.icmpNo X13.here hx rfl (hb hby d8_15) rfl (feq hc15_14).1 k) ?_
      refine own_by (T' := T13) (f' := (mkF m 19 #[.val (.ref a), .val (.int iv), .unset] [(.ref a)])) (fun t k => XS.aloadN X13.here hx rfl (hb hby d8_18) rfl rfl k) ?_
      refine own_by (T' := T13) (f' := (mkF m 20 #[.val (.ref a), .val (.int iv), .unset] [(.int iv), (.ref a)])) (fun t k => XS.iloadN X13.here hx rfl (hb hby d8_19) rfl k) ?_
      refine own_callV X13 hx hZ hown e13 (hb hby d8_20) [(.int iv)] [] 0 (rmCA l Z a0 hw [] a iv j n f cs fm h0 hj (own_ltn hj hl hc5_12) J ST) J.2.2.1 (own_w hw 68 rfl) (own_w hw 69 rfl) (notFace_of_selects (args := #[]) (mvT hZ (own_w hw 71 rfl))) (own_w hw 71 rfl) (own_w hw 70 rfl) (own_w hw 15 rfl) (own_w hw 72 rfl) (by decide) pd__I_C (by rw [hml]; rfl) rfl rfl (Nat.le_of_eq rfl) (by decide) (by decide) (by decide) (by decide) ?_
      rintro T15 _ L15 X15 ⟨rfl, rfl, e15⟩
      show own_Go p e below _ T15 (mkF m 23 #[.val (.ref a), .val (.int iv), .unset] [(.int (f j))])
      rw [List.append_nil] at X15
      refine own_by (T' := T15) (f' := (mkF m 25 #[.val (.ref a), .val (.int iv), .unset] [(.int (45 : Int32)), (.int (f j))])) (fun t k => XS.bipush X15.here hx rfl (hb hby d8_23) k) ?_
      by_cases hc25_16 : (f j) = (45 : Int32)
      · have _ := X15
        refine own_by (T' := T15) (f' := (mkF m 28 #[.val (.ref a), .val (.int iv), .unset] [])) (fun t k => XS.icmpNo X15.here hx rfl (hb hby d8_25) rfl (teq hc25_16).2 k) ?_
        refine own_by (T' := T15) (f' := (mkF m 29 #[.val (.ref a), .val (.int iv), .unset] [(.int (1 : Int32))])) (fun t k => XS.iconst X15.here hx rfl (hb hby d8_28) k) ?_
        refine own_by (T' := T15) (f' := (mkF m 33 #[.val (.ref a), .val (.int iv), .unset] [(.int (1 : Int32))])) (fun t k => XS.goto X15.here hx rfl (pc0 := 29) (pc' := 33) rfl (hb hby d8_29) (by decide) (by decide) k) ?_
        refine own_by (T' := T15) (f' := (mkF m 34 #[.val (.ref a), .val (.int iv), .val (.int (1 : Int32))] [])) (fun t k => XS.istoreN X15.here hx rfl (hb hby d8_33) rfl (l' := #[.val (.ref a), .val (.int iv), .val (.int (1 : Int32))]) rfl k) ?_
        refine own_by (T' := T15) (f' := (mkF m 35 #[.val (.ref a), .val (.int iv), .val (.int (1 : Int32))] [(.int (1 : Int32))])) (fun t k => XS.iloadN X15.here hx rfl (hb hby d8_34) rfl k) ?_
        refine own_by (T' := T15) (f' := (mkF m 38 #[.val (.ref a), .val (.int iv), .val (.int (1 : Int32))] [])) (fun t k => XS.ifNo X15.here hx rfl (hb hby d8_35) rfl ((if0 _ _).trans (feq (by decide)).1) k) ?_
        refine own_by (T' := T15) (f' := (mkF m 39 #[.val (.ref a), .val (.int iv), .val (.int (1 : Int32))] [(.int iv)])) (fun t k => XS.iloadN X15.here hx rfl (hb hby d8_38) rfl k) ?_
        refine own_by (T' := T15) (f' := (mkF m 40 #[.val (.ref a), .val (.int iv), .val (.int (1 : Int32))] [(.int (1 : Int32)), (.int iv)])) (fun t k => XS.iconst X15.here hx rfl (hb hby d8_39) k) ?_
        refine own_by (T' := T15) (f' := (mkF m 41 #[.val (.ref a), .val (.int iv), .val (.int (1 : Int32))] [(.int (iv + (1 : Int32)))])) (fun t k => XS.iadd X15.here hx rfl (hb hby d8_40) rfl k) ?_
        refine own_by (T' := T15) (f' := (mkF m 45 #[.val (.ref a), .val (.int iv), .val (.int (1 : Int32))] [(.int (iv + (1 : Int32)))])) (fun t k => XS.goto X15.here hx rfl (pc0 := 41) (pc' := 45) rfl (hb hby d8_41) (by decide) (by decide) k) ?_
        have hjn := own_ltn hj hl hc5_12
        refine own_retI X15 hx hret hlk (hb hby d8_45) (by decide) (by decide) ?_
        try rw [e15]
        exact ⟨_, rfl, by rw [own_sg, if_pos (And.intro hjn ((hg j hjn).trans (own_cl1 (Or.inr hc25_16))))]; exact own_inc hj hjn (by omega), rfl, rfl⟩
      · have _ := X15
        refine own_by (T' := T15) (f' := (mkF m 32 #[.val (.ref a), .val (.int iv), .unset] [])) (fun t k => XS.icmpYes X15.here hx rfl (pc0 := 25) (pc' := 32) rfl (hb hby d8_25) rfl (feq hc25_16).2 (by decide) (by decide) k) ?_
        refine own_by (T' := T15) (f' := (mkF m 33 #[.val (.ref a), .val (.int iv), .unset] [(.int (0 : Int32))])) (fun t k => XS.iconst X15.here hx rfl (hb hby d8_32) k) ?_
        refine own_by (T' := T15) (f' := (mkF m 34 #[.val (.ref a), .val (.int iv), .val (.int (0 : Int32))] [])) (fun t k => XS.istoreN X15.here hx rfl (hb hby d8_33) rfl (l' := #[.val (.ref a), .val (.int iv), .val (.int (0 : Int32))]) rfl k) ?_
        refine own_by (T' := T15) (f' := (mkF m 35 #[.val (.ref a), .val (.int iv), .val (.int (0 : Int32))] [(.int (0 : Int32))])) (fun t k => XS.iloadN X15.here hx rfl (hb hby d8_34) rfl k) ?_
        refine own_by (T' := T15) (f' := (mkF m 44 #[.val (.ref a), .val (.int iv), .val (.int (0 : Int32))] [])) (fun t k => XS.ifYes X15.here hx rfl (pc0 := 35) (pc' := 44) rfl (hb hby d8_35) rfl ((if0 _ _).trans (teq rfl).1) (by decide) (by decide) k) ?_
        refine own_by (T' := T15) (f' := (mkF m 45 #[.val (.ref a), .val (.int iv), .val (.int (0 : Int32))] [(.int iv)])) (fun t k => XS.iloadN X15.here hx rfl (hb hby d8_44) rfl k) ?_
        have hjn := own_ltn hj hl hc5_12
        refine own_retI X15 hx hret hlk (hb hby d8_45) (by decide) (by decide) ?_
        try rw [e15]
        exact ⟨_, rfl, by rw [own_sg, if_neg (fun q => own_cl1n hc15_14 hc25_16 ((hg j hjn).symm.trans q.2))]; exact hj, rfl, rfl⟩
  · have _ := X11
    refine own_by (T' := T11) (f' := (mkF m 32 #[.val (.ref a), .val (.int iv), .unset] [])) (fun t k => XS.icmpYes X11.here hx rfl (pc0 := 5) (pc' := 32) rfl (hb hby d8_5) rfl (flt hc5_12).2.1 (by decide) (by decide) k) ?_
    refine own_by (T' := T11) (f' := (mkF m 33 #[.val (.ref a), .val (.int iv), .unset] [(.int (0 : Int32))])) (fun t k => XS.iconst X11.here hx rfl (hb hby d8_32) k) ?_
    refine own_by (T' := T11) (f' := (mkF m 34 #[.val (.ref a), .val (.int iv), .val (.int (0 : Int32))] [])) (fun t k => XS.istoreN X11.here hx rfl (hb hby d8_33) rfl (l' := #[.val (.ref a), .val (.int iv), .val (.int (0 : Int32))]) rfl k) ?_
    refine own_by (T' := T11) (f' := (mkF m 35 #[.val (.ref a), .val (.int iv), .val (.int (0 : Int32))] [(.int (0 : Int32))])) (fun t k => XS.iloadN X11.here hx rfl (hb hby d8_34) rfl k) ?_
    refine own_by (T' := T11) (f' := (mkF m 44 #[.val (.ref a), .val (.int iv), .val (.int (0 : Int32))] [])) (fun t k => XS.ifYes X11.here hx rfl (pc0 := 35) (pc' := 44) rfl (hb hby d8_35) rfl ((if0 _ _).trans (teq rfl).1) (by decide) (by decide) k) ?_
    refine own_by (T' := T11) (f' := (mkF m 45 #[.val (.ref a), .val (.int iv), .val (.int (0 : Int32))] [(.int iv)])) (fun t k => XS.iloadN X11.here hx rfl (hb hby d8_44) rfl k) ?_
    refine own_retI X11 hx hret hlk (hb hby d8_45) (by decide) (by decide) ?_
    try rw [e11]
    exact ⟨_, rfl, by rw [own_sg, if_neg (fun q => own_nltn hj hl hc5_12 q.1)]; exact hj, rfl, rfl⟩
theorem ef_rmSD (m : MethodId) (x0 : Addr) (x1 : Int32) : entryFrame m #[(.ref x0), (.int x1)] 3 = mkF m 0 #[.val (.ref x0), .val (.int x1), .unset] [] := by first | (simp [entryFrame, mkF, argsToLocals, Value.category]; done) | rfl
set_option maxRecDepth 65536 in
set_option maxHeartbeats 40000000 in
theorem rmSD (l : Launch) (Z : State) (a0 : Array Value) (hw : ∀ d ∈ tables_1, d.before a0 Z = true) (ws : List Jvm.Cond) (a : Addr) (iv ln : Int32) (j0 n : Nat) (f : Nat → Int32) (g : Nat → Nat) (cs : Int32) (fm : Value) (h0 : Heap) (hj : iv.toInt = (j0 : Nat)) (hjn : j0 ≤ n) (hg : ∀ i, i < n → g i = own_cl (f i)) (hl : ln.toInt = (n : Nat)) (hn : n < 1073741824) (J : own_JS Z h0 a n f) (ST : own_St Z h0 cs fm) :
    own_Ct l Z (⟨"com/example/kissena/kissena/Columns", "skipDigits", "(Ljava/lang/String;I)I"⟩ : MethodName) prog_3_method_12_code 3 (some .int) ws ({ frames := 5, cells := 0, slots := 0, locals := 70 } : Room) #[(.ref a), (.int iv)] h0 (fun v h L => ∃ r : Int32, v = some (.int r) ∧ r.toInt = ((own_dg g (n - j0) j0 : Nat) : Int) ∧ L = [] ∧ h = h0) := by
  refine own_of (plainFor_of_name pn_com_example_kissena_kissena_Columns) ?_
  intro p e s m below meth c s₁ hx hby hml hown hnm hret hlk hZ X0 e0
  have loop : ∀ (k j : Nat) (jv : Int32) (TL : State), j + k = n → jv.toInt = (j : Nat) → own_dg g (n - j0) j0 = own_dg g k j → Stand p l e ({ frames := 5, cells := 0, slots := 0, locals := 70 } : Room) s m #[(.ref a), (.int iv)] below meth c TL [] 0 0 → TL.heap = h0 → own_Go p e below (own_Ends s ({ frames := 5, cells := 0, slots := 0, locals := 70 } : Room) (fun v h L => ∃ r : Int32, v = some (.int r) ∧ r.toInt = ((own_dg g (n - j0) j0 : Nat) : Int) ∧ L = [] ∧ h = h0)) TL (mkF m 2 #[.val (.ref a), .val (.int iv), .val (.int jv)] []) := by
    intro k
    induction k with
    | zero =>
      intro j jv TL hjk hjv hI XL eL
      refine own_by (T' := TL) (f' := (mkF m 3 #[.val (.ref a), .val (.int iv), .val (.int jv)] [(.int jv)])) (fun t k => XS.iloadN XL.here hx rfl (hb hby d11_2) rfl k) ?_
      refine own_by (T' := TL) (f' := (mkF m 4 #[.val (.ref a), .val (.int iv), .val (.int jv)] [(.ref a), (.int jv)])) (fun t k => XS.aloadN XL.here hx rfl (hb hby d11_3) rfl rfl k) ?_
      refine own_callV XL hx hZ hown eL (hb hby d11_4) [] [(.int jv)] 1 (rmLN l Z a0 hw [] a ln n f cs fm h0 hl J ST) J.2.2.1 (own_w hw 41 rfl) (own_w hw 42 rfl) (notFace_of_selects (args := #[]) (mvT hZ (own_w hw 44 rfl))) (own_w hw 44 rfl) (own_w hw 43 rfl) (own_w hw 15 rfl) (own_w hw 45 rfl) (by decide) pd___I (by rw [hml]; rfl) rfl rfl (Nat.le_of_eq rfl) (by decide) (by decide) (by decide) (by decide) ?_
      rintro T51 _ L51 X51 ⟨rfl, rfl, e51⟩
      show own_Go p e below _ T51 (mkF m 7 #[.val (.ref a), .val (.int iv), .val (.int jv)] [(.int ln), (.int jv)])
      rw [List.append_nil] at X51
      have hc7_52 : ¬ (jv < ln) := (by rw [Int32.lt_iff_toInt_lt]; omega)
      refine own_by (T' := T51) (f' := (mkF m 36 #[.val (.ref a), .val (.int iv), .val (.int jv)] [])) (fun t k => XS.icmpYes X51.here hx rfl (pc0 := 7) (pc' := 36) rfl (hb hby d11_7) rfl (flt hc7_52).2.1 (by decide) (by decide) k) ?_
      refine own_by (T' := T51) (f' := (mkF m 37 #[.val (.ref a), .val (.int iv), .val (.int jv)] [(.int jv)])) (fun t k => XS.iloadN X51.here hx rfl (hb hby d11_36) rfl k) ?_
      refine own_retI X51 hx hret hlk (hb hby d11_37) (by decide) (by decide) ?_
      try rw [e51]
      exact ⟨_, rfl, by rw [hI]; exact hjv, rfl, rfl⟩
    | succ k ih =>
      intro j jv TL hjk hjv hI XL eL
      refine own_by (T' := TL) (f' := (mkF m 3 #[.val (.ref a), .val (.int iv), .val (.int jv)] [(.int jv)])) (fun t k => XS.iloadN XL.here hx rfl (hb hby d11_2) rfl k) ?_
      refine own_by (T' := TL) (f' := (mkF m 4 #[.val (.ref a), .val (.int iv), .val (.int jv)] [(.ref a), (.int jv)])) (fun t k => XS.aloadN XL.here hx rfl (hb hby d11_3) rfl rfl k) ?_
      refine own_callV XL hx hZ hown eL (hb hby d11_4) [] [(.int jv)] 1 (rmLN l Z a0 hw [] a ln n f cs fm h0 hl J ST) J.2.2.1 (own_w hw 41 rfl) (own_w hw 42 rfl) (notFace_of_selects (args := #[]) (mvT hZ (own_w hw 44 rfl))) (own_w hw 44 rfl) (own_w hw 43 rfl) (own_w hw 15 rfl) (own_w hw 45 rfl) (by decide) pd___I (by rw [hml]; rfl) rfl rfl (Nat.le_of_eq rfl) (by decide) (by decide) (by decide) (by decide) ?_
      rintro T51 _ L51 X51 ⟨rfl, rfl, e51⟩
      show own_Go p e below _ T51 (mkF m 7 #[.val (.ref a), .val (.int iv), .val (.int jv)] [(.int ln), (.int jv)])
      rw [List.append_nil] at X51
      have hc7_52 : jv < ln := (by rw [Int32.lt_iff_toInt_lt]; omega)
      refine own_by (T' := T51) (f' := (mkF m 10 #[.val (.ref a), .val (.int iv), .val (.int jv)] [])) (fun t k => XS.icmpNo X51.here hx rfl (hb hby d11_7) rfl (tlt hc7_52).2.1 k) ?_
      refine own_by (T' := T51) (f' := (mkF m 11 #[.val (.ref a), .val (.int iv), .val (.int jv)] [(.ref a)])) (fun t k => XS.aloadN X51.here hx rfl (hb hby d11_10) rfl rfl k) ?_
      refine own_by (T' := T51) (f' := (mkF m 12 #[.val (.ref a), .val (.int iv), .val (.int jv)] [(.int jv), (.ref a)])) (fun t k => XS.iloadN X51.here hx rfl (hb hby d11_11) rfl k) ?_
      refine own_callV X51 hx hZ hown e51 (hb hby d11_12) [(.int jv)] [] 0 (rmCA l Z a0 hw [] a jv j n f cs fm h0 hjv (own_ltn hjv hl hc7_52) J ST) J.2.2.1 (own_w hw 68 rfl) (own_w hw 69 rfl) (notFace_of_selects (args := #[]) (mvT hZ (own_w hw 71 rfl))) (own_w hw 71 rfl) (own_w hw 70 rfl) (own_w hw 15 rfl) (own_w hw 72 rfl) (by decide) pd__I_C (by rw [hml]; rfl) rfl rfl (Nat.le_of_eq rfl) (by decide) (by decide) (by decide) (by decide) ?_
      rintro T53 _ L53 X53 ⟨rfl, rfl, e53⟩
      show own_Go p e below _ T53 (mkF m 15 #[.val (.ref a), .val (.int iv), .val (.int jv)] [(.int (f j))])
      rw [List.append_nil] at X53
      refine own_by (T' := T53) (f' := (mkF m 17 #[.val (.ref a), .val (.int iv), .val (.int jv)] [(.int (48 : Int32)), (.int (f j))])) (fun t k => XS.bipush X53.here hx rfl (hb hby d11_15) k) ?_
      by_cases hc17_54 : (f j) < (48 : Int32)
      · have _ := X53
        refine own_by (T' := T53) (f' := (mkF m 36 #[.val (.ref a), .val (.int iv), .val (.int jv)] [])) (fun t k => XS.icmpYes X53.here hx rfl (pc0 := 17) (pc' := 36) rfl (hb hby d11_17) rfl (tlt hc17_54).1 (by decide) (by decide) k) ?_
        refine own_by (T' := T53) (f' := (mkF m 37 #[.val (.ref a), .val (.int iv), .val (.int jv)] [(.int jv)])) (fun t k => XS.iloadN X53.here hx rfl (hb hby d11_36) rfl k) ?_
        refine own_retI X53 hx hret hlk (hb hby d11_37) (by decide) (by decide) ?_
        try rw [e53]
        exact ⟨_, rfl, by rw [hI, own_dg, if_neg (fun q => own_cln (Or.inl hc17_54) ((hg j (by omega)).symm.trans q))]; exact hjv, rfl, rfl⟩
      · have _ := X53
        refine own_by (T' := T53) (f' := (mkF m 20 #[.val (.ref a), .val (.int iv), .val (.int jv)] [])) (fun t k => XS.icmpNo X53.here hx rfl (hb hby d11_17) rfl (flt hc17_54).1 k) ?_
        refine own_by (T' := T53) (f' := (mkF m 21 #[.val (.ref a), .val (.int iv), .val (.int jv)] [(.ref a)])) (fun t k => XS.aloadN X53.here hx rfl (hb hby d11_20) rfl rfl k) ?_
        refine own_by (T' := T53) (f' := (mkF m 22 #[.val (.ref a), .val (.int iv), .val (.int jv)] [(.int jv), (.ref a)])) (fun t k => XS.iloadN X53.here hx rfl (hb hby d11_21) rfl k) ?_
        refine own_callV X53 hx hZ hown e53 (hb hby d11_22) [(.int jv)] [] 0 (rmCA l Z a0 hw [] a jv j n f cs fm h0 hjv (own_ltn hjv hl hc7_52) J ST) J.2.2.1 (own_w hw 68 rfl) (own_w hw 69 rfl) (notFace_of_selects (args := #[]) (mvT hZ (own_w hw 71 rfl))) (own_w hw 71 rfl) (own_w hw 70 rfl) (own_w hw 15 rfl) (own_w hw 72 rfl) (by decide) pd__I_C (by rw [hml]; rfl) rfl rfl (Nat.le_of_eq rfl) (by decide) (by decide) (by decide) (by decide) ?_
        rintro T55 _ L55 X55 ⟨rfl, rfl, e55⟩
        show own_Go p e below _ T55 (mkF m 25 #[.val (.ref a), .val (.int iv), .val (.int jv)] [(.int (f j))])
        rw [List.append_nil] at X55
        refine own_by (T' := T55) (f' := (mkF m 27 #[.val (.ref a), .val (.int iv), .val (.int jv)] [(.int (57 : Int32)), (.int (f j))])) (fun t k => XS.bipush X55.here hx rfl (hb hby d11_25) k) ?_
        by_cases hc27_56 : (57 : Int32) < (f j)
        · have _ := X55
          refine own_by (T' := T55) (f' := (mkF m 36 #[.val (.ref a), .val (.int iv), .val (.int jv)] [])) (fun t k => XS.icmpYes X55.here hx rfl (pc0 := 27) (pc' := 36) rfl (hb hby d11_27) rfl (tlt hc27_56).2.2.1 (by decide) (by decide) k) ?_
          refine own_by (T' := T55) (f' := (mkF m 37 #[.val (.ref a), .val (.int iv), .val (.int jv)] [(.int jv)])) (fun t k => XS.iloadN X55.here hx rfl (hb hby d11_36) rfl k) ?_
          refine own_retI X55 hx hret hlk (hb hby d11_37) (by decide) (by decide) ?_
          try rw [e55]
          exact ⟨_, rfl, by rw [hI, own_dg, if_neg (fun q => own_cln (Or.inr hc27_56) ((hg j (by omega)).symm.trans q))]; exact hjv, rfl, rfl⟩
        · have _ := X55
          refine own_by (T' := T55) (f' := (mkF m 30 #[.val (.ref a), .val (.int iv), .val (.int jv)] [])) (fun t k => XS.icmpNo X55.here hx rfl (hb hby d11_27) rfl (flt hc27_56).2.2.1 k) ?_
          refine own_by (T' := T55) (f' := (mkF m 33 #[.val (.ref a), .val (.int iv), .val (.int (jv + (1 : Int32)))] [])) (fun t k => XS.iinc X55.here hx rfl (hb hby d11_30) rfl (l' := #[.val (.ref a), .val (.int iv), .val (.int (jv + (1 : Int32)))]) rfl k) ?_
          refine own_by (T' := T55) (f' := (mkF m 2 #[.val (.ref a), .val (.int iv), .val (.int (jv + (1 : Int32)))] [])) (fun t k => XS.goto X55.here hx rfl (pc0 := 33) (pc' := 2) rfl (hb hby d11_33) (by decide) (by decide) k) ?_
          exact ih (j + 1) (jv + (1 : Int32)) T55 (by omega) (own_inc hjv (by omega : j < n) (by omega)) (by rw [hI, own_dg, if_pos ((hg j (by omega)).trans (own_cl0 hc17_54 hc27_56))]) X55 e55
  rw [ef_rmSD]
  refine own_by (T' := s₁) (f' := (mkF m 1 #[.val (.ref a), .val (.int iv), .unset] [(.int iv)])) (fun t k => XS.iloadN X0.here hx rfl (hb hby d11_0) rfl k) ?_
  refine own_by (T' := s₁) (f' := (mkF m 2 #[.val (.ref a), .val (.int iv), .val (.int iv)] [])) (fun t k => XS.istoreN X0.here hx rfl (hb hby d11_1) rfl (l' := #[.val (.ref a), .val (.int iv), .val (.int iv)]) rfl k) ?_
  exact loop (n - j0) j0 iv s₁ (by omega) hj rfl X0 e0
theorem ef_rmDE (m : MethodId) (x0 : Addr) : entryFrame m #[(.ref x0)] 5 = mkF m 0 #[.val (.ref x0), .unset, .unset, .unset, .unset] [] := by first | (simp [entryFrame, mkF, argsToLocals, Value.category]; done) | rfl
set_option maxRecDepth 65536 in
set_option maxHeartbeats 40000000 in
theorem rmDE (l : Launch) (Z : State) (a0 : Array Value) (hw : ∀ d ∈ tables_1, d.before a0 Z = true) (ws : List Jvm.Cond) (a : Addr) (ln : Int32) (n : Nat) (f : Nat → Int32) (g : Nat → Nat) (cs : Int32) (fm : Value) (h0 : Heap) (hg : ∀ i, i < n → g i = own_cl (f i)) (hl : ln.toInt = (n : Nat)) (hn : n < 1073741824) (J : own_JS Z h0 a n f) (ST : own_St Z h0 cs fm) :
    own_Ct l Z (⟨"com/example/kissena/kissena/Columns", "isDecimal", "(Ljava/lang/String;)Z"⟩ : MethodName) prog_3_method_10_code 5 (some .boolean) ws ({ frames := 6, cells := 0, slots := 0, locals := 86 } : Room) #[(.ref a)] h0 (fun v h L => v = some (.int (own_isDec g n)) ∧ L = [] ∧ h = h0) := by
  refine own_of (plainFor_of_name pn_com_example_kissena_kissena_Columns) ?_
  intro p e s m below meth c s₁ hx hby hml hown hnm hret hlk hZ X0 e0
  rw [ef_rmDE]
  refine own_by (T' := s₁) (f' := (mkF m 1 #[.val (.ref a), .unset, .unset, .unset, .unset] [(.ref a)])) (fun t k => XS.aloadN X0.here hx rfl (hb hby d7_0) rfl rfl k) ?_
  refine own_by (T' := s₁) (f' := (mkF m 2 #[.val (.ref a), .unset, .unset, .unset, .unset] [(.int (0 : Int32)), (.ref a)])) (fun t k => XS.iconst X0.here hx rfl (hb hby d7_1) k) ?_
  refine own_callS X0 hx hZ hown e0 (hb hby d7_2) [(.ref a), (.int (0 : Int32))] [] 0 (rmSS l Z a0 hw [] a (0 : Int32) ln 0 n f g cs fm h0 (by decide : (0 : Int32).toInt = ((0 : Nat) : Int)) hg hl hn J ST) (own_w hw 38 rfl) (own_w hw 39 rfl) (own_w hw 36 rfl) (own_w hw 40 rfl) (by decide) pd__Ljava_lang_String_I_I (by rw [hml]; rfl) rfl rfl (Nat.le_of_eq rfl) (by decide) (by decide) (by decide) (by decide) ?_
  rintro T11 _ L11 X11 ⟨r11, rfl, hr11, rfl, e11⟩
  rw [List.append_nil] at X11
  show own_Go p e below _ T11 (mkF m 5 #[.val (.ref a), .unset, .unset, .unset, .unset] [(.int r11)])
  have lm11 := own_sg_le g n 0 (Nat.zero_le n)
  obtain ⟨d11, hd11⟩ : ∃ d, d = own_sg g n 0 := ⟨_, rfl⟩
  rw [← hd11] at hr11 lm11
  have le11 : d11 ≤ n := by omega
  refine own_by (T' := T11) (f' := (mkF m 6 #[.val (.ref a), .val (.int r11), .unset, .unset, .unset] [])) (fun t k => XS.istoreN X11.here hx rfl (hb hby d7_5) rfl (l' := #[.val (.ref a), .val (.int r11), .unset, .unset, .unset]) rfl k) ?_
  refine own_by (T' := T11) (f' := (mkF m 7 #[.val (.ref a), .val (.int r11), .unset, .unset, .unset] [(.int r11)])) (fun t k => XS.iloadN X11.here hx rfl (hb hby d7_6) rfl k) ?_
  refine own_by (T' := T11) (f' := (mkF m 8 #[.val (.ref a), .val (.int r11), .val (.int r11), .unset, .unset] [])) (fun t k => XS.istoreN X11.here hx rfl (hb hby d7_7) rfl (l' := #[.val (.ref a), .val (.int r11), .val (.int r11), .unset, .unset]) rfl k) ?_
  refine own_by (T' := T11) (f' := (mkF m 9 #[.val (.ref a), .val (.int r11), .val (.int r11), .unset, .unset] [(.ref a)])) (fun t k => XS.aloadN X11.here hx rfl (hb hby d7_8) rfl rfl k) ?_
  refine own_by (T' := T11) (f' := (mkF m 10 #[.val (.ref a), .val (.int r11), .val (.int r11), .unset, .unset] [(.int r11), (.ref a)])) (fun t k => XS.iloadN X11.here hx rfl (hb hby d7_9) rfl k) ?_
  refine own_callS X11 hx hZ hown e11 (hb hby d7_10) [(.ref a), (.int r11)] [] 0 (rmSD l Z a0 hw [] a r11 ln d11 n f g cs fm h0 hr11 le11 hg hl hn J ST) (own_w hw 52 rfl) (own_w hw 53 rfl) (own_w hw 36 rfl) (own_w hw 54 rfl) (by decide) pd__Ljava_lang_String_I_I (by rw [hml]; rfl) rfl rfl (Nat.le_of_eq rfl) (by decide) (by decide) (by decide) (by decide) ?_
  rintro T12 _ L12 X12 ⟨r12, rfl, hr12, rfl, e12⟩
  rw [List.append_nil] at X12
  show own_Go p e below _ T12 (mkF m 13 #[.val (.ref a), .val (.int r11), .val (.int r11), .unset, .unset] [(.int r12)])
  have lm12 := own_dg_le g (n - d11) d11
  obtain ⟨d12, hd12⟩ : ∃ d, d = own_dg g (n - d11) d11 := ⟨_, rfl⟩
  rw [← hd12] at hr12 lm12
  have le12 : d12 ≤ n := by omega
  refine own_by (T' := T12) (f' := (mkF m 14 #[.val (.ref a), .val (.int r12), .val (.int r11), .unset, .unset] [])) (fun t k => XS.istoreN X12.here hx rfl (hb hby d7_13) rfl (l' := #[.val (.ref a), .val (.int r12), .val (.int r11), .unset, .unset]) rfl k) ?_
  refine own_by (T' := T12) (f' := (mkF m 15 #[.val (.ref a), .val (.int r12), .val (.int r11), .unset, .unset] [(.int r12)])) (fun t k => XS.iloadN X12.here hx rfl (hb hby d7_14) rfl k) ?_
  refine own_by (T' := T12) (f' := (mkF m 16 #[.val (.ref a), .val (.int r12), .val (.int r11), .unset, .unset] [(.int r11), (.int r12)])) (fun t k => XS.iloadN X12.here hx rfl (hb hby d7_15) rfl k) ?_
  refine own_by (T' := T12) (f' := (mkF m 17 #[.val (.ref a), .val (.int r12), .val (.int r11), .unset, .unset] [(.int (r12 - r11))])) (fun t k => XS.isub X12.here hx rfl (hb hby d7_16) rfl k) ?_
  refine own_by (T' := T12) (f' := (mkF m 18 #[.val (.ref a), .val (.int r12), .val (.int r11), .val (.int (r12 - r11)), .unset] [])) (fun t k => XS.istoreN X12.here hx rfl (hb hby d7_17) rfl (l' := #[.val (.ref a), .val (.int r12), .val (.int r11), .val (.int (r12 - r11)), .unset]) rfl k) ?_
  refine own_by (T' := T12) (f' := (mkF m 19 #[.val (.ref a), .val (.int r12), .val (.int r11), .val (.int (r12 - r11)), .unset] [(.int r12)])) (fun t k => XS.iloadN X12.here hx rfl (hb hby d7_18) rfl k) ?_
  refine own_by (T' := T12) (f' := (mkF m 20 #[.val (.ref a), .val (.int r12), .val (.int r11), .val (.int (r12 - r11)), .unset] [(.ref a), (.int r12)])) (fun t k => XS.aloadN X12.here hx rfl (hb hby d7_19) rfl rfl k) ?_
  refine own_callV X12 hx hZ hown e12 (hb hby d7_20) [] [(.int r12)] 1 (rmLN l Z a0 hw [] a ln n f cs fm h0 hl J ST) J.2.2.1 (own_w hw 41 rfl) (own_w hw 42 rfl) (notFace_of_selects (args := #[]) (mvT hZ (own_w hw 44 rfl))) (own_w hw 44 rfl) (own_w hw 43 rfl) (own_w hw 15 rfl) (own_w hw 45 rfl) (by decide) pd___I (by rw [hml]; rfl) rfl rfl (Nat.le_of_eq rfl) (by decide) (by decide) (by decide) (by decide) ?_
  rintro T13 _ L13 X13 ⟨rfl, rfl, e13⟩
  show own_Go p e below _ T13 (mkF m 23 #[.val (.ref a), .val (.int r12), .val (.int r11), .val (.int (r12 - r11)), .unset] [(.int ln), (.int r12)])
  rw [List.append_nil] at X13
  by_cases hc23_14 : r12 < ln
  · have _ := X13
    refine own_by (T' := T13) (f' := (mkF m 26 #[.val (.ref a), .val (.int r12), .val (.int r11), .val (.int (r12 - r11)), .unset] [])) (fun t k => XS.icmpNo X13.here hx rfl (hb hby d7_23) rfl (tlt hc23_14).2.1 k) ?_
    refine own_by (T' := T13) (f' := (mkF m 27 #[.val (.ref a), .val (.int r12), .val (.int r11), .val (.int (r12 - r11)), .unset] [(.ref a)])) (fun t k => XS.aloadN X13.here hx rfl (hb hby d7_26) rfl rfl k) ?_
    refine own_by (T' := T13) (f' := (mkF m 28 #[.val (.ref a), .val (.int r12), .val (.int r11), .val (.int (r12 - r11)), .unset] [(.int r12), (.ref a)])) (fun t k => XS.iloadN X13.here hx rfl (hb hby d7_27) rfl k) ?_
    refine own_callV X13 hx hZ hown e13 (hb hby d7_28) [(.int r12)] [] 0 (rmCA l Z a0 hw [] a r12 d12 n f cs fm h0 hr12 (own_ltn hr12 hl hc23_14) J ST) J.2.2.1 (own_w hw 68 rfl) (own_w hw 69 rfl) (notFace_of_selects (args := #[]) (mvT hZ (own_w hw 71 rfl))) (own_w hw 71 rfl) (own_w hw 70 rfl) (own_w hw 15 rfl) (own_w hw 72 rfl) (by decide) pd__I_C (by rw [hml]; rfl) rfl rfl (Nat.le_of_eq rfl) (by decide) (by decide) (by decide) (by decide) ?_
    rintro T15 _ L15 X15 ⟨rfl, rfl, e15⟩
    show own_Go p e below _ T15 (mkF m 31 #[.val (.ref a), .val (.int r12), .val (.int r11), .val (.int (r12 - r11)), .unset] [(.int (f d12))])
    rw [List.append_nil] at X15
    refine own_by (T' := T15) (f' := (mkF m 33 #[.val (.ref a), .val (.int r12), .val (.int r11), .val (.int (r12 - r11)), .unset] [(.int (46 : Int32)), (.int (f d12))])) (fun t k => XS.bipush X15.here hx rfl (hb hby d7_31) k) ?_
    by_cases hc33_16 : (f d12) = (46 : Int32)
    · have _ := X15
      refine own_by (T' := T15) (f' := (mkF m 36 #[.val (.ref a), .val (.int r12), .val (.int r11), .val (.int (r12 - r11)), .unset] [])) (fun t k => XS.icmpNo X15.here hx rfl (hb hby d7_33) rfl (teq hc33_16).2 k) ?_
      refine own_by (T' := T15) (f' := (mkF m 37 #[.val (.ref a), .val (.int r12), .val (.int r11), .val (.int (r12 - r11)), .unset] [(.int r12)])) (fun t k => XS.iloadN X15.here hx rfl (hb hby d7_36) rfl k) ?_
      refine own_by (T' := T15) (f' := (mkF m 38 #[.val (.ref a), .val (.int r12), .val (.int r11), .val (.int (r12 - r11)), .unset] [(.int (1 : Int32)), (.int r12)])) (fun t k => XS.iconst X15.here hx rfl (hb hby d7_37) k) ?_
      refine own_by (T' := T15) (f' := (mkF m 39 #[.val (.ref a), .val (.int r12), .val (.int r11), .val (.int (r12 - r11)), .unset] [(.int (r12 + (1 : Int32)))])) (fun t k => XS.iadd X15.here hx rfl (hb hby d7_38) rfl k) ?_
      refine own_by (T' := T15) (f' := (mkF m 41 #[.val (.ref a), .val (.int r12), .val (.int r11), .val (.int (r12 - r11)), .val (.int (r12 + (1 : Int32)))] [])) (fun t k => XS.istore X15.here hx rfl (hb hby d7_39) rfl (l' := #[.val (.ref a), .val (.int r12), .val (.int r11), .val (.int (r12 - r11)), .val (.int (r12 + (1 : Int32)))]) rfl k) ?_
      refine own_by (T' := T15) (f' := (mkF m 42 #[.val (.ref a), .val (.int r12), .val (.int r11), .val (.int (r12 - r11)), .val (.int (r12 + (1 : Int32)))] [(.ref a)])) (fun t k => XS.aloadN X15.here hx rfl (hb hby d7_41) rfl rfl k) ?_
      refine own_by (T' := T15) (f' := (mkF m 44 #[.val (.ref a), .val (.int r12), .val (.int r11), .val (.int (r12 - r11)), .val (.int (r12 + (1 : Int32)))] [(.int (r12 + (1 : Int32))), (.ref a)])) (fun t k => XS.iload X15.here hx rfl (hb hby d7_42) rfl k) ?_
      have lt17 := own_ltn hr12 hl hc23_14
      have hi17 := own_inc hr12 lt17 (by omega)
      have le17 : d12 + 1 ≤ n := lt17
      refine own_callS X15 hx hZ hown e15 (hb hby d7_44) [(.ref a), (.int (r12 + (1 : Int32)))] [] 0 (rmSD l Z a0 hw [] a (r12 + (1 : Int32)) ln (d12 + 1) n f g cs fm h0 hi17 le17 hg hl hn J ST) (own_w hw 52 rfl) (own_w hw 53 rfl) (own_w hw 36 rfl) (own_w hw 54 rfl) (by decide) pd__Ljava_lang_String_I_I (by rw [hml]; rfl) rfl rfl (Nat.le_of_eq rfl) (by decide) (by decide) (by decide) (by decide) ?_
      rintro T18 _ L18 X18 ⟨r18, rfl, hr18, rfl, e18⟩
      rw [List.append_nil] at X18
      show own_Go p e below _ T18 (mkF m 47 #[.val (.ref a), .val (.int r12), .val (.int r11), .val (.int (r12 - r11)), .val (.int (r12 + (1 : Int32)))] [(.int r18)])
      have lm18 := own_dg_le g (n - (d12 + 1)) (d12 + 1)
      obtain ⟨d18, hd18⟩ : ∃ d, d = own_dg g (n - (d12 + 1)) (d12 + 1) := ⟨_, rfl⟩
      rw [← hd18] at hr18 lm18
      have le18 : d18 ≤ n := by omega
      refine own_by (T' := T18) (f' := (mkF m 48 #[.val (.ref a), .val (.int r18), .val (.int r11), .val (.int (r12 - r11)), .val (.int (r12 + (1 : Int32)))] [])) (fun t k => XS.istoreN X18.here hx rfl (hb hby d7_47) rfl (l' := #[.val (.ref a), .val (.int r18), .val (.int r11), .val (.int (r12 - r11)), .val (.int (r12 + (1 : Int32)))]) rfl k) ?_
      refine own_by (T' := T18) (f' := (mkF m 49 #[.val (.ref a), .val (.int r18), .val (.int r11), .val (.int (r12 - r11)), .val (.int (r12 + (1 : Int32)))] [(.int (r12 - r11))])) (fun t k => XS.iloadN X18.here hx rfl (hb hby d7_48) rfl k) ?_
      refine own_by (T' := T18) (f' := (mkF m 50 #[.val (.ref a), .val (.int r18), .val (.int r11), .val (.int (r12 - r11)), .val (.int (r12 + (1 : Int32)))] [(.int r18), (.int (r12 - r11))])) (fun t k => XS.iloadN X18.here hx rfl (hb hby d7_49) rfl k) ?_
      refine own_by (T' := T18) (f' := (mkF m 52 #[.val (.ref a), .val (.int r18), .val (.int r11), .val (.int (r12 - r11)), .val (.int (r12 + (1 : Int32)))] [(.int (r12 + (1 : Int32))), (.int r18), (.int (r12 - r11))])) (fun t k => XS.iload X18.here hx rfl (hb hby d7_50) rfl k) ?_
      refine own_by (T' := T18) (f' := (mkF m 53 #[.val (.ref a), .val (.int r18), .val (.int r11), .val (.int (r12 - r11)), .val (.int (r12 + (1 : Int32)))] [(.int (r18 - (r12 + (1 : Int32)))), (.int (r12 - r11))])) (fun t k => XS.isub X18.here hx rfl (hb hby d7_52) rfl k) ?_
      refine own_by (T' := T18) (f' := (mkF m 54 #[.val (.ref a), .val (.int r18), .val (.int r11), .val (.int (r12 - r11)), .val (.int (r12 + (1 : Int32)))] [(.int ((r12 - r11) + (r18 - (r12 + (1 : Int32)))))])) (fun t k => XS.iadd X18.here hx rfl (hb hby d7_53) rfl k) ?_
      refine own_by (T' := T18) (f' := (mkF m 55 #[.val (.ref a), .val (.int r18), .val (.int r11), .val (.int ((r12 - r11) + (r18 - (r12 + (1 : Int32))))), .val (.int (r12 + (1 : Int32)))] [])) (fun t k => XS.istoreN X18.here hx rfl (hb hby d7_54) rfl (l' := #[.val (.ref a), .val (.int r18), .val (.int r11), .val (.int ((r12 - r11) + (r18 - (r12 + (1 : Int32))))), .val (.int (r12 + (1 : Int32)))]) rfl k) ?_
      obtain ⟨dv, hdv⟩ : ∃ z : Int32, z = ((r12 - r11) + (r18 - (r12 + (1 : Int32)))) := ⟨_, rfl⟩
      rw [← hdv]
      show own_Go p e below _ T18 (mkF m 55 #[.val (.ref a), .val (.int r18), .val (.int r11), .val (.int dv), .val (.int (r12 + (1 : Int32)))] [])
      have hK : dv.toInt = (((d12 - d11 + (d18 - (d12 + 1))) : Nat) : Int) := by rw [hdv]; exact own_add (own_sub hr12 hr11 lm12.1) (own_sub hr18 hi17 lm18.1) (by omega)
      refine own_by (T' := T18) (f' := (mkF m 56 #[.val (.ref a), .val (.int r18), .val (.int r11), .val (.int dv), .val (.int (r12 + (1 : Int32)))] [(.int dv)])) (fun t k => XS.iloadN X18.here hx rfl (hb hby d7_55) rfl k) ?_
      by_cases hc56_19 : dv = (0 : Int32)
      · have _ := X18
        refine own_by (T' := T18) (f' := (mkF m 59 #[.val (.ref a), .val (.int r18), .val (.int r11), .val (.int dv), .val (.int (r12 + (1 : Int32)))] [])) (fun t k => XS.ifNo X18.here hx rfl (hb hby d7_56) rfl ((if0 _ _).trans (teq hc56_19).2) k) ?_
        refine own_by (T' := T18) (f' := (mkF m 60 #[.val (.ref a), .val (.int r18), .val (.int r11), .val (.int dv), .val (.int (r12 + (1 : Int32)))] [(.int (0 : Int32))])) (fun t k => XS.iconst X18.here hx rfl (hb hby d7_59) k) ?_
        refine own_retZ X18 hx hret hlk (hb hby d7_60) (Or.inl rfl) (by decide) (by decide) ?_
        try rw [e18]
        refine ⟨congrArg (fun z => some (Value.int z)) ?_, rfl, rfl⟩
        rw [own_isDec, ← hd11, ← hd12, own_id2]
        rw [if_pos (And.intro (own_ltn hr12 hl hc23_14) ((hg _ (own_ltn hr12 hl hc23_14)).trans (own_cl2 hc33_16))), ← hd18]
        rw [own_id3, if_pos (own_eqn hK (by decide : (0 : Int32).toInt = ((0 : Nat) : Int)) hc56_19)]
      · have _ := X18
        refine own_by (T' := T18) (f' := (mkF m 61 #[.val (.ref a), .val (.int r18), .val (.int r11), .val (.int dv), .val (.int (r12 + (1 : Int32)))] [])) (fun t k => XS.ifYes X18.here hx rfl (pc0 := 56) (pc' := 61) rfl (hb hby d7_56) rfl ((if0 _ _).trans (feq hc56_19).2) (by decide) (by decide) k) ?_
        refine own_by (T' := T18) (f' := (mkF m 62 #[.val (.ref a), .val (.int r18), .val (.int r11), .val (.int dv), .val (.int (r12 + (1 : Int32)))] [(.int r18)])) (fun t k => XS.iloadN X18.here hx rfl (hb hby d7_61) rfl k) ?_
        refine own_by (T' := T18) (f' := (mkF m 63 #[.val (.ref a), .val (.int r18), .val (.int r11), .val (.int dv), .val (.int (r12 + (1 : Int32)))] [(.ref a), (.int r18)])) (fun t k => XS.aloadN X18.here hx rfl (hb hby d7_62) rfl rfl k) ?_
        refine own_callV X18 hx hZ hown e18 (hb hby d7_63) [] [(.int r18)] 1 (rmLN l Z a0 hw [] a ln n f cs fm h0 hl J ST) J.2.2.1 (own_w hw 41 rfl) (own_w hw 42 rfl) (notFace_of_selects (args := #[]) (mvT hZ (own_w hw 44 rfl))) (own_w hw 44 rfl) (own_w hw 43 rfl) (own_w hw 15 rfl) (own_w hw 45 rfl) (by decide) pd___I (by rw [hml]; rfl) rfl rfl (Nat.le_of_eq rfl) (by decide) (by decide) (by decide) (by decide) ?_
        rintro T20 _ L20 X20 ⟨rfl, rfl, e20⟩
        show own_Go p e below _ T20 (mkF m 66 #[.val (.ref a), .val (.int r18), .val (.int r11), .val (.int dv), .val (.int (r12 + (1 : Int32)))] [(.int ln), (.int r18)])
        rw [List.append_nil] at X20
        by_cases hc66_21 : r18 < ln
        · have _ := X20
          refine own_by (T' := T20) (f' := (mkF m 69 #[.val (.ref a), .val (.int r18), .val (.int r11), .val (.int dv), .val (.int (r12 + (1 : Int32)))] [])) (fun t k => XS.icmpNo X20.here hx rfl (hb hby d7_66) rfl (tlt hc66_21).2.1 k) ?_
          refine own_by (T' := T20) (f' := (mkF m 70 #[.val (.ref a), .val (.int r18), .val (.int r11), .val (.int dv), .val (.int (r12 + (1 : Int32)))] [(.ref a)])) (fun t k => XS.aloadN X20.here hx rfl (hb hby d7_69) rfl rfl k) ?_
          refine own_by (T' := T20) (f' := (mkF m 71 #[.val (.ref a), .val (.int r18), .val (.int r11), .val (.int dv), .val (.int (r12 + (1 : Int32)))] [(.int r18), (.ref a)])) (fun t k => XS.iloadN X20.here hx rfl (hb hby d7_70) rfl k) ?_
          refine own_callV X20 hx hZ hown e20 (hb hby d7_71) [(.int r18)] [] 0 (rmCA l Z a0 hw [] a r18 d18 n f cs fm h0 hr18 (own_ltn hr18 hl hc66_21) J ST) J.2.2.1 (own_w hw 68 rfl) (own_w hw 69 rfl) (notFace_of_selects (args := #[]) (mvT hZ (own_w hw 71 rfl))) (own_w hw 71 rfl) (own_w hw 70 rfl) (own_w hw 15 rfl) (own_w hw 72 rfl) (by decide) pd__I_C (by rw [hml]; rfl) rfl rfl (Nat.le_of_eq rfl) (by decide) (by decide) (by decide) (by decide) ?_
          rintro T22 _ L22 X22 ⟨rfl, rfl, e22⟩
          show own_Go p e below _ T22 (mkF m 74 #[.val (.ref a), .val (.int r18), .val (.int r11), .val (.int dv), .val (.int (r12 + (1 : Int32)))] [(.int (f d18))])
          rw [List.append_nil] at X22
          refine own_by (T' := T22) (f' := (mkF m 76 #[.val (.ref a), .val (.int r18), .val (.int r11), .val (.int dv), .val (.int (r12 + (1 : Int32)))] [(.int (101 : Int32)), (.int (f d18))])) (fun t k => XS.bipush X22.here hx rfl (hb hby d7_74) k) ?_
          by_cases hc76_23 : (f d18) = (101 : Int32)
          · have _ := X22
            refine own_by (T' := T22) (f' := (mkF m 89 #[.val (.ref a), .val (.int r18), .val (.int r11), .val (.int dv), .val (.int (r12 + (1 : Int32)))] [])) (fun t k => XS.icmpYes X22.here hx rfl (pc0 := 76) (pc' := 89) rfl (hb hby d7_76) rfl (teq hc76_23).1 (by decide) (by decide) k) ?_
            refine own_by (T' := T22) (f' := (mkF m 90 #[.val (.ref a), .val (.int r18), .val (.int r11), .val (.int dv), .val (.int (r12 + (1 : Int32)))] [(.ref a)])) (fun t k => XS.aloadN X22.here hx rfl (hb hby d7_89) rfl rfl k) ?_
            refine own_by (T' := T22) (f' := (mkF m 91 #[.val (.ref a), .val (.int r18), .val (.int r11), .val (.int dv), .val (.int (r12 + (1 : Int32)))] [(.int r18), (.ref a)])) (fun t k => XS.iloadN X22.here hx rfl (hb hby d7_90) rfl k) ?_
            refine own_by (T' := T22) (f' := (mkF m 92 #[.val (.ref a), .val (.int r18), .val (.int r11), .val (.int dv), .val (.int (r12 + (1 : Int32)))] [(.int (1 : Int32)), (.int r18), (.ref a)])) (fun t k => XS.iconst X22.here hx rfl (hb hby d7_91) k) ?_
            refine own_by (T' := T22) (f' := (mkF m 93 #[.val (.ref a), .val (.int r18), .val (.int r11), .val (.int dv), .val (.int (r12 + (1 : Int32)))] [(.int (r18 + (1 : Int32))), (.ref a)])) (fun t k => XS.iadd X22.here hx rfl (hb hby d7_92) rfl k) ?_
            have lt24 := own_ltn hr18 hl hc66_21
            have hi24 := own_inc hr18 lt24 (by omega)
            have le24 : d18 + 1 ≤ n := lt24
            refine own_callS X22 hx hZ hown e22 (hb hby d7_93) [(.ref a), (.int (r18 + (1 : Int32)))] [] 0 (rmSS l Z a0 hw [] a (r18 + (1 : Int32)) ln (d18 + 1) n f g cs fm h0 hi24 hg hl hn J ST) (own_w hw 38 rfl) (own_w hw 39 rfl) (own_w hw 36 rfl) (own_w hw 40 rfl) (by decide) pd__Ljava_lang_String_I_I (by rw [hml]; rfl) rfl rfl (Nat.le_of_eq rfl) (by decide) (by decide) (by decide) (by decide) ?_
            rintro T25 _ L25 X25 ⟨r25, rfl, hr25, rfl, e25⟩
            rw [List.append_nil] at X25
            show own_Go p e below _ T25 (mkF m 96 #[.val (.ref a), .val (.int r18), .val (.int r11), .val (.int dv), .val (.int (r12 + (1 : Int32)))] [(.int r25)])
            have lm25 := own_sg_le g n (d18 + 1) le24
            obtain ⟨d25, hd25⟩ : ∃ d, d = own_sg g n (d18 + 1) := ⟨_, rfl⟩
            rw [← hd25] at hr25 lm25
            have le25 : d25 ≤ n := by omega
            refine own_by (T' := T25) (f' := (mkF m 98 #[.val (.ref a), .val (.int r18), .val (.int r11), .val (.int dv), .val (.int r25)] [])) (fun t k => XS.istore X25.here hx rfl (hb hby d7_96) rfl (l' := #[.val (.ref a), .val (.int r18), .val (.int r11), .val (.int dv), .val (.int r25)]) rfl k) ?_
            refine own_by (T' := T25) (f' := (mkF m 99 #[.val (.ref a), .val (.int r18), .val (.int r11), .val (.int dv), .val (.int r25)] [(.ref a)])) (fun t k => XS.aloadN X25.here hx rfl (hb hby d7_98) rfl rfl k) ?_
            refine own_by (T' := T25) (f' := (mkF m 101 #[.val (.ref a), .val (.int r18), .val (.int r11), .val (.int dv), .val (.int r25)] [(.int r25), (.ref a)])) (fun t k => XS.iload X25.here hx rfl (hb hby d7_99) rfl k) ?_
            refine own_callS X25 hx hZ hown e25 (hb hby d7_101) [(.ref a), (.int r25)] [] 0 (rmSD l Z a0 hw [] a r25 ln d25 n f g cs fm h0 hr25 le25 hg hl hn J ST) (own_w hw 52 rfl) (own_w hw 53 rfl) (own_w hw 36 rfl) (own_w hw 54 rfl) (by decide) pd__Ljava_lang_String_I_I (by rw [hml]; rfl) rfl rfl (Nat.le_of_eq rfl) (by decide) (by decide) (by decide) (by decide) ?_
            rintro T26 _ L26 X26 ⟨r26, rfl, hr26, rfl, e26⟩
            rw [List.append_nil] at X26
            show own_Go p e below _ T26 (mkF m 104 #[.val (.ref a), .val (.int r18), .val (.int r11), .val (.int dv), .val (.int r25)] [(.int r26)])
            have lm26 := own_dg_le g (n - d25) d25
            obtain ⟨d26, hd26⟩ : ∃ d, d = own_dg g (n - d25) d25 := ⟨_, rfl⟩
            rw [← hd26] at hr26 lm26
            have le26 : d26 ≤ n := by omega
            refine own_by (T' := T26) (f' := (mkF m 105 #[.val (.ref a), .val (.int r26), .val (.int r11), .val (.int dv), .val (.int r25)] [])) (fun t k => XS.istoreN X26.here hx rfl (hb hby d7_104) rfl (l' := #[.val (.ref a), .val (.int r26), .val (.int r11), .val (.int dv), .val (.int r25)]) rfl k) ?_
            refine own_by (T' := T26) (f' := (mkF m 106 #[.val (.ref a), .val (.int r26), .val (.int r11), .val (.int dv), .val (.int r25)] [(.int r26)])) (fun t k => XS.iloadN X26.here hx rfl (hb hby d7_105) rfl k) ?_
            refine own_by (T' := T26) (f' := (mkF m 108 #[.val (.ref a), .val (.int r26), .val (.int r11), .val (.int dv), .val (.int r25)] [(.int r25), (.int r26)])) (fun t k => XS.iload X26.here hx rfl (hb hby d7_106) rfl k) ?_
            by_cases hc108_27 : r26 = r25
            · have _ := X26
              refine own_by (T' := T26) (f' := (mkF m 111 #[.val (.ref a), .val (.int r26), .val (.int r11), .val (.int dv), .val (.int r25)] [])) (fun t k => XS.icmpNo X26.here hx rfl (hb hby d7_108) rfl (teq hc108_27).2 k) ?_
              refine own_by (T' := T26) (f' := (mkF m 112 #[.val (.ref a), .val (.int r26), .val (.int r11), .val (.int dv), .val (.int r25)] [(.int (0 : Int32))])) (fun t k => XS.iconst X26.here hx rfl (hb hby d7_111) k) ?_
              refine own_retZ X26 hx hret hlk (hb hby d7_112) (Or.inl rfl) (by decide) (by decide) ?_
              try rw [e26]
              refine ⟨congrArg (fun z => some (Value.int z)) ?_, rfl, rfl⟩
              rw [own_isDec, ← hd11, ← hd12, own_id2]
              rw [if_pos (And.intro (own_ltn hr12 hl hc23_14) ((hg _ (own_ltn hr12 hl hc23_14)).trans (own_cl2 hc33_16))), ← hd18]
              rw [own_id3, if_neg (own_neqn hK (by decide : (0 : Int32).toInt = ((0 : Nat) : Int)) hc56_19)]
              rw [if_pos (And.intro (own_ltn hr18 hl hc66_21) ((hg _ (own_ltn hr18 hl hc66_21)).trans (own_cl3 (Or.inl hc76_23)))), ← hd25, ← hd26, own_id4]
              rw [if_pos (own_eqn hr26 hr25 hc108_27)]
            · have _ := X26
              refine own_by (T' := T26) (f' := (mkF m 113 #[.val (.ref a), .val (.int r26), .val (.int r11), .val (.int dv), .val (.int r25)] [])) (fun t k => XS.icmpYes X26.here hx rfl (pc0 := 108) (pc' := 113) rfl (hb hby d7_108) rfl (feq hc108_27).2 (by decide) (by decide) k) ?_
              refine own_by (T' := T26) (f' := (mkF m 114 #[.val (.ref a), .val (.int r26), .val (.int r11), .val (.int dv), .val (.int r25)] [(.int r26)])) (fun t k => XS.iloadN X26.here hx rfl (hb hby d7_113) rfl k) ?_
              refine own_by (T' := T26) (f' := (mkF m 115 #[.val (.ref a), .val (.int r26), .val (.int r11), .val (.int dv), .val (.int r25)] [(.ref a), (.int r26)])) (fun t k => XS.aloadN X26.here hx rfl (hb hby d7_114) rfl rfl k) ?_
              refine own_callV X26 hx hZ hown e26 (hb hby d7_115) [] [(.int r26)] 1 (rmLN l Z a0 hw [] a ln n f cs fm h0 hl J ST) J.2.2.1 (own_w hw 41 rfl) (own_w hw 42 rfl) (notFace_of_selects (args := #[]) (mvT hZ (own_w hw 44 rfl))) (own_w hw 44 rfl) (own_w hw 43 rfl) (own_w hw 15 rfl) (own_w hw 45 rfl) (by decide) pd___I (by rw [hml]; rfl) rfl rfl (Nat.le_of_eq rfl) (by decide) (by decide) (by decide) (by decide) ?_
              rintro T28 _ L28 X28 ⟨rfl, rfl, e28⟩
              show own_Go p e below _ T28 (mkF m 118 #[.val (.ref a), .val (.int r26), .val (.int r11), .val (.int dv), .val (.int r25)] [(.int ln), (.int r26)])
              rw [List.append_nil] at X28
              by_cases hc118_29 : r26 = ln
              · have _ := X28
                refine own_by (T' := T28) (f' := (mkF m 121 #[.val (.ref a), .val (.int r26), .val (.int r11), .val (.int dv), .val (.int r25)] [])) (fun t k => XS.icmpNo X28.here hx rfl (hb hby d7_118) rfl (teq hc118_29).2 k) ?_
                refine own_by (T' := T28) (f' := (mkF m 122 #[.val (.ref a), .val (.int r26), .val (.int r11), .val (.int dv), .val (.int r25)] [(.int (1 : Int32))])) (fun t k => XS.iconst X28.here hx rfl (hb hby d7_121) k) ?_
                refine own_by (T' := T28) (f' := (mkF m 126 #[.val (.ref a), .val (.int r26), .val (.int r11), .val (.int dv), .val (.int r25)] [(.int (1 : Int32))])) (fun t k => XS.goto X28.here hx rfl (pc0 := 122) (pc' := 126) rfl (hb hby d7_122) (by decide) (by decide) k) ?_
                refine own_retZ X28 hx hret hlk (hb hby d7_126) (Or.inr rfl) (by decide) (by decide) ?_
                try rw [e28]
                refine ⟨congrArg (fun z => some (Value.int z)) ?_, rfl, rfl⟩
                rw [own_isDec, ← hd11, ← hd12, own_id2]
                rw [if_pos (And.intro (own_ltn hr12 hl hc23_14) ((hg _ (own_ltn hr12 hl hc23_14)).trans (own_cl2 hc33_16))), ← hd18]
                rw [own_id3, if_neg (own_neqn hK (by decide : (0 : Int32).toInt = ((0 : Nat) : Int)) hc56_19)]
                rw [if_pos (And.intro (own_ltn hr18 hl hc66_21) ((hg _ (own_ltn hr18 hl hc66_21)).trans (own_cl3 (Or.inl hc76_23)))), ← hd25, ← hd26, own_id4]
                rw [if_neg (own_neqn hr26 hr25 hc108_27)]
                rw [if_pos (own_eqn hr26 hl hc118_29)]
              · have _ := X28
                refine own_by (T' := T28) (f' := (mkF m 125 #[.val (.ref a), .val (.int r26), .val (.int r11), .val (.int dv), .val (.int r25)] [])) (fun t k => XS.icmpYes X28.here hx rfl (pc0 := 118) (pc' := 125) rfl (hb hby d7_118) rfl (feq hc118_29).2 (by decide) (by decide) k) ?_
                refine own_by (T' := T28) (f' := (mkF m 126 #[.val (.ref a), .val (.int r26), .val (.int r11), .val (.int dv), .val (.int r25)] [(.int (0 : Int32))])) (fun t k => XS.iconst X28.here hx rfl (hb hby d7_125) k) ?_
                refine own_retZ X28 hx hret hlk (hb hby d7_126) (Or.inl rfl) (by decide) (by decide) ?_
                try rw [e28]
                refine ⟨congrArg (fun z => some (Value.int z)) ?_, rfl, rfl⟩
                rw [own_isDec, ← hd11, ← hd12, own_id2]
                rw [if_pos (And.intro (own_ltn hr12 hl hc23_14) ((hg _ (own_ltn hr12 hl hc23_14)).trans (own_cl2 hc33_16))), ← hd18]
                rw [own_id3, if_neg (own_neqn hK (by decide : (0 : Int32).toInt = ((0 : Nat) : Int)) hc56_19)]
                rw [if_pos (And.intro (own_ltn hr18 hl hc66_21) ((hg _ (own_ltn hr18 hl hc66_21)).trans (own_cl3 (Or.inl hc76_23)))), ← hd25, ← hd26, own_id4]
                rw [if_neg (own_neqn hr26 hr25 hc108_27)]
                rw [if_neg (own_neqn hr26 hl hc118_29)]
          · have _ := X22
            refine own_by (T' := T22) (f' := (mkF m 79 #[.val (.ref a), .val (.int r18), .val (.int r11), .val (.int dv), .val (.int (r12 + (1 : Int32)))] [])) (fun t k => XS.icmpNo X22.here hx rfl (hb hby d7_76) rfl (feq hc76_23).1 k) ?_
            refine own_by (T' := T22) (f' := (mkF m 80 #[.val (.ref a), .val (.int r18), .val (.int r11), .val (.int dv), .val (.int (r12 + (1 : Int32)))] [(.ref a)])) (fun t k => XS.aloadN X22.here hx rfl (hb hby d7_79) rfl rfl k) ?_
            refine own_by (T' := T22) (f' := (mkF m 81 #[.val (.ref a), .val (.int r18), .val (.int r11), .val (.int dv), .val (.int (r12 + (1 : Int32)))] [(.int r18), (.ref a)])) (fun t k => XS.iloadN X22.here hx rfl (hb hby d7_80) rfl k) ?_
            refine own_callV X22 hx hZ hown e22 (hb hby d7_81) [(.int r18)] [] 0 (rmCA l Z a0 hw [] a r18 d18 n f cs fm h0 hr18 (own_ltn hr18 hl hc66_21) J ST) J.2.2.1 (own_w hw 68 rfl) (own_w hw 69 rfl) (notFace_of_selects (args := #[]) (mvT hZ (own_w hw 71 rfl))) (own_w hw 71 rfl) (own_w hw 70 rfl) (own_w hw 15 rfl) (own_w hw 72 rfl) (by decide) pd__I_C (by rw [hml]; rfl) rfl rfl (Nat.le_of_eq rfl) (by decide) (by decide) (by decide) (by decide) ?_
            rintro T30 _ L30 X30 ⟨rfl, rfl, e30⟩
            show own_Go p e below _ T30 (mkF m 84 #[.val (.ref a), .val (.int r18), .val (.int r11), .val (.int dv), .val (.int (r12 + (1 : Int32)))] [(.int (f d18))])
            rw [List.append_nil] at X30
            refine own_by (T' := T30) (f' := (mkF m 86 #[.val (.ref a), .val (.int r18), .val (.int r11), .val (.int dv), .val (.int (r12 + (1 : Int32)))] [(.int (69 : Int32)), (.int (f d18))])) (fun t k => XS.bipush X30.here hx rfl (hb hby d7_84) k) ?_
            by_cases hc86_31 : (f d18) = (69 : Int32)
            · have _ := X30
              refine own_by (T' := T30) (f' := (mkF m 89 #[.val (.ref a), .val (.int r18), .val (.int r11), .val (.int dv), .val (.int (r12 + (1 : Int32)))] [])) (fun t k => XS.icmpNo X30.here hx rfl (hb hby d7_86) rfl (teq hc86_31).2 k) ?_
              refine own_by (T' := T30) (f' := (mkF m 90 #[.val (.ref a), .val (.int r18), .val (.int r11), .val (.int dv), .val (.int (r12 + (1 : Int32)))] [(.ref a)])) (fun t k => XS.aloadN X30.here hx rfl (hb hby d7_89) rfl rfl k) ?_
              refine own_by (T' := T30) (f' := (mkF m 91 #[.val (.ref a), .val (.int r18), .val (.int r11), .val (.int dv), .val (.int (r12 + (1 : Int32)))] [(.int r18), (.ref a)])) (fun t k => XS.iloadN X30.here hx rfl (hb hby d7_90) rfl k) ?_
              refine own_by (T' := T30) (f' := (mkF m 92 #[.val (.ref a), .val (.int r18), .val (.int r11), .val (.int dv), .val (.int (r12 + (1 : Int32)))] [(.int (1 : Int32)), (.int r18), (.ref a)])) (fun t k => XS.iconst X30.here hx rfl (hb hby d7_91) k) ?_
              refine own_by (T' := T30) (f' := (mkF m 93 #[.val (.ref a), .val (.int r18), .val (.int r11), .val (.int dv), .val (.int (r12 + (1 : Int32)))] [(.int (r18 + (1 : Int32))), (.ref a)])) (fun t k => XS.iadd X30.here hx rfl (hb hby d7_92) rfl k) ?_
              have lt32 := own_ltn hr18 hl hc66_21
              have hi32 := own_inc hr18 lt32 (by omega)
              have le32 : d18 + 1 ≤ n := lt32
              refine own_callS X30 hx hZ hown e30 (hb hby d7_93) [(.ref a), (.int (r18 + (1 : Int32)))] [] 0 (rmSS l Z a0 hw [] a (r18 + (1 : Int32)) ln (d18 + 1) n f g cs fm h0 hi32 hg hl hn J ST) (own_w hw 38 rfl) (own_w hw 39 rfl) (own_w hw 36 rfl) (own_w hw 40 rfl) (by decide) pd__Ljava_lang_String_I_I (by rw [hml]; rfl) rfl rfl (Nat.le_of_eq rfl) (by decide) (by decide) (by decide) (by decide) ?_
              rintro T33 _ L33 X33 ⟨r33, rfl, hr33, rfl, e33⟩
              rw [List.append_nil] at X33
              show own_Go p e below _ T33 (mkF m 96 #[.val (.ref a), .val (.int r18), .val (.int r11), .val (.int dv), .val (.int (r12 + (1 : Int32)))] [(.int r33)])
              have lm33 := own_sg_le g n (d18 + 1) le32
              obtain ⟨d33, hd33⟩ : ∃ d, d = own_sg g n (d18 + 1) := ⟨_, rfl⟩
              rw [← hd33] at hr33 lm33
              have le33 : d33 ≤ n := by omega
              refine own_by (T' := T33) (f' := (mkF m 98 #[.val (.ref a), .val (.int r18), .val (.int r11), .val (.int dv), .val (.int r33)] [])) (fun t k => XS.istore X33.here hx rfl (hb hby d7_96) rfl (l' := #[.val (.ref a), .val (.int r18), .val (.int r11), .val (.int dv), .val (.int r33)]) rfl k) ?_
              refine own_by (T' := T33) (f' := (mkF m 99 #[.val (.ref a), .val (.int r18), .val (.int r11), .val (.int dv), .val (.int r33)] [(.ref a)])) (fun t k => XS.aloadN X33.here hx rfl (hb hby d7_98) rfl rfl k) ?_
              refine own_by (T' := T33) (f' := (mkF m 101 #[.val (.ref a), .val (.int r18), .val (.int r11), .val (.int dv), .val (.int r33)] [(.int r33), (.ref a)])) (fun t k => XS.iload X33.here hx rfl (hb hby d7_99) rfl k) ?_
              refine own_callS X33 hx hZ hown e33 (hb hby d7_101) [(.ref a), (.int r33)] [] 0 (rmSD l Z a0 hw [] a r33 ln d33 n f g cs fm h0 hr33 le33 hg hl hn J ST) (own_w hw 52 rfl) (own_w hw 53 rfl) (own_w hw 36 rfl) (own_w hw 54 rfl) (by decide) pd__Ljava_lang_String_I_I (by rw [hml]; rfl) rfl rfl (Nat.le_of_eq rfl) (by decide) (by decide) (by decide) (by decide) ?_
              rintro T34 _ L34 X34 ⟨r34, rfl, hr34, rfl, e34⟩
              rw [List.append_nil] at X34
              show own_Go p e below _ T34 (mkF m 104 #[.val (.ref a), .val (.int r18), .val (.int r11), .val (.int dv), .val (.int r33)] [(.int r34)])
              have lm34 := own_dg_le g (n - d33) d33
              obtain ⟨d34, hd34⟩ : ∃ d, d = own_dg g (n - d33) d33 := ⟨_, rfl⟩
              rw [← hd34] at hr34 lm34
              have le34 : d34 ≤ n := by omega
              refine own_by (T' := T34) (f' := (mkF m 105 #[.val (.ref a), .val (.int r34), .val (.int r11), .val (.int dv), .val (.int r33)] [])) (fun t k => XS.istoreN X34.here hx rfl (hb hby d7_104) rfl (l' := #[.val (.ref a), .val (.int r34), .val (.int r11), .val (.int dv), .val (.int r33)]) rfl k) ?_
              refine own_by (T' := T34) (f' := (mkF m 106 #[.val (.ref a), .val (.int r34), .val (.int r11), .val (.int dv), .val (.int r33)] [(.int r34)])) (fun t k => XS.iloadN X34.here hx rfl (hb hby d7_105) rfl k) ?_
              refine own_by (T' := T34) (f' := (mkF m 108 #[.val (.ref a), .val (.int r34), .val (.int r11), .val (.int dv), .val (.int r33)] [(.int r33), (.int r34)])) (fun t k => XS.iload X34.here hx rfl (hb hby d7_106) rfl k) ?_
              by_cases hc108_35 : r34 = r33
              · have _ := X34
                refine own_by (T' := T34) (f' := (mkF m 111 #[.val (.ref a), .val (.int r34), .val (.int r11), .val (.int dv), .val (.int r33)] [])) (fun t k => XS.icmpNo X34.here hx rfl (hb hby d7_108) rfl (teq hc108_35).2 k) ?_
                refine own_by (T' := T34) (f' := (mkF m 112 #[.val (.ref a), .val (.int r34), .val (.int r11), .val (.int dv), .val (.int r33)] [(.int (0 : Int32))])) (fun t k => XS.iconst X34.here hx rfl (hb hby d7_111) k) ?_
                refine own_retZ X34 hx hret hlk (hb hby d7_112) (Or.inl rfl) (by decide) (by decide) ?_
                try rw [e34]
                refine ⟨congrArg (fun z => some (Value.int z)) ?_, rfl, rfl⟩
                rw [own_isDec, ← hd11, ← hd12, own_id2]
                rw [if_pos (And.intro (own_ltn hr12 hl hc23_14) ((hg _ (own_ltn hr12 hl hc23_14)).trans (own_cl2 hc33_16))), ← hd18]
                rw [own_id3, if_neg (own_neqn hK (by decide : (0 : Int32).toInt = ((0 : Nat) : Int)) hc56_19)]
                rw [if_pos (And.intro (own_ltn hr18 hl hc66_21) ((hg _ (own_ltn hr18 hl hc66_21)).trans (own_cl3 (Or.inr hc86_31)))), ← hd33, ← hd34, own_id4]
                rw [if_pos (own_eqn hr34 hr33 hc108_35)]
              · have _ := X34
                refine own_by (T' := T34) (f' := (mkF m 113 #[.val (.ref a), .val (.int r34), .val (.int r11), .val (.int dv), .val (.int r33)] [])) (fun t k => XS.icmpYes X34.here hx rfl (pc0 := 108) (pc' := 113) rfl (hb hby d7_108) rfl (feq hc108_35).2 (by decide) (by decide) k) ?_
                refine own_by (T' := T34) (f' := (mkF m 114 #[.val (.ref a), .val (.int r34), .val (.int r11), .val (.int dv), .val (.int r33)] [(.int r34)])) (fun t k => XS.iloadN X34.here hx rfl (hb hby d7_113) rfl k) ?_
                refine own_by (T' := T34) (f' := (mkF m 115 #[.val (.ref a), .val (.int r34), .val (.int r11), .val (.int dv), .val (.int r33)] [(.ref a), (.int r34)])) (fun t k => XS.aloadN X34.here hx rfl (hb hby d7_114) rfl rfl k) ?_
                refine own_callV X34 hx hZ hown e34 (hb hby d7_115) [] [(.int r34)] 1 (rmLN l Z a0 hw [] a ln n f cs fm h0 hl J ST) J.2.2.1 (own_w hw 41 rfl) (own_w hw 42 rfl) (notFace_of_selects (args := #[]) (mvT hZ (own_w hw 44 rfl))) (own_w hw 44 rfl) (own_w hw 43 rfl) (own_w hw 15 rfl) (own_w hw 45 rfl) (by decide) pd___I (by rw [hml]; rfl) rfl rfl (Nat.le_of_eq rfl) (by decide) (by decide) (by decide) (by decide) ?_
                rintro T36 _ L36 X36 ⟨rfl, rfl, e36⟩
                show own_Go p e below _ T36 (mkF m 118 #[.val (.ref a), .val (.int r34), .val (.int r11), .val (.int dv), .val (.int r33)] [(.int ln), (.int r34)])
                rw [List.append_nil] at X36
                by_cases hc118_37 : r34 = ln
                · have _ := X36
                  refine own_by (T' := T36) (f' := (mkF m 121 #[.val (.ref a), .val (.int r34), .val (.int r11), .val (.int dv), .val (.int r33)] [])) (fun t k => XS.icmpNo X36.here hx rfl (hb hby d7_118) rfl (teq hc118_37).2 k) ?_
                  refine own_by (T' := T36) (f' := (mkF m 122 #[.val (.ref a), .val (.int r34), .val (.int r11), .val (.int dv), .val (.int r33)] [(.int (1 : Int32))])) (fun t k => XS.iconst X36.here hx rfl (hb hby d7_121) k) ?_
                  refine own_by (T' := T36) (f' := (mkF m 126 #[.val (.ref a), .val (.int r34), .val (.int r11), .val (.int dv), .val (.int r33)] [(.int (1 : Int32))])) (fun t k => XS.goto X36.here hx rfl (pc0 := 122) (pc' := 126) rfl (hb hby d7_122) (by decide) (by decide) k) ?_
                  refine own_retZ X36 hx hret hlk (hb hby d7_126) (Or.inr rfl) (by decide) (by decide) ?_
                  try rw [e36]
                  refine ⟨congrArg (fun z => some (Value.int z)) ?_, rfl, rfl⟩
                  rw [own_isDec, ← hd11, ← hd12, own_id2]
                  rw [if_pos (And.intro (own_ltn hr12 hl hc23_14) ((hg _ (own_ltn hr12 hl hc23_14)).trans (own_cl2 hc33_16))), ← hd18]
                  rw [own_id3, if_neg (own_neqn hK (by decide : (0 : Int32).toInt = ((0 : Nat) : Int)) hc56_19)]
                  rw [if_pos (And.intro (own_ltn hr18 hl hc66_21) ((hg _ (own_ltn hr18 hl hc66_21)).trans (own_cl3 (Or.inr hc86_31)))), ← hd33, ← hd34, own_id4]
                  rw [if_neg (own_neqn hr34 hr33 hc108_35)]
                  rw [if_pos (own_eqn hr34 hl hc118_37)]
                · have _ := X36
                  refine own_by (T' := T36) (f' := (mkF m 125 #[.val (.ref a), .val (.int r34), .val (.int r11), .val (.int dv), .val (.int r33)] [])) (fun t k => XS.icmpYes X36.here hx rfl (pc0 := 118) (pc' := 125) rfl (hb hby d7_118) rfl (feq hc118_37).2 (by decide) (by decide) k) ?_
                  refine own_by (T' := T36) (f' := (mkF m 126 #[.val (.ref a), .val (.int r34), .val (.int r11), .val (.int dv), .val (.int r33)] [(.int (0 : Int32))])) (fun t k => XS.iconst X36.here hx rfl (hb hby d7_125) k) ?_
                  refine own_retZ X36 hx hret hlk (hb hby d7_126) (Or.inl rfl) (by decide) (by decide) ?_
                  try rw [e36]
                  refine ⟨congrArg (fun z => some (Value.int z)) ?_, rfl, rfl⟩
                  rw [own_isDec, ← hd11, ← hd12, own_id2]
                  rw [if_pos (And.intro (own_ltn hr12 hl hc23_14) ((hg _ (own_ltn hr12 hl hc23_14)).trans (own_cl2 hc33_16))), ← hd18]
                  rw [own_id3, if_neg (own_neqn hK (by decide : (0 : Int32).toInt = ((0 : Nat) : Int)) hc56_19)]
                  rw [if_pos (And.intro (own_ltn hr18 hl hc66_21) ((hg _ (own_ltn hr18 hl hc66_21)).trans (own_cl3 (Or.inr hc86_31)))), ← hd33, ← hd34, own_id4]
                  rw [if_neg (own_neqn hr34 hr33 hc108_35)]
                  rw [if_neg (own_neqn hr34 hl hc118_37)]
            · have _ := X30
              refine own_by (T' := T30) (f' := (mkF m 113 #[.val (.ref a), .val (.int r18), .val (.int r11), .val (.int dv), .val (.int (r12 + (1 : Int32)))] [])) (fun t k => XS.icmpYes X30.here hx rfl (pc0 := 86) (pc' := 113) rfl (hb hby d7_86) rfl (feq hc86_31).2 (by decide) (by decide) k) ?_
              refine own_by (T' := T30) (f' := (mkF m 114 #[.val (.ref a), .val (.int r18), .val (.int r11), .val (.int dv), .val (.int (r12 + (1 : Int32)))] [(.int r18)])) (fun t k => XS.iloadN X30.here hx rfl (hb hby d7_113) rfl k) ?_
              refine own_by (T' := T30) (f' := (mkF m 115 #[.val (.ref a), .val (.int r18), .val (.int r11), .val (.int dv), .val (.int (r12 + (1 : Int32)))] [(.ref a), (.int r18)])) (fun t k => XS.aloadN X30.here hx rfl (hb hby d7_114) rfl rfl k) ?_
              refine own_callV X30 hx hZ hown e30 (hb hby d7_115) [] [(.int r18)] 1 (rmLN l Z a0 hw [] a ln n f cs fm h0 hl J ST) J.2.2.1 (own_w hw 41 rfl) (own_w hw 42 rfl) (notFace_of_selects (args := #[]) (mvT hZ (own_w hw 44 rfl))) (own_w hw 44 rfl) (own_w hw 43 rfl) (own_w hw 15 rfl) (own_w hw 45 rfl) (by decide) pd___I (by rw [hml]; rfl) rfl rfl (Nat.le_of_eq rfl) (by decide) (by decide) (by decide) (by decide) ?_
              rintro T38 _ L38 X38 ⟨rfl, rfl, e38⟩
              show own_Go p e below _ T38 (mkF m 118 #[.val (.ref a), .val (.int r18), .val (.int r11), .val (.int dv), .val (.int (r12 + (1 : Int32)))] [(.int ln), (.int r18)])
              rw [List.append_nil] at X38
              by_cases hc118_39 : r18 = ln
              · have _ := X38
                refine own_by (T' := T38) (f' := (mkF m 121 #[.val (.ref a), .val (.int r18), .val (.int r11), .val (.int dv), .val (.int (r12 + (1 : Int32)))] [])) (fun t k => XS.icmpNo X38.here hx rfl (hb hby d7_118) rfl (teq hc118_39).2 k) ?_
                refine own_by (T' := T38) (f' := (mkF m 122 #[.val (.ref a), .val (.int r18), .val (.int r11), .val (.int dv), .val (.int (r12 + (1 : Int32)))] [(.int (1 : Int32))])) (fun t k => XS.iconst X38.here hx rfl (hb hby d7_121) k) ?_
                refine own_by (T' := T38) (f' := (mkF m 126 #[.val (.ref a), .val (.int r18), .val (.int r11), .val (.int dv), .val (.int (r12 + (1 : Int32)))] [(.int (1 : Int32))])) (fun t k => XS.goto X38.here hx rfl (pc0 := 122) (pc' := 126) rfl (hb hby d7_122) (by decide) (by decide) k) ?_
                refine own_retZ X38 hx hret hlk (hb hby d7_126) (Or.inr rfl) (by decide) (by decide) ?_
                try rw [e38]
                refine ⟨congrArg (fun z => some (Value.int z)) ?_, rfl, rfl⟩
                rw [own_isDec, ← hd11, ← hd12, own_id2]
                rw [if_pos (And.intro (own_ltn hr12 hl hc23_14) ((hg _ (own_ltn hr12 hl hc23_14)).trans (own_cl2 hc33_16))), ← hd18]
                rw [own_id3, if_neg (own_neqn hK (by decide : (0 : Int32).toInt = ((0 : Nat) : Int)) hc56_19)]
                rw [if_neg (fun q => own_cl3n hc76_23 hc86_31 ((hg _ (own_ltn hr18 hl hc66_21)).symm.trans q.2))]
                rw [if_pos (own_eqn hr18 hl hc118_39)]
              · have _ := X38
                refine own_by (T' := T38) (f' := (mkF m 125 #[.val (.ref a), .val (.int r18), .val (.int r11), .val (.int dv), .val (.int (r12 + (1 : Int32)))] [])) (fun t k => XS.icmpYes X38.here hx rfl (pc0 := 118) (pc' := 125) rfl (hb hby d7_118) rfl (feq hc118_39).2 (by decide) (by decide) k) ?_
                refine own_by (T' := T38) (f' := (mkF m 126 #[.val (.ref a), .val (.int r18), .val (.int r11), .val (.int dv), .val (.int (r12 + (1 : Int32)))] [(.int (0 : Int32))])) (fun t k => XS.iconst X38.here hx rfl (hb hby d7_125) k) ?_
                refine own_retZ X38 hx hret hlk (hb hby d7_126) (Or.inl rfl) (by decide) (by decide) ?_
                try rw [e38]
                refine ⟨congrArg (fun z => some (Value.int z)) ?_, rfl, rfl⟩
                rw [own_isDec, ← hd11, ← hd12, own_id2]
                rw [if_pos (And.intro (own_ltn hr12 hl hc23_14) ((hg _ (own_ltn hr12 hl hc23_14)).trans (own_cl2 hc33_16))), ← hd18]
                rw [own_id3, if_neg (own_neqn hK (by decide : (0 : Int32).toInt = ((0 : Nat) : Int)) hc56_19)]
                rw [if_neg (fun q => own_cl3n hc76_23 hc86_31 ((hg _ (own_ltn hr18 hl hc66_21)).symm.trans q.2))]
                rw [if_neg (own_neqn hr18 hl hc118_39)]
        · have _ := X20
          refine own_by (T' := T20) (f' := (mkF m 113 #[.val (.ref a), .val (.int r18), .val (.int r11), .val (.int dv), .val (.int (r12 + (1 : Int32)))] [])) (fun t k => XS.icmpYes X20.here hx rfl (pc0 := 66) (pc' := 113) rfl (hb hby d7_66) rfl (flt hc66_21).2.1 (by decide) (by decide) k) ?_
          refine own_by (T' := T20) (f' := (mkF m 114 #[.val (.ref a), .val (.int r18), .val (.int r11), .val (.int dv), .val (.int (r12 + (1 : Int32)))] [(.int r18)])) (fun t k => XS.iloadN X20.here hx rfl (hb hby d7_113) rfl k) ?_
          refine own_by (T' := T20) (f' := (mkF m 115 #[.val (.ref a), .val (.int r18), .val (.int r11), .val (.int dv), .val (.int (r12 + (1 : Int32)))] [(.ref a), (.int r18)])) (fun t k => XS.aloadN X20.here hx rfl (hb hby d7_114) rfl rfl k) ?_
          refine own_callV X20 hx hZ hown e20 (hb hby d7_115) [] [(.int r18)] 1 (rmLN l Z a0 hw [] a ln n f cs fm h0 hl J ST) J.2.2.1 (own_w hw 41 rfl) (own_w hw 42 rfl) (notFace_of_selects (args := #[]) (mvT hZ (own_w hw 44 rfl))) (own_w hw 44 rfl) (own_w hw 43 rfl) (own_w hw 15 rfl) (own_w hw 45 rfl) (by decide) pd___I (by rw [hml]; rfl) rfl rfl (Nat.le_of_eq rfl) (by decide) (by decide) (by decide) (by decide) ?_
          rintro T40 _ L40 X40 ⟨rfl, rfl, e40⟩
          show own_Go p e below _ T40 (mkF m 118 #[.val (.ref a), .val (.int r18), .val (.int r11), .val (.int dv), .val (.int (r12 + (1 : Int32)))] [(.int ln), (.int r18)])
          rw [List.append_nil] at X40
          by_cases hc118_41 : r18 = ln
          · have _ := X40
            refine own_by (T' := T40) (f' := (mkF m 121 #[.val (.ref a), .val (.int r18), .val (.int r11), .val (.int dv), .val (.int (r12 + (1 : Int32)))] [])) (fun t k => XS.icmpNo X40.here hx rfl (hb hby d7_118) rfl (teq hc118_41).2 k) ?_
            refine own_by (T' := T40) (f' := (mkF m 122 #[.val (.ref a), .val (.int r18), .val (.int r11), .val (.int dv), .val (.int (r12 + (1 : Int32)))] [(.int (1 : Int32))])) (fun t k => XS.iconst X40.here hx rfl (hb hby d7_121) k) ?_
            refine own_by (T' := T40) (f' := (mkF m 126 #[.val (.ref a), .val (.int r18), .val (.int r11), .val (.int dv), .val (.int (r12 + (1 : Int32)))] [(.int (1 : Int32))])) (fun t k => XS.goto X40.here hx rfl (pc0 := 122) (pc' := 126) rfl (hb hby d7_122) (by decide) (by decide) k) ?_
            refine own_retZ X40 hx hret hlk (hb hby d7_126) (Or.inr rfl) (by decide) (by decide) ?_
            try rw [e40]
            refine ⟨congrArg (fun z => some (Value.int z)) ?_, rfl, rfl⟩
            rw [own_isDec, ← hd11, ← hd12, own_id2]
            rw [if_pos (And.intro (own_ltn hr12 hl hc23_14) ((hg _ (own_ltn hr12 hl hc23_14)).trans (own_cl2 hc33_16))), ← hd18]
            rw [own_id3, if_neg (own_neqn hK (by decide : (0 : Int32).toInt = ((0 : Nat) : Int)) hc56_19)]
            rw [if_neg (fun q => own_nltn hr18 hl hc66_21 q.1)]
            rw [if_pos (own_eqn hr18 hl hc118_41)]
          · have _ := X40
            refine own_by (T' := T40) (f' := (mkF m 125 #[.val (.ref a), .val (.int r18), .val (.int r11), .val (.int dv), .val (.int (r12 + (1 : Int32)))] [])) (fun t k => XS.icmpYes X40.here hx rfl (pc0 := 118) (pc' := 125) rfl (hb hby d7_118) rfl (feq hc118_41).2 (by decide) (by decide) k) ?_
            refine own_by (T' := T40) (f' := (mkF m 126 #[.val (.ref a), .val (.int r18), .val (.int r11), .val (.int dv), .val (.int (r12 + (1 : Int32)))] [(.int (0 : Int32))])) (fun t k => XS.iconst X40.here hx rfl (hb hby d7_125) k) ?_
            refine own_retZ X40 hx hret hlk (hb hby d7_126) (Or.inl rfl) (by decide) (by decide) ?_
            try rw [e40]
            refine ⟨congrArg (fun z => some (Value.int z)) ?_, rfl, rfl⟩
            rw [own_isDec, ← hd11, ← hd12, own_id2]
            rw [if_pos (And.intro (own_ltn hr12 hl hc23_14) ((hg _ (own_ltn hr12 hl hc23_14)).trans (own_cl2 hc33_16))), ← hd18]
            rw [own_id3, if_neg (own_neqn hK (by decide : (0 : Int32).toInt = ((0 : Nat) : Int)) hc56_19)]
            rw [if_neg (fun q => own_nltn hr18 hl hc66_21 q.1)]
            rw [if_neg (own_neqn hr18 hl hc118_41)]
    · have _ := X15
      refine own_by (T' := T15) (f' := (mkF m 55 #[.val (.ref a), .val (.int r12), .val (.int r11), .val (.int (r12 - r11)), .unset] [])) (fun t k => XS.icmpYes X15.here hx rfl (pc0 := 33) (pc' := 55) rfl (hb hby d7_33) rfl (feq hc33_16).2 (by decide) (by decide) k) ?_
      obtain ⟨dv, hdv⟩ : ∃ z : Int32, z = (r12 - r11) := ⟨_, rfl⟩
      rw [← hdv]
      show own_Go p e below _ T15 (mkF m 55 #[.val (.ref a), .val (.int r12), .val (.int r11), .val (.int dv), .unset] [])
      have hK : dv.toInt = (((d12 - d11) : Nat) : Int) := by rw [hdv]; exact own_sub hr12 hr11 lm12.1
      refine own_by (T' := T15) (f' := (mkF m 56 #[.val (.ref a), .val (.int r12), .val (.int r11), .val (.int dv), .unset] [(.int dv)])) (fun t k => XS.iloadN X15.here hx rfl (hb hby d7_55) rfl k) ?_
      by_cases hc56_42 : dv = (0 : Int32)
      · have _ := X15
        refine own_by (T' := T15) (f' := (mkF m 59 #[.val (.ref a), .val (.int r12), .val (.int r11), .val (.int dv), .unset] [])) (fun t k => XS.ifNo X15.here hx rfl (hb hby d7_56) rfl ((if0 _ _).trans (teq hc56_42).2) k) ?_
        refine own_by (T' := T15) (f' := (mkF m 60 #[.val (.ref a), .val (.int r12), .val (.int r11), .val (.int dv), .unset] [(.int (0 : Int32))])) (fun t k => XS.iconst X15.here hx rfl (hb hby d7_59) k) ?_
        refine own_retZ X15 hx hret hlk (hb hby d7_60) (Or.inl rfl) (by decide) (by decide) ?_
        try rw [e15]
        refine ⟨congrArg (fun z => some (Value.int z)) ?_, rfl, rfl⟩
        rw [own_isDec, ← hd11, ← hd12, own_id2]
        rw [if_neg (fun q => own_cl2n hc33_16 ((hg _ (own_ltn hr12 hl hc23_14)).symm.trans q.2))]
        rw [own_id3, if_pos (own_eqn hK (by decide : (0 : Int32).toInt = ((0 : Nat) : Int)) hc56_42)]
      · have _ := X15
        refine own_by (T' := T15) (f' := (mkF m 61 #[.val (.ref a), .val (.int r12), .val (.int r11), .val (.int dv), .unset] [])) (fun t k => XS.ifYes X15.here hx rfl (pc0 := 56) (pc' := 61) rfl (hb hby d7_56) rfl ((if0 _ _).trans (feq hc56_42).2) (by decide) (by decide) k) ?_
        refine own_by (T' := T15) (f' := (mkF m 62 #[.val (.ref a), .val (.int r12), .val (.int r11), .val (.int dv), .unset] [(.int r12)])) (fun t k => XS.iloadN X15.here hx rfl (hb hby d7_61) rfl k) ?_
        refine own_by (T' := T15) (f' := (mkF m 63 #[.val (.ref a), .val (.int r12), .val (.int r11), .val (.int dv), .unset] [(.ref a), (.int r12)])) (fun t k => XS.aloadN X15.here hx rfl (hb hby d7_62) rfl rfl k) ?_
        refine own_callV X15 hx hZ hown e15 (hb hby d7_63) [] [(.int r12)] 1 (rmLN l Z a0 hw [] a ln n f cs fm h0 hl J ST) J.2.2.1 (own_w hw 41 rfl) (own_w hw 42 rfl) (notFace_of_selects (args := #[]) (mvT hZ (own_w hw 44 rfl))) (own_w hw 44 rfl) (own_w hw 43 rfl) (own_w hw 15 rfl) (own_w hw 45 rfl) (by decide) pd___I (by rw [hml]; rfl) rfl rfl (Nat.le_of_eq rfl) (by decide) (by decide) (by decide) (by decide) ?_
        rintro T43 _ L43 X43 ⟨rfl, rfl, e43⟩
        show own_Go p e below _ T43 (mkF m 66 #[.val (.ref a), .val (.int r12), .val (.int r11), .val (.int dv), .unset] [(.int ln), (.int r12)])
        rw [List.append_nil] at X43
        refine own_by (T' := T43) (f' := (mkF m 69 #[.val (.ref a), .val (.int r12), .val (.int r11), .val (.int dv), .unset] [])) (fun t k => XS.icmpNo X43.here hx rfl (hb hby d7_66) rfl (tlt hc23_14).2.1 k) ?_
        refine own_by (T' := T43) (f' := (mkF m 70 #[.val (.ref a), .val (.int r12), .val (.int r11), .val (.int dv), .unset] [(.ref a)])) (fun t k => XS.aloadN X43.here hx rfl (hb hby d7_69) rfl rfl k) ?_
        refine own_by (T' := T43) (f' := (mkF m 71 #[.val (.ref a), .val (.int r12), .val (.int r11), .val (.int dv), .unset] [(.int r12), (.ref a)])) (fun t k => XS.iloadN X43.here hx rfl (hb hby d7_70) rfl k) ?_
        refine own_callV X43 hx hZ hown e43 (hb hby d7_71) [(.int r12)] [] 0 (rmCA l Z a0 hw [] a r12 d12 n f cs fm h0 hr12 (own_ltn hr12 hl hc23_14) J ST) J.2.2.1 (own_w hw 68 rfl) (own_w hw 69 rfl) (notFace_of_selects (args := #[]) (mvT hZ (own_w hw 71 rfl))) (own_w hw 71 rfl) (own_w hw 70 rfl) (own_w hw 15 rfl) (own_w hw 72 rfl) (by decide) pd__I_C (by rw [hml]; rfl) rfl rfl (Nat.le_of_eq rfl) (by decide) (by decide) (by decide) (by decide) ?_
        rintro T44 _ L44 X44 ⟨rfl, rfl, e44⟩
        show own_Go p e below _ T44 (mkF m 74 #[.val (.ref a), .val (.int r12), .val (.int r11), .val (.int dv), .unset] [(.int (f d12))])
        rw [List.append_nil] at X44
        refine own_by (T' := T44) (f' := (mkF m 76 #[.val (.ref a), .val (.int r12), .val (.int r11), .val (.int dv), .unset] [(.int (101 : Int32)), (.int (f d12))])) (fun t k => XS.bipush X44.here hx rfl (hb hby d7_74) k) ?_
        by_cases hc76_45 : (f d12) = (101 : Int32)
        · have _ := X44
          refine own_by (T' := T44) (f' := (mkF m 89 #[.val (.ref a), .val (.int r12), .val (.int r11), .val (.int dv), .unset] [])) (fun t k => XS.icmpYes X44.here hx rfl (pc0 := 76) (pc' := 89) rfl (hb hby d7_76) rfl (teq hc76_45).1 (by decide) (by decide) k) ?_
          refine own_by (T' := T44) (f' := (mkF m 90 #[.val (.ref a), .val (.int r12), .val (.int r11), .val (.int dv), .unset] [(.ref a)])) (fun t k => XS.aloadN X44.here hx rfl (hb hby d7_89) rfl rfl k) ?_
          refine own_by (T' := T44) (f' := (mkF m 91 #[.val (.ref a), .val (.int r12), .val (.int r11), .val (.int dv), .unset] [(.int r12), (.ref a)])) (fun t k => XS.iloadN X44.here hx rfl (hb hby d7_90) rfl k) ?_
          refine own_by (T' := T44) (f' := (mkF m 92 #[.val (.ref a), .val (.int r12), .val (.int r11), .val (.int dv), .unset] [(.int (1 : Int32)), (.int r12), (.ref a)])) (fun t k => XS.iconst X44.here hx rfl (hb hby d7_91) k) ?_
          refine own_by (T' := T44) (f' := (mkF m 93 #[.val (.ref a), .val (.int r12), .val (.int r11), .val (.int dv), .unset] [(.int (r12 + (1 : Int32))), (.ref a)])) (fun t k => XS.iadd X44.here hx rfl (hb hby d7_92) rfl k) ?_
          have lt46 := own_ltn hr12 hl hc23_14
          have hi46 := own_inc hr12 lt46 (by omega)
          have le46 : d12 + 1 ≤ n := lt46
          refine own_callS X44 hx hZ hown e44 (hb hby d7_93) [(.ref a), (.int (r12 + (1 : Int32)))] [] 0 (rmSS l Z a0 hw [] a (r12 + (1 : Int32)) ln (d12 + 1) n f g cs fm h0 hi46 hg hl hn J ST) (own_w hw 38 rfl) (own_w hw 39 rfl) (own_w hw 36 rfl) (own_w hw 40 rfl) (by decide) pd__Ljava_lang_String_I_I (by rw [hml]; rfl) rfl rfl (Nat.le_of_eq rfl) (by decide) (by decide) (by decide) (by decide) ?_
          rintro T47 _ L47 X47 ⟨r47, rfl, hr47, rfl, e47⟩
          rw [List.append_nil] at X47
          show own_Go p e below _ T47 (mkF m 96 #[.val (.ref a), .val (.int r12), .val (.int r11), .val (.int dv), .unset] [(.int r47)])
          have lm47 := own_sg_le g n (d12 + 1) le46
          obtain ⟨d47, hd47⟩ : ∃ d, d = own_sg g n (d12 + 1) := ⟨_, rfl⟩
          rw [← hd47] at hr47 lm47
          have le47 : d47 ≤ n := by omega
          refine own_by (T' := T47) (f' := (mkF m 98 #[.val (.ref a), .val (.int r12), .val (.int r11), .val (.int dv), .val (.int r47)] [])) (fun t k => XS.istore X47.here hx rfl (hb hby d7_96) rfl (l' := #[.val (.ref a), .val (.int r12), .val (.int r11), .val (.int dv), .val (.int r47)]) rfl k) ?_
          refine own_by (T' := T47) (f' := (mkF m 99 #[.val (.ref a), .val (.int r12), .val (.int r11), .val (.int dv), .val (.int r47)] [(.ref a)])) (fun t k => XS.aloadN X47.here hx rfl (hb hby d7_98) rfl rfl k) ?_
          refine own_by (T' := T47) (f' := (mkF m 101 #[.val (.ref a), .val (.int r12), .val (.int r11), .val (.int dv), .val (.int r47)] [(.int r47), (.ref a)])) (fun t k => XS.iload X47.here hx rfl (hb hby d7_99) rfl k) ?_
          refine own_callS X47 hx hZ hown e47 (hb hby d7_101) [(.ref a), (.int r47)] [] 0 (rmSD l Z a0 hw [] a r47 ln d47 n f g cs fm h0 hr47 le47 hg hl hn J ST) (own_w hw 52 rfl) (own_w hw 53 rfl) (own_w hw 36 rfl) (own_w hw 54 rfl) (by decide) pd__Ljava_lang_String_I_I (by rw [hml]; rfl) rfl rfl (Nat.le_of_eq rfl) (by decide) (by decide) (by decide) (by decide) ?_
          rintro T48 _ L48 X48 ⟨r48, rfl, hr48, rfl, e48⟩
          rw [List.append_nil] at X48
          show own_Go p e below _ T48 (mkF m 104 #[.val (.ref a), .val (.int r12), .val (.int r11), .val (.int dv), .val (.int r47)] [(.int r48)])
          have lm48 := own_dg_le g (n - d47) d47
          obtain ⟨d48, hd48⟩ : ∃ d, d = own_dg g (n - d47) d47 := ⟨_, rfl⟩
          rw [← hd48] at hr48 lm48
          have le48 : d48 ≤ n := by omega
          refine own_by (T' := T48) (f' := (mkF m 105 #[.val (.ref a), .val (.int r48), .val (.int r11), .val (.int dv), .val (.int r47)] [])) (fun t k => XS.istoreN X48.here hx rfl (hb hby d7_104) rfl (l' := #[.val (.ref a), .val (.int r48), .val (.int r11), .val (.int dv), .val (.int r47)]) rfl k) ?_
          refine own_by (T' := T48) (f' := (mkF m 106 #[.val (.ref a), .val (.int r48), .val (.int r11), .val (.int dv), .val (.int r47)] [(.int r48)])) (fun t k => XS.iloadN X48.here hx rfl (hb hby d7_105) rfl k) ?_
          refine own_by (T' := T48) (f' := (mkF m 108 #[.val (.ref a), .val (.int r48), .val (.int r11), .val (.int dv), .val (.int r47)] [(.int r47), (.int r48)])) (fun t k => XS.iload X48.here hx rfl (hb hby d7_106) rfl k) ?_
          by_cases hc108_49 : r48 = r47
          · have _ := X48
            refine own_by (T' := T48) (f' := (mkF m 111 #[.val (.ref a), .val (.int r48), .val (.int r11), .val (.int dv), .val (.int r47)] [])) (fun t k => XS.icmpNo X48.here hx rfl (hb hby d7_108) rfl (teq hc108_49).2 k) ?_
            refine own_by (T' := T48) (f' := (mkF m 112 #[.val (.ref a), .val (.int r48), .val (.int r11), .val (.int dv), .val (.int r47)] [(.int (0 : Int32))])) (fun t k => XS.iconst X48.here hx rfl (hb hby d7_111) k) ?_
            refine own_retZ X48 hx hret hlk (hb hby d7_112) (Or.inl rfl) (by decide) (by decide) ?_
            try rw [e48]
            refine ⟨congrArg (fun z => some (Value.int z)) ?_, rfl, rfl⟩
            rw [own_isDec, ← hd11, ← hd12, own_id2]
            rw [if_neg (fun q => own_cl2n hc33_16 ((hg _ (own_ltn hr12 hl hc23_14)).symm.trans q.2))]
            rw [own_id3, if_neg (own_neqn hK (by decide : (0 : Int32).toInt = ((0 : Nat) : Int)) hc56_42)]
            rw [if_pos (And.intro (own_ltn hr12 hl hc23_14) ((hg _ (own_ltn hr12 hl hc23_14)).trans (own_cl3 (Or.inl hc76_45)))), ← hd47, ← hd48, own_id4]
            rw [if_pos (own_eqn hr48 hr47 hc108_49)]
          · have _ := X48
            refine own_by (T' := T48) (f' := (mkF m 113 #[.val (.ref a), .val (.int r48), .val (.int r11), .val (.int dv), .val (.int r47)] [])) (fun t k => XS.icmpYes X48.here hx rfl (pc0 := 108) (pc' := 113) rfl (hb hby d7_108) rfl (feq hc108_49).2 (by decide) (by decide) k) ?_
            refine own_by (T' := T48) (f' := (mkF m 114 #[.val (.ref a), .val (.int r48), .val (.int r11), .val (.int dv), .val (.int r47)] [(.int r48)])) (fun t k => XS.iloadN X48.here hx rfl (hb hby d7_113) rfl k) ?_
            refine own_by (T' := T48) (f' := (mkF m 115 #[.val (.ref a), .val (.int r48), .val (.int r11), .val (.int dv), .val (.int r47)] [(.ref a), (.int r48)])) (fun t k => XS.aloadN X48.here hx rfl (hb hby d7_114) rfl rfl k) ?_
            refine own_callV X48 hx hZ hown e48 (hb hby d7_115) [] [(.int r48)] 1 (rmLN l Z a0 hw [] a ln n f cs fm h0 hl J ST) J.2.2.1 (own_w hw 41 rfl) (own_w hw 42 rfl) (notFace_of_selects (args := #[]) (mvT hZ (own_w hw 44 rfl))) (own_w hw 44 rfl) (own_w hw 43 rfl) (own_w hw 15 rfl) (own_w hw 45 rfl) (by decide) pd___I (by rw [hml]; rfl) rfl rfl (Nat.le_of_eq rfl) (by decide) (by decide) (by decide) (by decide) ?_
            rintro T50 _ L50 X50 ⟨rfl, rfl, e50⟩
            show own_Go p e below _ T50 (mkF m 118 #[.val (.ref a), .val (.int r48), .val (.int r11), .val (.int dv), .val (.int r47)] [(.int ln), (.int r48)])
            rw [List.append_nil] at X50
            by_cases hc118_51 : r48 = ln
            · have _ := X50
              refine own_by (T' := T50) (f' := (mkF m 121 #[.val (.ref a), .val (.int r48), .val (.int r11), .val (.int dv), .val (.int r47)] [])) (fun t k => XS.icmpNo X50.here hx rfl (hb hby d7_118) rfl (teq hc118_51).2 k) ?_
              refine own_by (T' := T50) (f' := (mkF m 122 #[.val (.ref a), .val (.int r48), .val (.int r11), .val (.int dv), .val (.int r47)] [(.int (1 : Int32))])) (fun t k => XS.iconst X50.here hx rfl (hb hby d7_121) k) ?_
              refine own_by (T' := T50) (f' := (mkF m 126 #[.val (.ref a), .val (.int r48), .val (.int r11), .val (.int dv), .val (.int r47)] [(.int (1 : Int32))])) (fun t k => XS.goto X50.here hx rfl (pc0 := 122) (pc' := 126) rfl (hb hby d7_122) (by decide) (by decide) k) ?_
              refine own_retZ X50 hx hret hlk (hb hby d7_126) (Or.inr rfl) (by decide) (by decide) ?_
              try rw [e50]
              refine ⟨congrArg (fun z => some (Value.int z)) ?_, rfl, rfl⟩
              rw [own_isDec, ← hd11, ← hd12, own_id2]
              rw [if_neg (fun q => own_cl2n hc33_16 ((hg _ (own_ltn hr12 hl hc23_14)).symm.trans q.2))]
              rw [own_id3, if_neg (own_neqn hK (by decide : (0 : Int32).toInt = ((0 : Nat) : Int)) hc56_42)]
              rw [if_pos (And.intro (own_ltn hr12 hl hc23_14) ((hg _ (own_ltn hr12 hl hc23_14)).trans (own_cl3 (Or.inl hc76_45)))), ← hd47, ← hd48, own_id4]
              rw [if_neg (own_neqn hr48 hr47 hc108_49)]
              rw [if_pos (own_eqn hr48 hl hc118_51)]
            · have _ := X50
              refine own_by (T' := T50) (f' := (mkF m 125 #[.val (.ref a), .val (.int r48), .val (.int r11), .val (.int dv), .val (.int r47)] [])) (fun t k => XS.icmpYes X50.here hx rfl (pc0 := 118) (pc' := 125) rfl (hb hby d7_118) rfl (feq hc118_51).2 (by decide) (by decide) k) ?_
              refine own_by (T' := T50) (f' := (mkF m 126 #[.val (.ref a), .val (.int r48), .val (.int r11), .val (.int dv), .val (.int r47)] [(.int (0 : Int32))])) (fun t k => XS.iconst X50.here hx rfl (hb hby d7_125) k) ?_
              refine own_retZ X50 hx hret hlk (hb hby d7_126) (Or.inl rfl) (by decide) (by decide) ?_
              try rw [e50]
              refine ⟨congrArg (fun z => some (Value.int z)) ?_, rfl, rfl⟩
              rw [own_isDec, ← hd11, ← hd12, own_id2]
              rw [if_neg (fun q => own_cl2n hc33_16 ((hg _ (own_ltn hr12 hl hc23_14)).symm.trans q.2))]
              rw [own_id3, if_neg (own_neqn hK (by decide : (0 : Int32).toInt = ((0 : Nat) : Int)) hc56_42)]
              rw [if_pos (And.intro (own_ltn hr12 hl hc23_14) ((hg _ (own_ltn hr12 hl hc23_14)).trans (own_cl3 (Or.inl hc76_45)))), ← hd47, ← hd48, own_id4]
              rw [if_neg (own_neqn hr48 hr47 hc108_49)]
              rw [if_neg (own_neqn hr48 hl hc118_51)]
        · have _ := X44
          refine own_by (T' := T44) (f' := (mkF m 79 #[.val (.ref a), .val (.int r12), .val (.int r11), .val (.int dv), .unset] [])) (fun t k => XS.icmpNo X44.here hx rfl (hb hby d7_76) rfl (feq hc76_45).1 k) ?_
          refine own_by (T' := T44) (f' := (mkF m 80 #[.val (.ref a), .val (.int r12), .val (.int r11), .val (.int dv), .unset] [(.ref a)])) (fun t k => XS.aloadN X44.here hx rfl (hb hby d7_79) rfl rfl k) ?_
          refine own_by (T' := T44) (f' := (mkF m 81 #[.val (.ref a), .val (.int r12), .val (.int r11), .val (.int dv), .unset] [(.int r12), (.ref a)])) (fun t k => XS.iloadN X44.here hx rfl (hb hby d7_80) rfl k) ?_
          refine own_callV X44 hx hZ hown e44 (hb hby d7_81) [(.int r12)] [] 0 (rmCA l Z a0 hw [] a r12 d12 n f cs fm h0 hr12 (own_ltn hr12 hl hc23_14) J ST) J.2.2.1 (own_w hw 68 rfl) (own_w hw 69 rfl) (notFace_of_selects (args := #[]) (mvT hZ (own_w hw 71 rfl))) (own_w hw 71 rfl) (own_w hw 70 rfl) (own_w hw 15 rfl) (own_w hw 72 rfl) (by decide) pd__I_C (by rw [hml]; rfl) rfl rfl (Nat.le_of_eq rfl) (by decide) (by decide) (by decide) (by decide) ?_
          rintro T52 _ L52 X52 ⟨rfl, rfl, e52⟩
          show own_Go p e below _ T52 (mkF m 84 #[.val (.ref a), .val (.int r12), .val (.int r11), .val (.int dv), .unset] [(.int (f d12))])
          rw [List.append_nil] at X52
          refine own_by (T' := T52) (f' := (mkF m 86 #[.val (.ref a), .val (.int r12), .val (.int r11), .val (.int dv), .unset] [(.int (69 : Int32)), (.int (f d12))])) (fun t k => XS.bipush X52.here hx rfl (hb hby d7_84) k) ?_
          by_cases hc86_53 : (f d12) = (69 : Int32)
          · have _ := X52
            refine own_by (T' := T52) (f' := (mkF m 89 #[.val (.ref a), .val (.int r12), .val (.int r11), .val (.int dv), .unset] [])) (fun t k => XS.icmpNo X52.here hx rfl (hb hby d7_86) rfl (teq hc86_53).2 k) ?_
            refine own_by (T' := T52) (f' := (mkF m 90 #[.val (.ref a), .val (.int r12), .val (.int r11), .val (.int dv), .unset] [(.ref a)])) (fun t k => XS.aloadN X52.here hx rfl (hb hby d7_89) rfl rfl k) ?_
            refine own_by (T' := T52) (f' := (mkF m 91 #[.val (.ref a), .val (.int r12), .val (.int r11), .val (.int dv), .unset] [(.int r12), (.ref a)])) (fun t k => XS.iloadN X52.here hx rfl (hb hby d7_90) rfl k) ?_
            refine own_by (T' := T52) (f' := (mkF m 92 #[.val (.ref a), .val (.int r12), .val (.int r11), .val (.int dv), .unset] [(.int (1 : Int32)), (.int r12), (.ref a)])) (fun t k => XS.iconst X52.here hx rfl (hb hby d7_91) k) ?_
            refine own_by (T' := T52) (f' := (mkF m 93 #[.val (.ref a), .val (.int r12), .val (.int r11), .val (.int dv), .unset] [(.int (r12 + (1 : Int32))), (.ref a)])) (fun t k => XS.iadd X52.here hx rfl (hb hby d7_92) rfl k) ?_
            have lt54 := own_ltn hr12 hl hc23_14
            have hi54 := own_inc hr12 lt54 (by omega)
            have le54 : d12 + 1 ≤ n := lt54
            refine own_callS X52 hx hZ hown e52 (hb hby d7_93) [(.ref a), (.int (r12 + (1 : Int32)))] [] 0 (rmSS l Z a0 hw [] a (r12 + (1 : Int32)) ln (d12 + 1) n f g cs fm h0 hi54 hg hl hn J ST) (own_w hw 38 rfl) (own_w hw 39 rfl) (own_w hw 36 rfl) (own_w hw 40 rfl) (by decide) pd__Ljava_lang_String_I_I (by rw [hml]; rfl) rfl rfl (Nat.le_of_eq rfl) (by decide) (by decide) (by decide) (by decide) ?_
            rintro T55 _ L55 X55 ⟨r55, rfl, hr55, rfl, e55⟩
            rw [List.append_nil] at X55
            show own_Go p e below _ T55 (mkF m 96 #[.val (.ref a), .val (.int r12), .val (.int r11), .val (.int dv), .unset] [(.int r55)])
            have lm55 := own_sg_le g n (d12 + 1) le54
            obtain ⟨d55, hd55⟩ : ∃ d, d = own_sg g n (d12 + 1) := ⟨_, rfl⟩
            rw [← hd55] at hr55 lm55
            have le55 : d55 ≤ n := by omega
            refine own_by (T' := T55) (f' := (mkF m 98 #[.val (.ref a), .val (.int r12), .val (.int r11), .val (.int dv), .val (.int r55)] [])) (fun t k => XS.istore X55.here hx rfl (hb hby d7_96) rfl (l' := #[.val (.ref a), .val (.int r12), .val (.int r11), .val (.int dv), .val (.int r55)]) rfl k) ?_
            refine own_by (T' := T55) (f' := (mkF m 99 #[.val (.ref a), .val (.int r12), .val (.int r11), .val (.int dv), .val (.int r55)] [(.ref a)])) (fun t k => XS.aloadN X55.here hx rfl (hb hby d7_98) rfl rfl k) ?_
            refine own_by (T' := T55) (f' := (mkF m 101 #[.val (.ref a), .val (.int r12), .val (.int r11), .val (.int dv), .val (.int r55)] [(.int r55), (.ref a)])) (fun t k => XS.iload X55.here hx rfl (hb hby d7_99) rfl k) ?_
            refine own_callS X55 hx hZ hown e55 (hb hby d7_101) [(.ref a), (.int r55)] [] 0 (rmSD l Z a0 hw [] a r55 ln d55 n f g cs fm h0 hr55 le55 hg hl hn J ST) (own_w hw 52 rfl) (own_w hw 53 rfl) (own_w hw 36 rfl) (own_w hw 54 rfl) (by decide) pd__Ljava_lang_String_I_I (by rw [hml]; rfl) rfl rfl (Nat.le_of_eq rfl) (by decide) (by decide) (by decide) (by decide) ?_
            rintro T56 _ L56 X56 ⟨r56, rfl, hr56, rfl, e56⟩
            rw [List.append_nil] at X56
            show own_Go p e below _ T56 (mkF m 104 #[.val (.ref a), .val (.int r12), .val (.int r11), .val (.int dv), .val (.int r55)] [(.int r56)])
            have lm56 := own_dg_le g (n - d55) d55
            obtain ⟨d56, hd56⟩ : ∃ d, d = own_dg g (n - d55) d55 := ⟨_, rfl⟩
            rw [← hd56] at hr56 lm56
            have le56 : d56 ≤ n := by omega
            refine own_by (T' := T56) (f' := (mkF m 105 #[.val (.ref a), .val (.int r56), .val (.int r11), .val (.int dv), .val (.int r55)] [])) (fun t k => XS.istoreN X56.here hx rfl (hb hby d7_104) rfl (l' := #[.val (.ref a), .val (.int r56), .val (.int r11), .val (.int dv), .val (.int r55)]) rfl k) ?_
            refine own_by (T' := T56) (f' := (mkF m 106 #[.val (.ref a), .val (.int r56), .val (.int r11), .val (.int dv), .val (.int r55)] [(.int r56)])) (fun t k => XS.iloadN X56.here hx rfl (hb hby d7_105) rfl k) ?_
            refine own_by (T' := T56) (f' := (mkF m 108 #[.val (.ref a), .val (.int r56), .val (.int r11), .val (.int dv), .val (.int r55)] [(.int r55), (.int r56)])) (fun t k => XS.iload X56.here hx rfl (hb hby d7_106) rfl k) ?_
            by_cases hc108_57 : r56 = r55
            · have _ := X56
              refine own_by (T' := T56) (f' := (mkF m 111 #[.val (.ref a), .val (.int r56), .val (.int r11), .val (.int dv), .val (.int r55)] [])) (fun t k => XS.icmpNo X56.here hx rfl (hb hby d7_108) rfl (teq hc108_57).2 k) ?_
              refine own_by (T' := T56) (f' := (mkF m 112 #[.val (.ref a), .val (.int r56), .val (.int r11), .val (.int dv), .val (.int r55)] [(.int (0 : Int32))])) (fun t k => XS.iconst X56.here hx rfl (hb hby d7_111) k) ?_
              refine own_retZ X56 hx hret hlk (hb hby d7_112) (Or.inl rfl) (by decide) (by decide) ?_
              try rw [e56]
              refine ⟨congrArg (fun z => some (Value.int z)) ?_, rfl, rfl⟩
              rw [own_isDec, ← hd11, ← hd12, own_id2]
              rw [if_neg (fun q => own_cl2n hc33_16 ((hg _ (own_ltn hr12 hl hc23_14)).symm.trans q.2))]
              rw [own_id3, if_neg (own_neqn hK (by decide : (0 : Int32).toInt = ((0 : Nat) : Int)) hc56_42)]
              rw [if_pos (And.intro (own_ltn hr12 hl hc23_14) ((hg _ (own_ltn hr12 hl hc23_14)).trans (own_cl3 (Or.inr hc86_53)))), ← hd55, ← hd56, own_id4]
              rw [if_pos (own_eqn hr56 hr55 hc108_57)]
            · have _ := X56
              refine own_by (T' := T56) (f' := (mkF m 113 #[.val (.ref a), .val (.int r56), .val (.int r11), .val (.int dv), .val (.int r55)] [])) (fun t k => XS.icmpYes X56.here hx rfl (pc0 := 108) (pc' := 113) rfl (hb hby d7_108) rfl (feq hc108_57).2 (by decide) (by decide) k) ?_
              refine own_by (T' := T56) (f' := (mkF m 114 #[.val (.ref a), .val (.int r56), .val (.int r11), .val (.int dv), .val (.int r55)] [(.int r56)])) (fun t k => XS.iloadN X56.here hx rfl (hb hby d7_113) rfl k) ?_
              refine own_by (T' := T56) (f' := (mkF m 115 #[.val (.ref a), .val (.int r56), .val (.int r11), .val (.int dv), .val (.int r55)] [(.ref a), (.int r56)])) (fun t k => XS.aloadN X56.here hx rfl (hb hby d7_114) rfl rfl k) ?_
              refine own_callV X56 hx hZ hown e56 (hb hby d7_115) [] [(.int r56)] 1 (rmLN l Z a0 hw [] a ln n f cs fm h0 hl J ST) J.2.2.1 (own_w hw 41 rfl) (own_w hw 42 rfl) (notFace_of_selects (args := #[]) (mvT hZ (own_w hw 44 rfl))) (own_w hw 44 rfl) (own_w hw 43 rfl) (own_w hw 15 rfl) (own_w hw 45 rfl) (by decide) pd___I (by rw [hml]; rfl) rfl rfl (Nat.le_of_eq rfl) (by decide) (by decide) (by decide) (by decide) ?_
              rintro T58 _ L58 X58 ⟨rfl, rfl, e58⟩
              show own_Go p e below _ T58 (mkF m 118 #[.val (.ref a), .val (.int r56), .val (.int r11), .val (.int dv), .val (.int r55)] [(.int ln), (.int r56)])
              rw [List.append_nil] at X58
              by_cases hc118_59 : r56 = ln
              · have _ := X58
                refine own_by (T' := T58) (f' := (mkF m 121 #[.val (.ref a), .val (.int r56), .val (.int r11), .val (.int dv), .val (.int r55)] [])) (fun t k => XS.icmpNo X58.here hx rfl (hb hby d7_118) rfl (teq hc118_59).2 k) ?_
                refine own_by (T' := T58) (f' := (mkF m 122 #[.val (.ref a), .val (.int r56), .val (.int r11), .val (.int dv), .val (.int r55)] [(.int (1 : Int32))])) (fun t k => XS.iconst X58.here hx rfl (hb hby d7_121) k) ?_
                refine own_by (T' := T58) (f' := (mkF m 126 #[.val (.ref a), .val (.int r56), .val (.int r11), .val (.int dv), .val (.int r55)] [(.int (1 : Int32))])) (fun t k => XS.goto X58.here hx rfl (pc0 := 122) (pc' := 126) rfl (hb hby d7_122) (by decide) (by decide) k) ?_
                refine own_retZ X58 hx hret hlk (hb hby d7_126) (Or.inr rfl) (by decide) (by decide) ?_
                try rw [e58]
                refine ⟨congrArg (fun z => some (Value.int z)) ?_, rfl, rfl⟩
                rw [own_isDec, ← hd11, ← hd12, own_id2]
                rw [if_neg (fun q => own_cl2n hc33_16 ((hg _ (own_ltn hr12 hl hc23_14)).symm.trans q.2))]
                rw [own_id3, if_neg (own_neqn hK (by decide : (0 : Int32).toInt = ((0 : Nat) : Int)) hc56_42)]
                rw [if_pos (And.intro (own_ltn hr12 hl hc23_14) ((hg _ (own_ltn hr12 hl hc23_14)).trans (own_cl3 (Or.inr hc86_53)))), ← hd55, ← hd56, own_id4]
                rw [if_neg (own_neqn hr56 hr55 hc108_57)]
                rw [if_pos (own_eqn hr56 hl hc118_59)]
              · have _ := X58
                refine own_by (T' := T58) (f' := (mkF m 125 #[.val (.ref a), .val (.int r56), .val (.int r11), .val (.int dv), .val (.int r55)] [])) (fun t k => XS.icmpYes X58.here hx rfl (pc0 := 118) (pc' := 125) rfl (hb hby d7_118) rfl (feq hc118_59).2 (by decide) (by decide) k) ?_
                refine own_by (T' := T58) (f' := (mkF m 126 #[.val (.ref a), .val (.int r56), .val (.int r11), .val (.int dv), .val (.int r55)] [(.int (0 : Int32))])) (fun t k => XS.iconst X58.here hx rfl (hb hby d7_125) k) ?_
                refine own_retZ X58 hx hret hlk (hb hby d7_126) (Or.inl rfl) (by decide) (by decide) ?_
                try rw [e58]
                refine ⟨congrArg (fun z => some (Value.int z)) ?_, rfl, rfl⟩
                rw [own_isDec, ← hd11, ← hd12, own_id2]
                rw [if_neg (fun q => own_cl2n hc33_16 ((hg _ (own_ltn hr12 hl hc23_14)).symm.trans q.2))]
                rw [own_id3, if_neg (own_neqn hK (by decide : (0 : Int32).toInt = ((0 : Nat) : Int)) hc56_42)]
                rw [if_pos (And.intro (own_ltn hr12 hl hc23_14) ((hg _ (own_ltn hr12 hl hc23_14)).trans (own_cl3 (Or.inr hc86_53)))), ← hd55, ← hd56, own_id4]
                rw [if_neg (own_neqn hr56 hr55 hc108_57)]
                rw [if_neg (own_neqn hr56 hl hc118_59)]
          · have _ := X52
            refine own_by (T' := T52) (f' := (mkF m 113 #[.val (.ref a), .val (.int r12), .val (.int r11), .val (.int dv), .unset] [])) (fun t k => XS.icmpYes X52.here hx rfl (pc0 := 86) (pc' := 113) rfl (hb hby d7_86) rfl (feq hc86_53).2 (by decide) (by decide) k) ?_
            refine own_by (T' := T52) (f' := (mkF m 114 #[.val (.ref a), .val (.int r12), .val (.int r11), .val (.int dv), .unset] [(.int r12)])) (fun t k => XS.iloadN X52.here hx rfl (hb hby d7_113) rfl k) ?_
            refine own_by (T' := T52) (f' := (mkF m 115 #[.val (.ref a), .val (.int r12), .val (.int r11), .val (.int dv), .unset] [(.ref a), (.int r12)])) (fun t k => XS.aloadN X52.here hx rfl (hb hby d7_114) rfl rfl k) ?_
            refine own_callV X52 hx hZ hown e52 (hb hby d7_115) [] [(.int r12)] 1 (rmLN l Z a0 hw [] a ln n f cs fm h0 hl J ST) J.2.2.1 (own_w hw 41 rfl) (own_w hw 42 rfl) (notFace_of_selects (args := #[]) (mvT hZ (own_w hw 44 rfl))) (own_w hw 44 rfl) (own_w hw 43 rfl) (own_w hw 15 rfl) (own_w hw 45 rfl) (by decide) pd___I (by rw [hml]; rfl) rfl rfl (Nat.le_of_eq rfl) (by decide) (by decide) (by decide) (by decide) ?_
            rintro T60 _ L60 X60 ⟨rfl, rfl, e60⟩
            show own_Go p e below _ T60 (mkF m 118 #[.val (.ref a), .val (.int r12), .val (.int r11), .val (.int dv), .unset] [(.int ln), (.int r12)])
            rw [List.append_nil] at X60
            by_cases hc118_61 : r12 = ln
            · have _ := X60
              refine own_by (T' := T60) (f' := (mkF m 121 #[.val (.ref a), .val (.int r12), .val (.int r11), .val (.int dv), .unset] [])) (fun t k => XS.icmpNo X60.here hx rfl (hb hby d7_118) rfl (teq hc118_61).2 k) ?_
              refine own_by (T' := T60) (f' := (mkF m 122 #[.val (.ref a), .val (.int r12), .val (.int r11), .val (.int dv), .unset] [(.int (1 : Int32))])) (fun t k => XS.iconst X60.here hx rfl (hb hby d7_121) k) ?_
              refine own_by (T' := T60) (f' := (mkF m 126 #[.val (.ref a), .val (.int r12), .val (.int r11), .val (.int dv), .unset] [(.int (1 : Int32))])) (fun t k => XS.goto X60.here hx rfl (pc0 := 122) (pc' := 126) rfl (hb hby d7_122) (by decide) (by decide) k) ?_
              refine own_retZ X60 hx hret hlk (hb hby d7_126) (Or.inr rfl) (by decide) (by decide) ?_
              try rw [e60]
              refine ⟨congrArg (fun z => some (Value.int z)) ?_, rfl, rfl⟩
              rw [own_isDec, ← hd11, ← hd12, own_id2]
              rw [if_neg (fun q => own_cl2n hc33_16 ((hg _ (own_ltn hr12 hl hc23_14)).symm.trans q.2))]
              rw [own_id3, if_neg (own_neqn hK (by decide : (0 : Int32).toInt = ((0 : Nat) : Int)) hc56_42)]
              rw [if_neg (fun q => own_cl3n hc76_45 hc86_53 ((hg _ (own_ltn hr12 hl hc23_14)).symm.trans q.2))]
              rw [if_pos (own_eqn hr12 hl hc118_61)]
            · have _ := X60
              refine own_by (T' := T60) (f' := (mkF m 125 #[.val (.ref a), .val (.int r12), .val (.int r11), .val (.int dv), .unset] [])) (fun t k => XS.icmpYes X60.here hx rfl (pc0 := 118) (pc' := 125) rfl (hb hby d7_118) rfl (feq hc118_61).2 (by decide) (by decide) k) ?_
              refine own_by (T' := T60) (f' := (mkF m 126 #[.val (.ref a), .val (.int r12), .val (.int r11), .val (.int dv), .unset] [(.int (0 : Int32))])) (fun t k => XS.iconst X60.here hx rfl (hb hby d7_125) k) ?_
              refine own_retZ X60 hx hret hlk (hb hby d7_126) (Or.inl rfl) (by decide) (by decide) ?_
              try rw [e60]
              refine ⟨congrArg (fun z => some (Value.int z)) ?_, rfl, rfl⟩
              rw [own_isDec, ← hd11, ← hd12, own_id2]
              rw [if_neg (fun q => own_cl2n hc33_16 ((hg _ (own_ltn hr12 hl hc23_14)).symm.trans q.2))]
              rw [own_id3, if_neg (own_neqn hK (by decide : (0 : Int32).toInt = ((0 : Nat) : Int)) hc56_42)]
              rw [if_neg (fun q => own_cl3n hc76_45 hc86_53 ((hg _ (own_ltn hr12 hl hc23_14)).symm.trans q.2))]
              rw [if_neg (own_neqn hr12 hl hc118_61)]
  · have _ := X13
    refine own_by (T' := T13) (f' := (mkF m 55 #[.val (.ref a), .val (.int r12), .val (.int r11), .val (.int (r12 - r11)), .unset] [])) (fun t k => XS.icmpYes X13.here hx rfl (pc0 := 23) (pc' := 55) rfl (hb hby d7_23) rfl (flt hc23_14).2.1 (by decide) (by decide) k) ?_
    obtain ⟨dv, hdv⟩ : ∃ z : Int32, z = (r12 - r11) := ⟨_, rfl⟩
    rw [← hdv]
    show own_Go p e below _ T13 (mkF m 55 #[.val (.ref a), .val (.int r12), .val (.int r11), .val (.int dv), .unset] [])
    have hK : dv.toInt = (((d12 - d11) : Nat) : Int) := by rw [hdv]; exact own_sub hr12 hr11 lm12.1
    refine own_by (T' := T13) (f' := (mkF m 56 #[.val (.ref a), .val (.int r12), .val (.int r11), .val (.int dv), .unset] [(.int dv)])) (fun t k => XS.iloadN X13.here hx rfl (hb hby d7_55) rfl k) ?_
    by_cases hc56_62 : dv = (0 : Int32)
    · have _ := X13
      refine own_by (T' := T13) (f' := (mkF m 59 #[.val (.ref a), .val (.int r12), .val (.int r11), .val (.int dv), .unset] [])) (fun t k => XS.ifNo X13.here hx rfl (hb hby d7_56) rfl ((if0 _ _).trans (teq hc56_62).2) k) ?_
      refine own_by (T' := T13) (f' := (mkF m 60 #[.val (.ref a), .val (.int r12), .val (.int r11), .val (.int dv), .unset] [(.int (0 : Int32))])) (fun t k => XS.iconst X13.here hx rfl (hb hby d7_59) k) ?_
      refine own_retZ X13 hx hret hlk (hb hby d7_60) (Or.inl rfl) (by decide) (by decide) ?_
      try rw [e13]
      refine ⟨congrArg (fun z => some (Value.int z)) ?_, rfl, rfl⟩
      rw [own_isDec, ← hd11, ← hd12, own_id2]
      rw [if_neg (fun q => own_nltn hr12 hl hc23_14 q.1)]
      rw [own_id3, if_pos (own_eqn hK (by decide : (0 : Int32).toInt = ((0 : Nat) : Int)) hc56_62)]
    · have _ := X13
      refine own_by (T' := T13) (f' := (mkF m 61 #[.val (.ref a), .val (.int r12), .val (.int r11), .val (.int dv), .unset] [])) (fun t k => XS.ifYes X13.here hx rfl (pc0 := 56) (pc' := 61) rfl (hb hby d7_56) rfl ((if0 _ _).trans (feq hc56_62).2) (by decide) (by decide) k) ?_
      refine own_by (T' := T13) (f' := (mkF m 62 #[.val (.ref a), .val (.int r12), .val (.int r11), .val (.int dv), .unset] [(.int r12)])) (fun t k => XS.iloadN X13.here hx rfl (hb hby d7_61) rfl k) ?_
      refine own_by (T' := T13) (f' := (mkF m 63 #[.val (.ref a), .val (.int r12), .val (.int r11), .val (.int dv), .unset] [(.ref a), (.int r12)])) (fun t k => XS.aloadN X13.here hx rfl (hb hby d7_62) rfl rfl k) ?_
      refine own_callV X13 hx hZ hown e13 (hb hby d7_63) [] [(.int r12)] 1 (rmLN l Z a0 hw [] a ln n f cs fm h0 hl J ST) J.2.2.1 (own_w hw 41 rfl) (own_w hw 42 rfl) (notFace_of_selects (args := #[]) (mvT hZ (own_w hw 44 rfl))) (own_w hw 44 rfl) (own_w hw 43 rfl) (own_w hw 15 rfl) (own_w hw 45 rfl) (by decide) pd___I (by rw [hml]; rfl) rfl rfl (Nat.le_of_eq rfl) (by decide) (by decide) (by decide) (by decide) ?_
      rintro T63 _ L63 X63 ⟨rfl, rfl, e63⟩
      show own_Go p e below _ T63 (mkF m 66 #[.val (.ref a), .val (.int r12), .val (.int r11), .val (.int dv), .unset] [(.int ln), (.int r12)])
      rw [List.append_nil] at X63
      refine own_by (T' := T63) (f' := (mkF m 113 #[.val (.ref a), .val (.int r12), .val (.int r11), .val (.int dv), .unset] [])) (fun t k => XS.icmpYes X63.here hx rfl (pc0 := 66) (pc' := 113) rfl (hb hby d7_66) rfl (flt hc23_14).2.1 (by decide) (by decide) k) ?_
      refine own_by (T' := T63) (f' := (mkF m 114 #[.val (.ref a), .val (.int r12), .val (.int r11), .val (.int dv), .unset] [(.int r12)])) (fun t k => XS.iloadN X63.here hx rfl (hb hby d7_113) rfl k) ?_
      refine own_by (T' := T63) (f' := (mkF m 115 #[.val (.ref a), .val (.int r12), .val (.int r11), .val (.int dv), .unset] [(.ref a), (.int r12)])) (fun t k => XS.aloadN X63.here hx rfl (hb hby d7_114) rfl rfl k) ?_
      refine own_callV X63 hx hZ hown e63 (hb hby d7_115) [] [(.int r12)] 1 (rmLN l Z a0 hw [] a ln n f cs fm h0 hl J ST) J.2.2.1 (own_w hw 41 rfl) (own_w hw 42 rfl) (notFace_of_selects (args := #[]) (mvT hZ (own_w hw 44 rfl))) (own_w hw 44 rfl) (own_w hw 43 rfl) (own_w hw 15 rfl) (own_w hw 45 rfl) (by decide) pd___I (by rw [hml]; rfl) rfl rfl (Nat.le_of_eq rfl) (by decide) (by decide) (by decide) (by decide) ?_
      rintro T64 _ L64 X64 ⟨rfl, rfl, e64⟩
      show own_Go p e below _ T64 (mkF m 118 #[.val (.ref a), .val (.int r12), .val (.int r11), .val (.int dv), .unset] [(.int ln), (.int r12)])
      rw [List.append_nil] at X64
      by_cases hc118_65 : r12 = ln
      · have _ := X64
        refine own_by (T' := T64) (f' := (mkF m 121 #[.val (.ref a), .val (.int r12), .val (.int r11), .val (.int dv), .unset] [])) (fun t k => XS.icmpNo X64.here hx rfl (hb hby d7_118) rfl (teq hc118_65).2 k) ?_
        refine own_by (T' := T64) (f' := (mkF m 122 #[.val (.ref a), .val (.int r12), .val (.int r11), .val (.int dv), .unset] [(.int (1 : Int32))])) (fun t k => XS.iconst X64.here hx rfl (hb hby d7_121) k) ?_
        refine own_by (T' := T64) (f' := (mkF m 126 #[.val (.ref a), .val (.int r12), .val (.int r11), .val (.int dv), .unset] [(.int (1 : Int32))])) (fun t k => XS.goto X64.here hx rfl (pc0 := 122) (pc' := 126) rfl (hb hby d7_122) (by decide) (by decide) k) ?_
        refine own_retZ X64 hx hret hlk (hb hby d7_126) (Or.inr rfl) (by decide) (by decide) ?_
        try rw [e64]
        refine ⟨congrArg (fun z => some (Value.int z)) ?_, rfl, rfl⟩
        rw [own_isDec, ← hd11, ← hd12, own_id2]
        rw [if_neg (fun q => own_nltn hr12 hl hc23_14 q.1)]
        rw [own_id3, if_neg (own_neqn hK (by decide : (0 : Int32).toInt = ((0 : Nat) : Int)) hc56_62)]
        rw [if_neg (fun q => own_nltn hr12 hl hc23_14 q.1)]
        rw [if_pos (own_eqn hr12 hl hc118_65)]
      · have _ := X64
        refine own_by (T' := T64) (f' := (mkF m 125 #[.val (.ref a), .val (.int r12), .val (.int r11), .val (.int dv), .unset] [])) (fun t k => XS.icmpYes X64.here hx rfl (pc0 := 118) (pc' := 125) rfl (hb hby d7_118) rfl (feq hc118_65).2 (by decide) (by decide) k) ?_
        refine own_by (T' := T64) (f' := (mkF m 126 #[.val (.ref a), .val (.int r12), .val (.int r11), .val (.int dv), .unset] [(.int (0 : Int32))])) (fun t k => XS.iconst X64.here hx rfl (hb hby d7_125) k) ?_
        refine own_retZ X64 hx hret hlk (hb hby d7_126) (Or.inl rfl) (by decide) (by decide) ?_
        try rw [e64]
        refine ⟨congrArg (fun z => some (Value.int z)) ?_, rfl, rfl⟩
        rw [own_isDec, ← hd11, ← hd12, own_id2]
        rw [if_neg (fun q => own_nltn hr12 hl hc23_14 q.1)]
        rw [own_id3, if_neg (own_neqn hK (by decide : (0 : Int32).toInt = ((0 : Nat) : Int)) hc56_62)]
        rw [if_neg (fun q => own_nltn hr12 hl hc23_14 q.1)]
        rw [if_neg (own_neqn hr12 hl hc118_65)]
theorem ef_rm0 (m : MethodId) (x0 : Int32) (x1 : Int32) (x2 : Int32) (x3 : Int32) (x4 : Int32) (x5 : Int32) : entryFrame m #[(.int x0), (.int x1), (.int x2), (.int x3), (.int x4), (.int x5)] maxLocals = mkF m 0 #[.val (.int x0), .val (.int x1), .val (.int x2), .val (.int x3), .val (.int x4), .val (.int x5), .unset, .unset, .unset, .unset, .unset, .unset, .unset, .unset, .unset, .unset, .unset] [] := by first | (simp [entryFrame, mkF, argsToLocals, Value.category, maxLocals]; done) | rfl
set_option maxRecDepth 65536 in
set_option maxHeartbeats 40000000 in
theorem rm0 (l : Launch) (Z : State) (a0 : Array Value) (hw : ∀ d ∈ tables_1, d.before a0 Z = true) (ws : List Jvm.Cond) (i0 i1 i2 i3 i4 i5 : Int32) (cs : Int32) (fm : Value) (h0 : Heap) (n0 : Nat) (Z0 : n0 ≤ h0.size) (ST : own_St Z h0 cs fm) :
    own_CtW l Z consts_1 x code maxLocals ret ws room_1 #[(.int i0), (.int i1), (.int i2), (.int i3), (.int i4), (.int i5)] h0 (fun v h L => v = some (.int 1) ∧ Fr n0 L) := by
  have hEL := own_EW hw
  refine own_ofW (plainFor_of_name pn_com_example_kissena_kissena_ColumnsIsDecimalPinLaw) ?_
  intro p e s m below meth c s₁ hx hby hml hown hnm hret hlk hZ X0 e0 hs0 hS hk CH
  have N0 := Fr.nil n0
  rw [ef_rm0]
  refine own_by (T' := s₁) (f' := (mkF m 1 #[.val (.int i0), .val (.int i1), .val (.int i2), .val (.int i3), .val (.int i4), .val (.int i5), .unset, .unset, .unset, .unset, .unset, .unset, .unset, .unset, .unset, .unset, .unset] [(.int i0)])) (fun t k => XS.iloadN X0.here hx rfl (hb hby at_0) rfl k) ?_
  refine own_by (T' := s₁) (f' := (mkF m 3 #[.val (.int i0), .val (.int i1), .val (.int i2), .val (.int i3), .val (.int i4), .val (.int i5), .unset, .unset, .unset, .unset, .unset, .unset, .unset, .unset, .unset, .unset, .unset] [(.int (7 : Int32)), (.int i0)])) (fun t k => XS.bipush X0.here hx rfl (hb hby at_1) k) ?_
  refine own_by (T' := s₁) (f' := (mkF m 4 #[.val (.int i0), .val (.int i1), .val (.int i2), .val (.int i3), .val (.int i4), .val (.int i5), .unset, .unset, .unset, .unset, .unset, .unset, .unset, .unset, .unset, .unset, .unset] [(.int (i0 &&& (7 : Int32)))])) (fun t k => XS.iand X0.here hx rfl (hb hby at_3) rfl k) ?_
  refine own_by (T' := s₁) (f' := (mkF m 6 #[.val (.int i0), .val (.int i1), .val (.int i2), .val (.int i3), .val (.int i4), .val (.int i5), .unset, .unset, .unset, .unset, .unset, .unset, .unset, .unset, .unset, .unset, .unset] [(.int (6 : Int32)), (.int (i0 &&& (7 : Int32)))])) (fun t k => XS.bipush X0.here hx rfl (hb hby at_4) k) ?_
  refine own_callS X0 hx hZ hown e0 (hb hby at_6) [(.int (i0 &&& (7 : Int32))), (.int (6 : Int32))] [] 0 (rmMN l Z a0 hw [] (i0 &&& (7 : Int32)) (6 : Int32) h0) (own_w hw 0 rfl) (own_w hw 1 rfl) (own_w hw 2 rfl) (own_w hw 3 rfl) (by decide) pd__II_I (by rw [hml]; rfl) rfl rfl (Nat.le_of_eq rfl) (by decide) (by decide) (by decide) (by decide) ?_
  rintro T11 _ L11 X11 ⟨rfl, rfl, e11⟩
  show own_Go p e below _ T11 (mkF m 9 #[.val (.int i0), .val (.int i1), .val (.int i2), .val (.int i3), .val (.int i4), .val (.int i5), .unset, .unset, .unset, .unset, .unset, .unset, .unset, .unset, .unset, .unset, .unset] [(.int (if (6 : Int32) < (i0 &&& (7 : Int32)) then (6 : Int32) else (i0 &&& (7 : Int32))))])
  rw [List.append_nil] at X11
  rcases own_len i0 with hl | hl | hl | hl | hl | hl | hl
  · rw [hl]
    show own_Go p e below _ T11 (mkF m 9 #[.val (.int i0), .val (.int i1), .val (.int i2), .val (.int i3), .val (.int i4), .val (.int i5), .unset, .unset, .unset, .unset, .unset, .unset, .unset, .unset, .unset, .unset, .unset] [(.int (0 : Int32))])
    refine own_by (T' := T11) (f' := (mkF m 11 #[.val (.int i0), .val (.int i1), .val (.int i2), .val (.int i3), .val (.int i4), .val (.int i5), .val (.int (0 : Int32)), .unset, .unset, .unset, .unset, .unset, .unset, .unset, .unset, .unset, .unset] [])) (fun t k => XS.istore X11.here hx rfl (hb hby at_9) rfl (l' := #[.val (.int i0), .val (.int i1), .val (.int i2), .val (.int i3), .val (.int i4), .val (.int i5), .val (.int (0 : Int32)), .unset, .unset, .unset, .unset, .unset, .unset, .unset, .unset, .unset, .unset]) rfl k) ?_
    refine own_by (T' := T11) (f' := (mkF m 12 #[.val (.int i0), .val (.int i1), .val (.int i2), .val (.int i3), .val (.int i4), .val (.int i5), .val (.int (0 : Int32)), .unset, .unset, .unset, .unset, .unset, .unset, .unset, .unset, .unset, .unset] [(.int i1)])) (fun t k => XS.iloadN X11.here hx rfl (hb hby at_11) rfl k) ?_
    refine own_callS X11 hx hZ hown e11 (hb hby at_12) [(.int i1)] [] 0 (rmCH l Z a0 hw [] i1 h0) (own_w hw 4 rfl) (own_w hw 5 rfl) (own_w hw 6 rfl) (own_w hw 7 rfl) (by decide) pd__I_C (by rw [hml]; rfl) rfl rfl (Nat.le_of_eq rfl) (by decide) (by decide) (by decide) (by decide) ?_
    rintro T12 _ L12 X12 ⟨c0, rfl, hc0, rfl, e12⟩
    rw [List.append_nil] at X12
    show own_Go p e below _ T12 (mkF m 15 #[.val (.int i0), .val (.int i1), .val (.int i2), .val (.int i3), .val (.int i4), .val (.int i5), .val (.int (0 : Int32)), .unset, .unset, .unset, .unset, .unset, .unset, .unset, .unset, .unset, .unset] [(.int c0)])
    refine own_by (T' := T12) (f' := (mkF m 17 #[.val (.int i0), .val (.int i1), .val (.int i2), .val (.int i3), .val (.int i4), .val (.int i5), .val (.int (0 : Int32)), .val (.int c0), .unset, .unset, .unset, .unset, .unset, .unset, .unset, .unset, .unset] [])) (fun t k => XS.istore X12.here hx rfl (hb hby at_15) rfl (l' := #[.val (.int i0), .val (.int i1), .val (.int i2), .val (.int i3), .val (.int i4), .val (.int i5), .val (.int (0 : Int32)), .val (.int c0), .unset, .unset, .unset, .unset, .unset, .unset, .unset, .unset, .unset]) rfl k) ?_
    refine own_by (T' := T12) (f' := (mkF m 18 #[.val (.int i0), .val (.int i1), .val (.int i2), .val (.int i3), .val (.int i4), .val (.int i5), .val (.int (0 : Int32)), .val (.int c0), .unset, .unset, .unset, .unset, .unset, .unset, .unset, .unset, .unset] [(.int i2)])) (fun t k => XS.iloadN X12.here hx rfl (hb hby at_17) rfl k) ?_
    refine own_callS X12 hx hZ hown e12 (hb hby at_18) [(.int i2)] [] 0 (rmCH l Z a0 hw [] i2 h0) (own_w hw 4 rfl) (own_w hw 5 rfl) (own_w hw 6 rfl) (own_w hw 7 rfl) (by decide) pd__I_C (by rw [hml]; rfl) rfl rfl (Nat.le_of_eq rfl) (by decide) (by decide) (by decide) (by decide) ?_
    rintro T13 _ L13 X13 ⟨c1, rfl, hc1, rfl, e13⟩
    rw [List.append_nil] at X13
    show own_Go p e below _ T13 (mkF m 21 #[.val (.int i0), .val (.int i1), .val (.int i2), .val (.int i3), .val (.int i4), .val (.int i5), .val (.int (0 : Int32)), .val (.int c0), .unset, .unset, .unset, .unset, .unset, .unset, .unset, .unset, .unset] [(.int c1)])
    refine own_by (T' := T13) (f' := (mkF m 23 #[.val (.int i0), .val (.int i1), .val (.int i2), .val (.int i3), .val (.int i4), .val (.int i5), .val (.int (0 : Int32)), .val (.int c0), .val (.int c1), .unset, .unset, .unset, .unset, .unset, .unset, .unset, .unset] [])) (fun t k => XS.istore X13.here hx rfl (hb hby at_21) rfl (l' := #[.val (.int i0), .val (.int i1), .val (.int i2), .val (.int i3), .val (.int i4), .val (.int i5), .val (.int (0 : Int32)), .val (.int c0), .val (.int c1), .unset, .unset, .unset, .unset, .unset, .unset, .unset, .unset]) rfl k) ?_
    refine own_by (T' := T13) (f' := (mkF m 24 #[.val (.int i0), .val (.int i1), .val (.int i2), .val (.int i3), .val (.int i4), .val (.int i5), .val (.int (0 : Int32)), .val (.int c0), .val (.int c1), .unset, .unset, .unset, .unset, .unset, .unset, .unset, .unset] [(.int i3)])) (fun t k => XS.iloadN X13.here hx rfl (hb hby at_23) rfl k) ?_
    refine own_callS X13 hx hZ hown e13 (hb hby at_24) [(.int i3)] [] 0 (rmCH l Z a0 hw [] i3 h0) (own_w hw 4 rfl) (own_w hw 5 rfl) (own_w hw 6 rfl) (own_w hw 7 rfl) (by decide) pd__I_C (by rw [hml]; rfl) rfl rfl (Nat.le_of_eq rfl) (by decide) (by decide) (by decide) (by decide) ?_
    rintro T14 _ L14 X14 ⟨c2, rfl, hc2, rfl, e14⟩
    rw [List.append_nil] at X14
    show own_Go p e below _ T14 (mkF m 27 #[.val (.int i0), .val (.int i1), .val (.int i2), .val (.int i3), .val (.int i4), .val (.int i5), .val (.int (0 : Int32)), .val (.int c0), .val (.int c1), .unset, .unset, .unset, .unset, .unset, .unset, .unset, .unset] [(.int c2)])
    refine own_by (T' := T14) (f' := (mkF m 29 #[.val (.int i0), .val (.int i1), .val (.int i2), .val (.int i3), .val (.int i4), .val (.int i5), .val (.int (0 : Int32)), .val (.int c0), .val (.int c1), .val (.int c2), .unset, .unset, .unset, .unset, .unset, .unset, .unset] [])) (fun t k => XS.istore X14.here hx rfl (hb hby at_27) rfl (l' := #[.val (.int i0), .val (.int i1), .val (.int i2), .val (.int i3), .val (.int i4), .val (.int i5), .val (.int (0 : Int32)), .val (.int c0), .val (.int c1), .val (.int c2), .unset, .unset, .unset, .unset, .unset, .unset, .unset]) rfl k) ?_
    refine own_by (T' := T14) (f' := (mkF m 31 #[.val (.int i0), .val (.int i1), .val (.int i2), .val (.int i3), .val (.int i4), .val (.int i5), .val (.int (0 : Int32)), .val (.int c0), .val (.int c1), .val (.int c2), .unset, .unset, .unset, .unset, .unset, .unset, .unset] [(.int i4)])) (fun t k => XS.iload X14.here hx rfl (hb hby at_29) rfl k) ?_
    refine own_callS X14 hx hZ hown e14 (hb hby at_31) [(.int i4)] [] 0 (rmCH l Z a0 hw [] i4 h0) (own_w hw 4 rfl) (own_w hw 5 rfl) (own_w hw 6 rfl) (own_w hw 7 rfl) (by decide) pd__I_C (by rw [hml]; rfl) rfl rfl (Nat.le_of_eq rfl) (by decide) (by decide) (by decide) (by decide) ?_
    rintro T15 _ L15 X15 ⟨c3, rfl, hc3, rfl, e15⟩
    rw [List.append_nil] at X15
    show own_Go p e below _ T15 (mkF m 34 #[.val (.int i0), .val (.int i1), .val (.int i2), .val (.int i3), .val (.int i4), .val (.int i5), .val (.int (0 : Int32)), .val (.int c0), .val (.int c1), .val (.int c2), .unset, .unset, .unset, .unset, .unset, .unset, .unset] [(.int c3)])
    refine own_by (T' := T15) (f' := (mkF m 36 #[.val (.int i0), .val (.int i1), .val (.int i2), .val (.int i3), .val (.int i4), .val (.int i5), .val (.int (0 : Int32)), .val (.int c0), .val (.int c1), .val (.int c2), .val (.int c3), .unset, .unset, .unset, .unset, .unset, .unset] [])) (fun t k => XS.istore X15.here hx rfl (hb hby at_34) rfl (l' := #[.val (.int i0), .val (.int i1), .val (.int i2), .val (.int i3), .val (.int i4), .val (.int i5), .val (.int (0 : Int32)), .val (.int c0), .val (.int c1), .val (.int c2), .val (.int c3), .unset, .unset, .unset, .unset, .unset, .unset]) rfl k) ?_
    refine own_by (T' := T15) (f' := (mkF m 38 #[.val (.int i0), .val (.int i1), .val (.int i2), .val (.int i3), .val (.int i4), .val (.int i5), .val (.int (0 : Int32)), .val (.int c0), .val (.int c1), .val (.int c2), .val (.int c3), .unset, .unset, .unset, .unset, .unset, .unset] [(.int i5)])) (fun t k => XS.iload X15.here hx rfl (hb hby at_36) rfl k) ?_
    refine own_callS X15 hx hZ hown e15 (hb hby at_38) [(.int i5)] [] 0 (rmCH l Z a0 hw [] i5 h0) (own_w hw 4 rfl) (own_w hw 5 rfl) (own_w hw 6 rfl) (own_w hw 7 rfl) (by decide) pd__I_C (by rw [hml]; rfl) rfl rfl (Nat.le_of_eq rfl) (by decide) (by decide) (by decide) (by decide) ?_
    rintro T16 _ L16 X16 ⟨c4, rfl, hc4, rfl, e16⟩
    rw [List.append_nil] at X16
    show own_Go p e below _ T16 (mkF m 41 #[.val (.int i0), .val (.int i1), .val (.int i2), .val (.int i3), .val (.int i4), .val (.int i5), .val (.int (0 : Int32)), .val (.int c0), .val (.int c1), .val (.int c2), .val (.int c3), .unset, .unset, .unset, .unset, .unset, .unset] [(.int c4)])
    refine own_by (T' := T16) (f' := (mkF m 43 #[.val (.int i0), .val (.int i1), .val (.int i2), .val (.int i3), .val (.int i4), .val (.int i5), .val (.int (0 : Int32)), .val (.int c0), .val (.int c1), .val (.int c2), .val (.int c3), .val (.int c4), .unset, .unset, .unset, .unset, .unset] [])) (fun t k => XS.istore X16.here hx rfl (hb hby at_41) rfl (l' := #[.val (.int i0), .val (.int i1), .val (.int i2), .val (.int i3), .val (.int i4), .val (.int i5), .val (.int (0 : Int32)), .val (.int c0), .val (.int c1), .val (.int c2), .val (.int c3), .val (.int c4), .unset, .unset, .unset, .unset, .unset]) rfl k) ?_
    refine own_by (T' := T16) (f' := (mkF m 44 #[.val (.int i0), .val (.int i1), .val (.int i2), .val (.int i3), .val (.int i4), .val (.int i5), .val (.int (0 : Int32)), .val (.int c0), .val (.int c1), .val (.int c2), .val (.int c3), .val (.int c4), .unset, .unset, .unset, .unset, .unset] [(.int i0)])) (fun t k => XS.iloadN X16.here hx rfl (hb hby at_43) rfl k) ?_
    refine own_by (T' := T16) (f' := (mkF m 45 #[.val (.int i0), .val (.int i1), .val (.int i2), .val (.int i3), .val (.int i4), .val (.int i5), .val (.int (0 : Int32)), .val (.int c0), .val (.int c1), .val (.int c2), .val (.int c3), .val (.int c4), .unset, .unset, .unset, .unset, .unset] [(.int (3 : Int32)), (.int i0)])) (fun t k => XS.iconst X16.here hx rfl (hb hby at_44) k) ?_
    refine own_by (T' := T16) (f' := (mkF m 46 #[.val (.int i0), .val (.int i1), .val (.int i2), .val (.int i3), .val (.int i4), .val (.int i5), .val (.int (0 : Int32)), .val (.int c0), .val (.int c1), .val (.int c2), .val (.int c3), .val (.int c4), .unset, .unset, .unset, .unset, .unset] [(.int ((i0.toUInt32 >>> ((3 : Int32) &&& 31).toUInt32).toInt32))])) (fun t k => XS.iushr X16.here hx rfl (hb hby at_45) rfl k) ?_
    refine own_callS X16 hx hZ hown e16 (hb hby at_46) [(.int ((i0.toUInt32 >>> ((3 : Int32) &&& 31).toUInt32).toInt32))] [] 0 (rmCH l Z a0 hw [] ((i0.toUInt32 >>> ((3 : Int32) &&& 31).toUInt32).toInt32) h0) (own_w hw 4 rfl) (own_w hw 5 rfl) (own_w hw 6 rfl) (own_w hw 7 rfl) (by decide) pd__I_C (by rw [hml]; rfl) rfl rfl (Nat.le_of_eq rfl) (by decide) (by decide) (by decide) (by decide) ?_
    rintro T17 _ L17 X17 ⟨c5, rfl, hc5, rfl, e17⟩
    rw [List.append_nil] at X17
    show own_Go p e below _ T17 (mkF m 49 #[.val (.int i0), .val (.int i1), .val (.int i2), .val (.int i3), .val (.int i4), .val (.int i5), .val (.int (0 : Int32)), .val (.int c0), .val (.int c1), .val (.int c2), .val (.int c3), .val (.int c4), .unset, .unset, .unset, .unset, .unset] [(.int c5)])
    refine own_by (T' := T17) (f' := (mkF m 51 #[.val (.int i0), .val (.int i1), .val (.int i2), .val (.int i3), .val (.int i4), .val (.int i5), .val (.int (0 : Int32)), .val (.int c0), .val (.int c1), .val (.int c2), .val (.int c3), .val (.int c4), .val (.int c5), .unset, .unset, .unset, .unset] [])) (fun t k => XS.istore X17.here hx rfl (hb hby at_49) rfl (l' := #[.val (.int i0), .val (.int i1), .val (.int i2), .val (.int i3), .val (.int i4), .val (.int i5), .val (.int (0 : Int32)), .val (.int c0), .val (.int c1), .val (.int c2), .val (.int c3), .val (.int c4), .val (.int c5), .unset, .unset, .unset, .unset]) rfl k) ?_
    refine own_by (T' := T17) (f' := (mkF m 53 #[.val (.int i0), .val (.int i1), .val (.int i2), .val (.int i3), .val (.int i4), .val (.int i5), .val (.int (0 : Int32)), .val (.int c0), .val (.int c1), .val (.int c2), .val (.int c3), .val (.int c4), .val (.int c5), .unset, .unset, .unset, .unset] [(.int (0 : Int32))])) (fun t k => XS.iload X17.here hx rfl (hb hby at_51) rfl k) ?_
    refine own_by (T' := T17) (f' := (mkF m 55 #[.val (.int i0), .val (.int i1), .val (.int i2), .val (.int i3), .val (.int i4), .val (.int i5), .val (.int (0 : Int32)), .val (.int c0), .val (.int c1), .val (.int c2), .val (.int c3), .val (.int c4), .val (.int c5), .unset, .unset, .unset, .unset] [(.int c0), (.int (0 : Int32))])) (fun t k => XS.iload X17.here hx rfl (hb hby at_53) rfl k) ?_
    refine own_by (T' := T17) (f' := (mkF m 57 #[.val (.int i0), .val (.int i1), .val (.int i2), .val (.int i3), .val (.int i4), .val (.int i5), .val (.int (0 : Int32)), .val (.int c0), .val (.int c1), .val (.int c2), .val (.int c3), .val (.int c4), .val (.int c5), .unset, .unset, .unset, .unset] [(.int c1), (.int c0), (.int (0 : Int32))])) (fun t k => XS.iload X17.here hx rfl (hb hby at_55) rfl k) ?_
    refine own_by (T' := T17) (f' := (mkF m 59 #[.val (.int i0), .val (.int i1), .val (.int i2), .val (.int i3), .val (.int i4), .val (.int i5), .val (.int (0 : Int32)), .val (.int c0), .val (.int c1), .val (.int c2), .val (.int c3), .val (.int c4), .val (.int c5), .unset, .unset, .unset, .unset] [(.int c2), (.int c1), (.int c0), (.int (0 : Int32))])) (fun t k => XS.iload X17.here hx rfl (hb hby at_57) rfl k) ?_
    refine own_by (T' := T17) (f' := (mkF m 61 #[.val (.int i0), .val (.int i1), .val (.int i2), .val (.int i3), .val (.int i4), .val (.int i5), .val (.int (0 : Int32)), .val (.int c0), .val (.int c1), .val (.int c2), .val (.int c3), .val (.int c4), .val (.int c5), .unset, .unset, .unset, .unset] [(.int c3), (.int c2), (.int c1), (.int c0), (.int (0 : Int32))])) (fun t k => XS.iload X17.here hx rfl (hb hby at_59) rfl k) ?_
    refine own_by (T' := T17) (f' := (mkF m 63 #[.val (.int i0), .val (.int i1), .val (.int i2), .val (.int i3), .val (.int i4), .val (.int i5), .val (.int (0 : Int32)), .val (.int c0), .val (.int c1), .val (.int c2), .val (.int c3), .val (.int c4), .val (.int c5), .unset, .unset, .unset, .unset] [(.int c4), (.int c3), (.int c2), (.int c1), (.int c0), (.int (0 : Int32))])) (fun t k => XS.iload X17.here hx rfl (hb hby at_61) rfl k) ?_
    refine own_by (T' := T17) (f' := (mkF m 65 #[.val (.int i0), .val (.int i1), .val (.int i2), .val (.int i3), .val (.int i4), .val (.int i5), .val (.int (0 : Int32)), .val (.int c0), .val (.int c1), .val (.int c2), .val (.int c3), .val (.int c4), .val (.int c5), .unset, .unset, .unset, .unset] [(.int c5), (.int c4), (.int c3), (.int c2), (.int c1), (.int c0), (.int (0 : Int32))])) (fun t k => XS.iload X17.here hx rfl (hb hby at_63) rfl k) ?_
    refine own_callS X17 hx hZ hown e17 (hb hby at_65) [(.int (0 : Int32)), (.int c0), (.int c1), (.int c2), (.int c3), (.int c4), (.int c5)] [] 0 (rmMK0 l Z a0 hw [] c0 c1 c2 c3 c4 c5 h0 n0 Z0 hc0 hc1 hc2 hc3 hc4 hc5) (own_w hw 9 rfl) (own_w hw 10 rfl) (own_w hw 6 rfl) (own_w hw 11 rfl) (by decide) pd__ICCCCCC__C (by rw [hml]; rfl) rfl rfl (Nat.le_of_eq rfl) (by decide) (by decide) (by decide) (by decide) ?_
    rintro T18 _ L18 X18 ⟨b18, rfl, N18q, K18, gb18, B18⟩
    show own_Go p e below _ T18 (mkF m 68 #[.val (.int i0), .val (.int i1), .val (.int i2), .val (.int i3), .val (.int i4), .val (.int i5), .val (.int (0 : Int32)), .val (.int c0), .val (.int c1), .val (.int c2), .val (.int c3), .val (.int c4), .val (.int c5), .unset, .unset, .unset, .unset] [(.ref b18)])
    have N18 := Fr.app N0 N18q
    have hk := Nat.le_trans hk K18.1
    have CH := CH.trans (CHr.keep K18 all0 CH.1)
    have sz19 : n0 ≤ T18.heap.size := Nat.le_trans Z0 K18.1
    refine own_by (T' := T18) (f' := (mkF m 70 #[.val (.int i0), .val (.int i1), .val (.int i2), .val (.int i3), .val (.int i4), .val (.int i5), .val (.int (0 : Int32)), .val (.int c0), .val (.int c1), .val (.int c2), .val (.int c3), .val (.int c4), .val (.int c5), .val (.ref b18), .unset, .unset, .unset] [])) (fun t k => XS.astore X18.here hx rfl (hb hby at_68) rfl rfl (l' := #[.val (.int i0), .val (.int i1), .val (.int i2), .val (.int i3), .val (.int i4), .val (.int i5), .val (.int (0 : Int32)), .val (.int c0), .val (.int c1), .val (.int c2), .val (.int c3), .val (.int c4), .val (.int c5), .val (.ref b18), .unset, .unset, .unset]) rfl k) ?_
    refine own_new X18 hx hZ hown rfl (hb hby at_70) (own_w hw 13 rfl) (own_w hw 14 rfl) (own_w hw 15 rfl) (by decide) (by decide) ?_
    intro T20 h20 b20 X20 e20 g20 E20 A20 D20
    have ne20_b18 : b18 ≠ b20 := Nat.ne_of_lt (by rw [g20]; exact B18.lt)
    have gn20 : n0 ≤ b20 := by rw [g20]; exact sz19
    show own_Go p e below _ T20 (mkF m 73 #[.val (.int i0), .val (.int i1), .val (.int i2), .val (.int i3), .val (.int i4), .val (.int i5), .val (.int (0 : Int32)), .val (.int c0), .val (.int c1), .val (.int c2), .val (.int c3), .val (.int c4), .val (.int c5), .val (.ref b18), .unset, .unset, .unset] [(.ref b20)])
    have S_b20 := Safe.ext E20 CH.1 (Safe.new (Nat.le_of_eq g20.symm))
    have hk := Nat.le_trans hk E20.1
    have CH := CH.trans (CHr.ext E20 CH.1)
    have F20_value : Fld Z h20 b20 "java/lang/String" "value" "[B" .null := D20 (Or.inr (own_w hw 28 rfl)) (ty := (.array .byte)) (by decide)
    have F20_coder : Fld Z h20 b20 "java/lang/String" "coder" "B" (.int (0 : Int32)) := D20 (Or.inr (own_w hw 29 rfl)) (ty := .byte) (by decide)
    have sz21 : n0 ≤ h20.size := Nat.le_trans sz19 E20.1
    refine own_by (T' := T20) (f' := (mkF m 74 #[.val (.int i0), .val (.int i1), .val (.int i2), .val (.int i3), .val (.int i4), .val (.int i5), .val (.int (0 : Int32)), .val (.int c0), .val (.int c1), .val (.int c2), .val (.int c3), .val (.int c4), .val (.int c5), .val (.ref b18), .unset, .unset, .unset] [(.ref b20), (.ref b20)])) (fun t k => XS.dup X20.here hx rfl (hb hby at_73) rfl rfl k) ?_
    refine own_by (T' := T20) (f' := (mkF m 76 #[.val (.int i0), .val (.int i1), .val (.int i2), .val (.int i3), .val (.int i4), .val (.int i5), .val (.int (0 : Int32)), .val (.int c0), .val (.int c1), .val (.int c2), .val (.int c3), .val (.int c4), .val (.int c5), .val (.ref b18), .unset, .unset, .unset] [(.ref b18), (.ref b20), (.ref b20)])) (fun t k => XS.aload X20.here hx rfl (hb hby at_74) rfl rfl k) ?_
    have q22 : ∀ x ∈ [b20], ∃ c : Cell, h20[x]? = some c ∧ c.vm.isStatics = false := (allS (own_ns A20) all0)
    have f23 := ((ST.keep K18 all0).ext E20)
    have f24 := (B18.ext E20)
    have lt25 := A20.lt
    refine own_callNW X20 hx hZ hown e20 (hb hby at_76) hS hk hEL CH [(.ref b18)] [(.ref b20)] 1 (rmI1e l Z a0 hw [] b20 b18 (fun i => List.getD [] i 0) _ cs fm h20 n0 sz21 gn20 A20 F20_value F20_coder f23 f24) (own_w hw 16 rfl) (own_w hw 17 rfl) (own_w hw 15 rfl) (own_w hw 18 rfl) rfl (by decide) pd___C_V (by rw [hml]; rfl) rfl rfl (Nat.le_of_eq rfl) (by decide) (by decide) (by decide) (by decide) ?_
    rintro T26 _ L26 X26 hS hk hZ hown hW26 CHs26 CH ⟨rfl, N26q, K26, Q26⟩
    show own_Go p e below _ T26 (mkF m 79 #[.val (.int i0), .val (.int i1), .val (.int i2), .val (.int i3), .val (.int i4), .val (.int i5), .val (.int (0 : Int32)), .val (.int c0), .val (.int c1), .val (.int c2), .val (.int c3), .val (.int c4), .val (.int c5), .val (.ref b18), .unset, .unset, .unset] [(.ref b20)])
    have S_b20 := CHr.safe CHs26 lt25 S_b20
    have N26 := Fr.app N18 N26q
    have sz27 : n0 ≤ T26.heap.size := Nat.le_trans sz21 K26.1
    refine own_by (T' := T26) (f' := (mkF m 81 #[.val (.int i0), .val (.int i1), .val (.int i2), .val (.int i3), .val (.int i4), .val (.int i5), .val (.int (0 : Int32)), .val (.int c0), .val (.int c1), .val (.int c2), .val (.int c3), .val (.int c4), .val (.int c5), .val (.ref b18), .val (.ref b20), .unset, .unset] [])) (fun t k => XS.astore X26.here hx rfl (hb hby at_79) rfl rfl (l' := #[.val (.int i0), .val (.int i1), .val (.int i2), .val (.int i3), .val (.int i4), .val (.int i5), .val (.int (0 : Int32)), .val (.int c0), .val (.int c1), .val (.int c2), .val (.int c3), .val (.int c4), .val (.int c5), .val (.ref b18), .val (.ref b20), .unset, .unset]) rfl k) ?_
    refine own_by (T' := T26) (f' := (mkF m 82 #[.val (.int i0), .val (.int i1), .val (.int i2), .val (.int i3), .val (.int i4), .val (.int i5), .val (.int (0 : Int32)), .val (.int c0), .val (.int c1), .val (.int c2), .val (.int c3), .val (.int c4), .val (.int c5), .val (.ref b18), .val (.ref b20), .unset, .unset] [(.int (0 : Int32))])) (fun t k => XS.iconst X26.here hx rfl (hb hby at_81) k) ?_
    refine own_by (T' := T26) (f' := (mkF m 84 #[.val (.int i0), .val (.int i1), .val (.int i2), .val (.int i3), .val (.int i4), .val (.int i5), .val (.int (0 : Int32)), .val (.int c0), .val (.int c1), .val (.int c2), .val (.int c3), .val (.int c4), .val (.int c5), .val (.ref b18), .val (.ref b20), .val (.int (0 : Int32)), .unset] [])) (fun t k => XS.istore X26.here hx rfl (hb hby at_82) rfl (l' := #[.val (.int i0), .val (.int i1), .val (.int i2), .val (.int i3), .val (.int i4), .val (.int i5), .val (.int (0 : Int32)), .val (.int c0), .val (.int c1), .val (.int c2), .val (.int c3), .val (.int c4), .val (.int c5), .val (.ref b18), .val (.ref b20), .val (.int (0 : Int32)), .unset]) rfl k) ?_
    refine own_by (T' := T26) (f' := (mkF m 86 #[.val (.int i0), .val (.int i1), .val (.int i2), .val (.int i3), .val (.int i4), .val (.int i5), .val (.int (0 : Int32)), .val (.int c0), .val (.int c1), .val (.int c2), .val (.int c3), .val (.int c4), .val (.int c5), .val (.ref b18), .val (.ref b20), .val (.int (0 : Int32)), .unset] [(.int (0 : Int32))])) (fun t k => XS.iload X26.here hx rfl (hb hby at_84) rfl k) ?_
    refine own_by (T' := T26) (f' := (mkF m 98 #[.val (.int i0), .val (.int i1), .val (.int i2), .val (.int i3), .val (.int i4), .val (.int i5), .val (.int (0 : Int32)), .val (.int c0), .val (.int c1), .val (.int c2), .val (.int c3), .val (.int c4), .val (.int c5), .val (.ref b18), .val (.ref b20), .val (.int (0 : Int32)), .unset] [])) (fun t k => XS.ifYes X26.here hx rfl (pc0 := 86) (pc' := 98) rfl (hb hby at_86) rfl ((if0 _ _).trans (flt (by decide)).2.2.2) (by decide) (by decide) k) ?_
    refine own_by (T' := T26) (f' := (mkF m 100 #[.val (.int i0), .val (.int i1), .val (.int i2), .val (.int i3), .val (.int i4), .val (.int i5), .val (.int (0 : Int32)), .val (.int c0), .val (.int c1), .val (.int c2), .val (.int c3), .val (.int c4), .val (.int c5), .val (.ref b18), .val (.ref b20), .val (.int (0 : Int32)), .unset] [(.int (0 : Int32))])) (fun t k => XS.iload X26.here hx rfl (hb hby at_98) rfl k) ?_
    refine own_by (T' := T26) (f' := (mkF m 101 #[.val (.int i0), .val (.int i1), .val (.int i2), .val (.int i3), .val (.int i4), .val (.int i5), .val (.int (0 : Int32)), .val (.int c0), .val (.int c1), .val (.int c2), .val (.int c3), .val (.int c4), .val (.int c5), .val (.ref b18), .val (.ref b20), .val (.int (0 : Int32)), .unset] [(.int (1 : Int32)), (.int (0 : Int32))])) (fun t k => XS.iconst X26.here hx rfl (hb hby at_100) k) ?_
    refine own_by (T' := T26) (f' := (mkF m 113 #[.val (.int i0), .val (.int i1), .val (.int i2), .val (.int i3), .val (.int i4), .val (.int i5), .val (.int (0 : Int32)), .val (.int c0), .val (.int c1), .val (.int c2), .val (.int c3), .val (.int c4), .val (.int c5), .val (.ref b18), .val (.ref b20), .val (.int (0 : Int32)), .unset] [])) (fun t k => XS.icmpYes X26.here hx rfl (pc0 := 101) (pc' := 113) rfl (hb hby at_101) rfl (flt (by decide)).2.2.2 (by decide) (by decide) k) ?_
    refine own_by (T' := T26) (f' := (mkF m 115 #[.val (.int i0), .val (.int i1), .val (.int i2), .val (.int i3), .val (.int i4), .val (.int i5), .val (.int (0 : Int32)), .val (.int c0), .val (.int c1), .val (.int c2), .val (.int c3), .val (.int c4), .val (.int c5), .val (.ref b18), .val (.ref b20), .val (.int (0 : Int32)), .unset] [(.int (0 : Int32))])) (fun t k => XS.iload X26.here hx rfl (hb hby at_113) rfl k) ?_
    refine own_by (T' := T26) (f' := (mkF m 116 #[.val (.int i0), .val (.int i1), .val (.int i2), .val (.int i3), .val (.int i4), .val (.int i5), .val (.int (0 : Int32)), .val (.int c0), .val (.int c1), .val (.int c2), .val (.int c3), .val (.int c4), .val (.int c5), .val (.ref b18), .val (.ref b20), .val (.int (0 : Int32)), .unset] [(.int (2 : Int32)), (.int (0 : Int32))])) (fun t k => XS.iconst X26.here hx rfl (hb hby at_115) k) ?_
    refine own_by (T' := T26) (f' := (mkF m 128 #[.val (.int i0), .val (.int i1), .val (.int i2), .val (.int i3), .val (.int i4), .val (.int i5), .val (.int (0 : Int32)), .val (.int c0), .val (.int c1), .val (.int c2), .val (.int c3), .val (.int c4), .val (.int c5), .val (.ref b18), .val (.ref b20), .val (.int (0 : Int32)), .unset] [])) (fun t k => XS.icmpYes X26.here hx rfl (pc0 := 116) (pc' := 128) rfl (hb hby at_116) rfl (flt (by decide)).2.2.2 (by decide) (by decide) k) ?_
    refine own_by (T' := T26) (f' := (mkF m 130 #[.val (.int i0), .val (.int i1), .val (.int i2), .val (.int i3), .val (.int i4), .val (.int i5), .val (.int (0 : Int32)), .val (.int c0), .val (.int c1), .val (.int c2), .val (.int c3), .val (.int c4), .val (.int c5), .val (.ref b18), .val (.ref b20), .val (.int (0 : Int32)), .unset] [(.int (0 : Int32))])) (fun t k => XS.iload X26.here hx rfl (hb hby at_128) rfl k) ?_
    refine own_by (T' := T26) (f' := (mkF m 131 #[.val (.int i0), .val (.int i1), .val (.int i2), .val (.int i3), .val (.int i4), .val (.int i5), .val (.int (0 : Int32)), .val (.int c0), .val (.int c1), .val (.int c2), .val (.int c3), .val (.int c4), .val (.int c5), .val (.ref b18), .val (.ref b20), .val (.int (0 : Int32)), .unset] [(.int (3 : Int32)), (.int (0 : Int32))])) (fun t k => XS.iconst X26.here hx rfl (hb hby at_130) k) ?_
    refine own_by (T' := T26) (f' := (mkF m 143 #[.val (.int i0), .val (.int i1), .val (.int i2), .val (.int i3), .val (.int i4), .val (.int i5), .val (.int (0 : Int32)), .val (.int c0), .val (.int c1), .val (.int c2), .val (.int c3), .val (.int c4), .val (.int c5), .val (.ref b18), .val (.ref b20), .val (.int (0 : Int32)), .unset] [])) (fun t k => XS.icmpYes X26.here hx rfl (pc0 := 131) (pc' := 143) rfl (hb hby at_131) rfl (flt (by decide)).2.2.2 (by decide) (by decide) k) ?_
    refine own_by (T' := T26) (f' := (mkF m 145 #[.val (.int i0), .val (.int i1), .val (.int i2), .val (.int i3), .val (.int i4), .val (.int i5), .val (.int (0 : Int32)), .val (.int c0), .val (.int c1), .val (.int c2), .val (.int c3), .val (.int c4), .val (.int c5), .val (.ref b18), .val (.ref b20), .val (.int (0 : Int32)), .unset] [(.int (0 : Int32))])) (fun t k => XS.iload X26.here hx rfl (hb hby at_143) rfl k) ?_
    refine own_by (T' := T26) (f' := (mkF m 146 #[.val (.int i0), .val (.int i1), .val (.int i2), .val (.int i3), .val (.int i4), .val (.int i5), .val (.int (0 : Int32)), .val (.int c0), .val (.int c1), .val (.int c2), .val (.int c3), .val (.int c4), .val (.int c5), .val (.ref b18), .val (.ref b20), .val (.int (0 : Int32)), .unset] [(.int (4 : Int32)), (.int (0 : Int32))])) (fun t k => XS.iconst X26.here hx rfl (hb hby at_145) k) ?_
    refine own_by (T' := T26) (f' := (mkF m 158 #[.val (.int i0), .val (.int i1), .val (.int i2), .val (.int i3), .val (.int i4), .val (.int i5), .val (.int (0 : Int32)), .val (.int c0), .val (.int c1), .val (.int c2), .val (.int c3), .val (.int c4), .val (.int c5), .val (.ref b18), .val (.ref b20), .val (.int (0 : Int32)), .unset] [])) (fun t k => XS.icmpYes X26.here hx rfl (pc0 := 146) (pc' := 158) rfl (hb hby at_146) rfl (flt (by decide)).2.2.2 (by decide) (by decide) k) ?_
    refine own_by (T' := T26) (f' := (mkF m 160 #[.val (.int i0), .val (.int i1), .val (.int i2), .val (.int i3), .val (.int i4), .val (.int i5), .val (.int (0 : Int32)), .val (.int c0), .val (.int c1), .val (.int c2), .val (.int c3), .val (.int c4), .val (.int c5), .val (.ref b18), .val (.ref b20), .val (.int (0 : Int32)), .unset] [(.int (0 : Int32))])) (fun t k => XS.iload X26.here hx rfl (hb hby at_158) rfl k) ?_
    refine own_by (T' := T26) (f' := (mkF m 161 #[.val (.int i0), .val (.int i1), .val (.int i2), .val (.int i3), .val (.int i4), .val (.int i5), .val (.int (0 : Int32)), .val (.int c0), .val (.int c1), .val (.int c2), .val (.int c3), .val (.int c4), .val (.int c5), .val (.ref b18), .val (.ref b20), .val (.int (0 : Int32)), .unset] [(.int (5 : Int32)), (.int (0 : Int32))])) (fun t k => XS.iconst X26.here hx rfl (hb hby at_160) k) ?_
    refine own_by (T' := T26) (f' := (mkF m 173 #[.val (.int i0), .val (.int i1), .val (.int i2), .val (.int i3), .val (.int i4), .val (.int i5), .val (.int (0 : Int32)), .val (.int c0), .val (.int c1), .val (.int c2), .val (.int c3), .val (.int c4), .val (.int c5), .val (.ref b18), .val (.ref b20), .val (.int (0 : Int32)), .unset] [])) (fun t k => XS.icmpYes X26.here hx rfl (pc0 := 161) (pc' := 173) rfl (hb hby at_161) rfl (flt (by decide)).2.2.2 (by decide) (by decide) k) ?_
    refine own_by (T' := T26) (f' := (mkF m 175 #[.val (.int i0), .val (.int i1), .val (.int i2), .val (.int i3), .val (.int i4), .val (.int i5), .val (.int (0 : Int32)), .val (.int c0), .val (.int c1), .val (.int c2), .val (.int c3), .val (.int c4), .val (.int c5), .val (.ref b18), .val (.ref b20), .val (.int (0 : Int32)), .unset] [(.int (0 : Int32))])) (fun t k => XS.iload X26.here hx rfl (hb hby at_173) rfl k) ?_
    refine own_by (T' := T26) (f' := (mkF m 176 #[.val (.int i0), .val (.int i1), .val (.int i2), .val (.int i3), .val (.int i4), .val (.int i5), .val (.int (0 : Int32)), .val (.int c0), .val (.int c1), .val (.int c2), .val (.int c3), .val (.int c4), .val (.int c5), .val (.ref b18), .val (.ref b20), .val (.int (0 : Int32)), .unset] [(.int (2 : Int32)), (.int (0 : Int32))])) (fun t k => XS.iconst X26.here hx rfl (hb hby at_175) k) ?_
    have mg31 : ∀ t, Steps p.tables e below (T26.setTop (mkF m 197 #[.val (.int i0), .val (.int i1), .val (.int i2), .val (.int i3), .val (.int i4), .val (.int i5), .val (.int (0 : Int32)), .val (.int c0), .val (.int c1), .val (.int c2), .val (.int c3), .val (.int c4), .val (.int c5), .val (.ref b18), .val (.ref b20), .val (.int (0 : Int32)), .unset] [(.int (if (0 : Int32) = (2 : Int32) then (1 : Int32) else (if (0 : Int32) = (4 : Int32) then (1 : Int32) else (if (0 : Int32) = (7 : Int32) then (1 : Int32) else (0 : Int32)))))])) t → Steps p.tables e below (T26.setTop (mkF m 176 #[.val (.int i0), .val (.int i1), .val (.int i2), .val (.int i3), .val (.int i4), .val (.int i5), .val (.int (0 : Int32)), .val (.int c0), .val (.int c1), .val (.int c2), .val (.int c3), .val (.int c4), .val (.int c5), .val (.ref b18), .val (.ref b20), .val (.int (0 : Int32)), .unset] [(.int (2 : Int32)), (.int (0 : Int32))])) t := by
      intro t k0
      by_cases hm28 : (0 : Int32) = (2 : Int32)
      · skip
        refine XS.icmpYes X26.here hx rfl (pc0 := 176) (pc' := 192) rfl (hb hby at_176) rfl (teq hm28).1 (by decide) (by decide) ?_
        show Steps p.tables e below (T26.setTop (mkF m 192 #[.val (.int i0), .val (.int i1), .val (.int i2), .val (.int i3), .val (.int i4), .val (.int i5), .val (.int (0 : Int32)), .val (.int c0), .val (.int c1), .val (.int c2), .val (.int c3), .val (.int c4), .val (.int c5), .val (.ref b18), .val (.ref b20), .val (.int (0 : Int32)), .unset] [])) _
        refine XS.iconst X26.here hx rfl (hb hby at_192) ?_
        show Steps p.tables e below (T26.setTop (mkF m 193 #[.val (.int i0), .val (.int i1), .val (.int i2), .val (.int i3), .val (.int i4), .val (.int i5), .val (.int (0 : Int32)), .val (.int c0), .val (.int c1), .val (.int c2), .val (.int c3), .val (.int c4), .val (.int c5), .val (.ref b18), .val (.ref b20), .val (.int (0 : Int32)), .unset] [(.int (1 : Int32))])) _
        refine XS.goto X26.here hx rfl (pc0 := 193) (pc' := 197) rfl (hb hby at_193) (by decide) (by decide) ?_
        show Steps p.tables e below (T26.setTop (mkF m 197 #[.val (.int i0), .val (.int i1), .val (.int i2), .val (.int i3), .val (.int i4), .val (.int i5), .val (.int (0 : Int32)), .val (.int c0), .val (.int c1), .val (.int c2), .val (.int c3), .val (.int c4), .val (.int c5), .val (.ref b18), .val (.ref b20), .val (.int (0 : Int32)), .unset] [(.int (1 : Int32))])) _
        try simp only [if_pos hm28] at k0
        exact k0
      · skip
        refine XS.icmpNo X26.here hx rfl (hb hby at_176) rfl (feq hm28).1 ?_
        show Steps p.tables e below (T26.setTop (mkF m 179 #[.val (.int i0), .val (.int i1), .val (.int i2), .val (.int i3), .val (.int i4), .val (.int i5), .val (.int (0 : Int32)), .val (.int c0), .val (.int c1), .val (.int c2), .val (.int c3), .val (.int c4), .val (.int c5), .val (.ref b18), .val (.ref b20), .val (.int (0 : Int32)), .unset] [])) _
        refine XS.iload X26.here hx rfl (hb hby at_179) rfl ?_
        show Steps p.tables e below (T26.setTop (mkF m 181 #[.val (.int i0), .val (.int i1), .val (.int i2), .val (.int i3), .val (.int i4), .val (.int i5), .val (.int (0 : Int32)), .val (.int c0), .val (.int c1), .val (.int c2), .val (.int c3), .val (.int c4), .val (.int c5), .val (.ref b18), .val (.ref b20), .val (.int (0 : Int32)), .unset] [(.int (0 : Int32))])) _
        refine XS.iconst X26.here hx rfl (hb hby at_181) ?_
        show Steps p.tables e below (T26.setTop (mkF m 182 #[.val (.int i0), .val (.int i1), .val (.int i2), .val (.int i3), .val (.int i4), .val (.int i5), .val (.int (0 : Int32)), .val (.int c0), .val (.int c1), .val (.int c2), .val (.int c3), .val (.int c4), .val (.int c5), .val (.ref b18), .val (.ref b20), .val (.int (0 : Int32)), .unset] [(.int (4 : Int32)), (.int (0 : Int32))])) _
        by_cases hm29 : (0 : Int32) = (4 : Int32)
        · skip
          refine XS.icmpYes X26.here hx rfl (pc0 := 182) (pc' := 192) rfl (hb hby at_182) rfl (teq hm29).1 (by decide) (by decide) ?_
          show Steps p.tables e below (T26.setTop (mkF m 192 #[.val (.int i0), .val (.int i1), .val (.int i2), .val (.int i3), .val (.int i4), .val (.int i5), .val (.int (0 : Int32)), .val (.int c0), .val (.int c1), .val (.int c2), .val (.int c3), .val (.int c4), .val (.int c5), .val (.ref b18), .val (.ref b20), .val (.int (0 : Int32)), .unset] [])) _
          refine XS.iconst X26.here hx rfl (hb hby at_192) ?_
          show Steps p.tables e below (T26.setTop (mkF m 193 #[.val (.int i0), .val (.int i1), .val (.int i2), .val (.int i3), .val (.int i4), .val (.int i5), .val (.int (0 : Int32)), .val (.int c0), .val (.int c1), .val (.int c2), .val (.int c3), .val (.int c4), .val (.int c5), .val (.ref b18), .val (.ref b20), .val (.int (0 : Int32)), .unset] [(.int (1 : Int32))])) _
          refine XS.goto X26.here hx rfl (pc0 := 193) (pc' := 197) rfl (hb hby at_193) (by decide) (by decide) ?_
          show Steps p.tables e below (T26.setTop (mkF m 197 #[.val (.int i0), .val (.int i1), .val (.int i2), .val (.int i3), .val (.int i4), .val (.int i5), .val (.int (0 : Int32)), .val (.int c0), .val (.int c1), .val (.int c2), .val (.int c3), .val (.int c4), .val (.int c5), .val (.ref b18), .val (.ref b20), .val (.int (0 : Int32)), .unset] [(.int (1 : Int32))])) _
          try simp only [if_neg hm28, if_pos hm29] at k0
          exact k0
        · skip
          refine XS.icmpNo X26.here hx rfl (hb hby at_182) rfl (feq hm29).1 ?_
          show Steps p.tables e below (T26.setTop (mkF m 185 #[.val (.int i0), .val (.int i1), .val (.int i2), .val (.int i3), .val (.int i4), .val (.int i5), .val (.int (0 : Int32)), .val (.int c0), .val (.int c1), .val (.int c2), .val (.int c3), .val (.int c4), .val (.int c5), .val (.ref b18), .val (.ref b20), .val (.int (0 : Int32)), .unset] [])) _
          refine XS.iload X26.here hx rfl (hb hby at_185) rfl ?_
          show Steps p.tables e below (T26.setTop (mkF m 187 #[.val (.int i0), .val (.int i1), .val (.int i2), .val (.int i3), .val (.int i4), .val (.int i5), .val (.int (0 : Int32)), .val (.int c0), .val (.int c1), .val (.int c2), .val (.int c3), .val (.int c4), .val (.int c5), .val (.ref b18), .val (.ref b20), .val (.int (0 : Int32)), .unset] [(.int (0 : Int32))])) _
          refine XS.bipush X26.here hx rfl (hb hby at_187) ?_
          show Steps p.tables e below (T26.setTop (mkF m 189 #[.val (.int i0), .val (.int i1), .val (.int i2), .val (.int i3), .val (.int i4), .val (.int i5), .val (.int (0 : Int32)), .val (.int c0), .val (.int c1), .val (.int c2), .val (.int c3), .val (.int c4), .val (.int c5), .val (.ref b18), .val (.ref b20), .val (.int (0 : Int32)), .unset] [(.int (7 : Int32)), (.int (0 : Int32))])) _
          by_cases hm30 : (0 : Int32) = (7 : Int32)
          · skip
            refine XS.icmpNo X26.here hx rfl (hb hby at_189) rfl (teq hm30).2 ?_
            show Steps p.tables e below (T26.setTop (mkF m 192 #[.val (.int i0), .val (.int i1), .val (.int i2), .val (.int i3), .val (.int i4), .val (.int i5), .val (.int (0 : Int32)), .val (.int c0), .val (.int c1), .val (.int c2), .val (.int c3), .val (.int c4), .val (.int c5), .val (.ref b18), .val (.ref b20), .val (.int (0 : Int32)), .unset] [])) _
            refine XS.iconst X26.here hx rfl (hb hby at_192) ?_
            show Steps p.tables e below (T26.setTop (mkF m 193 #[.val (.int i0), .val (.int i1), .val (.int i2), .val (.int i3), .val (.int i4), .val (.int i5), .val (.int (0 : Int32)), .val (.int c0), .val (.int c1), .val (.int c2), .val (.int c3), .val (.int c4), .val (.int c5), .val (.ref b18), .val (.ref b20), .val (.int (0 : Int32)), .unset] [(.int (1 : Int32))])) _
            refine XS.goto X26.here hx rfl (pc0 := 193) (pc' := 197) rfl (hb hby at_193) (by decide) (by decide) ?_
            show Steps p.tables e below (T26.setTop (mkF m 197 #[.val (.int i0), .val (.int i1), .val (.int i2), .val (.int i3), .val (.int i4), .val (.int i5), .val (.int (0 : Int32)), .val (.int c0), .val (.int c1), .val (.int c2), .val (.int c3), .val (.int c4), .val (.int c5), .val (.ref b18), .val (.ref b20), .val (.int (0 : Int32)), .unset] [(.int (1 : Int32))])) _
            try simp only [if_neg hm28, if_neg hm29, if_pos hm30] at k0
            exact k0
          · skip
            refine XS.icmpYes X26.here hx rfl (pc0 := 189) (pc' := 196) rfl (hb hby at_189) rfl (feq hm30).2 (by decide) (by decide) ?_
            show Steps p.tables e below (T26.setTop (mkF m 196 #[.val (.int i0), .val (.int i1), .val (.int i2), .val (.int i3), .val (.int i4), .val (.int i5), .val (.int (0 : Int32)), .val (.int c0), .val (.int c1), .val (.int c2), .val (.int c3), .val (.int c4), .val (.int c5), .val (.ref b18), .val (.ref b20), .val (.int (0 : Int32)), .unset] [])) _
            refine XS.iconst X26.here hx rfl (hb hby at_196) ?_
            show Steps p.tables e below (T26.setTop (mkF m 197 #[.val (.int i0), .val (.int i1), .val (.int i2), .val (.int i3), .val (.int i4), .val (.int i5), .val (.int (0 : Int32)), .val (.int c0), .val (.int c1), .val (.int c2), .val (.int c3), .val (.int c4), .val (.int c5), .val (.ref b18), .val (.ref b20), .val (.int (0 : Int32)), .unset] [(.int (0 : Int32))])) _
            try simp only [if_neg hm28, if_neg hm29, if_neg hm30] at k0
            exact k0
    refine own_by mg31 ?_
    rw [show (if (0 : Int32) = (2 : Int32) then (1 : Int32) else (if (0 : Int32) = (4 : Int32) then (1 : Int32) else (if (0 : Int32) = (7 : Int32) then (1 : Int32) else (0 : Int32)))) = own_acc 0 from own_acc_i (k := 0) (by decide)]
    show own_Go p e below _ T26 (mkF m 197 #[.val (.int i0), .val (.int i1), .val (.int i2), .val (.int i3), .val (.int i4), .val (.int i5), .val (.int (0 : Int32)), .val (.int c0), .val (.int c1), .val (.int c2), .val (.int c3), .val (.int c4), .val (.int c5), .val (.ref b18), .val (.ref b20), .val (.int (0 : Int32)), .unset] [(.int (own_acc 0))])
    refine own_by (T' := T26) (f' := (mkF m 199 #[.val (.int i0), .val (.int i1), .val (.int i2), .val (.int i3), .val (.int i4), .val (.int i5), .val (.int (0 : Int32)), .val (.int c0), .val (.int c1), .val (.int c2), .val (.int c3), .val (.int c4), .val (.int c5), .val (.ref b18), .val (.ref b20), .val (.int (0 : Int32)), .val (.int (own_acc 0))] [])) (fun t k => XS.istore X26.here hx rfl (hb hby at_197) rfl (l' := #[.val (.int i0), .val (.int i1), .val (.int i2), .val (.int i3), .val (.int i4), .val (.int i5), .val (.int (0 : Int32)), .val (.int c0), .val (.int c1), .val (.int c2), .val (.int c3), .val (.int c4), .val (.int c5), .val (.ref b18), .val (.ref b20), .val (.int (0 : Int32)), .val (.int (own_acc 0))]) rfl k) ?_
    refine own_by (T' := T26) (f' := (mkF m 201 #[.val (.int i0), .val (.int i1), .val (.int i2), .val (.int i3), .val (.int i4), .val (.int i5), .val (.int (0 : Int32)), .val (.int c0), .val (.int c1), .val (.int c2), .val (.int c3), .val (.int c4), .val (.int c5), .val (.ref b18), .val (.ref b20), .val (.int (0 : Int32)), .val (.int (own_acc 0))] [(.ref b20)])) (fun t k => XS.aload X26.here hx rfl (hb hby at_199) rfl rfl k) ?_
    have f32 := (f23.keep K26 q22)
    refine own_callS X26 hx hZ hown rfl (hb hby at_201) [(.ref b20)] [] 0 (rmDE l Z a0 hw [] b20 (0 : Int32) 0 (fun i => List.getD [] i 0) (fun i => List.getD [] i 0) cs fm T26.heap (fun i hi => by match i, hi with  | (q + 0), h => exact absurd h (by omega)) (by decide) (by decide) Q26 f32) (own_w hw 34 rfl) (own_w hw 35 rfl) (own_w hw 36 rfl) (own_w hw 37 rfl) (by decide) pd__Ljava_lang_String__Z (by rw [hml]; rfl) rfl rfl (Nat.le_of_eq rfl) (by decide) (by decide) (by decide) (by decide) ?_
    rintro T33 _ L33 X33 ⟨rfl, rfl, e33⟩
    show own_Go p e below _ T33 (mkF m 204 #[.val (.int i0), .val (.int i1), .val (.int i2), .val (.int i3), .val (.int i4), .val (.int i5), .val (.int (0 : Int32)), .val (.int c0), .val (.int c1), .val (.int c2), .val (.int c3), .val (.int c4), .val (.int c5), .val (.ref b18), .val (.ref b20), .val (.int (0 : Int32)), .val (.int (own_acc 0))] [(.int (own_isDec (fun i => List.getD [] i 0) 0))])
    rw [List.append_nil] at X33
    have hlw : own_isDec (fun i => List.getD [] i 0) 0 = own_acc 0 := own_law0 
    refine own_by (T' := T33) (f' := (mkF m 206 #[.val (.int i0), .val (.int i1), .val (.int i2), .val (.int i3), .val (.int i4), .val (.int i5), .val (.int (0 : Int32)), .val (.int c0), .val (.int c1), .val (.int c2), .val (.int c3), .val (.int c4), .val (.int c5), .val (.ref b18), .val (.ref b20), .val (.int (0 : Int32)), .val (.int (own_acc 0))] [(.int (own_acc 0)), (.int (own_isDec (fun i => List.getD [] i 0) 0))])) (fun t k => XS.iload X33.here hx rfl (hb hby at_204) rfl k) ?_
    have hc206_34 : (own_isDec (fun i => List.getD [] i 0) 0) = (own_acc 0) := hlw
    refine own_by (T' := T33) (f' := (mkF m 209 #[.val (.int i0), .val (.int i1), .val (.int i2), .val (.int i3), .val (.int i4), .val (.int i5), .val (.int (0 : Int32)), .val (.int c0), .val (.int c1), .val (.int c2), .val (.int c3), .val (.int c4), .val (.int c5), .val (.ref b18), .val (.ref b20), .val (.int (0 : Int32)), .val (.int (own_acc 0))] [])) (fun t k => XS.icmpNo X33.here hx rfl (hb hby at_206) rfl (teq hc206_34).2 k) ?_
    refine own_by (T' := T33) (f' := (mkF m 210 #[.val (.int i0), .val (.int i1), .val (.int i2), .val (.int i3), .val (.int i4), .val (.int i5), .val (.int (0 : Int32)), .val (.int c0), .val (.int c1), .val (.int c2), .val (.int c3), .val (.int c4), .val (.int c5), .val (.ref b18), .val (.ref b20), .val (.int (0 : Int32)), .val (.int (own_acc 0))] [(.int (1 : Int32))])) (fun t k => XS.iconst X33.here hx rfl (hb hby at_209) k) ?_
    refine own_by (T' := T33) (f' := (mkF m 214 #[.val (.int i0), .val (.int i1), .val (.int i2), .val (.int i3), .val (.int i4), .val (.int i5), .val (.int (0 : Int32)), .val (.int c0), .val (.int c1), .val (.int c2), .val (.int c3), .val (.int c4), .val (.int c5), .val (.ref b18), .val (.ref b20), .val (.int (0 : Int32)), .val (.int (own_acc 0))] [(.int (1 : Int32))])) (fun t k => XS.goto X33.here hx rfl (pc0 := 210) (pc' := 214) rfl (hb hby at_210) (by decide) (by decide) k) ?_
    refine own_retW X33 hx hret hlk hZ hEL hs0 e33 hS hk CH (hb hby at_214) rfl (Or.inl ⟨rfl, Or.inr (Or.inl rfl), _, rfl⟩) (by decide) (by decide) ?_
    try rw [e33]
    exact ⟨rfl, N26⟩
  · rw [hl]
    show own_Go p e below _ T11 (mkF m 9 #[.val (.int i0), .val (.int i1), .val (.int i2), .val (.int i3), .val (.int i4), .val (.int i5), .unset, .unset, .unset, .unset, .unset, .unset, .unset, .unset, .unset, .unset, .unset] [(.int (1 : Int32))])
    refine own_by (T' := T11) (f' := (mkF m 11 #[.val (.int i0), .val (.int i1), .val (.int i2), .val (.int i3), .val (.int i4), .val (.int i5), .val (.int (1 : Int32)), .unset, .unset, .unset, .unset, .unset, .unset, .unset, .unset, .unset, .unset] [])) (fun t k => XS.istore X11.here hx rfl (hb hby at_9) rfl (l' := #[.val (.int i0), .val (.int i1), .val (.int i2), .val (.int i3), .val (.int i4), .val (.int i5), .val (.int (1 : Int32)), .unset, .unset, .unset, .unset, .unset, .unset, .unset, .unset, .unset, .unset]) rfl k) ?_
    refine own_by (T' := T11) (f' := (mkF m 12 #[.val (.int i0), .val (.int i1), .val (.int i2), .val (.int i3), .val (.int i4), .val (.int i5), .val (.int (1 : Int32)), .unset, .unset, .unset, .unset, .unset, .unset, .unset, .unset, .unset, .unset] [(.int i1)])) (fun t k => XS.iloadN X11.here hx rfl (hb hby at_11) rfl k) ?_
    refine own_callS X11 hx hZ hown e11 (hb hby at_12) [(.int i1)] [] 0 (rmCH l Z a0 hw [] i1 h0) (own_w hw 4 rfl) (own_w hw 5 rfl) (own_w hw 6 rfl) (own_w hw 7 rfl) (by decide) pd__I_C (by rw [hml]; rfl) rfl rfl (Nat.le_of_eq rfl) (by decide) (by decide) (by decide) (by decide) ?_
    rintro T35 _ L35 X35 ⟨c0, rfl, hc0, rfl, e35⟩
    rw [List.append_nil] at X35
    show own_Go p e below _ T35 (mkF m 15 #[.val (.int i0), .val (.int i1), .val (.int i2), .val (.int i3), .val (.int i4), .val (.int i5), .val (.int (1 : Int32)), .unset, .unset, .unset, .unset, .unset, .unset, .unset, .unset, .unset, .unset] [(.int c0)])
    refine own_by (T' := T35) (f' := (mkF m 17 #[.val (.int i0), .val (.int i1), .val (.int i2), .val (.int i3), .val (.int i4), .val (.int i5), .val (.int (1 : Int32)), .val (.int c0), .unset, .unset, .unset, .unset, .unset, .unset, .unset, .unset, .unset] [])) (fun t k => XS.istore X35.here hx rfl (hb hby at_15) rfl (l' := #[.val (.int i0), .val (.int i1), .val (.int i2), .val (.int i3), .val (.int i4), .val (.int i5), .val (.int (1 : Int32)), .val (.int c0), .unset, .unset, .unset, .unset, .unset, .unset, .unset, .unset, .unset]) rfl k) ?_
    refine own_by (T' := T35) (f' := (mkF m 18 #[.val (.int i0), .val (.int i1), .val (.int i2), .val (.int i3), .val (.int i4), .val (.int i5), .val (.int (1 : Int32)), .val (.int c0), .unset, .unset, .unset, .unset, .unset, .unset, .unset, .unset, .unset] [(.int i2)])) (fun t k => XS.iloadN X35.here hx rfl (hb hby at_17) rfl k) ?_
    refine own_callS X35 hx hZ hown e35 (hb hby at_18) [(.int i2)] [] 0 (rmCH l Z a0 hw [] i2 h0) (own_w hw 4 rfl) (own_w hw 5 rfl) (own_w hw 6 rfl) (own_w hw 7 rfl) (by decide) pd__I_C (by rw [hml]; rfl) rfl rfl (Nat.le_of_eq rfl) (by decide) (by decide) (by decide) (by decide) ?_
    rintro T36 _ L36 X36 ⟨c1, rfl, hc1, rfl, e36⟩
    rw [List.append_nil] at X36
    show own_Go p e below _ T36 (mkF m 21 #[.val (.int i0), .val (.int i1), .val (.int i2), .val (.int i3), .val (.int i4), .val (.int i5), .val (.int (1 : Int32)), .val (.int c0), .unset, .unset, .unset, .unset, .unset, .unset, .unset, .unset, .unset] [(.int c1)])
    refine own_by (T' := T36) (f' := (mkF m 23 #[.val (.int i0), .val (.int i1), .val (.int i2), .val (.int i3), .val (.int i4), .val (.int i5), .val (.int (1 : Int32)), .val (.int c0), .val (.int c1), .unset, .unset, .unset, .unset, .unset, .unset, .unset, .unset] [])) (fun t k => XS.istore X36.here hx rfl (hb hby at_21) rfl (l' := #[.val (.int i0), .val (.int i1), .val (.int i2), .val (.int i3), .val (.int i4), .val (.int i5), .val (.int (1 : Int32)), .val (.int c0), .val (.int c1), .unset, .unset, .unset, .unset, .unset, .unset, .unset, .unset]) rfl k) ?_
    refine own_by (T' := T36) (f' := (mkF m 24 #[.val (.int i0), .val (.int i1), .val (.int i2), .val (.int i3), .val (.int i4), .val (.int i5), .val (.int (1 : Int32)), .val (.int c0), .val (.int c1), .unset, .unset, .unset, .unset, .unset, .unset, .unset, .unset] [(.int i3)])) (fun t k => XS.iloadN X36.here hx rfl (hb hby at_23) rfl k) ?_
    refine own_callS X36 hx hZ hown e36 (hb hby at_24) [(.int i3)] [] 0 (rmCH l Z a0 hw [] i3 h0) (own_w hw 4 rfl) (own_w hw 5 rfl) (own_w hw 6 rfl) (own_w hw 7 rfl) (by decide) pd__I_C (by rw [hml]; rfl) rfl rfl (Nat.le_of_eq rfl) (by decide) (by decide) (by decide) (by decide) ?_
    rintro T37 _ L37 X37 ⟨c2, rfl, hc2, rfl, e37⟩
    rw [List.append_nil] at X37
    show own_Go p e below _ T37 (mkF m 27 #[.val (.int i0), .val (.int i1), .val (.int i2), .val (.int i3), .val (.int i4), .val (.int i5), .val (.int (1 : Int32)), .val (.int c0), .val (.int c1), .unset, .unset, .unset, .unset, .unset, .unset, .unset, .unset] [(.int c2)])
    refine own_by (T' := T37) (f' := (mkF m 29 #[.val (.int i0), .val (.int i1), .val (.int i2), .val (.int i3), .val (.int i4), .val (.int i5), .val (.int (1 : Int32)), .val (.int c0), .val (.int c1), .val (.int c2), .unset, .unset, .unset, .unset, .unset, .unset, .unset] [])) (fun t k => XS.istore X37.here hx rfl (hb hby at_27) rfl (l' := #[.val (.int i0), .val (.int i1), .val (.int i2), .val (.int i3), .val (.int i4), .val (.int i5), .val (.int (1 : Int32)), .val (.int c0), .val (.int c1), .val (.int c2), .unset, .unset, .unset, .unset, .unset, .unset, .unset]) rfl k) ?_
    refine own_by (T' := T37) (f' := (mkF m 31 #[.val (.int i0), .val (.int i1), .val (.int i2), .val (.int i3), .val (.int i4), .val (.int i5), .val (.int (1 : Int32)), .val (.int c0), .val (.int c1), .val (.int c2), .unset, .unset, .unset, .unset, .unset, .unset, .unset] [(.int i4)])) (fun t k => XS.iload X37.here hx rfl (hb hby at_29) rfl k) ?_
    refine own_callS X37 hx hZ hown e37 (hb hby at_31) [(.int i4)] [] 0 (rmCH l Z a0 hw [] i4 h0) (own_w hw 4 rfl) (own_w hw 5 rfl) (own_w hw 6 rfl) (own_w hw 7 rfl) (by decide) pd__I_C (by rw [hml]; rfl) rfl rfl (Nat.le_of_eq rfl) (by decide) (by decide) (by decide) (by decide) ?_
    rintro T38 _ L38 X38 ⟨c3, rfl, hc3, rfl, e38⟩
    rw [List.append_nil] at X38
    show own_Go p e below _ T38 (mkF m 34 #[.val (.int i0), .val (.int i1), .val (.int i2), .val (.int i3), .val (.int i4), .val (.int i5), .val (.int (1 : Int32)), .val (.int c0), .val (.int c1), .val (.int c2), .unset, .unset, .unset, .unset, .unset, .unset, .unset] [(.int c3)])
    refine own_by (T' := T38) (f' := (mkF m 36 #[.val (.int i0), .val (.int i1), .val (.int i2), .val (.int i3), .val (.int i4), .val (.int i5), .val (.int (1 : Int32)), .val (.int c0), .val (.int c1), .val (.int c2), .val (.int c3), .unset, .unset, .unset, .unset, .unset, .unset] [])) (fun t k => XS.istore X38.here hx rfl (hb hby at_34) rfl (l' := #[.val (.int i0), .val (.int i1), .val (.int i2), .val (.int i3), .val (.int i4), .val (.int i5), .val (.int (1 : Int32)), .val (.int c0), .val (.int c1), .val (.int c2), .val (.int c3), .unset, .unset, .unset, .unset, .unset, .unset]) rfl k) ?_
    refine own_by (T' := T38) (f' := (mkF m 38 #[.val (.int i0), .val (.int i1), .val (.int i2), .val (.int i3), .val (.int i4), .val (.int i5), .val (.int (1 : Int32)), .val (.int c0), .val (.int c1), .val (.int c2), .val (.int c3), .unset, .unset, .unset, .unset, .unset, .unset] [(.int i5)])) (fun t k => XS.iload X38.here hx rfl (hb hby at_36) rfl k) ?_
    refine own_callS X38 hx hZ hown e38 (hb hby at_38) [(.int i5)] [] 0 (rmCH l Z a0 hw [] i5 h0) (own_w hw 4 rfl) (own_w hw 5 rfl) (own_w hw 6 rfl) (own_w hw 7 rfl) (by decide) pd__I_C (by rw [hml]; rfl) rfl rfl (Nat.le_of_eq rfl) (by decide) (by decide) (by decide) (by decide) ?_
    rintro T39 _ L39 X39 ⟨c4, rfl, hc4, rfl, e39⟩
    rw [List.append_nil] at X39
    show own_Go p e below _ T39 (mkF m 41 #[.val (.int i0), .val (.int i1), .val (.int i2), .val (.int i3), .val (.int i4), .val (.int i5), .val (.int (1 : Int32)), .val (.int c0), .val (.int c1), .val (.int c2), .val (.int c3), .unset, .unset, .unset, .unset, .unset, .unset] [(.int c4)])
    refine own_by (T' := T39) (f' := (mkF m 43 #[.val (.int i0), .val (.int i1), .val (.int i2), .val (.int i3), .val (.int i4), .val (.int i5), .val (.int (1 : Int32)), .val (.int c0), .val (.int c1), .val (.int c2), .val (.int c3), .val (.int c4), .unset, .unset, .unset, .unset, .unset] [])) (fun t k => XS.istore X39.here hx rfl (hb hby at_41) rfl (l' := #[.val (.int i0), .val (.int i1), .val (.int i2), .val (.int i3), .val (.int i4), .val (.int i5), .val (.int (1 : Int32)), .val (.int c0), .val (.int c1), .val (.int c2), .val (.int c3), .val (.int c4), .unset, .unset, .unset, .unset, .unset]) rfl k) ?_
    refine own_by (T' := T39) (f' := (mkF m 44 #[.val (.int i0), .val (.int i1), .val (.int i2), .val (.int i3), .val (.int i4), .val (.int i5), .val (.int (1 : Int32)), .val (.int c0), .val (.int c1), .val (.int c2), .val (.int c3), .val (.int c4), .unset, .unset, .unset, .unset, .unset] [(.int i0)])) (fun t k => XS.iloadN X39.here hx rfl (hb hby at_43) rfl k) ?_
    refine own_by (T' := T39) (f' := (mkF m 45 #[.val (.int i0), .val (.int i1), .val (.int i2), .val (.int i3), .val (.int i4), .val (.int i5), .val (.int (1 : Int32)), .val (.int c0), .val (.int c1), .val (.int c2), .val (.int c3), .val (.int c4), .unset, .unset, .unset, .unset, .unset] [(.int (3 : Int32)), (.int i0)])) (fun t k => XS.iconst X39.here hx rfl (hb hby at_44) k) ?_
    refine own_by (T' := T39) (f' := (mkF m 46 #[.val (.int i0), .val (.int i1), .val (.int i2), .val (.int i3), .val (.int i4), .val (.int i5), .val (.int (1 : Int32)), .val (.int c0), .val (.int c1), .val (.int c2), .val (.int c3), .val (.int c4), .unset, .unset, .unset, .unset, .unset] [(.int ((i0.toUInt32 >>> ((3 : Int32) &&& 31).toUInt32).toInt32))])) (fun t k => XS.iushr X39.here hx rfl (hb hby at_45) rfl k) ?_
    refine own_callS X39 hx hZ hown e39 (hb hby at_46) [(.int ((i0.toUInt32 >>> ((3 : Int32) &&& 31).toUInt32).toInt32))] [] 0 (rmCH l Z a0 hw [] ((i0.toUInt32 >>> ((3 : Int32) &&& 31).toUInt32).toInt32) h0) (own_w hw 4 rfl) (own_w hw 5 rfl) (own_w hw 6 rfl) (own_w hw 7 rfl) (by decide) pd__I_C (by rw [hml]; rfl) rfl rfl (Nat.le_of_eq rfl) (by decide) (by decide) (by decide) (by decide) ?_
    rintro T40 _ L40 X40 ⟨c5, rfl, hc5, rfl, e40⟩
    rw [List.append_nil] at X40
    show own_Go p e below _ T40 (mkF m 49 #[.val (.int i0), .val (.int i1), .val (.int i2), .val (.int i3), .val (.int i4), .val (.int i5), .val (.int (1 : Int32)), .val (.int c0), .val (.int c1), .val (.int c2), .val (.int c3), .val (.int c4), .unset, .unset, .unset, .unset, .unset] [(.int c5)])
    refine own_by (T' := T40) (f' := (mkF m 51 #[.val (.int i0), .val (.int i1), .val (.int i2), .val (.int i3), .val (.int i4), .val (.int i5), .val (.int (1 : Int32)), .val (.int c0), .val (.int c1), .val (.int c2), .val (.int c3), .val (.int c4), .val (.int c5), .unset, .unset, .unset, .unset] [])) (fun t k => XS.istore X40.here hx rfl (hb hby at_49) rfl (l' := #[.val (.int i0), .val (.int i1), .val (.int i2), .val (.int i3), .val (.int i4), .val (.int i5), .val (.int (1 : Int32)), .val (.int c0), .val (.int c1), .val (.int c2), .val (.int c3), .val (.int c4), .val (.int c5), .unset, .unset, .unset, .unset]) rfl k) ?_
    refine own_by (T' := T40) (f' := (mkF m 53 #[.val (.int i0), .val (.int i1), .val (.int i2), .val (.int i3), .val (.int i4), .val (.int i5), .val (.int (1 : Int32)), .val (.int c0), .val (.int c1), .val (.int c2), .val (.int c3), .val (.int c4), .val (.int c5), .unset, .unset, .unset, .unset] [(.int (1 : Int32))])) (fun t k => XS.iload X40.here hx rfl (hb hby at_51) rfl k) ?_
    refine own_by (T' := T40) (f' := (mkF m 55 #[.val (.int i0), .val (.int i1), .val (.int i2), .val (.int i3), .val (.int i4), .val (.int i5), .val (.int (1 : Int32)), .val (.int c0), .val (.int c1), .val (.int c2), .val (.int c3), .val (.int c4), .val (.int c5), .unset, .unset, .unset, .unset] [(.int c0), (.int (1 : Int32))])) (fun t k => XS.iload X40.here hx rfl (hb hby at_53) rfl k) ?_
    refine own_by (T' := T40) (f' := (mkF m 57 #[.val (.int i0), .val (.int i1), .val (.int i2), .val (.int i3), .val (.int i4), .val (.int i5), .val (.int (1 : Int32)), .val (.int c0), .val (.int c1), .val (.int c2), .val (.int c3), .val (.int c4), .val (.int c5), .unset, .unset, .unset, .unset] [(.int c1), (.int c0), (.int (1 : Int32))])) (fun t k => XS.iload X40.here hx rfl (hb hby at_55) rfl k) ?_
    refine own_by (T' := T40) (f' := (mkF m 59 #[.val (.int i0), .val (.int i1), .val (.int i2), .val (.int i3), .val (.int i4), .val (.int i5), .val (.int (1 : Int32)), .val (.int c0), .val (.int c1), .val (.int c2), .val (.int c3), .val (.int c4), .val (.int c5), .unset, .unset, .unset, .unset] [(.int c2), (.int c1), (.int c0), (.int (1 : Int32))])) (fun t k => XS.iload X40.here hx rfl (hb hby at_57) rfl k) ?_
    refine own_by (T' := T40) (f' := (mkF m 61 #[.val (.int i0), .val (.int i1), .val (.int i2), .val (.int i3), .val (.int i4), .val (.int i5), .val (.int (1 : Int32)), .val (.int c0), .val (.int c1), .val (.int c2), .val (.int c3), .val (.int c4), .val (.int c5), .unset, .unset, .unset, .unset] [(.int c3), (.int c2), (.int c1), (.int c0), (.int (1 : Int32))])) (fun t k => XS.iload X40.here hx rfl (hb hby at_59) rfl k) ?_
    refine own_by (T' := T40) (f' := (mkF m 63 #[.val (.int i0), .val (.int i1), .val (.int i2), .val (.int i3), .val (.int i4), .val (.int i5), .val (.int (1 : Int32)), .val (.int c0), .val (.int c1), .val (.int c2), .val (.int c3), .val (.int c4), .val (.int c5), .unset, .unset, .unset, .unset] [(.int c4), (.int c3), (.int c2), (.int c1), (.int c0), (.int (1 : Int32))])) (fun t k => XS.iload X40.here hx rfl (hb hby at_61) rfl k) ?_
    refine own_by (T' := T40) (f' := (mkF m 65 #[.val (.int i0), .val (.int i1), .val (.int i2), .val (.int i3), .val (.int i4), .val (.int i5), .val (.int (1 : Int32)), .val (.int c0), .val (.int c1), .val (.int c2), .val (.int c3), .val (.int c4), .val (.int c5), .unset, .unset, .unset, .unset] [(.int c5), (.int c4), (.int c3), (.int c2), (.int c1), (.int c0), (.int (1 : Int32))])) (fun t k => XS.iload X40.here hx rfl (hb hby at_63) rfl k) ?_
    refine own_callS X40 hx hZ hown e40 (hb hby at_65) [(.int (1 : Int32)), (.int c0), (.int c1), (.int c2), (.int c3), (.int c4), (.int c5)] [] 0 (rmMK1 l Z a0 hw [] c0 c1 c2 c3 c4 c5 h0 n0 Z0 hc0 hc1 hc2 hc3 hc4 hc5) (own_w hw 9 rfl) (own_w hw 10 rfl) (own_w hw 6 rfl) (own_w hw 11 rfl) (by decide) pd__ICCCCCC__C (by rw [hml]; rfl) rfl rfl (Nat.le_of_eq rfl) (by decide) (by decide) (by decide) (by decide) ?_
    rintro T41 _ L41 X41 ⟨b41, rfl, N41q, K41, gb41, B41⟩
    show own_Go p e below _ T41 (mkF m 68 #[.val (.int i0), .val (.int i1), .val (.int i2), .val (.int i3), .val (.int i4), .val (.int i5), .val (.int (1 : Int32)), .val (.int c0), .val (.int c1), .val (.int c2), .val (.int c3), .val (.int c4), .val (.int c5), .unset, .unset, .unset, .unset] [(.ref b41)])
    have N41 := Fr.app N0 N41q
    have hk := Nat.le_trans hk K41.1
    have CH := CH.trans (CHr.keep K41 all0 CH.1)
    have sz42 : n0 ≤ T41.heap.size := Nat.le_trans Z0 K41.1
    refine own_by (T' := T41) (f' := (mkF m 70 #[.val (.int i0), .val (.int i1), .val (.int i2), .val (.int i3), .val (.int i4), .val (.int i5), .val (.int (1 : Int32)), .val (.int c0), .val (.int c1), .val (.int c2), .val (.int c3), .val (.int c4), .val (.int c5), .val (.ref b41), .unset, .unset, .unset] [])) (fun t k => XS.astore X41.here hx rfl (hb hby at_68) rfl rfl (l' := #[.val (.int i0), .val (.int i1), .val (.int i2), .val (.int i3), .val (.int i4), .val (.int i5), .val (.int (1 : Int32)), .val (.int c0), .val (.int c1), .val (.int c2), .val (.int c3), .val (.int c4), .val (.int c5), .val (.ref b41), .unset, .unset, .unset]) rfl k) ?_
    refine own_new X41 hx hZ hown rfl (hb hby at_70) (own_w hw 13 rfl) (own_w hw 14 rfl) (own_w hw 15 rfl) (by decide) (by decide) ?_
    intro T43 h43 b43 X43 e43 g43 E43 A43 D43
    have ne43_b41 : b41 ≠ b43 := Nat.ne_of_lt (by rw [g43]; exact B41.lt)
    have gn43 : n0 ≤ b43 := by rw [g43]; exact sz42
    show own_Go p e below _ T43 (mkF m 73 #[.val (.int i0), .val (.int i1), .val (.int i2), .val (.int i3), .val (.int i4), .val (.int i5), .val (.int (1 : Int32)), .val (.int c0), .val (.int c1), .val (.int c2), .val (.int c3), .val (.int c4), .val (.int c5), .val (.ref b41), .unset, .unset, .unset] [(.ref b43)])
    have S_b43 := Safe.ext E43 CH.1 (Safe.new (Nat.le_of_eq g43.symm))
    have hk := Nat.le_trans hk E43.1
    have CH := CH.trans (CHr.ext E43 CH.1)
    have F43_value : Fld Z h43 b43 "java/lang/String" "value" "[B" .null := D43 (Or.inr (own_w hw 28 rfl)) (ty := (.array .byte)) (by decide)
    have F43_coder : Fld Z h43 b43 "java/lang/String" "coder" "B" (.int (0 : Int32)) := D43 (Or.inr (own_w hw 29 rfl)) (ty := .byte) (by decide)
    have sz44 : n0 ≤ h43.size := Nat.le_trans sz42 E43.1
    refine own_by (T' := T43) (f' := (mkF m 74 #[.val (.int i0), .val (.int i1), .val (.int i2), .val (.int i3), .val (.int i4), .val (.int i5), .val (.int (1 : Int32)), .val (.int c0), .val (.int c1), .val (.int c2), .val (.int c3), .val (.int c4), .val (.int c5), .val (.ref b41), .unset, .unset, .unset] [(.ref b43), (.ref b43)])) (fun t k => XS.dup X43.here hx rfl (hb hby at_73) rfl rfl k) ?_
    refine own_by (T' := T43) (f' := (mkF m 76 #[.val (.int i0), .val (.int i1), .val (.int i2), .val (.int i3), .val (.int i4), .val (.int i5), .val (.int (1 : Int32)), .val (.int c0), .val (.int c1), .val (.int c2), .val (.int c3), .val (.int c4), .val (.int c5), .val (.ref b41), .unset, .unset, .unset] [(.ref b41), (.ref b43), (.ref b43)])) (fun t k => XS.aload X43.here hx rfl (hb hby at_74) rfl rfl k) ?_
    have q45 : ∀ x ∈ [b43], ∃ c : Cell, h43[x]? = some c ∧ c.vm.isStatics = false := (allS (own_ns A43) all0)
    have f46 := (B41.ext E43)
    have f47 := ((ST.keep K41 all0).ext E43)
    refine own_callN X43 hx hZ hown e43 (hb hby at_76) [(.ref b41)] [(.ref b43)] 1 (rmI1 l Z a0 hw [] b43 b41 (1 : Int32) 1 (fun i => List.getD [c0] i 0) _ _ cs fm h43 n0 sz44 gn43 (by decide) (by decide) (by decide) (fun i hi => by match i, hi with | 0, _ => exact hc0 | (q + 1), h => exact absurd h (by omega)) f46 ne43_b41 A43 F43_value F43_coder f47) (own_w hw 16 rfl) (own_w hw 17 rfl) (own_w hw 15 rfl) (own_w hw 18 rfl) rfl (by decide) pd___C_V (by rw [hml]; rfl) rfl rfl (Nat.le_of_eq rfl) (by decide) (by decide) (by decide) (by decide) ?_
    rintro T48 _ L48 X48 ⟨rfl, N48q, K48, Q48⟩
    show own_Go p e below _ T48 (mkF m 79 #[.val (.int i0), .val (.int i1), .val (.int i2), .val (.int i3), .val (.int i4), .val (.int i5), .val (.int (1 : Int32)), .val (.int c0), .val (.int c1), .val (.int c2), .val (.int c3), .val (.int c4), .val (.int c5), .val (.ref b41), .unset, .unset, .unset] [(.ref b43)])
    have S_b43' := Safe.keep K48 (allS S_b43 all0) CH.1 S_b43
    have hk := Nat.le_trans hk K48.1
    have CH := CH.trans (CHr.keep K48 (allS S_b43 all0) CH.1)
    have S_b43 := S_b43'
    have N48 := Fr.app N41 N48q
    have sz49 : n0 ≤ T48.heap.size := Nat.le_trans sz44 K48.1
    refine own_by (T' := T48) (f' := (mkF m 81 #[.val (.int i0), .val (.int i1), .val (.int i2), .val (.int i3), .val (.int i4), .val (.int i5), .val (.int (1 : Int32)), .val (.int c0), .val (.int c1), .val (.int c2), .val (.int c3), .val (.int c4), .val (.int c5), .val (.ref b41), .val (.ref b43), .unset, .unset] [])) (fun t k => XS.astore X48.here hx rfl (hb hby at_79) rfl rfl (l' := #[.val (.int i0), .val (.int i1), .val (.int i2), .val (.int i3), .val (.int i4), .val (.int i5), .val (.int (1 : Int32)), .val (.int c0), .val (.int c1), .val (.int c2), .val (.int c3), .val (.int c4), .val (.int c5), .val (.ref b41), .val (.ref b43), .unset, .unset]) rfl k) ?_
    refine own_by (T' := T48) (f' := (mkF m 82 #[.val (.int i0), .val (.int i1), .val (.int i2), .val (.int i3), .val (.int i4), .val (.int i5), .val (.int (1 : Int32)), .val (.int c0), .val (.int c1), .val (.int c2), .val (.int c3), .val (.int c4), .val (.int c5), .val (.ref b41), .val (.ref b43), .unset, .unset] [(.int (0 : Int32))])) (fun t k => XS.iconst X48.here hx rfl (hb hby at_81) k) ?_
    refine own_by (T' := T48) (f' := (mkF m 84 #[.val (.int i0), .val (.int i1), .val (.int i2), .val (.int i3), .val (.int i4), .val (.int i5), .val (.int (1 : Int32)), .val (.int c0), .val (.int c1), .val (.int c2), .val (.int c3), .val (.int c4), .val (.int c5), .val (.ref b41), .val (.ref b43), .val (.int (0 : Int32)), .unset] [])) (fun t k => XS.istore X48.here hx rfl (hb hby at_82) rfl (l' := #[.val (.int i0), .val (.int i1), .val (.int i2), .val (.int i3), .val (.int i4), .val (.int i5), .val (.int (1 : Int32)), .val (.int c0), .val (.int c1), .val (.int c2), .val (.int c3), .val (.int c4), .val (.int c5), .val (.ref b41), .val (.ref b43), .val (.int (0 : Int32)), .unset]) rfl k) ?_
    refine own_by (T' := T48) (f' := (mkF m 86 #[.val (.int i0), .val (.int i1), .val (.int i2), .val (.int i3), .val (.int i4), .val (.int i5), .val (.int (1 : Int32)), .val (.int c0), .val (.int c1), .val (.int c2), .val (.int c3), .val (.int c4), .val (.int c5), .val (.ref b41), .val (.ref b43), .val (.int (0 : Int32)), .unset] [(.int (1 : Int32))])) (fun t k => XS.iload X48.here hx rfl (hb hby at_84) rfl k) ?_
    refine own_by (T' := T48) (f' := (mkF m 89 #[.val (.int i0), .val (.int i1), .val (.int i2), .val (.int i3), .val (.int i4), .val (.int i5), .val (.int (1 : Int32)), .val (.int c0), .val (.int c1), .val (.int c2), .val (.int c3), .val (.int c4), .val (.int c5), .val (.ref b41), .val (.ref b43), .val (.int (0 : Int32)), .unset] [])) (fun t k => XS.ifNo X48.here hx rfl (hb hby at_86) rfl ((if0 _ _).trans (tlt (by decide)).2.2.2) k) ?_
    refine own_by (T' := T48) (f' := (mkF m 91 #[.val (.int i0), .val (.int i1), .val (.int i2), .val (.int i3), .val (.int i4), .val (.int i5), .val (.int (1 : Int32)), .val (.int c0), .val (.int c1), .val (.int c2), .val (.int c3), .val (.int c4), .val (.int c5), .val (.ref b41), .val (.ref b43), .val (.int (0 : Int32)), .unset] [(.int (0 : Int32))])) (fun t k => XS.iload X48.here hx rfl (hb hby at_89) rfl k) ?_
    refine own_by (T' := T48) (f' := (mkF m 93 #[.val (.int i0), .val (.int i1), .val (.int i2), .val (.int i3), .val (.int i4), .val (.int i5), .val (.int (1 : Int32)), .val (.int c0), .val (.int c1), .val (.int c2), .val (.int c3), .val (.int c4), .val (.int c5), .val (.ref b41), .val (.ref b43), .val (.int (0 : Int32)), .unset] [(.int c0), (.int (0 : Int32))])) (fun t k => XS.iload X48.here hx rfl (hb hby at_91) rfl k) ?_
    refine own_callS X48 hx hZ hown rfl (hb hby at_93) [(.int (0 : Int32)), (.int c0)] [] 0 (rmSP l Z a0 hw [] (0 : Int32) c0 0 T48.heap rfl (by decide)) (own_w hw 65 rfl) (own_w hw 66 rfl) (own_w hw 6 rfl) (own_w hw 67 rfl) (by decide) pd__IC_I (by rw [hml]; rfl) rfl rfl (Nat.le_of_eq rfl) (by decide) (by decide) (by decide) (by decide) ?_
    rintro T50 _ L50 X50 ⟨rfl, rfl, e50⟩
    show own_Go p e below _ T50 (mkF m 96 #[.val (.int i0), .val (.int i1), .val (.int i2), .val (.int i3), .val (.int i4), .val (.int i5), .val (.int (1 : Int32)), .val (.int c0), .val (.int c1), .val (.int c2), .val (.int c3), .val (.int c4), .val (.int c5), .val (.ref b41), .val (.ref b43), .val (.int (0 : Int32)), .unset] [(.int (own_i9 (own_st 0 (own_cl c0))))])
    rw [List.append_nil] at X50
    refine own_by (T' := T50) (f' := (mkF m 98 #[.val (.int i0), .val (.int i1), .val (.int i2), .val (.int i3), .val (.int i4), .val (.int i5), .val (.int (1 : Int32)), .val (.int c0), .val (.int c1), .val (.int c2), .val (.int c3), .val (.int c4), .val (.int c5), .val (.ref b41), .val (.ref b43), .val (.int (own_i9 (own_st 0 (own_cl c0)))), .unset] [])) (fun t k => XS.istore X50.here hx rfl (hb hby at_96) rfl (l' := #[.val (.int i0), .val (.int i1), .val (.int i2), .val (.int i3), .val (.int i4), .val (.int i5), .val (.int (1 : Int32)), .val (.int c0), .val (.int c1), .val (.int c2), .val (.int c3), .val (.int c4), .val (.int c5), .val (.ref b41), .val (.ref b43), .val (.int (own_i9 (own_st 0 (own_cl c0)))), .unset]) rfl k) ?_
    refine own_by (T' := T50) (f' := (mkF m 100 #[.val (.int i0), .val (.int i1), .val (.int i2), .val (.int i3), .val (.int i4), .val (.int i5), .val (.int (1 : Int32)), .val (.int c0), .val (.int c1), .val (.int c2), .val (.int c3), .val (.int c4), .val (.int c5), .val (.ref b41), .val (.ref b43), .val (.int (own_i9 (own_st 0 (own_cl c0)))), .unset] [(.int (1 : Int32))])) (fun t k => XS.iload X50.here hx rfl (hb hby at_98) rfl k) ?_
    refine own_by (T' := T50) (f' := (mkF m 101 #[.val (.int i0), .val (.int i1), .val (.int i2), .val (.int i3), .val (.int i4), .val (.int i5), .val (.int (1 : Int32)), .val (.int c0), .val (.int c1), .val (.int c2), .val (.int c3), .val (.int c4), .val (.int c5), .val (.ref b41), .val (.ref b43), .val (.int (own_i9 (own_st 0 (own_cl c0)))), .unset] [(.int (1 : Int32)), (.int (1 : Int32))])) (fun t k => XS.iconst X50.here hx rfl (hb hby at_100) k) ?_
    refine own_by (T' := T50) (f' := (mkF m 113 #[.val (.int i0), .val (.int i1), .val (.int i2), .val (.int i3), .val (.int i4), .val (.int i5), .val (.int (1 : Int32)), .val (.int c0), .val (.int c1), .val (.int c2), .val (.int c3), .val (.int c4), .val (.int c5), .val (.ref b41), .val (.ref b43), .val (.int (own_i9 (own_st 0 (own_cl c0)))), .unset] [])) (fun t k => XS.icmpYes X50.here hx rfl (pc0 := 101) (pc' := 113) rfl (hb hby at_101) rfl (flt (by decide)).2.2.2 (by decide) (by decide) k) ?_
    refine own_by (T' := T50) (f' := (mkF m 115 #[.val (.int i0), .val (.int i1), .val (.int i2), .val (.int i3), .val (.int i4), .val (.int i5), .val (.int (1 : Int32)), .val (.int c0), .val (.int c1), .val (.int c2), .val (.int c3), .val (.int c4), .val (.int c5), .val (.ref b41), .val (.ref b43), .val (.int (own_i9 (own_st 0 (own_cl c0)))), .unset] [(.int (1 : Int32))])) (fun t k => XS.iload X50.here hx rfl (hb hby at_113) rfl k) ?_
    refine own_by (T' := T50) (f' := (mkF m 116 #[.val (.int i0), .val (.int i1), .val (.int i2), .val (.int i3), .val (.int i4), .val (.int i5), .val (.int (1 : Int32)), .val (.int c0), .val (.int c1), .val (.int c2), .val (.int c3), .val (.int c4), .val (.int c5), .val (.ref b41), .val (.ref b43), .val (.int (own_i9 (own_st 0 (own_cl c0)))), .unset] [(.int (2 : Int32)), (.int (1 : Int32))])) (fun t k => XS.iconst X50.here hx rfl (hb hby at_115) k) ?_
    refine own_by (T' := T50) (f' := (mkF m 128 #[.val (.int i0), .val (.int i1), .val (.int i2), .val (.int i3), .val (.int i4), .val (.int i5), .val (.int (1 : Int32)), .val (.int c0), .val (.int c1), .val (.int c2), .val (.int c3), .val (.int c4), .val (.int c5), .val (.ref b41), .val (.ref b43), .val (.int (own_i9 (own_st 0 (own_cl c0)))), .unset] [])) (fun t k => XS.icmpYes X50.here hx rfl (pc0 := 116) (pc' := 128) rfl (hb hby at_116) rfl (flt (by decide)).2.2.2 (by decide) (by decide) k) ?_
    refine own_by (T' := T50) (f' := (mkF m 130 #[.val (.int i0), .val (.int i1), .val (.int i2), .val (.int i3), .val (.int i4), .val (.int i5), .val (.int (1 : Int32)), .val (.int c0), .val (.int c1), .val (.int c2), .val (.int c3), .val (.int c4), .val (.int c5), .val (.ref b41), .val (.ref b43), .val (.int (own_i9 (own_st 0 (own_cl c0)))), .unset] [(.int (1 : Int32))])) (fun t k => XS.iload X50.here hx rfl (hb hby at_128) rfl k) ?_
    refine own_by (T' := T50) (f' := (mkF m 131 #[.val (.int i0), .val (.int i1), .val (.int i2), .val (.int i3), .val (.int i4), .val (.int i5), .val (.int (1 : Int32)), .val (.int c0), .val (.int c1), .val (.int c2), .val (.int c3), .val (.int c4), .val (.int c5), .val (.ref b41), .val (.ref b43), .val (.int (own_i9 (own_st 0 (own_cl c0)))), .unset] [(.int (3 : Int32)), (.int (1 : Int32))])) (fun t k => XS.iconst X50.here hx rfl (hb hby at_130) k) ?_
    refine own_by (T' := T50) (f' := (mkF m 143 #[.val (.int i0), .val (.int i1), .val (.int i2), .val (.int i3), .val (.int i4), .val (.int i5), .val (.int (1 : Int32)), .val (.int c0), .val (.int c1), .val (.int c2), .val (.int c3), .val (.int c4), .val (.int c5), .val (.ref b41), .val (.ref b43), .val (.int (own_i9 (own_st 0 (own_cl c0)))), .unset] [])) (fun t k => XS.icmpYes X50.here hx rfl (pc0 := 131) (pc' := 143) rfl (hb hby at_131) rfl (flt (by decide)).2.2.2 (by decide) (by decide) k) ?_
    refine own_by (T' := T50) (f' := (mkF m 145 #[.val (.int i0), .val (.int i1), .val (.int i2), .val (.int i3), .val (.int i4), .val (.int i5), .val (.int (1 : Int32)), .val (.int c0), .val (.int c1), .val (.int c2), .val (.int c3), .val (.int c4), .val (.int c5), .val (.ref b41), .val (.ref b43), .val (.int (own_i9 (own_st 0 (own_cl c0)))), .unset] [(.int (1 : Int32))])) (fun t k => XS.iload X50.here hx rfl (hb hby at_143) rfl k) ?_
    refine own_by (T' := T50) (f' := (mkF m 146 #[.val (.int i0), .val (.int i1), .val (.int i2), .val (.int i3), .val (.int i4), .val (.int i5), .val (.int (1 : Int32)), .val (.int c0), .val (.int c1), .val (.int c2), .val (.int c3), .val (.int c4), .val (.int c5), .val (.ref b41), .val (.ref b43), .val (.int (own_i9 (own_st 0 (own_cl c0)))), .unset] [(.int (4 : Int32)), (.int (1 : Int32))])) (fun t k => XS.iconst X50.here hx rfl (hb hby at_145) k) ?_
    refine own_by (T' := T50) (f' := (mkF m 158 #[.val (.int i0), .val (.int i1), .val (.int i2), .val (.int i3), .val (.int i4), .val (.int i5), .val (.int (1 : Int32)), .val (.int c0), .val (.int c1), .val (.int c2), .val (.int c3), .val (.int c4), .val (.int c5), .val (.ref b41), .val (.ref b43), .val (.int (own_i9 (own_st 0 (own_cl c0)))), .unset] [])) (fun t k => XS.icmpYes X50.here hx rfl (pc0 := 146) (pc' := 158) rfl (hb hby at_146) rfl (flt (by decide)).2.2.2 (by decide) (by decide) k) ?_
    refine own_by (T' := T50) (f' := (mkF m 160 #[.val (.int i0), .val (.int i1), .val (.int i2), .val (.int i3), .val (.int i4), .val (.int i5), .val (.int (1 : Int32)), .val (.int c0), .val (.int c1), .val (.int c2), .val (.int c3), .val (.int c4), .val (.int c5), .val (.ref b41), .val (.ref b43), .val (.int (own_i9 (own_st 0 (own_cl c0)))), .unset] [(.int (1 : Int32))])) (fun t k => XS.iload X50.here hx rfl (hb hby at_158) rfl k) ?_
    refine own_by (T' := T50) (f' := (mkF m 161 #[.val (.int i0), .val (.int i1), .val (.int i2), .val (.int i3), .val (.int i4), .val (.int i5), .val (.int (1 : Int32)), .val (.int c0), .val (.int c1), .val (.int c2), .val (.int c3), .val (.int c4), .val (.int c5), .val (.ref b41), .val (.ref b43), .val (.int (own_i9 (own_st 0 (own_cl c0)))), .unset] [(.int (5 : Int32)), (.int (1 : Int32))])) (fun t k => XS.iconst X50.here hx rfl (hb hby at_160) k) ?_
    refine own_by (T' := T50) (f' := (mkF m 173 #[.val (.int i0), .val (.int i1), .val (.int i2), .val (.int i3), .val (.int i4), .val (.int i5), .val (.int (1 : Int32)), .val (.int c0), .val (.int c1), .val (.int c2), .val (.int c3), .val (.int c4), .val (.int c5), .val (.ref b41), .val (.ref b43), .val (.int (own_i9 (own_st 0 (own_cl c0)))), .unset] [])) (fun t k => XS.icmpYes X50.here hx rfl (pc0 := 161) (pc' := 173) rfl (hb hby at_161) rfl (flt (by decide)).2.2.2 (by decide) (by decide) k) ?_
    refine own_by (T' := T50) (f' := (mkF m 175 #[.val (.int i0), .val (.int i1), .val (.int i2), .val (.int i3), .val (.int i4), .val (.int i5), .val (.int (1 : Int32)), .val (.int c0), .val (.int c1), .val (.int c2), .val (.int c3), .val (.int c4), .val (.int c5), .val (.ref b41), .val (.ref b43), .val (.int (own_i9 (own_st 0 (own_cl c0)))), .unset] [(.int (own_i9 (own_st 0 (own_cl c0))))])) (fun t k => XS.iload X50.here hx rfl (hb hby at_173) rfl k) ?_
    refine own_by (T' := T50) (f' := (mkF m 176 #[.val (.int i0), .val (.int i1), .val (.int i2), .val (.int i3), .val (.int i4), .val (.int i5), .val (.int (1 : Int32)), .val (.int c0), .val (.int c1), .val (.int c2), .val (.int c3), .val (.int c4), .val (.int c5), .val (.ref b41), .val (.ref b43), .val (.int (own_i9 (own_st 0 (own_cl c0)))), .unset] [(.int (2 : Int32)), (.int (own_i9 (own_st 0 (own_cl c0))))])) (fun t k => XS.iconst X50.here hx rfl (hb hby at_175) k) ?_
    have mg54 : ∀ t, Steps p.tables e below (T50.setTop (mkF m 197 #[.val (.int i0), .val (.int i1), .val (.int i2), .val (.int i3), .val (.int i4), .val (.int i5), .val (.int (1 : Int32)), .val (.int c0), .val (.int c1), .val (.int c2), .val (.int c3), .val (.int c4), .val (.int c5), .val (.ref b41), .val (.ref b43), .val (.int (own_i9 (own_st 0 (own_cl c0)))), .unset] [(.int (if (own_i9 (own_st 0 (own_cl c0))) = (2 : Int32) then (1 : Int32) else (if (own_i9 (own_st 0 (own_cl c0))) = (4 : Int32) then (1 : Int32) else (if (own_i9 (own_st 0 (own_cl c0))) = (7 : Int32) then (1 : Int32) else (0 : Int32)))))])) t → Steps p.tables e below (T50.setTop (mkF m 176 #[.val (.int i0), .val (.int i1), .val (.int i2), .val (.int i3), .val (.int i4), .val (.int i5), .val (.int (1 : Int32)), .val (.int c0), .val (.int c1), .val (.int c2), .val (.int c3), .val (.int c4), .val (.int c5), .val (.ref b41), .val (.ref b43), .val (.int (own_i9 (own_st 0 (own_cl c0)))), .unset] [(.int (2 : Int32)), (.int (own_i9 (own_st 0 (own_cl c0))))])) t := by
      intro t k0
      by_cases hm51 : (own_i9 (own_st 0 (own_cl c0))) = (2 : Int32)
      · skip
        refine XS.icmpYes X50.here hx rfl (pc0 := 176) (pc' := 192) rfl (hb hby at_176) rfl (teq hm51).1 (by decide) (by decide) ?_
        show Steps p.tables e below (T50.setTop (mkF m 192 #[.val (.int i0), .val (.int i1), .val (.int i2), .val (.int i3), .val (.int i4), .val (.int i5), .val (.int (1 : Int32)), .val (.int c0), .val (.int c1), .val (.int c2), .val (.int c3), .val (.int c4), .val (.int c5), .val (.ref b41), .val (.ref b43), .val (.int (own_i9 (own_st 0 (own_cl c0)))), .unset] [])) _
        refine XS.iconst X50.here hx rfl (hb hby at_192) ?_
        show Steps p.tables e below (T50.setTop (mkF m 193 #[.val (.int i0), .val (.int i1), .val (.int i2), .val (.int i3), .val (.int i4), .val (.int i5), .val (.int (1 : Int32)), .val (.int c0), .val (.int c1), .val (.int c2), .val (.int c3), .val (.int c4), .val (.int c5), .val (.ref b41), .val (.ref b43), .val (.int (own_i9 (own_st 0 (own_cl c0)))), .unset] [(.int (1 : Int32))])) _
        refine XS.goto X50.here hx rfl (pc0 := 193) (pc' := 197) rfl (hb hby at_193) (by decide) (by decide) ?_
        show Steps p.tables e below (T50.setTop (mkF m 197 #[.val (.int i0), .val (.int i1), .val (.int i2), .val (.int i3), .val (.int i4), .val (.int i5), .val (.int (1 : Int32)), .val (.int c0), .val (.int c1), .val (.int c2), .val (.int c3), .val (.int c4), .val (.int c5), .val (.ref b41), .val (.ref b43), .val (.int (own_i9 (own_st 0 (own_cl c0)))), .unset] [(.int (1 : Int32))])) _
        try simp only [if_pos hm51] at k0
        exact k0
      · skip
        refine XS.icmpNo X50.here hx rfl (hb hby at_176) rfl (feq hm51).1 ?_
        show Steps p.tables e below (T50.setTop (mkF m 179 #[.val (.int i0), .val (.int i1), .val (.int i2), .val (.int i3), .val (.int i4), .val (.int i5), .val (.int (1 : Int32)), .val (.int c0), .val (.int c1), .val (.int c2), .val (.int c3), .val (.int c4), .val (.int c5), .val (.ref b41), .val (.ref b43), .val (.int (own_i9 (own_st 0 (own_cl c0)))), .unset] [])) _
        refine XS.iload X50.here hx rfl (hb hby at_179) rfl ?_
        show Steps p.tables e below (T50.setTop (mkF m 181 #[.val (.int i0), .val (.int i1), .val (.int i2), .val (.int i3), .val (.int i4), .val (.int i5), .val (.int (1 : Int32)), .val (.int c0), .val (.int c1), .val (.int c2), .val (.int c3), .val (.int c4), .val (.int c5), .val (.ref b41), .val (.ref b43), .val (.int (own_i9 (own_st 0 (own_cl c0)))), .unset] [(.int (own_i9 (own_st 0 (own_cl c0))))])) _
        refine XS.iconst X50.here hx rfl (hb hby at_181) ?_
        show Steps p.tables e below (T50.setTop (mkF m 182 #[.val (.int i0), .val (.int i1), .val (.int i2), .val (.int i3), .val (.int i4), .val (.int i5), .val (.int (1 : Int32)), .val (.int c0), .val (.int c1), .val (.int c2), .val (.int c3), .val (.int c4), .val (.int c5), .val (.ref b41), .val (.ref b43), .val (.int (own_i9 (own_st 0 (own_cl c0)))), .unset] [(.int (4 : Int32)), (.int (own_i9 (own_st 0 (own_cl c0))))])) _
        by_cases hm52 : (own_i9 (own_st 0 (own_cl c0))) = (4 : Int32)
        · skip
          refine XS.icmpYes X50.here hx rfl (pc0 := 182) (pc' := 192) rfl (hb hby at_182) rfl (teq hm52).1 (by decide) (by decide) ?_
          show Steps p.tables e below (T50.setTop (mkF m 192 #[.val (.int i0), .val (.int i1), .val (.int i2), .val (.int i3), .val (.int i4), .val (.int i5), .val (.int (1 : Int32)), .val (.int c0), .val (.int c1), .val (.int c2), .val (.int c3), .val (.int c4), .val (.int c5), .val (.ref b41), .val (.ref b43), .val (.int (own_i9 (own_st 0 (own_cl c0)))), .unset] [])) _
          refine XS.iconst X50.here hx rfl (hb hby at_192) ?_
          show Steps p.tables e below (T50.setTop (mkF m 193 #[.val (.int i0), .val (.int i1), .val (.int i2), .val (.int i3), .val (.int i4), .val (.int i5), .val (.int (1 : Int32)), .val (.int c0), .val (.int c1), .val (.int c2), .val (.int c3), .val (.int c4), .val (.int c5), .val (.ref b41), .val (.ref b43), .val (.int (own_i9 (own_st 0 (own_cl c0)))), .unset] [(.int (1 : Int32))])) _
          refine XS.goto X50.here hx rfl (pc0 := 193) (pc' := 197) rfl (hb hby at_193) (by decide) (by decide) ?_
          show Steps p.tables e below (T50.setTop (mkF m 197 #[.val (.int i0), .val (.int i1), .val (.int i2), .val (.int i3), .val (.int i4), .val (.int i5), .val (.int (1 : Int32)), .val (.int c0), .val (.int c1), .val (.int c2), .val (.int c3), .val (.int c4), .val (.int c5), .val (.ref b41), .val (.ref b43), .val (.int (own_i9 (own_st 0 (own_cl c0)))), .unset] [(.int (1 : Int32))])) _
          try simp only [if_neg hm51, if_pos hm52] at k0
          exact k0
        · skip
          refine XS.icmpNo X50.here hx rfl (hb hby at_182) rfl (feq hm52).1 ?_
          show Steps p.tables e below (T50.setTop (mkF m 185 #[.val (.int i0), .val (.int i1), .val (.int i2), .val (.int i3), .val (.int i4), .val (.int i5), .val (.int (1 : Int32)), .val (.int c0), .val (.int c1), .val (.int c2), .val (.int c3), .val (.int c4), .val (.int c5), .val (.ref b41), .val (.ref b43), .val (.int (own_i9 (own_st 0 (own_cl c0)))), .unset] [])) _
          refine XS.iload X50.here hx rfl (hb hby at_185) rfl ?_
          show Steps p.tables e below (T50.setTop (mkF m 187 #[.val (.int i0), .val (.int i1), .val (.int i2), .val (.int i3), .val (.int i4), .val (.int i5), .val (.int (1 : Int32)), .val (.int c0), .val (.int c1), .val (.int c2), .val (.int c3), .val (.int c4), .val (.int c5), .val (.ref b41), .val (.ref b43), .val (.int (own_i9 (own_st 0 (own_cl c0)))), .unset] [(.int (own_i9 (own_st 0 (own_cl c0))))])) _
          refine XS.bipush X50.here hx rfl (hb hby at_187) ?_
          show Steps p.tables e below (T50.setTop (mkF m 189 #[.val (.int i0), .val (.int i1), .val (.int i2), .val (.int i3), .val (.int i4), .val (.int i5), .val (.int (1 : Int32)), .val (.int c0), .val (.int c1), .val (.int c2), .val (.int c3), .val (.int c4), .val (.int c5), .val (.ref b41), .val (.ref b43), .val (.int (own_i9 (own_st 0 (own_cl c0)))), .unset] [(.int (7 : Int32)), (.int (own_i9 (own_st 0 (own_cl c0))))])) _
          by_cases hm53 : (own_i9 (own_st 0 (own_cl c0))) = (7 : Int32)
          · skip
            refine XS.icmpNo X50.here hx rfl (hb hby at_189) rfl (teq hm53).2 ?_
            show Steps p.tables e below (T50.setTop (mkF m 192 #[.val (.int i0), .val (.int i1), .val (.int i2), .val (.int i3), .val (.int i4), .val (.int i5), .val (.int (1 : Int32)), .val (.int c0), .val (.int c1), .val (.int c2), .val (.int c3), .val (.int c4), .val (.int c5), .val (.ref b41), .val (.ref b43), .val (.int (own_i9 (own_st 0 (own_cl c0)))), .unset] [])) _
            refine XS.iconst X50.here hx rfl (hb hby at_192) ?_
            show Steps p.tables e below (T50.setTop (mkF m 193 #[.val (.int i0), .val (.int i1), .val (.int i2), .val (.int i3), .val (.int i4), .val (.int i5), .val (.int (1 : Int32)), .val (.int c0), .val (.int c1), .val (.int c2), .val (.int c3), .val (.int c4), .val (.int c5), .val (.ref b41), .val (.ref b43), .val (.int (own_i9 (own_st 0 (own_cl c0)))), .unset] [(.int (1 : Int32))])) _
            refine XS.goto X50.here hx rfl (pc0 := 193) (pc' := 197) rfl (hb hby at_193) (by decide) (by decide) ?_
            show Steps p.tables e below (T50.setTop (mkF m 197 #[.val (.int i0), .val (.int i1), .val (.int i2), .val (.int i3), .val (.int i4), .val (.int i5), .val (.int (1 : Int32)), .val (.int c0), .val (.int c1), .val (.int c2), .val (.int c3), .val (.int c4), .val (.int c5), .val (.ref b41), .val (.ref b43), .val (.int (own_i9 (own_st 0 (own_cl c0)))), .unset] [(.int (1 : Int32))])) _
            try simp only [if_neg hm51, if_neg hm52, if_pos hm53] at k0
            exact k0
          · skip
            refine XS.icmpYes X50.here hx rfl (pc0 := 189) (pc' := 196) rfl (hb hby at_189) rfl (feq hm53).2 (by decide) (by decide) ?_
            show Steps p.tables e below (T50.setTop (mkF m 196 #[.val (.int i0), .val (.int i1), .val (.int i2), .val (.int i3), .val (.int i4), .val (.int i5), .val (.int (1 : Int32)), .val (.int c0), .val (.int c1), .val (.int c2), .val (.int c3), .val (.int c4), .val (.int c5), .val (.ref b41), .val (.ref b43), .val (.int (own_i9 (own_st 0 (own_cl c0)))), .unset] [])) _
            refine XS.iconst X50.here hx rfl (hb hby at_196) ?_
            show Steps p.tables e below (T50.setTop (mkF m 197 #[.val (.int i0), .val (.int i1), .val (.int i2), .val (.int i3), .val (.int i4), .val (.int i5), .val (.int (1 : Int32)), .val (.int c0), .val (.int c1), .val (.int c2), .val (.int c3), .val (.int c4), .val (.int c5), .val (.ref b41), .val (.ref b43), .val (.int (own_i9 (own_st 0 (own_cl c0)))), .unset] [(.int (0 : Int32))])) _
            try simp only [if_neg hm51, if_neg hm52, if_neg hm53] at k0
            exact k0
    refine own_by mg54 ?_
    rw [show (if (own_i9 (own_st 0 (own_cl c0))) = (2 : Int32) then (1 : Int32) else (if (own_i9 (own_st 0 (own_cl c0))) = (4 : Int32) then (1 : Int32) else (if (own_i9 (own_st 0 (own_cl c0))) = (7 : Int32) then (1 : Int32) else (0 : Int32)))) = own_acc (own_st 0 (own_cl c0)) from own_acc_i (k := (own_st 0 (own_cl c0))) (own_st9 _ _)]
    show own_Go p e below _ T50 (mkF m 197 #[.val (.int i0), .val (.int i1), .val (.int i2), .val (.int i3), .val (.int i4), .val (.int i5), .val (.int (1 : Int32)), .val (.int c0), .val (.int c1), .val (.int c2), .val (.int c3), .val (.int c4), .val (.int c5), .val (.ref b41), .val (.ref b43), .val (.int (own_i9 (own_st 0 (own_cl c0)))), .unset] [(.int (own_acc (own_st 0 (own_cl c0))))])
    refine own_by (T' := T50) (f' := (mkF m 199 #[.val (.int i0), .val (.int i1), .val (.int i2), .val (.int i3), .val (.int i4), .val (.int i5), .val (.int (1 : Int32)), .val (.int c0), .val (.int c1), .val (.int c2), .val (.int c3), .val (.int c4), .val (.int c5), .val (.ref b41), .val (.ref b43), .val (.int (own_i9 (own_st 0 (own_cl c0)))), .val (.int (own_acc (own_st 0 (own_cl c0))))] [])) (fun t k => XS.istore X50.here hx rfl (hb hby at_197) rfl (l' := #[.val (.int i0), .val (.int i1), .val (.int i2), .val (.int i3), .val (.int i4), .val (.int i5), .val (.int (1 : Int32)), .val (.int c0), .val (.int c1), .val (.int c2), .val (.int c3), .val (.int c4), .val (.int c5), .val (.ref b41), .val (.ref b43), .val (.int (own_i9 (own_st 0 (own_cl c0)))), .val (.int (own_acc (own_st 0 (own_cl c0))))]) rfl k) ?_
    refine own_by (T' := T50) (f' := (mkF m 201 #[.val (.int i0), .val (.int i1), .val (.int i2), .val (.int i3), .val (.int i4), .val (.int i5), .val (.int (1 : Int32)), .val (.int c0), .val (.int c1), .val (.int c2), .val (.int c3), .val (.int c4), .val (.int c5), .val (.ref b41), .val (.ref b43), .val (.int (own_i9 (own_st 0 (own_cl c0)))), .val (.int (own_acc (own_st 0 (own_cl c0))))] [(.ref b43)])) (fun t k => XS.aload X50.here hx rfl (hb hby at_199) rfl rfl k) ?_
    have f55 := (f47.keep K48 q45)
    refine own_callS X50 hx hZ hown e50 (hb hby at_201) [(.ref b43)] [] 0 (rmDE l Z a0 hw [] b43 (1 : Int32) 1 (fun i => List.getD [c0] i 0) (fun i => List.getD [own_cl c0] i 0) cs fm T48.heap (fun i hi => by match i, hi with | 0, _ => rfl | (q + 1), h => exact absurd h (by omega)) (by decide) (by decide) Q48 f55) (own_w hw 34 rfl) (own_w hw 35 rfl) (own_w hw 36 rfl) (own_w hw 37 rfl) (by decide) pd__Ljava_lang_String__Z (by rw [hml]; rfl) rfl rfl (Nat.le_of_eq rfl) (by decide) (by decide) (by decide) (by decide) ?_
    rintro T56 _ L56 X56 ⟨rfl, rfl, e56⟩
    show own_Go p e below _ T56 (mkF m 204 #[.val (.int i0), .val (.int i1), .val (.int i2), .val (.int i3), .val (.int i4), .val (.int i5), .val (.int (1 : Int32)), .val (.int c0), .val (.int c1), .val (.int c2), .val (.int c3), .val (.int c4), .val (.int c5), .val (.ref b41), .val (.ref b43), .val (.int (own_i9 (own_st 0 (own_cl c0)))), .val (.int (own_acc (own_st 0 (own_cl c0))))] [(.int (own_isDec (fun i => List.getD [own_cl c0] i 0) 1))])
    rw [List.append_nil] at X56
    have hlw : own_isDec (fun i => List.getD [own_cl c0] i 0) 1 = own_acc (own_st 0 (own_cl c0)) := own_law1 ⟨own_cl c0, own_cl_lt c0⟩
    refine own_by (T' := T56) (f' := (mkF m 206 #[.val (.int i0), .val (.int i1), .val (.int i2), .val (.int i3), .val (.int i4), .val (.int i5), .val (.int (1 : Int32)), .val (.int c0), .val (.int c1), .val (.int c2), .val (.int c3), .val (.int c4), .val (.int c5), .val (.ref b41), .val (.ref b43), .val (.int (own_i9 (own_st 0 (own_cl c0)))), .val (.int (own_acc (own_st 0 (own_cl c0))))] [(.int (own_acc (own_st 0 (own_cl c0)))), (.int (own_isDec (fun i => List.getD [own_cl c0] i 0) 1))])) (fun t k => XS.iload X56.here hx rfl (hb hby at_204) rfl k) ?_
    have hc206_57 : (own_isDec (fun i => List.getD [own_cl c0] i 0) 1) = (own_acc (own_st 0 (own_cl c0))) := hlw
    refine own_by (T' := T56) (f' := (mkF m 209 #[.val (.int i0), .val (.int i1), .val (.int i2), .val (.int i3), .val (.int i4), .val (.int i5), .val (.int (1 : Int32)), .val (.int c0), .val (.int c1), .val (.int c2), .val (.int c3), .val (.int c4), .val (.int c5), .val (.ref b41), .val (.ref b43), .val (.int (own_i9 (own_st 0 (own_cl c0)))), .val (.int (own_acc (own_st 0 (own_cl c0))))] [])) (fun t k => XS.icmpNo X56.here hx rfl (hb hby at_206) rfl (teq hc206_57).2 k) ?_
    refine own_by (T' := T56) (f' := (mkF m 210 #[.val (.int i0), .val (.int i1), .val (.int i2), .val (.int i3), .val (.int i4), .val (.int i5), .val (.int (1 : Int32)), .val (.int c0), .val (.int c1), .val (.int c2), .val (.int c3), .val (.int c4), .val (.int c5), .val (.ref b41), .val (.ref b43), .val (.int (own_i9 (own_st 0 (own_cl c0)))), .val (.int (own_acc (own_st 0 (own_cl c0))))] [(.int (1 : Int32))])) (fun t k => XS.iconst X56.here hx rfl (hb hby at_209) k) ?_
    refine own_by (T' := T56) (f' := (mkF m 214 #[.val (.int i0), .val (.int i1), .val (.int i2), .val (.int i3), .val (.int i4), .val (.int i5), .val (.int (1 : Int32)), .val (.int c0), .val (.int c1), .val (.int c2), .val (.int c3), .val (.int c4), .val (.int c5), .val (.ref b41), .val (.ref b43), .val (.int (own_i9 (own_st 0 (own_cl c0)))), .val (.int (own_acc (own_st 0 (own_cl c0))))] [(.int (1 : Int32))])) (fun t k => XS.goto X56.here hx rfl (pc0 := 210) (pc' := 214) rfl (hb hby at_210) (by decide) (by decide) k) ?_
    refine own_retW X56 hx hret hlk hZ hEL hs0 e56 hS hk CH (hb hby at_214) rfl (Or.inl ⟨rfl, Or.inr (Or.inl rfl), _, rfl⟩) (by decide) (by decide) ?_
    try rw [e56]
    exact ⟨rfl, N48⟩
  · rw [hl]
    show own_Go p e below _ T11 (mkF m 9 #[.val (.int i0), .val (.int i1), .val (.int i2), .val (.int i3), .val (.int i4), .val (.int i5), .unset, .unset, .unset, .unset, .unset, .unset, .unset, .unset, .unset, .unset, .unset] [(.int (2 : Int32))])
    refine own_by (T' := T11) (f' := (mkF m 11 #[.val (.int i0), .val (.int i1), .val (.int i2), .val (.int i3), .val (.int i4), .val (.int i5), .val (.int (2 : Int32)), .unset, .unset, .unset, .unset, .unset, .unset, .unset, .unset, .unset, .unset] [])) (fun t k => XS.istore X11.here hx rfl (hb hby at_9) rfl (l' := #[.val (.int i0), .val (.int i1), .val (.int i2), .val (.int i3), .val (.int i4), .val (.int i5), .val (.int (2 : Int32)), .unset, .unset, .unset, .unset, .unset, .unset, .unset, .unset, .unset, .unset]) rfl k) ?_
    refine own_by (T' := T11) (f' := (mkF m 12 #[.val (.int i0), .val (.int i1), .val (.int i2), .val (.int i3), .val (.int i4), .val (.int i5), .val (.int (2 : Int32)), .unset, .unset, .unset, .unset, .unset, .unset, .unset, .unset, .unset, .unset] [(.int i1)])) (fun t k => XS.iloadN X11.here hx rfl (hb hby at_11) rfl k) ?_
    refine own_callS X11 hx hZ hown e11 (hb hby at_12) [(.int i1)] [] 0 (rmCH l Z a0 hw [] i1 h0) (own_w hw 4 rfl) (own_w hw 5 rfl) (own_w hw 6 rfl) (own_w hw 7 rfl) (by decide) pd__I_C (by rw [hml]; rfl) rfl rfl (Nat.le_of_eq rfl) (by decide) (by decide) (by decide) (by decide) ?_
    rintro T58 _ L58 X58 ⟨c0, rfl, hc0, rfl, e58⟩
    rw [List.append_nil] at X58
    show own_Go p e below _ T58 (mkF m 15 #[.val (.int i0), .val (.int i1), .val (.int i2), .val (.int i3), .val (.int i4), .val (.int i5), .val (.int (2 : Int32)), .unset, .unset, .unset, .unset, .unset, .unset, .unset, .unset, .unset, .unset] [(.int c0)])
    refine own_by (T' := T58) (f' := (mkF m 17 #[.val (.int i0), .val (.int i1), .val (.int i2), .val (.int i3), .val (.int i4), .val (.int i5), .val (.int (2 : Int32)), .val (.int c0), .unset, .unset, .unset, .unset, .unset, .unset, .unset, .unset, .unset] [])) (fun t k => XS.istore X58.here hx rfl (hb hby at_15) rfl (l' := #[.val (.int i0), .val (.int i1), .val (.int i2), .val (.int i3), .val (.int i4), .val (.int i5), .val (.int (2 : Int32)), .val (.int c0), .unset, .unset, .unset, .unset, .unset, .unset, .unset, .unset, .unset]) rfl k) ?_
    refine own_by (T' := T58) (f' := (mkF m 18 #[.val (.int i0), .val (.int i1), .val (.int i2), .val (.int i3), .val (.int i4), .val (.int i5), .val (.int (2 : Int32)), .val (.int c0), .unset, .unset, .unset, .unset, .unset, .unset, .unset, .unset, .unset] [(.int i2)])) (fun t k => XS.iloadN X58.here hx rfl (hb hby at_17) rfl k) ?_
    refine own_callS X58 hx hZ hown e58 (hb hby at_18) [(.int i2)] [] 0 (rmCH l Z a0 hw [] i2 h0) (own_w hw 4 rfl) (own_w hw 5 rfl) (own_w hw 6 rfl) (own_w hw 7 rfl) (by decide) pd__I_C (by rw [hml]; rfl) rfl rfl (Nat.le_of_eq rfl) (by decide) (by decide) (by decide) (by decide) ?_
    rintro T59 _ L59 X59 ⟨c1, rfl, hc1, rfl, e59⟩
    rw [List.append_nil] at X59
    show own_Go p e below _ T59 (mkF m 21 #[.val (.int i0), .val (.int i1), .val (.int i2), .val (.int i3), .val (.int i4), .val (.int i5), .val (.int (2 : Int32)), .val (.int c0), .unset, .unset, .unset, .unset, .unset, .unset, .unset, .unset, .unset] [(.int c1)])
    refine own_by (T' := T59) (f' := (mkF m 23 #[.val (.int i0), .val (.int i1), .val (.int i2), .val (.int i3), .val (.int i4), .val (.int i5), .val (.int (2 : Int32)), .val (.int c0), .val (.int c1), .unset, .unset, .unset, .unset, .unset, .unset, .unset, .unset] [])) (fun t k => XS.istore X59.here hx rfl (hb hby at_21) rfl (l' := #[.val (.int i0), .val (.int i1), .val (.int i2), .val (.int i3), .val (.int i4), .val (.int i5), .val (.int (2 : Int32)), .val (.int c0), .val (.int c1), .unset, .unset, .unset, .unset, .unset, .unset, .unset, .unset]) rfl k) ?_
    refine own_by (T' := T59) (f' := (mkF m 24 #[.val (.int i0), .val (.int i1), .val (.int i2), .val (.int i3), .val (.int i4), .val (.int i5), .val (.int (2 : Int32)), .val (.int c0), .val (.int c1), .unset, .unset, .unset, .unset, .unset, .unset, .unset, .unset] [(.int i3)])) (fun t k => XS.iloadN X59.here hx rfl (hb hby at_23) rfl k) ?_
    refine own_callS X59 hx hZ hown e59 (hb hby at_24) [(.int i3)] [] 0 (rmCH l Z a0 hw [] i3 h0) (own_w hw 4 rfl) (own_w hw 5 rfl) (own_w hw 6 rfl) (own_w hw 7 rfl) (by decide) pd__I_C (by rw [hml]; rfl) rfl rfl (Nat.le_of_eq rfl) (by decide) (by decide) (by decide) (by decide) ?_
    rintro T60 _ L60 X60 ⟨c2, rfl, hc2, rfl, e60⟩
    rw [List.append_nil] at X60
    show own_Go p e below _ T60 (mkF m 27 #[.val (.int i0), .val (.int i1), .val (.int i2), .val (.int i3), .val (.int i4), .val (.int i5), .val (.int (2 : Int32)), .val (.int c0), .val (.int c1), .unset, .unset, .unset, .unset, .unset, .unset, .unset, .unset] [(.int c2)])
    refine own_by (T' := T60) (f' := (mkF m 29 #[.val (.int i0), .val (.int i1), .val (.int i2), .val (.int i3), .val (.int i4), .val (.int i5), .val (.int (2 : Int32)), .val (.int c0), .val (.int c1), .val (.int c2), .unset, .unset, .unset, .unset, .unset, .unset, .unset] [])) (fun t k => XS.istore X60.here hx rfl (hb hby at_27) rfl (l' := #[.val (.int i0), .val (.int i1), .val (.int i2), .val (.int i3), .val (.int i4), .val (.int i5), .val (.int (2 : Int32)), .val (.int c0), .val (.int c1), .val (.int c2), .unset, .unset, .unset, .unset, .unset, .unset, .unset]) rfl k) ?_
    refine own_by (T' := T60) (f' := (mkF m 31 #[.val (.int i0), .val (.int i1), .val (.int i2), .val (.int i3), .val (.int i4), .val (.int i5), .val (.int (2 : Int32)), .val (.int c0), .val (.int c1), .val (.int c2), .unset, .unset, .unset, .unset, .unset, .unset, .unset] [(.int i4)])) (fun t k => XS.iload X60.here hx rfl (hb hby at_29) rfl k) ?_
    refine own_callS X60 hx hZ hown e60 (hb hby at_31) [(.int i4)] [] 0 (rmCH l Z a0 hw [] i4 h0) (own_w hw 4 rfl) (own_w hw 5 rfl) (own_w hw 6 rfl) (own_w hw 7 rfl) (by decide) pd__I_C (by rw [hml]; rfl) rfl rfl (Nat.le_of_eq rfl) (by decide) (by decide) (by decide) (by decide) ?_
    rintro T61 _ L61 X61 ⟨c3, rfl, hc3, rfl, e61⟩
    rw [List.append_nil] at X61
    show own_Go p e below _ T61 (mkF m 34 #[.val (.int i0), .val (.int i1), .val (.int i2), .val (.int i3), .val (.int i4), .val (.int i5), .val (.int (2 : Int32)), .val (.int c0), .val (.int c1), .val (.int c2), .unset, .unset, .unset, .unset, .unset, .unset, .unset] [(.int c3)])
    refine own_by (T' := T61) (f' := (mkF m 36 #[.val (.int i0), .val (.int i1), .val (.int i2), .val (.int i3), .val (.int i4), .val (.int i5), .val (.int (2 : Int32)), .val (.int c0), .val (.int c1), .val (.int c2), .val (.int c3), .unset, .unset, .unset, .unset, .unset, .unset] [])) (fun t k => XS.istore X61.here hx rfl (hb hby at_34) rfl (l' := #[.val (.int i0), .val (.int i1), .val (.int i2), .val (.int i3), .val (.int i4), .val (.int i5), .val (.int (2 : Int32)), .val (.int c0), .val (.int c1), .val (.int c2), .val (.int c3), .unset, .unset, .unset, .unset, .unset, .unset]) rfl k) ?_
    refine own_by (T' := T61) (f' := (mkF m 38 #[.val (.int i0), .val (.int i1), .val (.int i2), .val (.int i3), .val (.int i4), .val (.int i5), .val (.int (2 : Int32)), .val (.int c0), .val (.int c1), .val (.int c2), .val (.int c3), .unset, .unset, .unset, .unset, .unset, .unset] [(.int i5)])) (fun t k => XS.iload X61.here hx rfl (hb hby at_36) rfl k) ?_
    refine own_callS X61 hx hZ hown e61 (hb hby at_38) [(.int i5)] [] 0 (rmCH l Z a0 hw [] i5 h0) (own_w hw 4 rfl) (own_w hw 5 rfl) (own_w hw 6 rfl) (own_w hw 7 rfl) (by decide) pd__I_C (by rw [hml]; rfl) rfl rfl (Nat.le_of_eq rfl) (by decide) (by decide) (by decide) (by decide) ?_
    rintro T62 _ L62 X62 ⟨c4, rfl, hc4, rfl, e62⟩
    rw [List.append_nil] at X62
    show own_Go p e below _ T62 (mkF m 41 #[.val (.int i0), .val (.int i1), .val (.int i2), .val (.int i3), .val (.int i4), .val (.int i5), .val (.int (2 : Int32)), .val (.int c0), .val (.int c1), .val (.int c2), .val (.int c3), .unset, .unset, .unset, .unset, .unset, .unset] [(.int c4)])
    refine own_by (T' := T62) (f' := (mkF m 43 #[.val (.int i0), .val (.int i1), .val (.int i2), .val (.int i3), .val (.int i4), .val (.int i5), .val (.int (2 : Int32)), .val (.int c0), .val (.int c1), .val (.int c2), .val (.int c3), .val (.int c4), .unset, .unset, .unset, .unset, .unset] [])) (fun t k => XS.istore X62.here hx rfl (hb hby at_41) rfl (l' := #[.val (.int i0), .val (.int i1), .val (.int i2), .val (.int i3), .val (.int i4), .val (.int i5), .val (.int (2 : Int32)), .val (.int c0), .val (.int c1), .val (.int c2), .val (.int c3), .val (.int c4), .unset, .unset, .unset, .unset, .unset]) rfl k) ?_
    refine own_by (T' := T62) (f' := (mkF m 44 #[.val (.int i0), .val (.int i1), .val (.int i2), .val (.int i3), .val (.int i4), .val (.int i5), .val (.int (2 : Int32)), .val (.int c0), .val (.int c1), .val (.int c2), .val (.int c3), .val (.int c4), .unset, .unset, .unset, .unset, .unset] [(.int i0)])) (fun t k => XS.iloadN X62.here hx rfl (hb hby at_43) rfl k) ?_
    refine own_by (T' := T62) (f' := (mkF m 45 #[.val (.int i0), .val (.int i1), .val (.int i2), .val (.int i3), .val (.int i4), .val (.int i5), .val (.int (2 : Int32)), .val (.int c0), .val (.int c1), .val (.int c2), .val (.int c3), .val (.int c4), .unset, .unset, .unset, .unset, .unset] [(.int (3 : Int32)), (.int i0)])) (fun t k => XS.iconst X62.here hx rfl (hb hby at_44) k) ?_
    refine own_by (T' := T62) (f' := (mkF m 46 #[.val (.int i0), .val (.int i1), .val (.int i2), .val (.int i3), .val (.int i4), .val (.int i5), .val (.int (2 : Int32)), .val (.int c0), .val (.int c1), .val (.int c2), .val (.int c3), .val (.int c4), .unset, .unset, .unset, .unset, .unset] [(.int ((i0.toUInt32 >>> ((3 : Int32) &&& 31).toUInt32).toInt32))])) (fun t k => XS.iushr X62.here hx rfl (hb hby at_45) rfl k) ?_
    refine own_callS X62 hx hZ hown e62 (hb hby at_46) [(.int ((i0.toUInt32 >>> ((3 : Int32) &&& 31).toUInt32).toInt32))] [] 0 (rmCH l Z a0 hw [] ((i0.toUInt32 >>> ((3 : Int32) &&& 31).toUInt32).toInt32) h0) (own_w hw 4 rfl) (own_w hw 5 rfl) (own_w hw 6 rfl) (own_w hw 7 rfl) (by decide) pd__I_C (by rw [hml]; rfl) rfl rfl (Nat.le_of_eq rfl) (by decide) (by decide) (by decide) (by decide) ?_
    rintro T63 _ L63 X63 ⟨c5, rfl, hc5, rfl, e63⟩
    rw [List.append_nil] at X63
    show own_Go p e below _ T63 (mkF m 49 #[.val (.int i0), .val (.int i1), .val (.int i2), .val (.int i3), .val (.int i4), .val (.int i5), .val (.int (2 : Int32)), .val (.int c0), .val (.int c1), .val (.int c2), .val (.int c3), .val (.int c4), .unset, .unset, .unset, .unset, .unset] [(.int c5)])
    refine own_by (T' := T63) (f' := (mkF m 51 #[.val (.int i0), .val (.int i1), .val (.int i2), .val (.int i3), .val (.int i4), .val (.int i5), .val (.int (2 : Int32)), .val (.int c0), .val (.int c1), .val (.int c2), .val (.int c3), .val (.int c4), .val (.int c5), .unset, .unset, .unset, .unset] [])) (fun t k => XS.istore X63.here hx rfl (hb hby at_49) rfl (l' := #[.val (.int i0), .val (.int i1), .val (.int i2), .val (.int i3), .val (.int i4), .val (.int i5), .val (.int (2 : Int32)), .val (.int c0), .val (.int c1), .val (.int c2), .val (.int c3), .val (.int c4), .val (.int c5), .unset, .unset, .unset, .unset]) rfl k) ?_
    refine own_by (T' := T63) (f' := (mkF m 53 #[.val (.int i0), .val (.int i1), .val (.int i2), .val (.int i3), .val (.int i4), .val (.int i5), .val (.int (2 : Int32)), .val (.int c0), .val (.int c1), .val (.int c2), .val (.int c3), .val (.int c4), .val (.int c5), .unset, .unset, .unset, .unset] [(.int (2 : Int32))])) (fun t k => XS.iload X63.here hx rfl (hb hby at_51) rfl k) ?_
    refine own_by (T' := T63) (f' := (mkF m 55 #[.val (.int i0), .val (.int i1), .val (.int i2), .val (.int i3), .val (.int i4), .val (.int i5), .val (.int (2 : Int32)), .val (.int c0), .val (.int c1), .val (.int c2), .val (.int c3), .val (.int c4), .val (.int c5), .unset, .unset, .unset, .unset] [(.int c0), (.int (2 : Int32))])) (fun t k => XS.iload X63.here hx rfl (hb hby at_53) rfl k) ?_
    refine own_by (T' := T63) (f' := (mkF m 57 #[.val (.int i0), .val (.int i1), .val (.int i2), .val (.int i3), .val (.int i4), .val (.int i5), .val (.int (2 : Int32)), .val (.int c0), .val (.int c1), .val (.int c2), .val (.int c3), .val (.int c4), .val (.int c5), .unset, .unset, .unset, .unset] [(.int c1), (.int c0), (.int (2 : Int32))])) (fun t k => XS.iload X63.here hx rfl (hb hby at_55) rfl k) ?_
    refine own_by (T' := T63) (f' := (mkF m 59 #[.val (.int i0), .val (.int i1), .val (.int i2), .val (.int i3), .val (.int i4), .val (.int i5), .val (.int (2 : Int32)), .val (.int c0), .val (.int c1), .val (.int c2), .val (.int c3), .val (.int c4), .val (.int c5), .unset, .unset, .unset, .unset] [(.int c2), (.int c1), (.int c0), (.int (2 : Int32))])) (fun t k => XS.iload X63.here hx rfl (hb hby at_57) rfl k) ?_
    refine own_by (T' := T63) (f' := (mkF m 61 #[.val (.int i0), .val (.int i1), .val (.int i2), .val (.int i3), .val (.int i4), .val (.int i5), .val (.int (2 : Int32)), .val (.int c0), .val (.int c1), .val (.int c2), .val (.int c3), .val (.int c4), .val (.int c5), .unset, .unset, .unset, .unset] [(.int c3), (.int c2), (.int c1), (.int c0), (.int (2 : Int32))])) (fun t k => XS.iload X63.here hx rfl (hb hby at_59) rfl k) ?_
    refine own_by (T' := T63) (f' := (mkF m 63 #[.val (.int i0), .val (.int i1), .val (.int i2), .val (.int i3), .val (.int i4), .val (.int i5), .val (.int (2 : Int32)), .val (.int c0), .val (.int c1), .val (.int c2), .val (.int c3), .val (.int c4), .val (.int c5), .unset, .unset, .unset, .unset] [(.int c4), (.int c3), (.int c2), (.int c1), (.int c0), (.int (2 : Int32))])) (fun t k => XS.iload X63.here hx rfl (hb hby at_61) rfl k) ?_
    refine own_by (T' := T63) (f' := (mkF m 65 #[.val (.int i0), .val (.int i1), .val (.int i2), .val (.int i3), .val (.int i4), .val (.int i5), .val (.int (2 : Int32)), .val (.int c0), .val (.int c1), .val (.int c2), .val (.int c3), .val (.int c4), .val (.int c5), .unset, .unset, .unset, .unset] [(.int c5), (.int c4), (.int c3), (.int c2), (.int c1), (.int c0), (.int (2 : Int32))])) (fun t k => XS.iload X63.here hx rfl (hb hby at_63) rfl k) ?_
    refine own_callS X63 hx hZ hown e63 (hb hby at_65) [(.int (2 : Int32)), (.int c0), (.int c1), (.int c2), (.int c3), (.int c4), (.int c5)] [] 0 (rmMK2 l Z a0 hw [] c0 c1 c2 c3 c4 c5 h0 n0 Z0 hc0 hc1 hc2 hc3 hc4 hc5) (own_w hw 9 rfl) (own_w hw 10 rfl) (own_w hw 6 rfl) (own_w hw 11 rfl) (by decide) pd__ICCCCCC__C (by rw [hml]; rfl) rfl rfl (Nat.le_of_eq rfl) (by decide) (by decide) (by decide) (by decide) ?_
    rintro T64 _ L64 X64 ⟨b64, rfl, N64q, K64, gb64, B64⟩
    show own_Go p e below _ T64 (mkF m 68 #[.val (.int i0), .val (.int i1), .val (.int i2), .val (.int i3), .val (.int i4), .val (.int i5), .val (.int (2 : Int32)), .val (.int c0), .val (.int c1), .val (.int c2), .val (.int c3), .val (.int c4), .val (.int c5), .unset, .unset, .unset, .unset] [(.ref b64)])
    have N64 := Fr.app N0 N64q
    have hk := Nat.le_trans hk K64.1
    have CH := CH.trans (CHr.keep K64 all0 CH.1)
    have sz65 : n0 ≤ T64.heap.size := Nat.le_trans Z0 K64.1
    refine own_by (T' := T64) (f' := (mkF m 70 #[.val (.int i0), .val (.int i1), .val (.int i2), .val (.int i3), .val (.int i4), .val (.int i5), .val (.int (2 : Int32)), .val (.int c0), .val (.int c1), .val (.int c2), .val (.int c3), .val (.int c4), .val (.int c5), .val (.ref b64), .unset, .unset, .unset] [])) (fun t k => XS.astore X64.here hx rfl (hb hby at_68) rfl rfl (l' := #[.val (.int i0), .val (.int i1), .val (.int i2), .val (.int i3), .val (.int i4), .val (.int i5), .val (.int (2 : Int32)), .val (.int c0), .val (.int c1), .val (.int c2), .val (.int c3), .val (.int c4), .val (.int c5), .val (.ref b64), .unset, .unset, .unset]) rfl k) ?_
    refine own_new X64 hx hZ hown rfl (hb hby at_70) (own_w hw 13 rfl) (own_w hw 14 rfl) (own_w hw 15 rfl) (by decide) (by decide) ?_
    intro T66 h66 b66 X66 e66 g66 E66 A66 D66
    have ne66_b64 : b64 ≠ b66 := Nat.ne_of_lt (by rw [g66]; exact B64.lt)
    have gn66 : n0 ≤ b66 := by rw [g66]; exact sz65
    show own_Go p e below _ T66 (mkF m 73 #[.val (.int i0), .val (.int i1), .val (.int i2), .val (.int i3), .val (.int i4), .val (.int i5), .val (.int (2 : Int32)), .val (.int c0), .val (.int c1), .val (.int c2), .val (.int c3), .val (.int c4), .val (.int c5), .val (.ref b64), .unset, .unset, .unset] [(.ref b66)])
    have S_b66 := Safe.ext E66 CH.1 (Safe.new (Nat.le_of_eq g66.symm))
    have hk := Nat.le_trans hk E66.1
    have CH := CH.trans (CHr.ext E66 CH.1)
    have F66_value : Fld Z h66 b66 "java/lang/String" "value" "[B" .null := D66 (Or.inr (own_w hw 28 rfl)) (ty := (.array .byte)) (by decide)
    have F66_coder : Fld Z h66 b66 "java/lang/String" "coder" "B" (.int (0 : Int32)) := D66 (Or.inr (own_w hw 29 rfl)) (ty := .byte) (by decide)
    have sz67 : n0 ≤ h66.size := Nat.le_trans sz65 E66.1
    refine own_by (T' := T66) (f' := (mkF m 74 #[.val (.int i0), .val (.int i1), .val (.int i2), .val (.int i3), .val (.int i4), .val (.int i5), .val (.int (2 : Int32)), .val (.int c0), .val (.int c1), .val (.int c2), .val (.int c3), .val (.int c4), .val (.int c5), .val (.ref b64), .unset, .unset, .unset] [(.ref b66), (.ref b66)])) (fun t k => XS.dup X66.here hx rfl (hb hby at_73) rfl rfl k) ?_
    refine own_by (T' := T66) (f' := (mkF m 76 #[.val (.int i0), .val (.int i1), .val (.int i2), .val (.int i3), .val (.int i4), .val (.int i5), .val (.int (2 : Int32)), .val (.int c0), .val (.int c1), .val (.int c2), .val (.int c3), .val (.int c4), .val (.int c5), .val (.ref b64), .unset, .unset, .unset] [(.ref b64), (.ref b66), (.ref b66)])) (fun t k => XS.aload X66.here hx rfl (hb hby at_74) rfl rfl k) ?_
    have q68 : ∀ x ∈ [b66], ∃ c : Cell, h66[x]? = some c ∧ c.vm.isStatics = false := (allS (own_ns A66) all0)
    have f69 := (B64.ext E66)
    have f70 := ((ST.keep K64 all0).ext E66)
    refine own_callN X66 hx hZ hown e66 (hb hby at_76) [(.ref b64)] [(.ref b66)] 1 (rmI1 l Z a0 hw [] b66 b64 (2 : Int32) 2 (fun i => List.getD [c0, c1] i 0) _ _ cs fm h66 n0 sz67 gn66 (by decide) (by decide) (by decide) (fun i hi => by match i, hi with | 0, _ => exact hc0 | 1, _ => exact hc1 | (q + 2), h => exact absurd h (by omega)) f69 ne66_b64 A66 F66_value F66_coder f70) (own_w hw 16 rfl) (own_w hw 17 rfl) (own_w hw 15 rfl) (own_w hw 18 rfl) rfl (by decide) pd___C_V (by rw [hml]; rfl) rfl rfl (Nat.le_of_eq rfl) (by decide) (by decide) (by decide) (by decide) ?_
    rintro T71 _ L71 X71 ⟨rfl, N71q, K71, Q71⟩
    show own_Go p e below _ T71 (mkF m 79 #[.val (.int i0), .val (.int i1), .val (.int i2), .val (.int i3), .val (.int i4), .val (.int i5), .val (.int (2 : Int32)), .val (.int c0), .val (.int c1), .val (.int c2), .val (.int c3), .val (.int c4), .val (.int c5), .val (.ref b64), .unset, .unset, .unset] [(.ref b66)])
    have S_b66' := Safe.keep K71 (allS S_b66 all0) CH.1 S_b66
    have hk := Nat.le_trans hk K71.1
    have CH := CH.trans (CHr.keep K71 (allS S_b66 all0) CH.1)
    have S_b66 := S_b66'
    have N71 := Fr.app N64 N71q
    have sz72 : n0 ≤ T71.heap.size := Nat.le_trans sz67 K71.1
    refine own_by (T' := T71) (f' := (mkF m 81 #[.val (.int i0), .val (.int i1), .val (.int i2), .val (.int i3), .val (.int i4), .val (.int i5), .val (.int (2 : Int32)), .val (.int c0), .val (.int c1), .val (.int c2), .val (.int c3), .val (.int c4), .val (.int c5), .val (.ref b64), .val (.ref b66), .unset, .unset] [])) (fun t k => XS.astore X71.here hx rfl (hb hby at_79) rfl rfl (l' := #[.val (.int i0), .val (.int i1), .val (.int i2), .val (.int i3), .val (.int i4), .val (.int i5), .val (.int (2 : Int32)), .val (.int c0), .val (.int c1), .val (.int c2), .val (.int c3), .val (.int c4), .val (.int c5), .val (.ref b64), .val (.ref b66), .unset, .unset]) rfl k) ?_
    refine own_by (T' := T71) (f' := (mkF m 82 #[.val (.int i0), .val (.int i1), .val (.int i2), .val (.int i3), .val (.int i4), .val (.int i5), .val (.int (2 : Int32)), .val (.int c0), .val (.int c1), .val (.int c2), .val (.int c3), .val (.int c4), .val (.int c5), .val (.ref b64), .val (.ref b66), .unset, .unset] [(.int (0 : Int32))])) (fun t k => XS.iconst X71.here hx rfl (hb hby at_81) k) ?_
    refine own_by (T' := T71) (f' := (mkF m 84 #[.val (.int i0), .val (.int i1), .val (.int i2), .val (.int i3), .val (.int i4), .val (.int i5), .val (.int (2 : Int32)), .val (.int c0), .val (.int c1), .val (.int c2), .val (.int c3), .val (.int c4), .val (.int c5), .val (.ref b64), .val (.ref b66), .val (.int (0 : Int32)), .unset] [])) (fun t k => XS.istore X71.here hx rfl (hb hby at_82) rfl (l' := #[.val (.int i0), .val (.int i1), .val (.int i2), .val (.int i3), .val (.int i4), .val (.int i5), .val (.int (2 : Int32)), .val (.int c0), .val (.int c1), .val (.int c2), .val (.int c3), .val (.int c4), .val (.int c5), .val (.ref b64), .val (.ref b66), .val (.int (0 : Int32)), .unset]) rfl k) ?_
    refine own_by (T' := T71) (f' := (mkF m 86 #[.val (.int i0), .val (.int i1), .val (.int i2), .val (.int i3), .val (.int i4), .val (.int i5), .val (.int (2 : Int32)), .val (.int c0), .val (.int c1), .val (.int c2), .val (.int c3), .val (.int c4), .val (.int c5), .val (.ref b64), .val (.ref b66), .val (.int (0 : Int32)), .unset] [(.int (2 : Int32))])) (fun t k => XS.iload X71.here hx rfl (hb hby at_84) rfl k) ?_
    refine own_by (T' := T71) (f' := (mkF m 89 #[.val (.int i0), .val (.int i1), .val (.int i2), .val (.int i3), .val (.int i4), .val (.int i5), .val (.int (2 : Int32)), .val (.int c0), .val (.int c1), .val (.int c2), .val (.int c3), .val (.int c4), .val (.int c5), .val (.ref b64), .val (.ref b66), .val (.int (0 : Int32)), .unset] [])) (fun t k => XS.ifNo X71.here hx rfl (hb hby at_86) rfl ((if0 _ _).trans (tlt (by decide)).2.2.2) k) ?_
    refine own_by (T' := T71) (f' := (mkF m 91 #[.val (.int i0), .val (.int i1), .val (.int i2), .val (.int i3), .val (.int i4), .val (.int i5), .val (.int (2 : Int32)), .val (.int c0), .val (.int c1), .val (.int c2), .val (.int c3), .val (.int c4), .val (.int c5), .val (.ref b64), .val (.ref b66), .val (.int (0 : Int32)), .unset] [(.int (0 : Int32))])) (fun t k => XS.iload X71.here hx rfl (hb hby at_89) rfl k) ?_
    refine own_by (T' := T71) (f' := (mkF m 93 #[.val (.int i0), .val (.int i1), .val (.int i2), .val (.int i3), .val (.int i4), .val (.int i5), .val (.int (2 : Int32)), .val (.int c0), .val (.int c1), .val (.int c2), .val (.int c3), .val (.int c4), .val (.int c5), .val (.ref b64), .val (.ref b66), .val (.int (0 : Int32)), .unset] [(.int c0), (.int (0 : Int32))])) (fun t k => XS.iload X71.here hx rfl (hb hby at_91) rfl k) ?_
    refine own_callS X71 hx hZ hown rfl (hb hby at_93) [(.int (0 : Int32)), (.int c0)] [] 0 (rmSP l Z a0 hw [] (0 : Int32) c0 0 T71.heap rfl (by decide)) (own_w hw 65 rfl) (own_w hw 66 rfl) (own_w hw 6 rfl) (own_w hw 67 rfl) (by decide) pd__IC_I (by rw [hml]; rfl) rfl rfl (Nat.le_of_eq rfl) (by decide) (by decide) (by decide) (by decide) ?_
    rintro T73 _ L73 X73 ⟨rfl, rfl, e73⟩
    show own_Go p e below _ T73 (mkF m 96 #[.val (.int i0), .val (.int i1), .val (.int i2), .val (.int i3), .val (.int i4), .val (.int i5), .val (.int (2 : Int32)), .val (.int c0), .val (.int c1), .val (.int c2), .val (.int c3), .val (.int c4), .val (.int c5), .val (.ref b64), .val (.ref b66), .val (.int (0 : Int32)), .unset] [(.int (own_i9 (own_st 0 (own_cl c0))))])
    rw [List.append_nil] at X73
    refine own_by (T' := T73) (f' := (mkF m 98 #[.val (.int i0), .val (.int i1), .val (.int i2), .val (.int i3), .val (.int i4), .val (.int i5), .val (.int (2 : Int32)), .val (.int c0), .val (.int c1), .val (.int c2), .val (.int c3), .val (.int c4), .val (.int c5), .val (.ref b64), .val (.ref b66), .val (.int (own_i9 (own_st 0 (own_cl c0)))), .unset] [])) (fun t k => XS.istore X73.here hx rfl (hb hby at_96) rfl (l' := #[.val (.int i0), .val (.int i1), .val (.int i2), .val (.int i3), .val (.int i4), .val (.int i5), .val (.int (2 : Int32)), .val (.int c0), .val (.int c1), .val (.int c2), .val (.int c3), .val (.int c4), .val (.int c5), .val (.ref b64), .val (.ref b66), .val (.int (own_i9 (own_st 0 (own_cl c0)))), .unset]) rfl k) ?_
    refine own_by (T' := T73) (f' := (mkF m 100 #[.val (.int i0), .val (.int i1), .val (.int i2), .val (.int i3), .val (.int i4), .val (.int i5), .val (.int (2 : Int32)), .val (.int c0), .val (.int c1), .val (.int c2), .val (.int c3), .val (.int c4), .val (.int c5), .val (.ref b64), .val (.ref b66), .val (.int (own_i9 (own_st 0 (own_cl c0)))), .unset] [(.int (2 : Int32))])) (fun t k => XS.iload X73.here hx rfl (hb hby at_98) rfl k) ?_
    refine own_by (T' := T73) (f' := (mkF m 101 #[.val (.int i0), .val (.int i1), .val (.int i2), .val (.int i3), .val (.int i4), .val (.int i5), .val (.int (2 : Int32)), .val (.int c0), .val (.int c1), .val (.int c2), .val (.int c3), .val (.int c4), .val (.int c5), .val (.ref b64), .val (.ref b66), .val (.int (own_i9 (own_st 0 (own_cl c0)))), .unset] [(.int (1 : Int32)), (.int (2 : Int32))])) (fun t k => XS.iconst X73.here hx rfl (hb hby at_100) k) ?_
    refine own_by (T' := T73) (f' := (mkF m 104 #[.val (.int i0), .val (.int i1), .val (.int i2), .val (.int i3), .val (.int i4), .val (.int i5), .val (.int (2 : Int32)), .val (.int c0), .val (.int c1), .val (.int c2), .val (.int c3), .val (.int c4), .val (.int c5), .val (.ref b64), .val (.ref b66), .val (.int (own_i9 (own_st 0 (own_cl c0)))), .unset] [])) (fun t k => XS.icmpNo X73.here hx rfl (hb hby at_101) rfl (tlt (by decide)).2.2.2 k) ?_
    refine own_by (T' := T73) (f' := (mkF m 106 #[.val (.int i0), .val (.int i1), .val (.int i2), .val (.int i3), .val (.int i4), .val (.int i5), .val (.int (2 : Int32)), .val (.int c0), .val (.int c1), .val (.int c2), .val (.int c3), .val (.int c4), .val (.int c5), .val (.ref b64), .val (.ref b66), .val (.int (own_i9 (own_st 0 (own_cl c0)))), .unset] [(.int (own_i9 (own_st 0 (own_cl c0))))])) (fun t k => XS.iload X73.here hx rfl (hb hby at_104) rfl k) ?_
    refine own_by (T' := T73) (f' := (mkF m 108 #[.val (.int i0), .val (.int i1), .val (.int i2), .val (.int i3), .val (.int i4), .val (.int i5), .val (.int (2 : Int32)), .val (.int c0), .val (.int c1), .val (.int c2), .val (.int c3), .val (.int c4), .val (.int c5), .val (.ref b64), .val (.ref b66), .val (.int (own_i9 (own_st 0 (own_cl c0)))), .unset] [(.int c1), (.int (own_i9 (own_st 0 (own_cl c0))))])) (fun t k => XS.iload X73.here hx rfl (hb hby at_106) rfl k) ?_
    refine own_callS X73 hx hZ hown e73 (hb hby at_108) [(.int (own_i9 (own_st 0 (own_cl c0)))), (.int c1)] [] 0 (rmSP l Z a0 hw [] (own_i9 (own_st 0 (own_cl c0))) c1 (own_st 0 (own_cl c0)) T71.heap rfl (own_st9 _ _)) (own_w hw 65 rfl) (own_w hw 66 rfl) (own_w hw 6 rfl) (own_w hw 67 rfl) (by decide) pd__IC_I (by rw [hml]; rfl) rfl rfl (Nat.le_of_eq rfl) (by decide) (by decide) (by decide) (by decide) ?_
    rintro T74 _ L74 X74 ⟨rfl, rfl, e74⟩
    show own_Go p e below _ T74 (mkF m 111 #[.val (.int i0), .val (.int i1), .val (.int i2), .val (.int i3), .val (.int i4), .val (.int i5), .val (.int (2 : Int32)), .val (.int c0), .val (.int c1), .val (.int c2), .val (.int c3), .val (.int c4), .val (.int c5), .val (.ref b64), .val (.ref b66), .val (.int (own_i9 (own_st 0 (own_cl c0)))), .unset] [(.int (own_i9 (own_st (own_st 0 (own_cl c0)) (own_cl c1))))])
    rw [List.append_nil] at X74
    refine own_by (T' := T74) (f' := (mkF m 113 #[.val (.int i0), .val (.int i1), .val (.int i2), .val (.int i3), .val (.int i4), .val (.int i5), .val (.int (2 : Int32)), .val (.int c0), .val (.int c1), .val (.int c2), .val (.int c3), .val (.int c4), .val (.int c5), .val (.ref b64), .val (.ref b66), .val (.int (own_i9 (own_st (own_st 0 (own_cl c0)) (own_cl c1)))), .unset] [])) (fun t k => XS.istore X74.here hx rfl (hb hby at_111) rfl (l' := #[.val (.int i0), .val (.int i1), .val (.int i2), .val (.int i3), .val (.int i4), .val (.int i5), .val (.int (2 : Int32)), .val (.int c0), .val (.int c1), .val (.int c2), .val (.int c3), .val (.int c4), .val (.int c5), .val (.ref b64), .val (.ref b66), .val (.int (own_i9 (own_st (own_st 0 (own_cl c0)) (own_cl c1)))), .unset]) rfl k) ?_
    refine own_by (T' := T74) (f' := (mkF m 115 #[.val (.int i0), .val (.int i1), .val (.int i2), .val (.int i3), .val (.int i4), .val (.int i5), .val (.int (2 : Int32)), .val (.int c0), .val (.int c1), .val (.int c2), .val (.int c3), .val (.int c4), .val (.int c5), .val (.ref b64), .val (.ref b66), .val (.int (own_i9 (own_st (own_st 0 (own_cl c0)) (own_cl c1)))), .unset] [(.int (2 : Int32))])) (fun t k => XS.iload X74.here hx rfl (hb hby at_113) rfl k) ?_
    refine own_by (T' := T74) (f' := (mkF m 116 #[.val (.int i0), .val (.int i1), .val (.int i2), .val (.int i3), .val (.int i4), .val (.int i5), .val (.int (2 : Int32)), .val (.int c0), .val (.int c1), .val (.int c2), .val (.int c3), .val (.int c4), .val (.int c5), .val (.ref b64), .val (.ref b66), .val (.int (own_i9 (own_st (own_st 0 (own_cl c0)) (own_cl c1)))), .unset] [(.int (2 : Int32)), (.int (2 : Int32))])) (fun t k => XS.iconst X74.here hx rfl (hb hby at_115) k) ?_
    refine own_by (T' := T74) (f' := (mkF m 128 #[.val (.int i0), .val (.int i1), .val (.int i2), .val (.int i3), .val (.int i4), .val (.int i5), .val (.int (2 : Int32)), .val (.int c0), .val (.int c1), .val (.int c2), .val (.int c3), .val (.int c4), .val (.int c5), .val (.ref b64), .val (.ref b66), .val (.int (own_i9 (own_st (own_st 0 (own_cl c0)) (own_cl c1)))), .unset] [])) (fun t k => XS.icmpYes X74.here hx rfl (pc0 := 116) (pc' := 128) rfl (hb hby at_116) rfl (flt (by decide)).2.2.2 (by decide) (by decide) k) ?_
    refine own_by (T' := T74) (f' := (mkF m 130 #[.val (.int i0), .val (.int i1), .val (.int i2), .val (.int i3), .val (.int i4), .val (.int i5), .val (.int (2 : Int32)), .val (.int c0), .val (.int c1), .val (.int c2), .val (.int c3), .val (.int c4), .val (.int c5), .val (.ref b64), .val (.ref b66), .val (.int (own_i9 (own_st (own_st 0 (own_cl c0)) (own_cl c1)))), .unset] [(.int (2 : Int32))])) (fun t k => XS.iload X74.here hx rfl (hb hby at_128) rfl k) ?_
    refine own_by (T' := T74) (f' := (mkF m 131 #[.val (.int i0), .val (.int i1), .val (.int i2), .val (.int i3), .val (.int i4), .val (.int i5), .val (.int (2 : Int32)), .val (.int c0), .val (.int c1), .val (.int c2), .val (.int c3), .val (.int c4), .val (.int c5), .val (.ref b64), .val (.ref b66), .val (.int (own_i9 (own_st (own_st 0 (own_cl c0)) (own_cl c1)))), .unset] [(.int (3 : Int32)), (.int (2 : Int32))])) (fun t k => XS.iconst X74.here hx rfl (hb hby at_130) k) ?_
    refine own_by (T' := T74) (f' := (mkF m 143 #[.val (.int i0), .val (.int i1), .val (.int i2), .val (.int i3), .val (.int i4), .val (.int i5), .val (.int (2 : Int32)), .val (.int c0), .val (.int c1), .val (.int c2), .val (.int c3), .val (.int c4), .val (.int c5), .val (.ref b64), .val (.ref b66), .val (.int (own_i9 (own_st (own_st 0 (own_cl c0)) (own_cl c1)))), .unset] [])) (fun t k => XS.icmpYes X74.here hx rfl (pc0 := 131) (pc' := 143) rfl (hb hby at_131) rfl (flt (by decide)).2.2.2 (by decide) (by decide) k) ?_
    refine own_by (T' := T74) (f' := (mkF m 145 #[.val (.int i0), .val (.int i1), .val (.int i2), .val (.int i3), .val (.int i4), .val (.int i5), .val (.int (2 : Int32)), .val (.int c0), .val (.int c1), .val (.int c2), .val (.int c3), .val (.int c4), .val (.int c5), .val (.ref b64), .val (.ref b66), .val (.int (own_i9 (own_st (own_st 0 (own_cl c0)) (own_cl c1)))), .unset] [(.int (2 : Int32))])) (fun t k => XS.iload X74.here hx rfl (hb hby at_143) rfl k) ?_
    refine own_by (T' := T74) (f' := (mkF m 146 #[.val (.int i0), .val (.int i1), .val (.int i2), .val (.int i3), .val (.int i4), .val (.int i5), .val (.int (2 : Int32)), .val (.int c0), .val (.int c1), .val (.int c2), .val (.int c3), .val (.int c4), .val (.int c5), .val (.ref b64), .val (.ref b66), .val (.int (own_i9 (own_st (own_st 0 (own_cl c0)) (own_cl c1)))), .unset] [(.int (4 : Int32)), (.int (2 : Int32))])) (fun t k => XS.iconst X74.here hx rfl (hb hby at_145) k) ?_
    refine own_by (T' := T74) (f' := (mkF m 158 #[.val (.int i0), .val (.int i1), .val (.int i2), .val (.int i3), .val (.int i4), .val (.int i5), .val (.int (2 : Int32)), .val (.int c0), .val (.int c1), .val (.int c2), .val (.int c3), .val (.int c4), .val (.int c5), .val (.ref b64), .val (.ref b66), .val (.int (own_i9 (own_st (own_st 0 (own_cl c0)) (own_cl c1)))), .unset] [])) (fun t k => XS.icmpYes X74.here hx rfl (pc0 := 146) (pc' := 158) rfl (hb hby at_146) rfl (flt (by decide)).2.2.2 (by decide) (by decide) k) ?_
    refine own_by (T' := T74) (f' := (mkF m 160 #[.val (.int i0), .val (.int i1), .val (.int i2), .val (.int i3), .val (.int i4), .val (.int i5), .val (.int (2 : Int32)), .val (.int c0), .val (.int c1), .val (.int c2), .val (.int c3), .val (.int c4), .val (.int c5), .val (.ref b64), .val (.ref b66), .val (.int (own_i9 (own_st (own_st 0 (own_cl c0)) (own_cl c1)))), .unset] [(.int (2 : Int32))])) (fun t k => XS.iload X74.here hx rfl (hb hby at_158) rfl k) ?_
    refine own_by (T' := T74) (f' := (mkF m 161 #[.val (.int i0), .val (.int i1), .val (.int i2), .val (.int i3), .val (.int i4), .val (.int i5), .val (.int (2 : Int32)), .val (.int c0), .val (.int c1), .val (.int c2), .val (.int c3), .val (.int c4), .val (.int c5), .val (.ref b64), .val (.ref b66), .val (.int (own_i9 (own_st (own_st 0 (own_cl c0)) (own_cl c1)))), .unset] [(.int (5 : Int32)), (.int (2 : Int32))])) (fun t k => XS.iconst X74.here hx rfl (hb hby at_160) k) ?_
    refine own_by (T' := T74) (f' := (mkF m 173 #[.val (.int i0), .val (.int i1), .val (.int i2), .val (.int i3), .val (.int i4), .val (.int i5), .val (.int (2 : Int32)), .val (.int c0), .val (.int c1), .val (.int c2), .val (.int c3), .val (.int c4), .val (.int c5), .val (.ref b64), .val (.ref b66), .val (.int (own_i9 (own_st (own_st 0 (own_cl c0)) (own_cl c1)))), .unset] [])) (fun t k => XS.icmpYes X74.here hx rfl (pc0 := 161) (pc' := 173) rfl (hb hby at_161) rfl (flt (by decide)).2.2.2 (by decide) (by decide) k) ?_
    refine own_by (T' := T74) (f' := (mkF m 175 #[.val (.int i0), .val (.int i1), .val (.int i2), .val (.int i3), .val (.int i4), .val (.int i5), .val (.int (2 : Int32)), .val (.int c0), .val (.int c1), .val (.int c2), .val (.int c3), .val (.int c4), .val (.int c5), .val (.ref b64), .val (.ref b66), .val (.int (own_i9 (own_st (own_st 0 (own_cl c0)) (own_cl c1)))), .unset] [(.int (own_i9 (own_st (own_st 0 (own_cl c0)) (own_cl c1))))])) (fun t k => XS.iload X74.here hx rfl (hb hby at_173) rfl k) ?_
    refine own_by (T' := T74) (f' := (mkF m 176 #[.val (.int i0), .val (.int i1), .val (.int i2), .val (.int i3), .val (.int i4), .val (.int i5), .val (.int (2 : Int32)), .val (.int c0), .val (.int c1), .val (.int c2), .val (.int c3), .val (.int c4), .val (.int c5), .val (.ref b64), .val (.ref b66), .val (.int (own_i9 (own_st (own_st 0 (own_cl c0)) (own_cl c1)))), .unset] [(.int (2 : Int32)), (.int (own_i9 (own_st (own_st 0 (own_cl c0)) (own_cl c1))))])) (fun t k => XS.iconst X74.here hx rfl (hb hby at_175) k) ?_
    have mg78 : ∀ t, Steps p.tables e below (T74.setTop (mkF m 197 #[.val (.int i0), .val (.int i1), .val (.int i2), .val (.int i3), .val (.int i4), .val (.int i5), .val (.int (2 : Int32)), .val (.int c0), .val (.int c1), .val (.int c2), .val (.int c3), .val (.int c4), .val (.int c5), .val (.ref b64), .val (.ref b66), .val (.int (own_i9 (own_st (own_st 0 (own_cl c0)) (own_cl c1)))), .unset] [(.int (if (own_i9 (own_st (own_st 0 (own_cl c0)) (own_cl c1))) = (2 : Int32) then (1 : Int32) else (if (own_i9 (own_st (own_st 0 (own_cl c0)) (own_cl c1))) = (4 : Int32) then (1 : Int32) else (if (own_i9 (own_st (own_st 0 (own_cl c0)) (own_cl c1))) = (7 : Int32) then (1 : Int32) else (0 : Int32)))))])) t → Steps p.tables e below (T74.setTop (mkF m 176 #[.val (.int i0), .val (.int i1), .val (.int i2), .val (.int i3), .val (.int i4), .val (.int i5), .val (.int (2 : Int32)), .val (.int c0), .val (.int c1), .val (.int c2), .val (.int c3), .val (.int c4), .val (.int c5), .val (.ref b64), .val (.ref b66), .val (.int (own_i9 (own_st (own_st 0 (own_cl c0)) (own_cl c1)))), .unset] [(.int (2 : Int32)), (.int (own_i9 (own_st (own_st 0 (own_cl c0)) (own_cl c1))))])) t := by
      intro t k0
      by_cases hm75 : (own_i9 (own_st (own_st 0 (own_cl c0)) (own_cl c1))) = (2 : Int32)
      · skip
        refine XS.icmpYes X74.here hx rfl (pc0 := 176) (pc' := 192) rfl (hb hby at_176) rfl (teq hm75).1 (by decide) (by decide) ?_
        show Steps p.tables e below (T74.setTop (mkF m 192 #[.val (.int i0), .val (.int i1), .val (.int i2), .val (.int i3), .val (.int i4), .val (.int i5), .val (.int (2 : Int32)), .val (.int c0), .val (.int c1), .val (.int c2), .val (.int c3), .val (.int c4), .val (.int c5), .val (.ref b64), .val (.ref b66), .val (.int (own_i9 (own_st (own_st 0 (own_cl c0)) (own_cl c1)))), .unset] [])) _
        refine XS.iconst X74.here hx rfl (hb hby at_192) ?_
        show Steps p.tables e below (T74.setTop (mkF m 193 #[.val (.int i0), .val (.int i1), .val (.int i2), .val (.int i3), .val (.int i4), .val (.int i5), .val (.int (2 : Int32)), .val (.int c0), .val (.int c1), .val (.int c2), .val (.int c3), .val (.int c4), .val (.int c5), .val (.ref b64), .val (.ref b66), .val (.int (own_i9 (own_st (own_st 0 (own_cl c0)) (own_cl c1)))), .unset] [(.int (1 : Int32))])) _
        refine XS.goto X74.here hx rfl (pc0 := 193) (pc' := 197) rfl (hb hby at_193) (by decide) (by decide) ?_
        show Steps p.tables e below (T74.setTop (mkF m 197 #[.val (.int i0), .val (.int i1), .val (.int i2), .val (.int i3), .val (.int i4), .val (.int i5), .val (.int (2 : Int32)), .val (.int c0), .val (.int c1), .val (.int c2), .val (.int c3), .val (.int c4), .val (.int c5), .val (.ref b64), .val (.ref b66), .val (.int (own_i9 (own_st (own_st 0 (own_cl c0)) (own_cl c1)))), .unset] [(.int (1 : Int32))])) _
        try simp only [if_pos hm75] at k0
        exact k0
      · skip
        refine XS.icmpNo X74.here hx rfl (hb hby at_176) rfl (feq hm75).1 ?_
        show Steps p.tables e below (T74.setTop (mkF m 179 #[.val (.int i0), .val (.int i1), .val (.int i2), .val (.int i3), .val (.int i4), .val (.int i5), .val (.int (2 : Int32)), .val (.int c0), .val (.int c1), .val (.int c2), .val (.int c3), .val (.int c4), .val (.int c5), .val (.ref b64), .val (.ref b66), .val (.int (own_i9 (own_st (own_st 0 (own_cl c0)) (own_cl c1)))), .unset] [])) _
        refine XS.iload X74.here hx rfl (hb hby at_179) rfl ?_
        show Steps p.tables e below (T74.setTop (mkF m 181 #[.val (.int i0), .val (.int i1), .val (.int i2), .val (.int i3), .val (.int i4), .val (.int i5), .val (.int (2 : Int32)), .val (.int c0), .val (.int c1), .val (.int c2), .val (.int c3), .val (.int c4), .val (.int c5), .val (.ref b64), .val (.ref b66), .val (.int (own_i9 (own_st (own_st 0 (own_cl c0)) (own_cl c1)))), .unset] [(.int (own_i9 (own_st (own_st 0 (own_cl c0)) (own_cl c1))))])) _
        refine XS.iconst X74.here hx rfl (hb hby at_181) ?_
        show Steps p.tables e below (T74.setTop (mkF m 182 #[.val (.int i0), .val (.int i1), .val (.int i2), .val (.int i3), .val (.int i4), .val (.int i5), .val (.int (2 : Int32)), .val (.int c0), .val (.int c1), .val (.int c2), .val (.int c3), .val (.int c4), .val (.int c5), .val (.ref b64), .val (.ref b66), .val (.int (own_i9 (own_st (own_st 0 (own_cl c0)) (own_cl c1)))), .unset] [(.int (4 : Int32)), (.int (own_i9 (own_st (own_st 0 (own_cl c0)) (own_cl c1))))])) _
        by_cases hm76 : (own_i9 (own_st (own_st 0 (own_cl c0)) (own_cl c1))) = (4 : Int32)
        · skip
          refine XS.icmpYes X74.here hx rfl (pc0 := 182) (pc' := 192) rfl (hb hby at_182) rfl (teq hm76).1 (by decide) (by decide) ?_
          show Steps p.tables e below (T74.setTop (mkF m 192 #[.val (.int i0), .val (.int i1), .val (.int i2), .val (.int i3), .val (.int i4), .val (.int i5), .val (.int (2 : Int32)), .val (.int c0), .val (.int c1), .val (.int c2), .val (.int c3), .val (.int c4), .val (.int c5), .val (.ref b64), .val (.ref b66), .val (.int (own_i9 (own_st (own_st 0 (own_cl c0)) (own_cl c1)))), .unset] [])) _
          refine XS.iconst X74.here hx rfl (hb hby at_192) ?_
          show Steps p.tables e below (T74.setTop (mkF m 193 #[.val (.int i0), .val (.int i1), .val (.int i2), .val (.int i3), .val (.int i4), .val (.int i5), .val (.int (2 : Int32)), .val (.int c0), .val (.int c1), .val (.int c2), .val (.int c3), .val (.int c4), .val (.int c5), .val (.ref b64), .val (.ref b66), .val (.int (own_i9 (own_st (own_st 0 (own_cl c0)) (own_cl c1)))), .unset] [(.int (1 : Int32))])) _
          refine XS.goto X74.here hx rfl (pc0 := 193) (pc' := 197) rfl (hb hby at_193) (by decide) (by decide) ?_
          show Steps p.tables e below (T74.setTop (mkF m 197 #[.val (.int i0), .val (.int i1), .val (.int i2), .val (.int i3), .val (.int i4), .val (.int i5), .val (.int (2 : Int32)), .val (.int c0), .val (.int c1), .val (.int c2), .val (.int c3), .val (.int c4), .val (.int c5), .val (.ref b64), .val (.ref b66), .val (.int (own_i9 (own_st (own_st 0 (own_cl c0)) (own_cl c1)))), .unset] [(.int (1 : Int32))])) _
          try simp only [if_neg hm75, if_pos hm76] at k0
          exact k0
        · skip
          refine XS.icmpNo X74.here hx rfl (hb hby at_182) rfl (feq hm76).1 ?_
          show Steps p.tables e below (T74.setTop (mkF m 185 #[.val (.int i0), .val (.int i1), .val (.int i2), .val (.int i3), .val (.int i4), .val (.int i5), .val (.int (2 : Int32)), .val (.int c0), .val (.int c1), .val (.int c2), .val (.int c3), .val (.int c4), .val (.int c5), .val (.ref b64), .val (.ref b66), .val (.int (own_i9 (own_st (own_st 0 (own_cl c0)) (own_cl c1)))), .unset] [])) _
          refine XS.iload X74.here hx rfl (hb hby at_185) rfl ?_
          show Steps p.tables e below (T74.setTop (mkF m 187 #[.val (.int i0), .val (.int i1), .val (.int i2), .val (.int i3), .val (.int i4), .val (.int i5), .val (.int (2 : Int32)), .val (.int c0), .val (.int c1), .val (.int c2), .val (.int c3), .val (.int c4), .val (.int c5), .val (.ref b64), .val (.ref b66), .val (.int (own_i9 (own_st (own_st 0 (own_cl c0)) (own_cl c1)))), .unset] [(.int (own_i9 (own_st (own_st 0 (own_cl c0)) (own_cl c1))))])) _
          refine XS.bipush X74.here hx rfl (hb hby at_187) ?_
          show Steps p.tables e below (T74.setTop (mkF m 189 #[.val (.int i0), .val (.int i1), .val (.int i2), .val (.int i3), .val (.int i4), .val (.int i5), .val (.int (2 : Int32)), .val (.int c0), .val (.int c1), .val (.int c2), .val (.int c3), .val (.int c4), .val (.int c5), .val (.ref b64), .val (.ref b66), .val (.int (own_i9 (own_st (own_st 0 (own_cl c0)) (own_cl c1)))), .unset] [(.int (7 : Int32)), (.int (own_i9 (own_st (own_st 0 (own_cl c0)) (own_cl c1))))])) _
          by_cases hm77 : (own_i9 (own_st (own_st 0 (own_cl c0)) (own_cl c1))) = (7 : Int32)
          · skip
            refine XS.icmpNo X74.here hx rfl (hb hby at_189) rfl (teq hm77).2 ?_
            show Steps p.tables e below (T74.setTop (mkF m 192 #[.val (.int i0), .val (.int i1), .val (.int i2), .val (.int i3), .val (.int i4), .val (.int i5), .val (.int (2 : Int32)), .val (.int c0), .val (.int c1), .val (.int c2), .val (.int c3), .val (.int c4), .val (.int c5), .val (.ref b64), .val (.ref b66), .val (.int (own_i9 (own_st (own_st 0 (own_cl c0)) (own_cl c1)))), .unset] [])) _
            refine XS.iconst X74.here hx rfl (hb hby at_192) ?_
            show Steps p.tables e below (T74.setTop (mkF m 193 #[.val (.int i0), .val (.int i1), .val (.int i2), .val (.int i3), .val (.int i4), .val (.int i5), .val (.int (2 : Int32)), .val (.int c0), .val (.int c1), .val (.int c2), .val (.int c3), .val (.int c4), .val (.int c5), .val (.ref b64), .val (.ref b66), .val (.int (own_i9 (own_st (own_st 0 (own_cl c0)) (own_cl c1)))), .unset] [(.int (1 : Int32))])) _
            refine XS.goto X74.here hx rfl (pc0 := 193) (pc' := 197) rfl (hb hby at_193) (by decide) (by decide) ?_
            show Steps p.tables e below (T74.setTop (mkF m 197 #[.val (.int i0), .val (.int i1), .val (.int i2), .val (.int i3), .val (.int i4), .val (.int i5), .val (.int (2 : Int32)), .val (.int c0), .val (.int c1), .val (.int c2), .val (.int c3), .val (.int c4), .val (.int c5), .val (.ref b64), .val (.ref b66), .val (.int (own_i9 (own_st (own_st 0 (own_cl c0)) (own_cl c1)))), .unset] [(.int (1 : Int32))])) _
            try simp only [if_neg hm75, if_neg hm76, if_pos hm77] at k0
            exact k0
          · skip
            refine XS.icmpYes X74.here hx rfl (pc0 := 189) (pc' := 196) rfl (hb hby at_189) rfl (feq hm77).2 (by decide) (by decide) ?_
            show Steps p.tables e below (T74.setTop (mkF m 196 #[.val (.int i0), .val (.int i1), .val (.int i2), .val (.int i3), .val (.int i4), .val (.int i5), .val (.int (2 : Int32)), .val (.int c0), .val (.int c1), .val (.int c2), .val (.int c3), .val (.int c4), .val (.int c5), .val (.ref b64), .val (.ref b66), .val (.int (own_i9 (own_st (own_st 0 (own_cl c0)) (own_cl c1)))), .unset] [])) _
            refine XS.iconst X74.here hx rfl (hb hby at_196) ?_
            show Steps p.tables e below (T74.setTop (mkF m 197 #[.val (.int i0), .val (.int i1), .val (.int i2), .val (.int i3), .val (.int i4), .val (.int i5), .val (.int (2 : Int32)), .val (.int c0), .val (.int c1), .val (.int c2), .val (.int c3), .val (.int c4), .val (.int c5), .val (.ref b64), .val (.ref b66), .val (.int (own_i9 (own_st (own_st 0 (own_cl c0)) (own_cl c1)))), .unset] [(.int (0 : Int32))])) _
            try simp only [if_neg hm75, if_neg hm76, if_neg hm77] at k0
            exact k0
    refine own_by mg78 ?_
    rw [show (if (own_i9 (own_st (own_st 0 (own_cl c0)) (own_cl c1))) = (2 : Int32) then (1 : Int32) else (if (own_i9 (own_st (own_st 0 (own_cl c0)) (own_cl c1))) = (4 : Int32) then (1 : Int32) else (if (own_i9 (own_st (own_st 0 (own_cl c0)) (own_cl c1))) = (7 : Int32) then (1 : Int32) else (0 : Int32)))) = own_acc (own_st (own_st 0 (own_cl c0)) (own_cl c1)) from own_acc_i (k := (own_st (own_st 0 (own_cl c0)) (own_cl c1))) (own_st9 _ _)]
    show own_Go p e below _ T74 (mkF m 197 #[.val (.int i0), .val (.int i1), .val (.int i2), .val (.int i3), .val (.int i4), .val (.int i5), .val (.int (2 : Int32)), .val (.int c0), .val (.int c1), .val (.int c2), .val (.int c3), .val (.int c4), .val (.int c5), .val (.ref b64), .val (.ref b66), .val (.int (own_i9 (own_st (own_st 0 (own_cl c0)) (own_cl c1)))), .unset] [(.int (own_acc (own_st (own_st 0 (own_cl c0)) (own_cl c1))))])
    refine own_by (T' := T74) (f' := (mkF m 199 #[.val (.int i0), .val (.int i1), .val (.int i2), .val (.int i3), .val (.int i4), .val (.int i5), .val (.int (2 : Int32)), .val (.int c0), .val (.int c1), .val (.int c2), .val (.int c3), .val (.int c4), .val (.int c5), .val (.ref b64), .val (.ref b66), .val (.int (own_i9 (own_st (own_st 0 (own_cl c0)) (own_cl c1)))), .val (.int (own_acc (own_st (own_st 0 (own_cl c0)) (own_cl c1))))] [])) (fun t k => XS.istore X74.here hx rfl (hb hby at_197) rfl (l' := #[.val (.int i0), .val (.int i1), .val (.int i2), .val (.int i3), .val (.int i4), .val (.int i5), .val (.int (2 : Int32)), .val (.int c0), .val (.int c1), .val (.int c2), .val (.int c3), .val (.int c4), .val (.int c5), .val (.ref b64), .val (.ref b66), .val (.int (own_i9 (own_st (own_st 0 (own_cl c0)) (own_cl c1)))), .val (.int (own_acc (own_st (own_st 0 (own_cl c0)) (own_cl c1))))]) rfl k) ?_
    refine own_by (T' := T74) (f' := (mkF m 201 #[.val (.int i0), .val (.int i1), .val (.int i2), .val (.int i3), .val (.int i4), .val (.int i5), .val (.int (2 : Int32)), .val (.int c0), .val (.int c1), .val (.int c2), .val (.int c3), .val (.int c4), .val (.int c5), .val (.ref b64), .val (.ref b66), .val (.int (own_i9 (own_st (own_st 0 (own_cl c0)) (own_cl c1)))), .val (.int (own_acc (own_st (own_st 0 (own_cl c0)) (own_cl c1))))] [(.ref b66)])) (fun t k => XS.aload X74.here hx rfl (hb hby at_199) rfl rfl k) ?_
    have f79 := (f70.keep K71 q68)
    refine own_callS X74 hx hZ hown e74 (hb hby at_201) [(.ref b66)] [] 0 (rmDE l Z a0 hw [] b66 (2 : Int32) 2 (fun i => List.getD [c0, c1] i 0) (fun i => List.getD [own_cl c0, own_cl c1] i 0) cs fm T71.heap (fun i hi => by match i, hi with | 0, _ => rfl | 1, _ => rfl | (q + 2), h => exact absurd h (by omega)) (by decide) (by decide) Q71 f79) (own_w hw 34 rfl) (own_w hw 35 rfl) (own_w hw 36 rfl) (own_w hw 37 rfl) (by decide) pd__Ljava_lang_String__Z (by rw [hml]; rfl) rfl rfl (Nat.le_of_eq rfl) (by decide) (by decide) (by decide) (by decide) ?_
    rintro T80 _ L80 X80 ⟨rfl, rfl, e80⟩
    show own_Go p e below _ T80 (mkF m 204 #[.val (.int i0), .val (.int i1), .val (.int i2), .val (.int i3), .val (.int i4), .val (.int i5), .val (.int (2 : Int32)), .val (.int c0), .val (.int c1), .val (.int c2), .val (.int c3), .val (.int c4), .val (.int c5), .val (.ref b64), .val (.ref b66), .val (.int (own_i9 (own_st (own_st 0 (own_cl c0)) (own_cl c1)))), .val (.int (own_acc (own_st (own_st 0 (own_cl c0)) (own_cl c1))))] [(.int (own_isDec (fun i => List.getD [own_cl c0, own_cl c1] i 0) 2))])
    rw [List.append_nil] at X80
    have hlw : own_isDec (fun i => List.getD [own_cl c0, own_cl c1] i 0) 2 = own_acc (own_st (own_st 0 (own_cl c0)) (own_cl c1)) := own_law2 ⟨own_cl c0, own_cl_lt c0⟩ ⟨own_cl c1, own_cl_lt c1⟩
    refine own_by (T' := T80) (f' := (mkF m 206 #[.val (.int i0), .val (.int i1), .val (.int i2), .val (.int i3), .val (.int i4), .val (.int i5), .val (.int (2 : Int32)), .val (.int c0), .val (.int c1), .val (.int c2), .val (.int c3), .val (.int c4), .val (.int c5), .val (.ref b64), .val (.ref b66), .val (.int (own_i9 (own_st (own_st 0 (own_cl c0)) (own_cl c1)))), .val (.int (own_acc (own_st (own_st 0 (own_cl c0)) (own_cl c1))))] [(.int (own_acc (own_st (own_st 0 (own_cl c0)) (own_cl c1)))), (.int (own_isDec (fun i => List.getD [own_cl c0, own_cl c1] i 0) 2))])) (fun t k => XS.iload X80.here hx rfl (hb hby at_204) rfl k) ?_
    have hc206_81 : (own_isDec (fun i => List.getD [own_cl c0, own_cl c1] i 0) 2) = (own_acc (own_st (own_st 0 (own_cl c0)) (own_cl c1))) := hlw
    refine own_by (T' := T80) (f' := (mkF m 209 #[.val (.int i0), .val (.int i1), .val (.int i2), .val (.int i3), .val (.int i4), .val (.int i5), .val (.int (2 : Int32)), .val (.int c0), .val (.int c1), .val (.int c2), .val (.int c3), .val (.int c4), .val (.int c5), .val (.ref b64), .val (.ref b66), .val (.int (own_i9 (own_st (own_st 0 (own_cl c0)) (own_cl c1)))), .val (.int (own_acc (own_st (own_st 0 (own_cl c0)) (own_cl c1))))] [])) (fun t k => XS.icmpNo X80.here hx rfl (hb hby at_206) rfl (teq hc206_81).2 k) ?_
    refine own_by (T' := T80) (f' := (mkF m 210 #[.val (.int i0), .val (.int i1), .val (.int i2), .val (.int i3), .val (.int i4), .val (.int i5), .val (.int (2 : Int32)), .val (.int c0), .val (.int c1), .val (.int c2), .val (.int c3), .val (.int c4), .val (.int c5), .val (.ref b64), .val (.ref b66), .val (.int (own_i9 (own_st (own_st 0 (own_cl c0)) (own_cl c1)))), .val (.int (own_acc (own_st (own_st 0 (own_cl c0)) (own_cl c1))))] [(.int (1 : Int32))])) (fun t k => XS.iconst X80.here hx rfl (hb hby at_209) k) ?_
    refine own_by (T' := T80) (f' := (mkF m 214 #[.val (.int i0), .val (.int i1), .val (.int i2), .val (.int i3), .val (.int i4), .val (.int i5), .val (.int (2 : Int32)), .val (.int c0), .val (.int c1), .val (.int c2), .val (.int c3), .val (.int c4), .val (.int c5), .val (.ref b64), .val (.ref b66), .val (.int (own_i9 (own_st (own_st 0 (own_cl c0)) (own_cl c1)))), .val (.int (own_acc (own_st (own_st 0 (own_cl c0)) (own_cl c1))))] [(.int (1 : Int32))])) (fun t k => XS.goto X80.here hx rfl (pc0 := 210) (pc' := 214) rfl (hb hby at_210) (by decide) (by decide) k) ?_
    refine own_retW X80 hx hret hlk hZ hEL hs0 e80 hS hk CH (hb hby at_214) rfl (Or.inl ⟨rfl, Or.inr (Or.inl rfl), _, rfl⟩) (by decide) (by decide) ?_
    try rw [e80]
    exact ⟨rfl, N71⟩
  · rw [hl]
    show own_Go p e below _ T11 (mkF m 9 #[.val (.int i0), .val (.int i1), .val (.int i2), .val (.int i3), .val (.int i4), .val (.int i5), .unset, .unset, .unset, .unset, .unset, .unset, .unset, .unset, .unset, .unset, .unset] [(.int (3 : Int32))])
    refine own_by (T' := T11) (f' := (mkF m 11 #[.val (.int i0), .val (.int i1), .val (.int i2), .val (.int i3), .val (.int i4), .val (.int i5), .val (.int (3 : Int32)), .unset, .unset, .unset, .unset, .unset, .unset, .unset, .unset, .unset, .unset] [])) (fun t k => XS.istore X11.here hx rfl (hb hby at_9) rfl (l' := #[.val (.int i0), .val (.int i1), .val (.int i2), .val (.int i3), .val (.int i4), .val (.int i5), .val (.int (3 : Int32)), .unset, .unset, .unset, .unset, .unset, .unset, .unset, .unset, .unset, .unset]) rfl k) ?_
    refine own_by (T' := T11) (f' := (mkF m 12 #[.val (.int i0), .val (.int i1), .val (.int i2), .val (.int i3), .val (.int i4), .val (.int i5), .val (.int (3 : Int32)), .unset, .unset, .unset, .unset, .unset, .unset, .unset, .unset, .unset, .unset] [(.int i1)])) (fun t k => XS.iloadN X11.here hx rfl (hb hby at_11) rfl k) ?_
    refine own_callS X11 hx hZ hown e11 (hb hby at_12) [(.int i1)] [] 0 (rmCH l Z a0 hw [] i1 h0) (own_w hw 4 rfl) (own_w hw 5 rfl) (own_w hw 6 rfl) (own_w hw 7 rfl) (by decide) pd__I_C (by rw [hml]; rfl) rfl rfl (Nat.le_of_eq rfl) (by decide) (by decide) (by decide) (by decide) ?_
    rintro T82 _ L82 X82 ⟨c0, rfl, hc0, rfl, e82⟩
    rw [List.append_nil] at X82
    show own_Go p e below _ T82 (mkF m 15 #[.val (.int i0), .val (.int i1), .val (.int i2), .val (.int i3), .val (.int i4), .val (.int i5), .val (.int (3 : Int32)), .unset, .unset, .unset, .unset, .unset, .unset, .unset, .unset, .unset, .unset] [(.int c0)])
    refine own_by (T' := T82) (f' := (mkF m 17 #[.val (.int i0), .val (.int i1), .val (.int i2), .val (.int i3), .val (.int i4), .val (.int i5), .val (.int (3 : Int32)), .val (.int c0), .unset, .unset, .unset, .unset, .unset, .unset, .unset, .unset, .unset] [])) (fun t k => XS.istore X82.here hx rfl (hb hby at_15) rfl (l' := #[.val (.int i0), .val (.int i1), .val (.int i2), .val (.int i3), .val (.int i4), .val (.int i5), .val (.int (3 : Int32)), .val (.int c0), .unset, .unset, .unset, .unset, .unset, .unset, .unset, .unset, .unset]) rfl k) ?_
    refine own_by (T' := T82) (f' := (mkF m 18 #[.val (.int i0), .val (.int i1), .val (.int i2), .val (.int i3), .val (.int i4), .val (.int i5), .val (.int (3 : Int32)), .val (.int c0), .unset, .unset, .unset, .unset, .unset, .unset, .unset, .unset, .unset] [(.int i2)])) (fun t k => XS.iloadN X82.here hx rfl (hb hby at_17) rfl k) ?_
    refine own_callS X82 hx hZ hown e82 (hb hby at_18) [(.int i2)] [] 0 (rmCH l Z a0 hw [] i2 h0) (own_w hw 4 rfl) (own_w hw 5 rfl) (own_w hw 6 rfl) (own_w hw 7 rfl) (by decide) pd__I_C (by rw [hml]; rfl) rfl rfl (Nat.le_of_eq rfl) (by decide) (by decide) (by decide) (by decide) ?_
    rintro T83 _ L83 X83 ⟨c1, rfl, hc1, rfl, e83⟩
    rw [List.append_nil] at X83
    show own_Go p e below _ T83 (mkF m 21 #[.val (.int i0), .val (.int i1), .val (.int i2), .val (.int i3), .val (.int i4), .val (.int i5), .val (.int (3 : Int32)), .val (.int c0), .unset, .unset, .unset, .unset, .unset, .unset, .unset, .unset, .unset] [(.int c1)])
    refine own_by (T' := T83) (f' := (mkF m 23 #[.val (.int i0), .val (.int i1), .val (.int i2), .val (.int i3), .val (.int i4), .val (.int i5), .val (.int (3 : Int32)), .val (.int c0), .val (.int c1), .unset, .unset, .unset, .unset, .unset, .unset, .unset, .unset] [])) (fun t k => XS.istore X83.here hx rfl (hb hby at_21) rfl (l' := #[.val (.int i0), .val (.int i1), .val (.int i2), .val (.int i3), .val (.int i4), .val (.int i5), .val (.int (3 : Int32)), .val (.int c0), .val (.int c1), .unset, .unset, .unset, .unset, .unset, .unset, .unset, .unset]) rfl k) ?_
    refine own_by (T' := T83) (f' := (mkF m 24 #[.val (.int i0), .val (.int i1), .val (.int i2), .val (.int i3), .val (.int i4), .val (.int i5), .val (.int (3 : Int32)), .val (.int c0), .val (.int c1), .unset, .unset, .unset, .unset, .unset, .unset, .unset, .unset] [(.int i3)])) (fun t k => XS.iloadN X83.here hx rfl (hb hby at_23) rfl k) ?_
    refine own_callS X83 hx hZ hown e83 (hb hby at_24) [(.int i3)] [] 0 (rmCH l Z a0 hw [] i3 h0) (own_w hw 4 rfl) (own_w hw 5 rfl) (own_w hw 6 rfl) (own_w hw 7 rfl) (by decide) pd__I_C (by rw [hml]; rfl) rfl rfl (Nat.le_of_eq rfl) (by decide) (by decide) (by decide) (by decide) ?_
    rintro T84 _ L84 X84 ⟨c2, rfl, hc2, rfl, e84⟩
    rw [List.append_nil] at X84
    show own_Go p e below _ T84 (mkF m 27 #[.val (.int i0), .val (.int i1), .val (.int i2), .val (.int i3), .val (.int i4), .val (.int i5), .val (.int (3 : Int32)), .val (.int c0), .val (.int c1), .unset, .unset, .unset, .unset, .unset, .unset, .unset, .unset] [(.int c2)])
    refine own_by (T' := T84) (f' := (mkF m 29 #[.val (.int i0), .val (.int i1), .val (.int i2), .val (.int i3), .val (.int i4), .val (.int i5), .val (.int (3 : Int32)), .val (.int c0), .val (.int c1), .val (.int c2), .unset, .unset, .unset, .unset, .unset, .unset, .unset] [])) (fun t k => XS.istore X84.here hx rfl (hb hby at_27) rfl (l' := #[.val (.int i0), .val (.int i1), .val (.int i2), .val (.int i3), .val (.int i4), .val (.int i5), .val (.int (3 : Int32)), .val (.int c0), .val (.int c1), .val (.int c2), .unset, .unset, .unset, .unset, .unset, .unset, .unset]) rfl k) ?_
    refine own_by (T' := T84) (f' := (mkF m 31 #[.val (.int i0), .val (.int i1), .val (.int i2), .val (.int i3), .val (.int i4), .val (.int i5), .val (.int (3 : Int32)), .val (.int c0), .val (.int c1), .val (.int c2), .unset, .unset, .unset, .unset, .unset, .unset, .unset] [(.int i4)])) (fun t k => XS.iload X84.here hx rfl (hb hby at_29) rfl k) ?_
    refine own_callS X84 hx hZ hown e84 (hb hby at_31) [(.int i4)] [] 0 (rmCH l Z a0 hw [] i4 h0) (own_w hw 4 rfl) (own_w hw 5 rfl) (own_w hw 6 rfl) (own_w hw 7 rfl) (by decide) pd__I_C (by rw [hml]; rfl) rfl rfl (Nat.le_of_eq rfl) (by decide) (by decide) (by decide) (by decide) ?_
    rintro T85 _ L85 X85 ⟨c3, rfl, hc3, rfl, e85⟩
    rw [List.append_nil] at X85
    show own_Go p e below _ T85 (mkF m 34 #[.val (.int i0), .val (.int i1), .val (.int i2), .val (.int i3), .val (.int i4), .val (.int i5), .val (.int (3 : Int32)), .val (.int c0), .val (.int c1), .val (.int c2), .unset, .unset, .unset, .unset, .unset, .unset, .unset] [(.int c3)])
    refine own_by (T' := T85) (f' := (mkF m 36 #[.val (.int i0), .val (.int i1), .val (.int i2), .val (.int i3), .val (.int i4), .val (.int i5), .val (.int (3 : Int32)), .val (.int c0), .val (.int c1), .val (.int c2), .val (.int c3), .unset, .unset, .unset, .unset, .unset, .unset] [])) (fun t k => XS.istore X85.here hx rfl (hb hby at_34) rfl (l' := #[.val (.int i0), .val (.int i1), .val (.int i2), .val (.int i3), .val (.int i4), .val (.int i5), .val (.int (3 : Int32)), .val (.int c0), .val (.int c1), .val (.int c2), .val (.int c3), .unset, .unset, .unset, .unset, .unset, .unset]) rfl k) ?_
    refine own_by (T' := T85) (f' := (mkF m 38 #[.val (.int i0), .val (.int i1), .val (.int i2), .val (.int i3), .val (.int i4), .val (.int i5), .val (.int (3 : Int32)), .val (.int c0), .val (.int c1), .val (.int c2), .val (.int c3), .unset, .unset, .unset, .unset, .unset, .unset] [(.int i5)])) (fun t k => XS.iload X85.here hx rfl (hb hby at_36) rfl k) ?_
    refine own_callS X85 hx hZ hown e85 (hb hby at_38) [(.int i5)] [] 0 (rmCH l Z a0 hw [] i5 h0) (own_w hw 4 rfl) (own_w hw 5 rfl) (own_w hw 6 rfl) (own_w hw 7 rfl) (by decide) pd__I_C (by rw [hml]; rfl) rfl rfl (Nat.le_of_eq rfl) (by decide) (by decide) (by decide) (by decide) ?_
    rintro T86 _ L86 X86 ⟨c4, rfl, hc4, rfl, e86⟩
    rw [List.append_nil] at X86
    show own_Go p e below _ T86 (mkF m 41 #[.val (.int i0), .val (.int i1), .val (.int i2), .val (.int i3), .val (.int i4), .val (.int i5), .val (.int (3 : Int32)), .val (.int c0), .val (.int c1), .val (.int c2), .val (.int c3), .unset, .unset, .unset, .unset, .unset, .unset] [(.int c4)])
    refine own_by (T' := T86) (f' := (mkF m 43 #[.val (.int i0), .val (.int i1), .val (.int i2), .val (.int i3), .val (.int i4), .val (.int i5), .val (.int (3 : Int32)), .val (.int c0), .val (.int c1), .val (.int c2), .val (.int c3), .val (.int c4), .unset, .unset, .unset, .unset, .unset] [])) (fun t k => XS.istore X86.here hx rfl (hb hby at_41) rfl (l' := #[.val (.int i0), .val (.int i1), .val (.int i2), .val (.int i3), .val (.int i4), .val (.int i5), .val (.int (3 : Int32)), .val (.int c0), .val (.int c1), .val (.int c2), .val (.int c3), .val (.int c4), .unset, .unset, .unset, .unset, .unset]) rfl k) ?_
    refine own_by (T' := T86) (f' := (mkF m 44 #[.val (.int i0), .val (.int i1), .val (.int i2), .val (.int i3), .val (.int i4), .val (.int i5), .val (.int (3 : Int32)), .val (.int c0), .val (.int c1), .val (.int c2), .val (.int c3), .val (.int c4), .unset, .unset, .unset, .unset, .unset] [(.int i0)])) (fun t k => XS.iloadN X86.here hx rfl (hb hby at_43) rfl k) ?_
    refine own_by (T' := T86) (f' := (mkF m 45 #[.val (.int i0), .val (.int i1), .val (.int i2), .val (.int i3), .val (.int i4), .val (.int i5), .val (.int (3 : Int32)), .val (.int c0), .val (.int c1), .val (.int c2), .val (.int c3), .val (.int c4), .unset, .unset, .unset, .unset, .unset] [(.int (3 : Int32)), (.int i0)])) (fun t k => XS.iconst X86.here hx rfl (hb hby at_44) k) ?_
    refine own_by (T' := T86) (f' := (mkF m 46 #[.val (.int i0), .val (.int i1), .val (.int i2), .val (.int i3), .val (.int i4), .val (.int i5), .val (.int (3 : Int32)), .val (.int c0), .val (.int c1), .val (.int c2), .val (.int c3), .val (.int c4), .unset, .unset, .unset, .unset, .unset] [(.int ((i0.toUInt32 >>> ((3 : Int32) &&& 31).toUInt32).toInt32))])) (fun t k => XS.iushr X86.here hx rfl (hb hby at_45) rfl k) ?_
    refine own_callS X86 hx hZ hown e86 (hb hby at_46) [(.int ((i0.toUInt32 >>> ((3 : Int32) &&& 31).toUInt32).toInt32))] [] 0 (rmCH l Z a0 hw [] ((i0.toUInt32 >>> ((3 : Int32) &&& 31).toUInt32).toInt32) h0) (own_w hw 4 rfl) (own_w hw 5 rfl) (own_w hw 6 rfl) (own_w hw 7 rfl) (by decide) pd__I_C (by rw [hml]; rfl) rfl rfl (Nat.le_of_eq rfl) (by decide) (by decide) (by decide) (by decide) ?_
    rintro T87 _ L87 X87 ⟨c5, rfl, hc5, rfl, e87⟩
    rw [List.append_nil] at X87
    show own_Go p e below _ T87 (mkF m 49 #[.val (.int i0), .val (.int i1), .val (.int i2), .val (.int i3), .val (.int i4), .val (.int i5), .val (.int (3 : Int32)), .val (.int c0), .val (.int c1), .val (.int c2), .val (.int c3), .val (.int c4), .unset, .unset, .unset, .unset, .unset] [(.int c5)])
    refine own_by (T' := T87) (f' := (mkF m 51 #[.val (.int i0), .val (.int i1), .val (.int i2), .val (.int i3), .val (.int i4), .val (.int i5), .val (.int (3 : Int32)), .val (.int c0), .val (.int c1), .val (.int c2), .val (.int c3), .val (.int c4), .val (.int c5), .unset, .unset, .unset, .unset] [])) (fun t k => XS.istore X87.here hx rfl (hb hby at_49) rfl (l' := #[.val (.int i0), .val (.int i1), .val (.int i2), .val (.int i3), .val (.int i4), .val (.int i5), .val (.int (3 : Int32)), .val (.int c0), .val (.int c1), .val (.int c2), .val (.int c3), .val (.int c4), .val (.int c5), .unset, .unset, .unset, .unset]) rfl k) ?_
    refine own_by (T' := T87) (f' := (mkF m 53 #[.val (.int i0), .val (.int i1), .val (.int i2), .val (.int i3), .val (.int i4), .val (.int i5), .val (.int (3 : Int32)), .val (.int c0), .val (.int c1), .val (.int c2), .val (.int c3), .val (.int c4), .val (.int c5), .unset, .unset, .unset, .unset] [(.int (3 : Int32))])) (fun t k => XS.iload X87.here hx rfl (hb hby at_51) rfl k) ?_
    refine own_by (T' := T87) (f' := (mkF m 55 #[.val (.int i0), .val (.int i1), .val (.int i2), .val (.int i3), .val (.int i4), .val (.int i5), .val (.int (3 : Int32)), .val (.int c0), .val (.int c1), .val (.int c2), .val (.int c3), .val (.int c4), .val (.int c5), .unset, .unset, .unset, .unset] [(.int c0), (.int (3 : Int32))])) (fun t k => XS.iload X87.here hx rfl (hb hby at_53) rfl k) ?_
    refine own_by (T' := T87) (f' := (mkF m 57 #[.val (.int i0), .val (.int i1), .val (.int i2), .val (.int i3), .val (.int i4), .val (.int i5), .val (.int (3 : Int32)), .val (.int c0), .val (.int c1), .val (.int c2), .val (.int c3), .val (.int c4), .val (.int c5), .unset, .unset, .unset, .unset] [(.int c1), (.int c0), (.int (3 : Int32))])) (fun t k => XS.iload X87.here hx rfl (hb hby at_55) rfl k) ?_
    refine own_by (T' := T87) (f' := (mkF m 59 #[.val (.int i0), .val (.int i1), .val (.int i2), .val (.int i3), .val (.int i4), .val (.int i5), .val (.int (3 : Int32)), .val (.int c0), .val (.int c1), .val (.int c2), .val (.int c3), .val (.int c4), .val (.int c5), .unset, .unset, .unset, .unset] [(.int c2), (.int c1), (.int c0), (.int (3 : Int32))])) (fun t k => XS.iload X87.here hx rfl (hb hby at_57) rfl k) ?_
    refine own_by (T' := T87) (f' := (mkF m 61 #[.val (.int i0), .val (.int i1), .val (.int i2), .val (.int i3), .val (.int i4), .val (.int i5), .val (.int (3 : Int32)), .val (.int c0), .val (.int c1), .val (.int c2), .val (.int c3), .val (.int c4), .val (.int c5), .unset, .unset, .unset, .unset] [(.int c3), (.int c2), (.int c1), (.int c0), (.int (3 : Int32))])) (fun t k => XS.iload X87.here hx rfl (hb hby at_59) rfl k) ?_
    refine own_by (T' := T87) (f' := (mkF m 63 #[.val (.int i0), .val (.int i1), .val (.int i2), .val (.int i3), .val (.int i4), .val (.int i5), .val (.int (3 : Int32)), .val (.int c0), .val (.int c1), .val (.int c2), .val (.int c3), .val (.int c4), .val (.int c5), .unset, .unset, .unset, .unset] [(.int c4), (.int c3), (.int c2), (.int c1), (.int c0), (.int (3 : Int32))])) (fun t k => XS.iload X87.here hx rfl (hb hby at_61) rfl k) ?_
    refine own_by (T' := T87) (f' := (mkF m 65 #[.val (.int i0), .val (.int i1), .val (.int i2), .val (.int i3), .val (.int i4), .val (.int i5), .val (.int (3 : Int32)), .val (.int c0), .val (.int c1), .val (.int c2), .val (.int c3), .val (.int c4), .val (.int c5), .unset, .unset, .unset, .unset] [(.int c5), (.int c4), (.int c3), (.int c2), (.int c1), (.int c0), (.int (3 : Int32))])) (fun t k => XS.iload X87.here hx rfl (hb hby at_63) rfl k) ?_
    refine own_callS X87 hx hZ hown e87 (hb hby at_65) [(.int (3 : Int32)), (.int c0), (.int c1), (.int c2), (.int c3), (.int c4), (.int c5)] [] 0 (rmMK3 l Z a0 hw [] c0 c1 c2 c3 c4 c5 h0 n0 Z0 hc0 hc1 hc2 hc3 hc4 hc5) (own_w hw 9 rfl) (own_w hw 10 rfl) (own_w hw 6 rfl) (own_w hw 11 rfl) (by decide) pd__ICCCCCC__C (by rw [hml]; rfl) rfl rfl (Nat.le_of_eq rfl) (by decide) (by decide) (by decide) (by decide) ?_
    rintro T88 _ L88 X88 ⟨b88, rfl, N88q, K88, gb88, B88⟩
    show own_Go p e below _ T88 (mkF m 68 #[.val (.int i0), .val (.int i1), .val (.int i2), .val (.int i3), .val (.int i4), .val (.int i5), .val (.int (3 : Int32)), .val (.int c0), .val (.int c1), .val (.int c2), .val (.int c3), .val (.int c4), .val (.int c5), .unset, .unset, .unset, .unset] [(.ref b88)])
    have N88 := Fr.app N0 N88q
    have hk := Nat.le_trans hk K88.1
    have CH := CH.trans (CHr.keep K88 all0 CH.1)
    have sz89 : n0 ≤ T88.heap.size := Nat.le_trans Z0 K88.1
    refine own_by (T' := T88) (f' := (mkF m 70 #[.val (.int i0), .val (.int i1), .val (.int i2), .val (.int i3), .val (.int i4), .val (.int i5), .val (.int (3 : Int32)), .val (.int c0), .val (.int c1), .val (.int c2), .val (.int c3), .val (.int c4), .val (.int c5), .val (.ref b88), .unset, .unset, .unset] [])) (fun t k => XS.astore X88.here hx rfl (hb hby at_68) rfl rfl (l' := #[.val (.int i0), .val (.int i1), .val (.int i2), .val (.int i3), .val (.int i4), .val (.int i5), .val (.int (3 : Int32)), .val (.int c0), .val (.int c1), .val (.int c2), .val (.int c3), .val (.int c4), .val (.int c5), .val (.ref b88), .unset, .unset, .unset]) rfl k) ?_
    refine own_new X88 hx hZ hown rfl (hb hby at_70) (own_w hw 13 rfl) (own_w hw 14 rfl) (own_w hw 15 rfl) (by decide) (by decide) ?_
    intro T90 h90 b90 X90 e90 g90 E90 A90 D90
    have ne90_b88 : b88 ≠ b90 := Nat.ne_of_lt (by rw [g90]; exact B88.lt)
    have gn90 : n0 ≤ b90 := by rw [g90]; exact sz89
    show own_Go p e below _ T90 (mkF m 73 #[.val (.int i0), .val (.int i1), .val (.int i2), .val (.int i3), .val (.int i4), .val (.int i5), .val (.int (3 : Int32)), .val (.int c0), .val (.int c1), .val (.int c2), .val (.int c3), .val (.int c4), .val (.int c5), .val (.ref b88), .unset, .unset, .unset] [(.ref b90)])
    have S_b90 := Safe.ext E90 CH.1 (Safe.new (Nat.le_of_eq g90.symm))
    have hk := Nat.le_trans hk E90.1
    have CH := CH.trans (CHr.ext E90 CH.1)
    have F90_value : Fld Z h90 b90 "java/lang/String" "value" "[B" .null := D90 (Or.inr (own_w hw 28 rfl)) (ty := (.array .byte)) (by decide)
    have F90_coder : Fld Z h90 b90 "java/lang/String" "coder" "B" (.int (0 : Int32)) := D90 (Or.inr (own_w hw 29 rfl)) (ty := .byte) (by decide)
    have sz91 : n0 ≤ h90.size := Nat.le_trans sz89 E90.1
    refine own_by (T' := T90) (f' := (mkF m 74 #[.val (.int i0), .val (.int i1), .val (.int i2), .val (.int i3), .val (.int i4), .val (.int i5), .val (.int (3 : Int32)), .val (.int c0), .val (.int c1), .val (.int c2), .val (.int c3), .val (.int c4), .val (.int c5), .val (.ref b88), .unset, .unset, .unset] [(.ref b90), (.ref b90)])) (fun t k => XS.dup X90.here hx rfl (hb hby at_73) rfl rfl k) ?_
    refine own_by (T' := T90) (f' := (mkF m 76 #[.val (.int i0), .val (.int i1), .val (.int i2), .val (.int i3), .val (.int i4), .val (.int i5), .val (.int (3 : Int32)), .val (.int c0), .val (.int c1), .val (.int c2), .val (.int c3), .val (.int c4), .val (.int c5), .val (.ref b88), .unset, .unset, .unset] [(.ref b88), (.ref b90), (.ref b90)])) (fun t k => XS.aload X90.here hx rfl (hb hby at_74) rfl rfl k) ?_
    have q92 : ∀ x ∈ [b90], ∃ c : Cell, h90[x]? = some c ∧ c.vm.isStatics = false := (allS (own_ns A90) all0)
    have f93 := (B88.ext E90)
    have f94 := ((ST.keep K88 all0).ext E90)
    refine own_callN X90 hx hZ hown e90 (hb hby at_76) [(.ref b88)] [(.ref b90)] 1 (rmI1 l Z a0 hw [] b90 b88 (3 : Int32) 3 (fun i => List.getD [c0, c1, c2] i 0) _ _ cs fm h90 n0 sz91 gn90 (by decide) (by decide) (by decide) (fun i hi => by match i, hi with | 0, _ => exact hc0 | 1, _ => exact hc1 | 2, _ => exact hc2 | (q + 3), h => exact absurd h (by omega)) f93 ne90_b88 A90 F90_value F90_coder f94) (own_w hw 16 rfl) (own_w hw 17 rfl) (own_w hw 15 rfl) (own_w hw 18 rfl) rfl (by decide) pd___C_V (by rw [hml]; rfl) rfl rfl (Nat.le_of_eq rfl) (by decide) (by decide) (by decide) (by decide) ?_
    rintro T95 _ L95 X95 ⟨rfl, N95q, K95, Q95⟩
    show own_Go p e below _ T95 (mkF m 79 #[.val (.int i0), .val (.int i1), .val (.int i2), .val (.int i3), .val (.int i4), .val (.int i5), .val (.int (3 : Int32)), .val (.int c0), .val (.int c1), .val (.int c2), .val (.int c3), .val (.int c4), .val (.int c5), .val (.ref b88), .unset, .unset, .unset] [(.ref b90)])
    have S_b90' := Safe.keep K95 (allS S_b90 all0) CH.1 S_b90
    have hk := Nat.le_trans hk K95.1
    have CH := CH.trans (CHr.keep K95 (allS S_b90 all0) CH.1)
    have S_b90 := S_b90'
    have N95 := Fr.app N88 N95q
    have sz96 : n0 ≤ T95.heap.size := Nat.le_trans sz91 K95.1
    refine own_by (T' := T95) (f' := (mkF m 81 #[.val (.int i0), .val (.int i1), .val (.int i2), .val (.int i3), .val (.int i4), .val (.int i5), .val (.int (3 : Int32)), .val (.int c0), .val (.int c1), .val (.int c2), .val (.int c3), .val (.int c4), .val (.int c5), .val (.ref b88), .val (.ref b90), .unset, .unset] [])) (fun t k => XS.astore X95.here hx rfl (hb hby at_79) rfl rfl (l' := #[.val (.int i0), .val (.int i1), .val (.int i2), .val (.int i3), .val (.int i4), .val (.int i5), .val (.int (3 : Int32)), .val (.int c0), .val (.int c1), .val (.int c2), .val (.int c3), .val (.int c4), .val (.int c5), .val (.ref b88), .val (.ref b90), .unset, .unset]) rfl k) ?_
    refine own_by (T' := T95) (f' := (mkF m 82 #[.val (.int i0), .val (.int i1), .val (.int i2), .val (.int i3), .val (.int i4), .val (.int i5), .val (.int (3 : Int32)), .val (.int c0), .val (.int c1), .val (.int c2), .val (.int c3), .val (.int c4), .val (.int c5), .val (.ref b88), .val (.ref b90), .unset, .unset] [(.int (0 : Int32))])) (fun t k => XS.iconst X95.here hx rfl (hb hby at_81) k) ?_
    refine own_by (T' := T95) (f' := (mkF m 84 #[.val (.int i0), .val (.int i1), .val (.int i2), .val (.int i3), .val (.int i4), .val (.int i5), .val (.int (3 : Int32)), .val (.int c0), .val (.int c1), .val (.int c2), .val (.int c3), .val (.int c4), .val (.int c5), .val (.ref b88), .val (.ref b90), .val (.int (0 : Int32)), .unset] [])) (fun t k => XS.istore X95.here hx rfl (hb hby at_82) rfl (l' := #[.val (.int i0), .val (.int i1), .val (.int i2), .val (.int i3), .val (.int i4), .val (.int i5), .val (.int (3 : Int32)), .val (.int c0), .val (.int c1), .val (.int c2), .val (.int c3), .val (.int c4), .val (.int c5), .val (.ref b88), .val (.ref b90), .val (.int (0 : Int32)), .unset]) rfl k) ?_
    refine own_by (T' := T95) (f' := (mkF m 86 #[.val (.int i0), .val (.int i1), .val (.int i2), .val (.int i3), .val (.int i4), .val (.int i5), .val (.int (3 : Int32)), .val (.int c0), .val (.int c1), .val (.int c2), .val (.int c3), .val (.int c4), .val (.int c5), .val (.ref b88), .val (.ref b90), .val (.int (0 : Int32)), .unset] [(.int (3 : Int32))])) (fun t k => XS.iload X95.here hx rfl (hb hby at_84) rfl k) ?_
    refine own_by (T' := T95) (f' := (mkF m 89 #[.val (.int i0), .val (.int i1), .val (.int i2), .val (.int i3), .val (.int i4), .val (.int i5), .val (.int (3 : Int32)), .val (.int c0), .val (.int c1), .val (.int c2), .val (.int c3), .val (.int c4), .val (.int c5), .val (.ref b88), .val (.ref b90), .val (.int (0 : Int32)), .unset] [])) (fun t k => XS.ifNo X95.here hx rfl (hb hby at_86) rfl ((if0 _ _).trans (tlt (by decide)).2.2.2) k) ?_
    refine own_by (T' := T95) (f' := (mkF m 91 #[.val (.int i0), .val (.int i1), .val (.int i2), .val (.int i3), .val (.int i4), .val (.int i5), .val (.int (3 : Int32)), .val (.int c0), .val (.int c1), .val (.int c2), .val (.int c3), .val (.int c4), .val (.int c5), .val (.ref b88), .val (.ref b90), .val (.int (0 : Int32)), .unset] [(.int (0 : Int32))])) (fun t k => XS.iload X95.here hx rfl (hb hby at_89) rfl k) ?_
    refine own_by (T' := T95) (f' := (mkF m 93 #[.val (.int i0), .val (.int i1), .val (.int i2), .val (.int i3), .val (.int i4), .val (.int i5), .val (.int (3 : Int32)), .val (.int c0), .val (.int c1), .val (.int c2), .val (.int c3), .val (.int c4), .val (.int c5), .val (.ref b88), .val (.ref b90), .val (.int (0 : Int32)), .unset] [(.int c0), (.int (0 : Int32))])) (fun t k => XS.iload X95.here hx rfl (hb hby at_91) rfl k) ?_
    refine own_callS X95 hx hZ hown rfl (hb hby at_93) [(.int (0 : Int32)), (.int c0)] [] 0 (rmSP l Z a0 hw [] (0 : Int32) c0 0 T95.heap rfl (by decide)) (own_w hw 65 rfl) (own_w hw 66 rfl) (own_w hw 6 rfl) (own_w hw 67 rfl) (by decide) pd__IC_I (by rw [hml]; rfl) rfl rfl (Nat.le_of_eq rfl) (by decide) (by decide) (by decide) (by decide) ?_
    rintro T97 _ L97 X97 ⟨rfl, rfl, e97⟩
    show own_Go p e below _ T97 (mkF m 96 #[.val (.int i0), .val (.int i1), .val (.int i2), .val (.int i3), .val (.int i4), .val (.int i5), .val (.int (3 : Int32)), .val (.int c0), .val (.int c1), .val (.int c2), .val (.int c3), .val (.int c4), .val (.int c5), .val (.ref b88), .val (.ref b90), .val (.int (0 : Int32)), .unset] [(.int (own_i9 (own_st 0 (own_cl c0))))])
    rw [List.append_nil] at X97
    refine own_by (T' := T97) (f' := (mkF m 98 #[.val (.int i0), .val (.int i1), .val (.int i2), .val (.int i3), .val (.int i4), .val (.int i5), .val (.int (3 : Int32)), .val (.int c0), .val (.int c1), .val (.int c2), .val (.int c3), .val (.int c4), .val (.int c5), .val (.ref b88), .val (.ref b90), .val (.int (own_i9 (own_st 0 (own_cl c0)))), .unset] [])) (fun t k => XS.istore X97.here hx rfl (hb hby at_96) rfl (l' := #[.val (.int i0), .val (.int i1), .val (.int i2), .val (.int i3), .val (.int i4), .val (.int i5), .val (.int (3 : Int32)), .val (.int c0), .val (.int c1), .val (.int c2), .val (.int c3), .val (.int c4), .val (.int c5), .val (.ref b88), .val (.ref b90), .val (.int (own_i9 (own_st 0 (own_cl c0)))), .unset]) rfl k) ?_
    refine own_by (T' := T97) (f' := (mkF m 100 #[.val (.int i0), .val (.int i1), .val (.int i2), .val (.int i3), .val (.int i4), .val (.int i5), .val (.int (3 : Int32)), .val (.int c0), .val (.int c1), .val (.int c2), .val (.int c3), .val (.int c4), .val (.int c5), .val (.ref b88), .val (.ref b90), .val (.int (own_i9 (own_st 0 (own_cl c0)))), .unset] [(.int (3 : Int32))])) (fun t k => XS.iload X97.here hx rfl (hb hby at_98) rfl k) ?_
    refine own_by (T' := T97) (f' := (mkF m 101 #[.val (.int i0), .val (.int i1), .val (.int i2), .val (.int i3), .val (.int i4), .val (.int i5), .val (.int (3 : Int32)), .val (.int c0), .val (.int c1), .val (.int c2), .val (.int c3), .val (.int c4), .val (.int c5), .val (.ref b88), .val (.ref b90), .val (.int (own_i9 (own_st 0 (own_cl c0)))), .unset] [(.int (1 : Int32)), (.int (3 : Int32))])) (fun t k => XS.iconst X97.here hx rfl (hb hby at_100) k) ?_
    refine own_by (T' := T97) (f' := (mkF m 104 #[.val (.int i0), .val (.int i1), .val (.int i2), .val (.int i3), .val (.int i4), .val (.int i5), .val (.int (3 : Int32)), .val (.int c0), .val (.int c1), .val (.int c2), .val (.int c3), .val (.int c4), .val (.int c5), .val (.ref b88), .val (.ref b90), .val (.int (own_i9 (own_st 0 (own_cl c0)))), .unset] [])) (fun t k => XS.icmpNo X97.here hx rfl (hb hby at_101) rfl (tlt (by decide)).2.2.2 k) ?_
    refine own_by (T' := T97) (f' := (mkF m 106 #[.val (.int i0), .val (.int i1), .val (.int i2), .val (.int i3), .val (.int i4), .val (.int i5), .val (.int (3 : Int32)), .val (.int c0), .val (.int c1), .val (.int c2), .val (.int c3), .val (.int c4), .val (.int c5), .val (.ref b88), .val (.ref b90), .val (.int (own_i9 (own_st 0 (own_cl c0)))), .unset] [(.int (own_i9 (own_st 0 (own_cl c0))))])) (fun t k => XS.iload X97.here hx rfl (hb hby at_104) rfl k) ?_
    refine own_by (T' := T97) (f' := (mkF m 108 #[.val (.int i0), .val (.int i1), .val (.int i2), .val (.int i3), .val (.int i4), .val (.int i5), .val (.int (3 : Int32)), .val (.int c0), .val (.int c1), .val (.int c2), .val (.int c3), .val (.int c4), .val (.int c5), .val (.ref b88), .val (.ref b90), .val (.int (own_i9 (own_st 0 (own_cl c0)))), .unset] [(.int c1), (.int (own_i9 (own_st 0 (own_cl c0))))])) (fun t k => XS.iload X97.here hx rfl (hb hby at_106) rfl k) ?_
    refine own_callS X97 hx hZ hown e97 (hb hby at_108) [(.int (own_i9 (own_st 0 (own_cl c0)))), (.int c1)] [] 0 (rmSP l Z a0 hw [] (own_i9 (own_st 0 (own_cl c0))) c1 (own_st 0 (own_cl c0)) T95.heap rfl (own_st9 _ _)) (own_w hw 65 rfl) (own_w hw 66 rfl) (own_w hw 6 rfl) (own_w hw 67 rfl) (by decide) pd__IC_I (by rw [hml]; rfl) rfl rfl (Nat.le_of_eq rfl) (by decide) (by decide) (by decide) (by decide) ?_
    rintro T98 _ L98 X98 ⟨rfl, rfl, e98⟩
    show own_Go p e below _ T98 (mkF m 111 #[.val (.int i0), .val (.int i1), .val (.int i2), .val (.int i3), .val (.int i4), .val (.int i5), .val (.int (3 : Int32)), .val (.int c0), .val (.int c1), .val (.int c2), .val (.int c3), .val (.int c4), .val (.int c5), .val (.ref b88), .val (.ref b90), .val (.int (own_i9 (own_st 0 (own_cl c0)))), .unset] [(.int (own_i9 (own_st (own_st 0 (own_cl c0)) (own_cl c1))))])
    rw [List.append_nil] at X98
    refine own_by (T' := T98) (f' := (mkF m 113 #[.val (.int i0), .val (.int i1), .val (.int i2), .val (.int i3), .val (.int i4), .val (.int i5), .val (.int (3 : Int32)), .val (.int c0), .val (.int c1), .val (.int c2), .val (.int c3), .val (.int c4), .val (.int c5), .val (.ref b88), .val (.ref b90), .val (.int (own_i9 (own_st (own_st 0 (own_cl c0)) (own_cl c1)))), .unset] [])) (fun t k => XS.istore X98.here hx rfl (hb hby at_111) rfl (l' := #[.val (.int i0), .val (.int i1), .val (.int i2), .val (.int i3), .val (.int i4), .val (.int i5), .val (.int (3 : Int32)), .val (.int c0), .val (.int c1), .val (.int c2), .val (.int c3), .val (.int c4), .val (.int c5), .val (.ref b88), .val (.ref b90), .val (.int (own_i9 (own_st (own_st 0 (own_cl c0)) (own_cl c1)))), .unset]) rfl k) ?_
    refine own_by (T' := T98) (f' := (mkF m 115 #[.val (.int i0), .val (.int i1), .val (.int i2), .val (.int i3), .val (.int i4), .val (.int i5), .val (.int (3 : Int32)), .val (.int c0), .val (.int c1), .val (.int c2), .val (.int c3), .val (.int c4), .val (.int c5), .val (.ref b88), .val (.ref b90), .val (.int (own_i9 (own_st (own_st 0 (own_cl c0)) (own_cl c1)))), .unset] [(.int (3 : Int32))])) (fun t k => XS.iload X98.here hx rfl (hb hby at_113) rfl k) ?_
    refine own_by (T' := T98) (f' := (mkF m 116 #[.val (.int i0), .val (.int i1), .val (.int i2), .val (.int i3), .val (.int i4), .val (.int i5), .val (.int (3 : Int32)), .val (.int c0), .val (.int c1), .val (.int c2), .val (.int c3), .val (.int c4), .val (.int c5), .val (.ref b88), .val (.ref b90), .val (.int (own_i9 (own_st (own_st 0 (own_cl c0)) (own_cl c1)))), .unset] [(.int (2 : Int32)), (.int (3 : Int32))])) (fun t k => XS.iconst X98.here hx rfl (hb hby at_115) k) ?_
    refine own_by (T' := T98) (f' := (mkF m 119 #[.val (.int i0), .val (.int i1), .val (.int i2), .val (.int i3), .val (.int i4), .val (.int i5), .val (.int (3 : Int32)), .val (.int c0), .val (.int c1), .val (.int c2), .val (.int c3), .val (.int c4), .val (.int c5), .val (.ref b88), .val (.ref b90), .val (.int (own_i9 (own_st (own_st 0 (own_cl c0)) (own_cl c1)))), .unset] [])) (fun t k => XS.icmpNo X98.here hx rfl (hb hby at_116) rfl (tlt (by decide)).2.2.2 k) ?_
    refine own_by (T' := T98) (f' := (mkF m 121 #[.val (.int i0), .val (.int i1), .val (.int i2), .val (.int i3), .val (.int i4), .val (.int i5), .val (.int (3 : Int32)), .val (.int c0), .val (.int c1), .val (.int c2), .val (.int c3), .val (.int c4), .val (.int c5), .val (.ref b88), .val (.ref b90), .val (.int (own_i9 (own_st (own_st 0 (own_cl c0)) (own_cl c1)))), .unset] [(.int (own_i9 (own_st (own_st 0 (own_cl c0)) (own_cl c1))))])) (fun t k => XS.iload X98.here hx rfl (hb hby at_119) rfl k) ?_
    refine own_by (T' := T98) (f' := (mkF m 123 #[.val (.int i0), .val (.int i1), .val (.int i2), .val (.int i3), .val (.int i4), .val (.int i5), .val (.int (3 : Int32)), .val (.int c0), .val (.int c1), .val (.int c2), .val (.int c3), .val (.int c4), .val (.int c5), .val (.ref b88), .val (.ref b90), .val (.int (own_i9 (own_st (own_st 0 (own_cl c0)) (own_cl c1)))), .unset] [(.int c2), (.int (own_i9 (own_st (own_st 0 (own_cl c0)) (own_cl c1))))])) (fun t k => XS.iload X98.here hx rfl (hb hby at_121) rfl k) ?_
    refine own_callS X98 hx hZ hown e98 (hb hby at_123) [(.int (own_i9 (own_st (own_st 0 (own_cl c0)) (own_cl c1)))), (.int c2)] [] 0 (rmSP l Z a0 hw [] (own_i9 (own_st (own_st 0 (own_cl c0)) (own_cl c1))) c2 (own_st (own_st 0 (own_cl c0)) (own_cl c1)) T95.heap rfl (own_st9 _ _)) (own_w hw 65 rfl) (own_w hw 66 rfl) (own_w hw 6 rfl) (own_w hw 67 rfl) (by decide) pd__IC_I (by rw [hml]; rfl) rfl rfl (Nat.le_of_eq rfl) (by decide) (by decide) (by decide) (by decide) ?_
    rintro T99 _ L99 X99 ⟨rfl, rfl, e99⟩
    show own_Go p e below _ T99 (mkF m 126 #[.val (.int i0), .val (.int i1), .val (.int i2), .val (.int i3), .val (.int i4), .val (.int i5), .val (.int (3 : Int32)), .val (.int c0), .val (.int c1), .val (.int c2), .val (.int c3), .val (.int c4), .val (.int c5), .val (.ref b88), .val (.ref b90), .val (.int (own_i9 (own_st (own_st 0 (own_cl c0)) (own_cl c1)))), .unset] [(.int (own_i9 (own_st (own_st (own_st 0 (own_cl c0)) (own_cl c1)) (own_cl c2))))])
    rw [List.append_nil] at X99
    refine own_by (T' := T99) (f' := (mkF m 128 #[.val (.int i0), .val (.int i1), .val (.int i2), .val (.int i3), .val (.int i4), .val (.int i5), .val (.int (3 : Int32)), .val (.int c0), .val (.int c1), .val (.int c2), .val (.int c3), .val (.int c4), .val (.int c5), .val (.ref b88), .val (.ref b90), .val (.int (own_i9 (own_st (own_st (own_st 0 (own_cl c0)) (own_cl c1)) (own_cl c2)))), .unset] [])) (fun t k => XS.istore X99.here hx rfl (hb hby at_126) rfl (l' := #[.val (.int i0), .val (.int i1), .val (.int i2), .val (.int i3), .val (.int i4), .val (.int i5), .val (.int (3 : Int32)), .val (.int c0), .val (.int c1), .val (.int c2), .val (.int c3), .val (.int c4), .val (.int c5), .val (.ref b88), .val (.ref b90), .val (.int (own_i9 (own_st (own_st (own_st 0 (own_cl c0)) (own_cl c1)) (own_cl c2)))), .unset]) rfl k) ?_
    refine own_by (T' := T99) (f' := (mkF m 130 #[.val (.int i0), .val (.int i1), .val (.int i2), .val (.int i3), .val (.int i4), .val (.int i5), .val (.int (3 : Int32)), .val (.int c0), .val (.int c1), .val (.int c2), .val (.int c3), .val (.int c4), .val (.int c5), .val (.ref b88), .val (.ref b90), .val (.int (own_i9 (own_st (own_st (own_st 0 (own_cl c0)) (own_cl c1)) (own_cl c2)))), .unset] [(.int (3 : Int32))])) (fun t k => XS.iload X99.here hx rfl (hb hby at_128) rfl k) ?_
    refine own_by (T' := T99) (f' := (mkF m 131 #[.val (.int i0), .val (.int i1), .val (.int i2), .val (.int i3), .val (.int i4), .val (.int i5), .val (.int (3 : Int32)), .val (.int c0), .val (.int c1), .val (.int c2), .val (.int c3), .val (.int c4), .val (.int c5), .val (.ref b88), .val (.ref b90), .val (.int (own_i9 (own_st (own_st (own_st 0 (own_cl c0)) (own_cl c1)) (own_cl c2)))), .unset] [(.int (3 : Int32)), (.int (3 : Int32))])) (fun t k => XS.iconst X99.here hx rfl (hb hby at_130) k) ?_
    refine own_by (T' := T99) (f' := (mkF m 143 #[.val (.int i0), .val (.int i1), .val (.int i2), .val (.int i3), .val (.int i4), .val (.int i5), .val (.int (3 : Int32)), .val (.int c0), .val (.int c1), .val (.int c2), .val (.int c3), .val (.int c4), .val (.int c5), .val (.ref b88), .val (.ref b90), .val (.int (own_i9 (own_st (own_st (own_st 0 (own_cl c0)) (own_cl c1)) (own_cl c2)))), .unset] [])) (fun t k => XS.icmpYes X99.here hx rfl (pc0 := 131) (pc' := 143) rfl (hb hby at_131) rfl (flt (by decide)).2.2.2 (by decide) (by decide) k) ?_
    refine own_by (T' := T99) (f' := (mkF m 145 #[.val (.int i0), .val (.int i1), .val (.int i2), .val (.int i3), .val (.int i4), .val (.int i5), .val (.int (3 : Int32)), .val (.int c0), .val (.int c1), .val (.int c2), .val (.int c3), .val (.int c4), .val (.int c5), .val (.ref b88), .val (.ref b90), .val (.int (own_i9 (own_st (own_st (own_st 0 (own_cl c0)) (own_cl c1)) (own_cl c2)))), .unset] [(.int (3 : Int32))])) (fun t k => XS.iload X99.here hx rfl (hb hby at_143) rfl k) ?_
    refine own_by (T' := T99) (f' := (mkF m 146 #[.val (.int i0), .val (.int i1), .val (.int i2), .val (.int i3), .val (.int i4), .val (.int i5), .val (.int (3 : Int32)), .val (.int c0), .val (.int c1), .val (.int c2), .val (.int c3), .val (.int c4), .val (.int c5), .val (.ref b88), .val (.ref b90), .val (.int (own_i9 (own_st (own_st (own_st 0 (own_cl c0)) (own_cl c1)) (own_cl c2)))), .unset] [(.int (4 : Int32)), (.int (3 : Int32))])) (fun t k => XS.iconst X99.here hx rfl (hb hby at_145) k) ?_
    refine own_by (T' := T99) (f' := (mkF m 158 #[.val (.int i0), .val (.int i1), .val (.int i2), .val (.int i3), .val (.int i4), .val (.int i5), .val (.int (3 : Int32)), .val (.int c0), .val (.int c1), .val (.int c2), .val (.int c3), .val (.int c4), .val (.int c5), .val (.ref b88), .val (.ref b90), .val (.int (own_i9 (own_st (own_st (own_st 0 (own_cl c0)) (own_cl c1)) (own_cl c2)))), .unset] [])) (fun t k => XS.icmpYes X99.here hx rfl (pc0 := 146) (pc' := 158) rfl (hb hby at_146) rfl (flt (by decide)).2.2.2 (by decide) (by decide) k) ?_
    refine own_by (T' := T99) (f' := (mkF m 160 #[.val (.int i0), .val (.int i1), .val (.int i2), .val (.int i3), .val (.int i4), .val (.int i5), .val (.int (3 : Int32)), .val (.int c0), .val (.int c1), .val (.int c2), .val (.int c3), .val (.int c4), .val (.int c5), .val (.ref b88), .val (.ref b90), .val (.int (own_i9 (own_st (own_st (own_st 0 (own_cl c0)) (own_cl c1)) (own_cl c2)))), .unset] [(.int (3 : Int32))])) (fun t k => XS.iload X99.here hx rfl (hb hby at_158) rfl k) ?_
    refine own_by (T' := T99) (f' := (mkF m 161 #[.val (.int i0), .val (.int i1), .val (.int i2), .val (.int i3), .val (.int i4), .val (.int i5), .val (.int (3 : Int32)), .val (.int c0), .val (.int c1), .val (.int c2), .val (.int c3), .val (.int c4), .val (.int c5), .val (.ref b88), .val (.ref b90), .val (.int (own_i9 (own_st (own_st (own_st 0 (own_cl c0)) (own_cl c1)) (own_cl c2)))), .unset] [(.int (5 : Int32)), (.int (3 : Int32))])) (fun t k => XS.iconst X99.here hx rfl (hb hby at_160) k) ?_
    refine own_by (T' := T99) (f' := (mkF m 173 #[.val (.int i0), .val (.int i1), .val (.int i2), .val (.int i3), .val (.int i4), .val (.int i5), .val (.int (3 : Int32)), .val (.int c0), .val (.int c1), .val (.int c2), .val (.int c3), .val (.int c4), .val (.int c5), .val (.ref b88), .val (.ref b90), .val (.int (own_i9 (own_st (own_st (own_st 0 (own_cl c0)) (own_cl c1)) (own_cl c2)))), .unset] [])) (fun t k => XS.icmpYes X99.here hx rfl (pc0 := 161) (pc' := 173) rfl (hb hby at_161) rfl (flt (by decide)).2.2.2 (by decide) (by decide) k) ?_
    refine own_by (T' := T99) (f' := (mkF m 175 #[.val (.int i0), .val (.int i1), .val (.int i2), .val (.int i3), .val (.int i4), .val (.int i5), .val (.int (3 : Int32)), .val (.int c0), .val (.int c1), .val (.int c2), .val (.int c3), .val (.int c4), .val (.int c5), .val (.ref b88), .val (.ref b90), .val (.int (own_i9 (own_st (own_st (own_st 0 (own_cl c0)) (own_cl c1)) (own_cl c2)))), .unset] [(.int (own_i9 (own_st (own_st (own_st 0 (own_cl c0)) (own_cl c1)) (own_cl c2))))])) (fun t k => XS.iload X99.here hx rfl (hb hby at_173) rfl k) ?_
    refine own_by (T' := T99) (f' := (mkF m 176 #[.val (.int i0), .val (.int i1), .val (.int i2), .val (.int i3), .val (.int i4), .val (.int i5), .val (.int (3 : Int32)), .val (.int c0), .val (.int c1), .val (.int c2), .val (.int c3), .val (.int c4), .val (.int c5), .val (.ref b88), .val (.ref b90), .val (.int (own_i9 (own_st (own_st (own_st 0 (own_cl c0)) (own_cl c1)) (own_cl c2)))), .unset] [(.int (2 : Int32)), (.int (own_i9 (own_st (own_st (own_st 0 (own_cl c0)) (own_cl c1)) (own_cl c2))))])) (fun t k => XS.iconst X99.here hx rfl (hb hby at_175) k) ?_
    have mg103 : ∀ t, Steps p.tables e below (T99.setTop (mkF m 197 #[.val (.int i0), .val (.int i1), .val (.int i2), .val (.int i3), .val (.int i4), .val (.int i5), .val (.int (3 : Int32)), .val (.int c0), .val (.int c1), .val (.int c2), .val (.int c3), .val (.int c4), .val (.int c5), .val (.ref b88), .val (.ref b90), .val (.int (own_i9 (own_st (own_st (own_st 0 (own_cl c0)) (own_cl c1)) (own_cl c2)))), .unset] [(.int (if (own_i9 (own_st (own_st (own_st 0 (own_cl c0)) (own_cl c1)) (own_cl c2))) = (2 : Int32) then (1 : Int32) else (if (own_i9 (own_st (own_st (own_st 0 (own_cl c0)) (own_cl c1)) (own_cl c2))) = (4 : Int32) then (1 : Int32) else (if (own_i9 (own_st (own_st (own_st 0 (own_cl c0)) (own_cl c1)) (own_cl c2))) = (7 : Int32) then (1 : Int32) else (0 : Int32)))))])) t → Steps p.tables e below (T99.setTop (mkF m 176 #[.val (.int i0), .val (.int i1), .val (.int i2), .val (.int i3), .val (.int i4), .val (.int i5), .val (.int (3 : Int32)), .val (.int c0), .val (.int c1), .val (.int c2), .val (.int c3), .val (.int c4), .val (.int c5), .val (.ref b88), .val (.ref b90), .val (.int (own_i9 (own_st (own_st (own_st 0 (own_cl c0)) (own_cl c1)) (own_cl c2)))), .unset] [(.int (2 : Int32)), (.int (own_i9 (own_st (own_st (own_st 0 (own_cl c0)) (own_cl c1)) (own_cl c2))))])) t := by
      intro t k0
      by_cases hm100 : (own_i9 (own_st (own_st (own_st 0 (own_cl c0)) (own_cl c1)) (own_cl c2))) = (2 : Int32)
      · skip
        refine XS.icmpYes X99.here hx rfl (pc0 := 176) (pc' := 192) rfl (hb hby at_176) rfl (teq hm100).1 (by decide) (by decide) ?_
        show Steps p.tables e below (T99.setTop (mkF m 192 #[.val (.int i0), .val (.int i1), .val (.int i2), .val (.int i3), .val (.int i4), .val (.int i5), .val (.int (3 : Int32)), .val (.int c0), .val (.int c1), .val (.int c2), .val (.int c3), .val (.int c4), .val (.int c5), .val (.ref b88), .val (.ref b90), .val (.int (own_i9 (own_st (own_st (own_st 0 (own_cl c0)) (own_cl c1)) (own_cl c2)))), .unset] [])) _
        refine XS.iconst X99.here hx rfl (hb hby at_192) ?_
        show Steps p.tables e below (T99.setTop (mkF m 193 #[.val (.int i0), .val (.int i1), .val (.int i2), .val (.int i3), .val (.int i4), .val (.int i5), .val (.int (3 : Int32)), .val (.int c0), .val (.int c1), .val (.int c2), .val (.int c3), .val (.int c4), .val (.int c5), .val (.ref b88), .val (.ref b90), .val (.int (own_i9 (own_st (own_st (own_st 0 (own_cl c0)) (own_cl c1)) (own_cl c2)))), .unset] [(.int (1 : Int32))])) _
        refine XS.goto X99.here hx rfl (pc0 := 193) (pc' := 197) rfl (hb hby at_193) (by decide) (by decide) ?_
        show Steps p.tables e below (T99.setTop (mkF m 197 #[.val (.int i0), .val (.int i1), .val (.int i2), .val (.int i3), .val (.int i4), .val (.int i5), .val (.int (3 : Int32)), .val (.int c0), .val (.int c1), .val (.int c2), .val (.int c3), .val (.int c4), .val (.int c5), .val (.ref b88), .val (.ref b90), .val (.int (own_i9 (own_st (own_st (own_st 0 (own_cl c0)) (own_cl c1)) (own_cl c2)))), .unset] [(.int (1 : Int32))])) _
        try simp only [if_pos hm100] at k0
        exact k0
      · skip
        refine XS.icmpNo X99.here hx rfl (hb hby at_176) rfl (feq hm100).1 ?_
        show Steps p.tables e below (T99.setTop (mkF m 179 #[.val (.int i0), .val (.int i1), .val (.int i2), .val (.int i3), .val (.int i4), .val (.int i5), .val (.int (3 : Int32)), .val (.int c0), .val (.int c1), .val (.int c2), .val (.int c3), .val (.int c4), .val (.int c5), .val (.ref b88), .val (.ref b90), .val (.int (own_i9 (own_st (own_st (own_st 0 (own_cl c0)) (own_cl c1)) (own_cl c2)))), .unset] [])) _
        refine XS.iload X99.here hx rfl (hb hby at_179) rfl ?_
        show Steps p.tables e below (T99.setTop (mkF m 181 #[.val (.int i0), .val (.int i1), .val (.int i2), .val (.int i3), .val (.int i4), .val (.int i5), .val (.int (3 : Int32)), .val (.int c0), .val (.int c1), .val (.int c2), .val (.int c3), .val (.int c4), .val (.int c5), .val (.ref b88), .val (.ref b90), .val (.int (own_i9 (own_st (own_st (own_st 0 (own_cl c0)) (own_cl c1)) (own_cl c2)))), .unset] [(.int (own_i9 (own_st (own_st (own_st 0 (own_cl c0)) (own_cl c1)) (own_cl c2))))])) _
        refine XS.iconst X99.here hx rfl (hb hby at_181) ?_
        show Steps p.tables e below (T99.setTop (mkF m 182 #[.val (.int i0), .val (.int i1), .val (.int i2), .val (.int i3), .val (.int i4), .val (.int i5), .val (.int (3 : Int32)), .val (.int c0), .val (.int c1), .val (.int c2), .val (.int c3), .val (.int c4), .val (.int c5), .val (.ref b88), .val (.ref b90), .val (.int (own_i9 (own_st (own_st (own_st 0 (own_cl c0)) (own_cl c1)) (own_cl c2)))), .unset] [(.int (4 : Int32)), (.int (own_i9 (own_st (own_st (own_st 0 (own_cl c0)) (own_cl c1)) (own_cl c2))))])) _
        by_cases hm101 : (own_i9 (own_st (own_st (own_st 0 (own_cl c0)) (own_cl c1)) (own_cl c2))) = (4 : Int32)
        · skip
          refine XS.icmpYes X99.here hx rfl (pc0 := 182) (pc' := 192) rfl (hb hby at_182) rfl (teq hm101).1 (by decide) (by decide) ?_
          show Steps p.tables e below (T99.setTop (mkF m 192 #[.val (.int i0), .val (.int i1), .val (.int i2), .val (.int i3), .val (.int i4), .val (.int i5), .val (.int (3 : Int32)), .val (.int c0), .val (.int c1), .val (.int c2), .val (.int c3), .val (.int c4), .val (.int c5), .val (.ref b88), .val (.ref b90), .val (.int (own_i9 (own_st (own_st (own_st 0 (own_cl c0)) (own_cl c1)) (own_cl c2)))), .unset] [])) _
          refine XS.iconst X99.here hx rfl (hb hby at_192) ?_
          show Steps p.tables e below (T99.setTop (mkF m 193 #[.val (.int i0), .val (.int i1), .val (.int i2), .val (.int i3), .val (.int i4), .val (.int i5), .val (.int (3 : Int32)), .val (.int c0), .val (.int c1), .val (.int c2), .val (.int c3), .val (.int c4), .val (.int c5), .val (.ref b88), .val (.ref b90), .val (.int (own_i9 (own_st (own_st (own_st 0 (own_cl c0)) (own_cl c1)) (own_cl c2)))), .unset] [(.int (1 : Int32))])) _
          refine XS.goto X99.here hx rfl (pc0 := 193) (pc' := 197) rfl (hb hby at_193) (by decide) (by decide) ?_
          show Steps p.tables e below (T99.setTop (mkF m 197 #[.val (.int i0), .val (.int i1), .val (.int i2), .val (.int i3), .val (.int i4), .val (.int i5), .val (.int (3 : Int32)), .val (.int c0), .val (.int c1), .val (.int c2), .val (.int c3), .val (.int c4), .val (.int c5), .val (.ref b88), .val (.ref b90), .val (.int (own_i9 (own_st (own_st (own_st 0 (own_cl c0)) (own_cl c1)) (own_cl c2)))), .unset] [(.int (1 : Int32))])) _
          try simp only [if_neg hm100, if_pos hm101] at k0
          exact k0
        · skip
          refine XS.icmpNo X99.here hx rfl (hb hby at_182) rfl (feq hm101).1 ?_
          show Steps p.tables e below (T99.setTop (mkF m 185 #[.val (.int i0), .val (.int i1), .val (.int i2), .val (.int i3), .val (.int i4), .val (.int i5), .val (.int (3 : Int32)), .val (.int c0), .val (.int c1), .val (.int c2), .val (.int c3), .val (.int c4), .val (.int c5), .val (.ref b88), .val (.ref b90), .val (.int (own_i9 (own_st (own_st (own_st 0 (own_cl c0)) (own_cl c1)) (own_cl c2)))), .unset] [])) _
          refine XS.iload X99.here hx rfl (hb hby at_185) rfl ?_
          show Steps p.tables e below (T99.setTop (mkF m 187 #[.val (.int i0), .val (.int i1), .val (.int i2), .val (.int i3), .val (.int i4), .val (.int i5), .val (.int (3 : Int32)), .val (.int c0), .val (.int c1), .val (.int c2), .val (.int c3), .val (.int c4), .val (.int c5), .val (.ref b88), .val (.ref b90), .val (.int (own_i9 (own_st (own_st (own_st 0 (own_cl c0)) (own_cl c1)) (own_cl c2)))), .unset] [(.int (own_i9 (own_st (own_st (own_st 0 (own_cl c0)) (own_cl c1)) (own_cl c2))))])) _
          refine XS.bipush X99.here hx rfl (hb hby at_187) ?_
          show Steps p.tables e below (T99.setTop (mkF m 189 #[.val (.int i0), .val (.int i1), .val (.int i2), .val (.int i3), .val (.int i4), .val (.int i5), .val (.int (3 : Int32)), .val (.int c0), .val (.int c1), .val (.int c2), .val (.int c3), .val (.int c4), .val (.int c5), .val (.ref b88), .val (.ref b90), .val (.int (own_i9 (own_st (own_st (own_st 0 (own_cl c0)) (own_cl c1)) (own_cl c2)))), .unset] [(.int (7 : Int32)), (.int (own_i9 (own_st (own_st (own_st 0 (own_cl c0)) (own_cl c1)) (own_cl c2))))])) _
          by_cases hm102 : (own_i9 (own_st (own_st (own_st 0 (own_cl c0)) (own_cl c1)) (own_cl c2))) = (7 : Int32)
          · skip
            refine XS.icmpNo X99.here hx rfl (hb hby at_189) rfl (teq hm102).2 ?_
            show Steps p.tables e below (T99.setTop (mkF m 192 #[.val (.int i0), .val (.int i1), .val (.int i2), .val (.int i3), .val (.int i4), .val (.int i5), .val (.int (3 : Int32)), .val (.int c0), .val (.int c1), .val (.int c2), .val (.int c3), .val (.int c4), .val (.int c5), .val (.ref b88), .val (.ref b90), .val (.int (own_i9 (own_st (own_st (own_st 0 (own_cl c0)) (own_cl c1)) (own_cl c2)))), .unset] [])) _
            refine XS.iconst X99.here hx rfl (hb hby at_192) ?_
            show Steps p.tables e below (T99.setTop (mkF m 193 #[.val (.int i0), .val (.int i1), .val (.int i2), .val (.int i3), .val (.int i4), .val (.int i5), .val (.int (3 : Int32)), .val (.int c0), .val (.int c1), .val (.int c2), .val (.int c3), .val (.int c4), .val (.int c5), .val (.ref b88), .val (.ref b90), .val (.int (own_i9 (own_st (own_st (own_st 0 (own_cl c0)) (own_cl c1)) (own_cl c2)))), .unset] [(.int (1 : Int32))])) _
            refine XS.goto X99.here hx rfl (pc0 := 193) (pc' := 197) rfl (hb hby at_193) (by decide) (by decide) ?_
            show Steps p.tables e below (T99.setTop (mkF m 197 #[.val (.int i0), .val (.int i1), .val (.int i2), .val (.int i3), .val (.int i4), .val (.int i5), .val (.int (3 : Int32)), .val (.int c0), .val (.int c1), .val (.int c2), .val (.int c3), .val (.int c4), .val (.int c5), .val (.ref b88), .val (.ref b90), .val (.int (own_i9 (own_st (own_st (own_st 0 (own_cl c0)) (own_cl c1)) (own_cl c2)))), .unset] [(.int (1 : Int32))])) _
            try simp only [if_neg hm100, if_neg hm101, if_pos hm102] at k0
            exact k0
          · skip
            refine XS.icmpYes X99.here hx rfl (pc0 := 189) (pc' := 196) rfl (hb hby at_189) rfl (feq hm102).2 (by decide) (by decide) ?_
            show Steps p.tables e below (T99.setTop (mkF m 196 #[.val (.int i0), .val (.int i1), .val (.int i2), .val (.int i3), .val (.int i4), .val (.int i5), .val (.int (3 : Int32)), .val (.int c0), .val (.int c1), .val (.int c2), .val (.int c3), .val (.int c4), .val (.int c5), .val (.ref b88), .val (.ref b90), .val (.int (own_i9 (own_st (own_st (own_st 0 (own_cl c0)) (own_cl c1)) (own_cl c2)))), .unset] [])) _
            refine XS.iconst X99.here hx rfl (hb hby at_196) ?_
            show Steps p.tables e below (T99.setTop (mkF m 197 #[.val (.int i0), .val (.int i1), .val (.int i2), .val (.int i3), .val (.int i4), .val (.int i5), .val (.int (3 : Int32)), .val (.int c0), .val (.int c1), .val (.int c2), .val (.int c3), .val (.int c4), .val (.int c5), .val (.ref b88), .val (.ref b90), .val (.int (own_i9 (own_st (own_st (own_st 0 (own_cl c0)) (own_cl c1)) (own_cl c2)))), .unset] [(.int (0 : Int32))])) _
            try simp only [if_neg hm100, if_neg hm101, if_neg hm102] at k0
            exact k0
    refine own_by mg103 ?_
    rw [show (if (own_i9 (own_st (own_st (own_st 0 (own_cl c0)) (own_cl c1)) (own_cl c2))) = (2 : Int32) then (1 : Int32) else (if (own_i9 (own_st (own_st (own_st 0 (own_cl c0)) (own_cl c1)) (own_cl c2))) = (4 : Int32) then (1 : Int32) else (if (own_i9 (own_st (own_st (own_st 0 (own_cl c0)) (own_cl c1)) (own_cl c2))) = (7 : Int32) then (1 : Int32) else (0 : Int32)))) = own_acc (own_st (own_st (own_st 0 (own_cl c0)) (own_cl c1)) (own_cl c2)) from own_acc_i (k := (own_st (own_st (own_st 0 (own_cl c0)) (own_cl c1)) (own_cl c2))) (own_st9 _ _)]
    show own_Go p e below _ T99 (mkF m 197 #[.val (.int i0), .val (.int i1), .val (.int i2), .val (.int i3), .val (.int i4), .val (.int i5), .val (.int (3 : Int32)), .val (.int c0), .val (.int c1), .val (.int c2), .val (.int c3), .val (.int c4), .val (.int c5), .val (.ref b88), .val (.ref b90), .val (.int (own_i9 (own_st (own_st (own_st 0 (own_cl c0)) (own_cl c1)) (own_cl c2)))), .unset] [(.int (own_acc (own_st (own_st (own_st 0 (own_cl c0)) (own_cl c1)) (own_cl c2))))])
    refine own_by (T' := T99) (f' := (mkF m 199 #[.val (.int i0), .val (.int i1), .val (.int i2), .val (.int i3), .val (.int i4), .val (.int i5), .val (.int (3 : Int32)), .val (.int c0), .val (.int c1), .val (.int c2), .val (.int c3), .val (.int c4), .val (.int c5), .val (.ref b88), .val (.ref b90), .val (.int (own_i9 (own_st (own_st (own_st 0 (own_cl c0)) (own_cl c1)) (own_cl c2)))), .val (.int (own_acc (own_st (own_st (own_st 0 (own_cl c0)) (own_cl c1)) (own_cl c2))))] [])) (fun t k => XS.istore X99.here hx rfl (hb hby at_197) rfl (l' := #[.val (.int i0), .val (.int i1), .val (.int i2), .val (.int i3), .val (.int i4), .val (.int i5), .val (.int (3 : Int32)), .val (.int c0), .val (.int c1), .val (.int c2), .val (.int c3), .val (.int c4), .val (.int c5), .val (.ref b88), .val (.ref b90), .val (.int (own_i9 (own_st (own_st (own_st 0 (own_cl c0)) (own_cl c1)) (own_cl c2)))), .val (.int (own_acc (own_st (own_st (own_st 0 (own_cl c0)) (own_cl c1)) (own_cl c2))))]) rfl k) ?_
    refine own_by (T' := T99) (f' := (mkF m 201 #[.val (.int i0), .val (.int i1), .val (.int i2), .val (.int i3), .val (.int i4), .val (.int i5), .val (.int (3 : Int32)), .val (.int c0), .val (.int c1), .val (.int c2), .val (.int c3), .val (.int c4), .val (.int c5), .val (.ref b88), .val (.ref b90), .val (.int (own_i9 (own_st (own_st (own_st 0 (own_cl c0)) (own_cl c1)) (own_cl c2)))), .val (.int (own_acc (own_st (own_st (own_st 0 (own_cl c0)) (own_cl c1)) (own_cl c2))))] [(.ref b90)])) (fun t k => XS.aload X99.here hx rfl (hb hby at_199) rfl rfl k) ?_
    have f104 := (f94.keep K95 q92)
    refine own_callS X99 hx hZ hown e99 (hb hby at_201) [(.ref b90)] [] 0 (rmDE l Z a0 hw [] b90 (3 : Int32) 3 (fun i => List.getD [c0, c1, c2] i 0) (fun i => List.getD [own_cl c0, own_cl c1, own_cl c2] i 0) cs fm T95.heap (fun i hi => by match i, hi with | 0, _ => rfl | 1, _ => rfl | 2, _ => rfl | (q + 3), h => exact absurd h (by omega)) (by decide) (by decide) Q95 f104) (own_w hw 34 rfl) (own_w hw 35 rfl) (own_w hw 36 rfl) (own_w hw 37 rfl) (by decide) pd__Ljava_lang_String__Z (by rw [hml]; rfl) rfl rfl (Nat.le_of_eq rfl) (by decide) (by decide) (by decide) (by decide) ?_
    rintro T105 _ L105 X105 ⟨rfl, rfl, e105⟩
    show own_Go p e below _ T105 (mkF m 204 #[.val (.int i0), .val (.int i1), .val (.int i2), .val (.int i3), .val (.int i4), .val (.int i5), .val (.int (3 : Int32)), .val (.int c0), .val (.int c1), .val (.int c2), .val (.int c3), .val (.int c4), .val (.int c5), .val (.ref b88), .val (.ref b90), .val (.int (own_i9 (own_st (own_st (own_st 0 (own_cl c0)) (own_cl c1)) (own_cl c2)))), .val (.int (own_acc (own_st (own_st (own_st 0 (own_cl c0)) (own_cl c1)) (own_cl c2))))] [(.int (own_isDec (fun i => List.getD [own_cl c0, own_cl c1, own_cl c2] i 0) 3))])
    rw [List.append_nil] at X105
    have hlw : own_isDec (fun i => List.getD [own_cl c0, own_cl c1, own_cl c2] i 0) 3 = own_acc (own_st (own_st (own_st 0 (own_cl c0)) (own_cl c1)) (own_cl c2)) := own_law3 ⟨own_cl c0, own_cl_lt c0⟩ ⟨own_cl c1, own_cl_lt c1⟩ ⟨own_cl c2, own_cl_lt c2⟩
    refine own_by (T' := T105) (f' := (mkF m 206 #[.val (.int i0), .val (.int i1), .val (.int i2), .val (.int i3), .val (.int i4), .val (.int i5), .val (.int (3 : Int32)), .val (.int c0), .val (.int c1), .val (.int c2), .val (.int c3), .val (.int c4), .val (.int c5), .val (.ref b88), .val (.ref b90), .val (.int (own_i9 (own_st (own_st (own_st 0 (own_cl c0)) (own_cl c1)) (own_cl c2)))), .val (.int (own_acc (own_st (own_st (own_st 0 (own_cl c0)) (own_cl c1)) (own_cl c2))))] [(.int (own_acc (own_st (own_st (own_st 0 (own_cl c0)) (own_cl c1)) (own_cl c2)))), (.int (own_isDec (fun i => List.getD [own_cl c0, own_cl c1, own_cl c2] i 0) 3))])) (fun t k => XS.iload X105.here hx rfl (hb hby at_204) rfl k) ?_
    have hc206_106 : (own_isDec (fun i => List.getD [own_cl c0, own_cl c1, own_cl c2] i 0) 3) = (own_acc (own_st (own_st (own_st 0 (own_cl c0)) (own_cl c1)) (own_cl c2))) := hlw
    refine own_by (T' := T105) (f' := (mkF m 209 #[.val (.int i0), .val (.int i1), .val (.int i2), .val (.int i3), .val (.int i4), .val (.int i5), .val (.int (3 : Int32)), .val (.int c0), .val (.int c1), .val (.int c2), .val (.int c3), .val (.int c4), .val (.int c5), .val (.ref b88), .val (.ref b90), .val (.int (own_i9 (own_st (own_st (own_st 0 (own_cl c0)) (own_cl c1)) (own_cl c2)))), .val (.int (own_acc (own_st (own_st (own_st 0 (own_cl c0)) (own_cl c1)) (own_cl c2))))] [])) (fun t k => XS.icmpNo X105.here hx rfl (hb hby at_206) rfl (teq hc206_106).2 k) ?_
    refine own_by (T' := T105) (f' := (mkF m 210 #[.val (.int i0), .val (.int i1), .val (.int i2), .val (.int i3), .val (.int i4), .val (.int i5), .val (.int (3 : Int32)), .val (.int c0), .val (.int c1), .val (.int c2), .val (.int c3), .val (.int c4), .val (.int c5), .val (.ref b88), .val (.ref b90), .val (.int (own_i9 (own_st (own_st (own_st 0 (own_cl c0)) (own_cl c1)) (own_cl c2)))), .val (.int (own_acc (own_st (own_st (own_st 0 (own_cl c0)) (own_cl c1)) (own_cl c2))))] [(.int (1 : Int32))])) (fun t k => XS.iconst X105.here hx rfl (hb hby at_209) k) ?_
    refine own_by (T' := T105) (f' := (mkF m 214 #[.val (.int i0), .val (.int i1), .val (.int i2), .val (.int i3), .val (.int i4), .val (.int i5), .val (.int (3 : Int32)), .val (.int c0), .val (.int c1), .val (.int c2), .val (.int c3), .val (.int c4), .val (.int c5), .val (.ref b88), .val (.ref b90), .val (.int (own_i9 (own_st (own_st (own_st 0 (own_cl c0)) (own_cl c1)) (own_cl c2)))), .val (.int (own_acc (own_st (own_st (own_st 0 (own_cl c0)) (own_cl c1)) (own_cl c2))))] [(.int (1 : Int32))])) (fun t k => XS.goto X105.here hx rfl (pc0 := 210) (pc' := 214) rfl (hb hby at_210) (by decide) (by decide) k) ?_
    refine own_retW X105 hx hret hlk hZ hEL hs0 e105 hS hk CH (hb hby at_214) rfl (Or.inl ⟨rfl, Or.inr (Or.inl rfl), _, rfl⟩) (by decide) (by decide) ?_
    try rw [e105]
    exact ⟨rfl, N95⟩
  · rw [hl]
    show own_Go p e below _ T11 (mkF m 9 #[.val (.int i0), .val (.int i1), .val (.int i2), .val (.int i3), .val (.int i4), .val (.int i5), .unset, .unset, .unset, .unset, .unset, .unset, .unset, .unset, .unset, .unset, .unset] [(.int (4 : Int32))])
    refine own_by (T' := T11) (f' := (mkF m 11 #[.val (.int i0), .val (.int i1), .val (.int i2), .val (.int i3), .val (.int i4), .val (.int i5), .val (.int (4 : Int32)), .unset, .unset, .unset, .unset, .unset, .unset, .unset, .unset, .unset, .unset] [])) (fun t k => XS.istore X11.here hx rfl (hb hby at_9) rfl (l' := #[.val (.int i0), .val (.int i1), .val (.int i2), .val (.int i3), .val (.int i4), .val (.int i5), .val (.int (4 : Int32)), .unset, .unset, .unset, .unset, .unset, .unset, .unset, .unset, .unset, .unset]) rfl k) ?_
    refine own_by (T' := T11) (f' := (mkF m 12 #[.val (.int i0), .val (.int i1), .val (.int i2), .val (.int i3), .val (.int i4), .val (.int i5), .val (.int (4 : Int32)), .unset, .unset, .unset, .unset, .unset, .unset, .unset, .unset, .unset, .unset] [(.int i1)])) (fun t k => XS.iloadN X11.here hx rfl (hb hby at_11) rfl k) ?_
    refine own_callS X11 hx hZ hown e11 (hb hby at_12) [(.int i1)] [] 0 (rmCH l Z a0 hw [] i1 h0) (own_w hw 4 rfl) (own_w hw 5 rfl) (own_w hw 6 rfl) (own_w hw 7 rfl) (by decide) pd__I_C (by rw [hml]; rfl) rfl rfl (Nat.le_of_eq rfl) (by decide) (by decide) (by decide) (by decide) ?_
    rintro T107 _ L107 X107 ⟨c0, rfl, hc0, rfl, e107⟩
    rw [List.append_nil] at X107
    show own_Go p e below _ T107 (mkF m 15 #[.val (.int i0), .val (.int i1), .val (.int i2), .val (.int i3), .val (.int i4), .val (.int i5), .val (.int (4 : Int32)), .unset, .unset, .unset, .unset, .unset, .unset, .unset, .unset, .unset, .unset] [(.int c0)])
    refine own_by (T' := T107) (f' := (mkF m 17 #[.val (.int i0), .val (.int i1), .val (.int i2), .val (.int i3), .val (.int i4), .val (.int i5), .val (.int (4 : Int32)), .val (.int c0), .unset, .unset, .unset, .unset, .unset, .unset, .unset, .unset, .unset] [])) (fun t k => XS.istore X107.here hx rfl (hb hby at_15) rfl (l' := #[.val (.int i0), .val (.int i1), .val (.int i2), .val (.int i3), .val (.int i4), .val (.int i5), .val (.int (4 : Int32)), .val (.int c0), .unset, .unset, .unset, .unset, .unset, .unset, .unset, .unset, .unset]) rfl k) ?_
    refine own_by (T' := T107) (f' := (mkF m 18 #[.val (.int i0), .val (.int i1), .val (.int i2), .val (.int i3), .val (.int i4), .val (.int i5), .val (.int (4 : Int32)), .val (.int c0), .unset, .unset, .unset, .unset, .unset, .unset, .unset, .unset, .unset] [(.int i2)])) (fun t k => XS.iloadN X107.here hx rfl (hb hby at_17) rfl k) ?_
    refine own_callS X107 hx hZ hown e107 (hb hby at_18) [(.int i2)] [] 0 (rmCH l Z a0 hw [] i2 h0) (own_w hw 4 rfl) (own_w hw 5 rfl) (own_w hw 6 rfl) (own_w hw 7 rfl) (by decide) pd__I_C (by rw [hml]; rfl) rfl rfl (Nat.le_of_eq rfl) (by decide) (by decide) (by decide) (by decide) ?_
    rintro T108 _ L108 X108 ⟨c1, rfl, hc1, rfl, e108⟩
    rw [List.append_nil] at X108
    show own_Go p e below _ T108 (mkF m 21 #[.val (.int i0), .val (.int i1), .val (.int i2), .val (.int i3), .val (.int i4), .val (.int i5), .val (.int (4 : Int32)), .val (.int c0), .unset, .unset, .unset, .unset, .unset, .unset, .unset, .unset, .unset] [(.int c1)])
    refine own_by (T' := T108) (f' := (mkF m 23 #[.val (.int i0), .val (.int i1), .val (.int i2), .val (.int i3), .val (.int i4), .val (.int i5), .val (.int (4 : Int32)), .val (.int c0), .val (.int c1), .unset, .unset, .unset, .unset, .unset, .unset, .unset, .unset] [])) (fun t k => XS.istore X108.here hx rfl (hb hby at_21) rfl (l' := #[.val (.int i0), .val (.int i1), .val (.int i2), .val (.int i3), .val (.int i4), .val (.int i5), .val (.int (4 : Int32)), .val (.int c0), .val (.int c1), .unset, .unset, .unset, .unset, .unset, .unset, .unset, .unset]) rfl k) ?_
    refine own_by (T' := T108) (f' := (mkF m 24 #[.val (.int i0), .val (.int i1), .val (.int i2), .val (.int i3), .val (.int i4), .val (.int i5), .val (.int (4 : Int32)), .val (.int c0), .val (.int c1), .unset, .unset, .unset, .unset, .unset, .unset, .unset, .unset] [(.int i3)])) (fun t k => XS.iloadN X108.here hx rfl (hb hby at_23) rfl k) ?_
    refine own_callS X108 hx hZ hown e108 (hb hby at_24) [(.int i3)] [] 0 (rmCH l Z a0 hw [] i3 h0) (own_w hw 4 rfl) (own_w hw 5 rfl) (own_w hw 6 rfl) (own_w hw 7 rfl) (by decide) pd__I_C (by rw [hml]; rfl) rfl rfl (Nat.le_of_eq rfl) (by decide) (by decide) (by decide) (by decide) ?_
    rintro T109 _ L109 X109 ⟨c2, rfl, hc2, rfl, e109⟩
    rw [List.append_nil] at X109
    show own_Go p e below _ T109 (mkF m 27 #[.val (.int i0), .val (.int i1), .val (.int i2), .val (.int i3), .val (.int i4), .val (.int i5), .val (.int (4 : Int32)), .val (.int c0), .val (.int c1), .unset, .unset, .unset, .unset, .unset, .unset, .unset, .unset] [(.int c2)])
    refine own_by (T' := T109) (f' := (mkF m 29 #[.val (.int i0), .val (.int i1), .val (.int i2), .val (.int i3), .val (.int i4), .val (.int i5), .val (.int (4 : Int32)), .val (.int c0), .val (.int c1), .val (.int c2), .unset, .unset, .unset, .unset, .unset, .unset, .unset] [])) (fun t k => XS.istore X109.here hx rfl (hb hby at_27) rfl (l' := #[.val (.int i0), .val (.int i1), .val (.int i2), .val (.int i3), .val (.int i4), .val (.int i5), .val (.int (4 : Int32)), .val (.int c0), .val (.int c1), .val (.int c2), .unset, .unset, .unset, .unset, .unset, .unset, .unset]) rfl k) ?_
    refine own_by (T' := T109) (f' := (mkF m 31 #[.val (.int i0), .val (.int i1), .val (.int i2), .val (.int i3), .val (.int i4), .val (.int i5), .val (.int (4 : Int32)), .val (.int c0), .val (.int c1), .val (.int c2), .unset, .unset, .unset, .unset, .unset, .unset, .unset] [(.int i4)])) (fun t k => XS.iload X109.here hx rfl (hb hby at_29) rfl k) ?_
    refine own_callS X109 hx hZ hown e109 (hb hby at_31) [(.int i4)] [] 0 (rmCH l Z a0 hw [] i4 h0) (own_w hw 4 rfl) (own_w hw 5 rfl) (own_w hw 6 rfl) (own_w hw 7 rfl) (by decide) pd__I_C (by rw [hml]; rfl) rfl rfl (Nat.le_of_eq rfl) (by decide) (by decide) (by decide) (by decide) ?_
    rintro T110 _ L110 X110 ⟨c3, rfl, hc3, rfl, e110⟩
    rw [List.append_nil] at X110
    show own_Go p e below _ T110 (mkF m 34 #[.val (.int i0), .val (.int i1), .val (.int i2), .val (.int i3), .val (.int i4), .val (.int i5), .val (.int (4 : Int32)), .val (.int c0), .val (.int c1), .val (.int c2), .unset, .unset, .unset, .unset, .unset, .unset, .unset] [(.int c3)])
    refine own_by (T' := T110) (f' := (mkF m 36 #[.val (.int i0), .val (.int i1), .val (.int i2), .val (.int i3), .val (.int i4), .val (.int i5), .val (.int (4 : Int32)), .val (.int c0), .val (.int c1), .val (.int c2), .val (.int c3), .unset, .unset, .unset, .unset, .unset, .unset] [])) (fun t k => XS.istore X110.here hx rfl (hb hby at_34) rfl (l' := #[.val (.int i0), .val (.int i1), .val (.int i2), .val (.int i3), .val (.int i4), .val (.int i5), .val (.int (4 : Int32)), .val (.int c0), .val (.int c1), .val (.int c2), .val (.int c3), .unset, .unset, .unset, .unset, .unset, .unset]) rfl k) ?_
    refine own_by (T' := T110) (f' := (mkF m 38 #[.val (.int i0), .val (.int i1), .val (.int i2), .val (.int i3), .val (.int i4), .val (.int i5), .val (.int (4 : Int32)), .val (.int c0), .val (.int c1), .val (.int c2), .val (.int c3), .unset, .unset, .unset, .unset, .unset, .unset] [(.int i5)])) (fun t k => XS.iload X110.here hx rfl (hb hby at_36) rfl k) ?_
    refine own_callS X110 hx hZ hown e110 (hb hby at_38) [(.int i5)] [] 0 (rmCH l Z a0 hw [] i5 h0) (own_w hw 4 rfl) (own_w hw 5 rfl) (own_w hw 6 rfl) (own_w hw 7 rfl) (by decide) pd__I_C (by rw [hml]; rfl) rfl rfl (Nat.le_of_eq rfl) (by decide) (by decide) (by decide) (by decide) ?_
    rintro T111 _ L111 X111 ⟨c4, rfl, hc4, rfl, e111⟩
    rw [List.append_nil] at X111
    show own_Go p e below _ T111 (mkF m 41 #[.val (.int i0), .val (.int i1), .val (.int i2), .val (.int i3), .val (.int i4), .val (.int i5), .val (.int (4 : Int32)), .val (.int c0), .val (.int c1), .val (.int c2), .val (.int c3), .unset, .unset, .unset, .unset, .unset, .unset] [(.int c4)])
    refine own_by (T' := T111) (f' := (mkF m 43 #[.val (.int i0), .val (.int i1), .val (.int i2), .val (.int i3), .val (.int i4), .val (.int i5), .val (.int (4 : Int32)), .val (.int c0), .val (.int c1), .val (.int c2), .val (.int c3), .val (.int c4), .unset, .unset, .unset, .unset, .unset] [])) (fun t k => XS.istore X111.here hx rfl (hb hby at_41) rfl (l' := #[.val (.int i0), .val (.int i1), .val (.int i2), .val (.int i3), .val (.int i4), .val (.int i5), .val (.int (4 : Int32)), .val (.int c0), .val (.int c1), .val (.int c2), .val (.int c3), .val (.int c4), .unset, .unset, .unset, .unset, .unset]) rfl k) ?_
    refine own_by (T' := T111) (f' := (mkF m 44 #[.val (.int i0), .val (.int i1), .val (.int i2), .val (.int i3), .val (.int i4), .val (.int i5), .val (.int (4 : Int32)), .val (.int c0), .val (.int c1), .val (.int c2), .val (.int c3), .val (.int c4), .unset, .unset, .unset, .unset, .unset] [(.int i0)])) (fun t k => XS.iloadN X111.here hx rfl (hb hby at_43) rfl k) ?_
    refine own_by (T' := T111) (f' := (mkF m 45 #[.val (.int i0), .val (.int i1), .val (.int i2), .val (.int i3), .val (.int i4), .val (.int i5), .val (.int (4 : Int32)), .val (.int c0), .val (.int c1), .val (.int c2), .val (.int c3), .val (.int c4), .unset, .unset, .unset, .unset, .unset] [(.int (3 : Int32)), (.int i0)])) (fun t k => XS.iconst X111.here hx rfl (hb hby at_44) k) ?_
    refine own_by (T' := T111) (f' := (mkF m 46 #[.val (.int i0), .val (.int i1), .val (.int i2), .val (.int i3), .val (.int i4), .val (.int i5), .val (.int (4 : Int32)), .val (.int c0), .val (.int c1), .val (.int c2), .val (.int c3), .val (.int c4), .unset, .unset, .unset, .unset, .unset] [(.int ((i0.toUInt32 >>> ((3 : Int32) &&& 31).toUInt32).toInt32))])) (fun t k => XS.iushr X111.here hx rfl (hb hby at_45) rfl k) ?_
    refine own_callS X111 hx hZ hown e111 (hb hby at_46) [(.int ((i0.toUInt32 >>> ((3 : Int32) &&& 31).toUInt32).toInt32))] [] 0 (rmCH l Z a0 hw [] ((i0.toUInt32 >>> ((3 : Int32) &&& 31).toUInt32).toInt32) h0) (own_w hw 4 rfl) (own_w hw 5 rfl) (own_w hw 6 rfl) (own_w hw 7 rfl) (by decide) pd__I_C (by rw [hml]; rfl) rfl rfl (Nat.le_of_eq rfl) (by decide) (by decide) (by decide) (by decide) ?_
    rintro T112 _ L112 X112 ⟨c5, rfl, hc5, rfl, e112⟩
    rw [List.append_nil] at X112
    show own_Go p e below _ T112 (mkF m 49 #[.val (.int i0), .val (.int i1), .val (.int i2), .val (.int i3), .val (.int i4), .val (.int i5), .val (.int (4 : Int32)), .val (.int c0), .val (.int c1), .val (.int c2), .val (.int c3), .val (.int c4), .unset, .unset, .unset, .unset, .unset] [(.int c5)])
    refine own_by (T' := T112) (f' := (mkF m 51 #[.val (.int i0), .val (.int i1), .val (.int i2), .val (.int i3), .val (.int i4), .val (.int i5), .val (.int (4 : Int32)), .val (.int c0), .val (.int c1), .val (.int c2), .val (.int c3), .val (.int c4), .val (.int c5), .unset, .unset, .unset, .unset] [])) (fun t k => XS.istore X112.here hx rfl (hb hby at_49) rfl (l' := #[.val (.int i0), .val (.int i1), .val (.int i2), .val (.int i3), .val (.int i4), .val (.int i5), .val (.int (4 : Int32)), .val (.int c0), .val (.int c1), .val (.int c2), .val (.int c3), .val (.int c4), .val (.int c5), .unset, .unset, .unset, .unset]) rfl k) ?_
    refine own_by (T' := T112) (f' := (mkF m 53 #[.val (.int i0), .val (.int i1), .val (.int i2), .val (.int i3), .val (.int i4), .val (.int i5), .val (.int (4 : Int32)), .val (.int c0), .val (.int c1), .val (.int c2), .val (.int c3), .val (.int c4), .val (.int c5), .unset, .unset, .unset, .unset] [(.int (4 : Int32))])) (fun t k => XS.iload X112.here hx rfl (hb hby at_51) rfl k) ?_
    refine own_by (T' := T112) (f' := (mkF m 55 #[.val (.int i0), .val (.int i1), .val (.int i2), .val (.int i3), .val (.int i4), .val (.int i5), .val (.int (4 : Int32)), .val (.int c0), .val (.int c1), .val (.int c2), .val (.int c3), .val (.int c4), .val (.int c5), .unset, .unset, .unset, .unset] [(.int c0), (.int (4 : Int32))])) (fun t k => XS.iload X112.here hx rfl (hb hby at_53) rfl k) ?_
    refine own_by (T' := T112) (f' := (mkF m 57 #[.val (.int i0), .val (.int i1), .val (.int i2), .val (.int i3), .val (.int i4), .val (.int i5), .val (.int (4 : Int32)), .val (.int c0), .val (.int c1), .val (.int c2), .val (.int c3), .val (.int c4), .val (.int c5), .unset, .unset, .unset, .unset] [(.int c1), (.int c0), (.int (4 : Int32))])) (fun t k => XS.iload X112.here hx rfl (hb hby at_55) rfl k) ?_
    refine own_by (T' := T112) (f' := (mkF m 59 #[.val (.int i0), .val (.int i1), .val (.int i2), .val (.int i3), .val (.int i4), .val (.int i5), .val (.int (4 : Int32)), .val (.int c0), .val (.int c1), .val (.int c2), .val (.int c3), .val (.int c4), .val (.int c5), .unset, .unset, .unset, .unset] [(.int c2), (.int c1), (.int c0), (.int (4 : Int32))])) (fun t k => XS.iload X112.here hx rfl (hb hby at_57) rfl k) ?_
    refine own_by (T' := T112) (f' := (mkF m 61 #[.val (.int i0), .val (.int i1), .val (.int i2), .val (.int i3), .val (.int i4), .val (.int i5), .val (.int (4 : Int32)), .val (.int c0), .val (.int c1), .val (.int c2), .val (.int c3), .val (.int c4), .val (.int c5), .unset, .unset, .unset, .unset] [(.int c3), (.int c2), (.int c1), (.int c0), (.int (4 : Int32))])) (fun t k => XS.iload X112.here hx rfl (hb hby at_59) rfl k) ?_
    refine own_by (T' := T112) (f' := (mkF m 63 #[.val (.int i0), .val (.int i1), .val (.int i2), .val (.int i3), .val (.int i4), .val (.int i5), .val (.int (4 : Int32)), .val (.int c0), .val (.int c1), .val (.int c2), .val (.int c3), .val (.int c4), .val (.int c5), .unset, .unset, .unset, .unset] [(.int c4), (.int c3), (.int c2), (.int c1), (.int c0), (.int (4 : Int32))])) (fun t k => XS.iload X112.here hx rfl (hb hby at_61) rfl k) ?_
    refine own_by (T' := T112) (f' := (mkF m 65 #[.val (.int i0), .val (.int i1), .val (.int i2), .val (.int i3), .val (.int i4), .val (.int i5), .val (.int (4 : Int32)), .val (.int c0), .val (.int c1), .val (.int c2), .val (.int c3), .val (.int c4), .val (.int c5), .unset, .unset, .unset, .unset] [(.int c5), (.int c4), (.int c3), (.int c2), (.int c1), (.int c0), (.int (4 : Int32))])) (fun t k => XS.iload X112.here hx rfl (hb hby at_63) rfl k) ?_
    refine own_callS X112 hx hZ hown e112 (hb hby at_65) [(.int (4 : Int32)), (.int c0), (.int c1), (.int c2), (.int c3), (.int c4), (.int c5)] [] 0 (rmMK4 l Z a0 hw [] c0 c1 c2 c3 c4 c5 h0 n0 Z0 hc0 hc1 hc2 hc3 hc4 hc5) (own_w hw 9 rfl) (own_w hw 10 rfl) (own_w hw 6 rfl) (own_w hw 11 rfl) (by decide) pd__ICCCCCC__C (by rw [hml]; rfl) rfl rfl (Nat.le_of_eq rfl) (by decide) (by decide) (by decide) (by decide) ?_
    rintro T113 _ L113 X113 ⟨b113, rfl, N113q, K113, gb113, B113⟩
    show own_Go p e below _ T113 (mkF m 68 #[.val (.int i0), .val (.int i1), .val (.int i2), .val (.int i3), .val (.int i4), .val (.int i5), .val (.int (4 : Int32)), .val (.int c0), .val (.int c1), .val (.int c2), .val (.int c3), .val (.int c4), .val (.int c5), .unset, .unset, .unset, .unset] [(.ref b113)])
    have N113 := Fr.app N0 N113q
    have hk := Nat.le_trans hk K113.1
    have CH := CH.trans (CHr.keep K113 all0 CH.1)
    have sz114 : n0 ≤ T113.heap.size := Nat.le_trans Z0 K113.1
    refine own_by (T' := T113) (f' := (mkF m 70 #[.val (.int i0), .val (.int i1), .val (.int i2), .val (.int i3), .val (.int i4), .val (.int i5), .val (.int (4 : Int32)), .val (.int c0), .val (.int c1), .val (.int c2), .val (.int c3), .val (.int c4), .val (.int c5), .val (.ref b113), .unset, .unset, .unset] [])) (fun t k => XS.astore X113.here hx rfl (hb hby at_68) rfl rfl (l' := #[.val (.int i0), .val (.int i1), .val (.int i2), .val (.int i3), .val (.int i4), .val (.int i5), .val (.int (4 : Int32)), .val (.int c0), .val (.int c1), .val (.int c2), .val (.int c3), .val (.int c4), .val (.int c5), .val (.ref b113), .unset, .unset, .unset]) rfl k) ?_
    refine own_new X113 hx hZ hown rfl (hb hby at_70) (own_w hw 13 rfl) (own_w hw 14 rfl) (own_w hw 15 rfl) (by decide) (by decide) ?_
    intro T115 h115 b115 X115 e115 g115 E115 A115 D115
    have ne115_b113 : b113 ≠ b115 := Nat.ne_of_lt (by rw [g115]; exact B113.lt)
    have gn115 : n0 ≤ b115 := by rw [g115]; exact sz114
    show own_Go p e below _ T115 (mkF m 73 #[.val (.int i0), .val (.int i1), .val (.int i2), .val (.int i3), .val (.int i4), .val (.int i5), .val (.int (4 : Int32)), .val (.int c0), .val (.int c1), .val (.int c2), .val (.int c3), .val (.int c4), .val (.int c5), .val (.ref b113), .unset, .unset, .unset] [(.ref b115)])
    have S_b115 := Safe.ext E115 CH.1 (Safe.new (Nat.le_of_eq g115.symm))
    have hk := Nat.le_trans hk E115.1
    have CH := CH.trans (CHr.ext E115 CH.1)
    have F115_value : Fld Z h115 b115 "java/lang/String" "value" "[B" .null := D115 (Or.inr (own_w hw 28 rfl)) (ty := (.array .byte)) (by decide)
    have F115_coder : Fld Z h115 b115 "java/lang/String" "coder" "B" (.int (0 : Int32)) := D115 (Or.inr (own_w hw 29 rfl)) (ty := .byte) (by decide)
    have sz116 : n0 ≤ h115.size := Nat.le_trans sz114 E115.1
    refine own_by (T' := T115) (f' := (mkF m 74 #[.val (.int i0), .val (.int i1), .val (.int i2), .val (.int i3), .val (.int i4), .val (.int i5), .val (.int (4 : Int32)), .val (.int c0), .val (.int c1), .val (.int c2), .val (.int c3), .val (.int c4), .val (.int c5), .val (.ref b113), .unset, .unset, .unset] [(.ref b115), (.ref b115)])) (fun t k => XS.dup X115.here hx rfl (hb hby at_73) rfl rfl k) ?_
    refine own_by (T' := T115) (f' := (mkF m 76 #[.val (.int i0), .val (.int i1), .val (.int i2), .val (.int i3), .val (.int i4), .val (.int i5), .val (.int (4 : Int32)), .val (.int c0), .val (.int c1), .val (.int c2), .val (.int c3), .val (.int c4), .val (.int c5), .val (.ref b113), .unset, .unset, .unset] [(.ref b113), (.ref b115), (.ref b115)])) (fun t k => XS.aload X115.here hx rfl (hb hby at_74) rfl rfl k) ?_
    have q117 : ∀ x ∈ [b115], ∃ c : Cell, h115[x]? = some c ∧ c.vm.isStatics = false := (allS (own_ns A115) all0)
    have f118 := (B113.ext E115)
    have f119 := ((ST.keep K113 all0).ext E115)
    refine own_callN X115 hx hZ hown e115 (hb hby at_76) [(.ref b113)] [(.ref b115)] 1 (rmI1 l Z a0 hw [] b115 b113 (4 : Int32) 4 (fun i => List.getD [c0, c1, c2, c3] i 0) _ _ cs fm h115 n0 sz116 gn115 (by decide) (by decide) (by decide) (fun i hi => by match i, hi with | 0, _ => exact hc0 | 1, _ => exact hc1 | 2, _ => exact hc2 | 3, _ => exact hc3 | (q + 4), h => exact absurd h (by omega)) f118 ne115_b113 A115 F115_value F115_coder f119) (own_w hw 16 rfl) (own_w hw 17 rfl) (own_w hw 15 rfl) (own_w hw 18 rfl) rfl (by decide) pd___C_V (by rw [hml]; rfl) rfl rfl (Nat.le_of_eq rfl) (by decide) (by decide) (by decide) (by decide) ?_
    rintro T120 _ L120 X120 ⟨rfl, N120q, K120, Q120⟩
    show own_Go p e below _ T120 (mkF m 79 #[.val (.int i0), .val (.int i1), .val (.int i2), .val (.int i3), .val (.int i4), .val (.int i5), .val (.int (4 : Int32)), .val (.int c0), .val (.int c1), .val (.int c2), .val (.int c3), .val (.int c4), .val (.int c5), .val (.ref b113), .unset, .unset, .unset] [(.ref b115)])
    have S_b115' := Safe.keep K120 (allS S_b115 all0) CH.1 S_b115
    have hk := Nat.le_trans hk K120.1
    have CH := CH.trans (CHr.keep K120 (allS S_b115 all0) CH.1)
    have S_b115 := S_b115'
    have N120 := Fr.app N113 N120q
    have sz121 : n0 ≤ T120.heap.size := Nat.le_trans sz116 K120.1
    refine own_by (T' := T120) (f' := (mkF m 81 #[.val (.int i0), .val (.int i1), .val (.int i2), .val (.int i3), .val (.int i4), .val (.int i5), .val (.int (4 : Int32)), .val (.int c0), .val (.int c1), .val (.int c2), .val (.int c3), .val (.int c4), .val (.int c5), .val (.ref b113), .val (.ref b115), .unset, .unset] [])) (fun t k => XS.astore X120.here hx rfl (hb hby at_79) rfl rfl (l' := #[.val (.int i0), .val (.int i1), .val (.int i2), .val (.int i3), .val (.int i4), .val (.int i5), .val (.int (4 : Int32)), .val (.int c0), .val (.int c1), .val (.int c2), .val (.int c3), .val (.int c4), .val (.int c5), .val (.ref b113), .val (.ref b115), .unset, .unset]) rfl k) ?_
    refine own_by (T' := T120) (f' := (mkF m 82 #[.val (.int i0), .val (.int i1), .val (.int i2), .val (.int i3), .val (.int i4), .val (.int i5), .val (.int (4 : Int32)), .val (.int c0), .val (.int c1), .val (.int c2), .val (.int c3), .val (.int c4), .val (.int c5), .val (.ref b113), .val (.ref b115), .unset, .unset] [(.int (0 : Int32))])) (fun t k => XS.iconst X120.here hx rfl (hb hby at_81) k) ?_
    refine own_by (T' := T120) (f' := (mkF m 84 #[.val (.int i0), .val (.int i1), .val (.int i2), .val (.int i3), .val (.int i4), .val (.int i5), .val (.int (4 : Int32)), .val (.int c0), .val (.int c1), .val (.int c2), .val (.int c3), .val (.int c4), .val (.int c5), .val (.ref b113), .val (.ref b115), .val (.int (0 : Int32)), .unset] [])) (fun t k => XS.istore X120.here hx rfl (hb hby at_82) rfl (l' := #[.val (.int i0), .val (.int i1), .val (.int i2), .val (.int i3), .val (.int i4), .val (.int i5), .val (.int (4 : Int32)), .val (.int c0), .val (.int c1), .val (.int c2), .val (.int c3), .val (.int c4), .val (.int c5), .val (.ref b113), .val (.ref b115), .val (.int (0 : Int32)), .unset]) rfl k) ?_
    refine own_by (T' := T120) (f' := (mkF m 86 #[.val (.int i0), .val (.int i1), .val (.int i2), .val (.int i3), .val (.int i4), .val (.int i5), .val (.int (4 : Int32)), .val (.int c0), .val (.int c1), .val (.int c2), .val (.int c3), .val (.int c4), .val (.int c5), .val (.ref b113), .val (.ref b115), .val (.int (0 : Int32)), .unset] [(.int (4 : Int32))])) (fun t k => XS.iload X120.here hx rfl (hb hby at_84) rfl k) ?_
    refine own_by (T' := T120) (f' := (mkF m 89 #[.val (.int i0), .val (.int i1), .val (.int i2), .val (.int i3), .val (.int i4), .val (.int i5), .val (.int (4 : Int32)), .val (.int c0), .val (.int c1), .val (.int c2), .val (.int c3), .val (.int c4), .val (.int c5), .val (.ref b113), .val (.ref b115), .val (.int (0 : Int32)), .unset] [])) (fun t k => XS.ifNo X120.here hx rfl (hb hby at_86) rfl ((if0 _ _).trans (tlt (by decide)).2.2.2) k) ?_
    refine own_by (T' := T120) (f' := (mkF m 91 #[.val (.int i0), .val (.int i1), .val (.int i2), .val (.int i3), .val (.int i4), .val (.int i5), .val (.int (4 : Int32)), .val (.int c0), .val (.int c1), .val (.int c2), .val (.int c3), .val (.int c4), .val (.int c5), .val (.ref b113), .val (.ref b115), .val (.int (0 : Int32)), .unset] [(.int (0 : Int32))])) (fun t k => XS.iload X120.here hx rfl (hb hby at_89) rfl k) ?_
    refine own_by (T' := T120) (f' := (mkF m 93 #[.val (.int i0), .val (.int i1), .val (.int i2), .val (.int i3), .val (.int i4), .val (.int i5), .val (.int (4 : Int32)), .val (.int c0), .val (.int c1), .val (.int c2), .val (.int c3), .val (.int c4), .val (.int c5), .val (.ref b113), .val (.ref b115), .val (.int (0 : Int32)), .unset] [(.int c0), (.int (0 : Int32))])) (fun t k => XS.iload X120.here hx rfl (hb hby at_91) rfl k) ?_
    refine own_callS X120 hx hZ hown rfl (hb hby at_93) [(.int (0 : Int32)), (.int c0)] [] 0 (rmSP l Z a0 hw [] (0 : Int32) c0 0 T120.heap rfl (by decide)) (own_w hw 65 rfl) (own_w hw 66 rfl) (own_w hw 6 rfl) (own_w hw 67 rfl) (by decide) pd__IC_I (by rw [hml]; rfl) rfl rfl (Nat.le_of_eq rfl) (by decide) (by decide) (by decide) (by decide) ?_
    rintro T122 _ L122 X122 ⟨rfl, rfl, e122⟩
    show own_Go p e below _ T122 (mkF m 96 #[.val (.int i0), .val (.int i1), .val (.int i2), .val (.int i3), .val (.int i4), .val (.int i5), .val (.int (4 : Int32)), .val (.int c0), .val (.int c1), .val (.int c2), .val (.int c3), .val (.int c4), .val (.int c5), .val (.ref b113), .val (.ref b115), .val (.int (0 : Int32)), .unset] [(.int (own_i9 (own_st 0 (own_cl c0))))])
    rw [List.append_nil] at X122
    refine own_by (T' := T122) (f' := (mkF m 98 #[.val (.int i0), .val (.int i1), .val (.int i2), .val (.int i3), .val (.int i4), .val (.int i5), .val (.int (4 : Int32)), .val (.int c0), .val (.int c1), .val (.int c2), .val (.int c3), .val (.int c4), .val (.int c5), .val (.ref b113), .val (.ref b115), .val (.int (own_i9 (own_st 0 (own_cl c0)))), .unset] [])) (fun t k => XS.istore X122.here hx rfl (hb hby at_96) rfl (l' := #[.val (.int i0), .val (.int i1), .val (.int i2), .val (.int i3), .val (.int i4), .val (.int i5), .val (.int (4 : Int32)), .val (.int c0), .val (.int c1), .val (.int c2), .val (.int c3), .val (.int c4), .val (.int c5), .val (.ref b113), .val (.ref b115), .val (.int (own_i9 (own_st 0 (own_cl c0)))), .unset]) rfl k) ?_
    refine own_by (T' := T122) (f' := (mkF m 100 #[.val (.int i0), .val (.int i1), .val (.int i2), .val (.int i3), .val (.int i4), .val (.int i5), .val (.int (4 : Int32)), .val (.int c0), .val (.int c1), .val (.int c2), .val (.int c3), .val (.int c4), .val (.int c5), .val (.ref b113), .val (.ref b115), .val (.int (own_i9 (own_st 0 (own_cl c0)))), .unset] [(.int (4 : Int32))])) (fun t k => XS.iload X122.here hx rfl (hb hby at_98) rfl k) ?_
    refine own_by (T' := T122) (f' := (mkF m 101 #[.val (.int i0), .val (.int i1), .val (.int i2), .val (.int i3), .val (.int i4), .val (.int i5), .val (.int (4 : Int32)), .val (.int c0), .val (.int c1), .val (.int c2), .val (.int c3), .val (.int c4), .val (.int c5), .val (.ref b113), .val (.ref b115), .val (.int (own_i9 (own_st 0 (own_cl c0)))), .unset] [(.int (1 : Int32)), (.int (4 : Int32))])) (fun t k => XS.iconst X122.here hx rfl (hb hby at_100) k) ?_
    refine own_by (T' := T122) (f' := (mkF m 104 #[.val (.int i0), .val (.int i1), .val (.int i2), .val (.int i3), .val (.int i4), .val (.int i5), .val (.int (4 : Int32)), .val (.int c0), .val (.int c1), .val (.int c2), .val (.int c3), .val (.int c4), .val (.int c5), .val (.ref b113), .val (.ref b115), .val (.int (own_i9 (own_st 0 (own_cl c0)))), .unset] [])) (fun t k => XS.icmpNo X122.here hx rfl (hb hby at_101) rfl (tlt (by decide)).2.2.2 k) ?_
    refine own_by (T' := T122) (f' := (mkF m 106 #[.val (.int i0), .val (.int i1), .val (.int i2), .val (.int i3), .val (.int i4), .val (.int i5), .val (.int (4 : Int32)), .val (.int c0), .val (.int c1), .val (.int c2), .val (.int c3), .val (.int c4), .val (.int c5), .val (.ref b113), .val (.ref b115), .val (.int (own_i9 (own_st 0 (own_cl c0)))), .unset] [(.int (own_i9 (own_st 0 (own_cl c0))))])) (fun t k => XS.iload X122.here hx rfl (hb hby at_104) rfl k) ?_
    refine own_by (T' := T122) (f' := (mkF m 108 #[.val (.int i0), .val (.int i1), .val (.int i2), .val (.int i3), .val (.int i4), .val (.int i5), .val (.int (4 : Int32)), .val (.int c0), .val (.int c1), .val (.int c2), .val (.int c3), .val (.int c4), .val (.int c5), .val (.ref b113), .val (.ref b115), .val (.int (own_i9 (own_st 0 (own_cl c0)))), .unset] [(.int c1), (.int (own_i9 (own_st 0 (own_cl c0))))])) (fun t k => XS.iload X122.here hx rfl (hb hby at_106) rfl k) ?_
    refine own_callS X122 hx hZ hown e122 (hb hby at_108) [(.int (own_i9 (own_st 0 (own_cl c0)))), (.int c1)] [] 0 (rmSP l Z a0 hw [] (own_i9 (own_st 0 (own_cl c0))) c1 (own_st 0 (own_cl c0)) T120.heap rfl (own_st9 _ _)) (own_w hw 65 rfl) (own_w hw 66 rfl) (own_w hw 6 rfl) (own_w hw 67 rfl) (by decide) pd__IC_I (by rw [hml]; rfl) rfl rfl (Nat.le_of_eq rfl) (by decide) (by decide) (by decide) (by decide) ?_
    rintro T123 _ L123 X123 ⟨rfl, rfl, e123⟩
    show own_Go p e below _ T123 (mkF m 111 #[.val (.int i0), .val (.int i1), .val (.int i2), .val (.int i3), .val (.int i4), .val (.int i5), .val (.int (4 : Int32)), .val (.int c0), .val (.int c1), .val (.int c2), .val (.int c3), .val (.int c4), .val (.int c5), .val (.ref b113), .val (.ref b115), .val (.int (own_i9 (own_st 0 (own_cl c0)))), .unset] [(.int (own_i9 (own_st (own_st 0 (own_cl c0)) (own_cl c1))))])
    rw [List.append_nil] at X123
    refine own_by (T' := T123) (f' := (mkF m 113 #[.val (.int i0), .val (.int i1), .val (.int i2), .val (.int i3), .val (.int i4), .val (.int i5), .val (.int (4 : Int32)), .val (.int c0), .val (.int c1), .val (.int c2), .val (.int c3), .val (.int c4), .val (.int c5), .val (.ref b113), .val (.ref b115), .val (.int (own_i9 (own_st (own_st 0 (own_cl c0)) (own_cl c1)))), .unset] [])) (fun t k => XS.istore X123.here hx rfl (hb hby at_111) rfl (l' := #[.val (.int i0), .val (.int i1), .val (.int i2), .val (.int i3), .val (.int i4), .val (.int i5), .val (.int (4 : Int32)), .val (.int c0), .val (.int c1), .val (.int c2), .val (.int c3), .val (.int c4), .val (.int c5), .val (.ref b113), .val (.ref b115), .val (.int (own_i9 (own_st (own_st 0 (own_cl c0)) (own_cl c1)))), .unset]) rfl k) ?_
    refine own_by (T' := T123) (f' := (mkF m 115 #[.val (.int i0), .val (.int i1), .val (.int i2), .val (.int i3), .val (.int i4), .val (.int i5), .val (.int (4 : Int32)), .val (.int c0), .val (.int c1), .val (.int c2), .val (.int c3), .val (.int c4), .val (.int c5), .val (.ref b113), .val (.ref b115), .val (.int (own_i9 (own_st (own_st 0 (own_cl c0)) (own_cl c1)))), .unset] [(.int (4 : Int32))])) (fun t k => XS.iload X123.here hx rfl (hb hby at_113) rfl k) ?_
    refine own_by (T' := T123) (f' := (mkF m 116 #[.val (.int i0), .val (.int i1), .val (.int i2), .val (.int i3), .val (.int i4), .val (.int i5), .val (.int (4 : Int32)), .val (.int c0), .val (.int c1), .val (.int c2), .val (.int c3), .val (.int c4), .val (.int c5), .val (.ref b113), .val (.ref b115), .val (.int (own_i9 (own_st (own_st 0 (own_cl c0)) (own_cl c1)))), .unset] [(.int (2 : Int32)), (.int (4 : Int32))])) (fun t k => XS.iconst X123.here hx rfl (hb hby at_115) k) ?_
    refine own_by (T' := T123) (f' := (mkF m 119 #[.val (.int i0), .val (.int i1), .val (.int i2), .val (.int i3), .val (.int i4), .val (.int i5), .val (.int (4 : Int32)), .val (.int c0), .val (.int c1), .val (.int c2), .val (.int c3), .val (.int c4), .val (.int c5), .val (.ref b113), .val (.ref b115), .val (.int (own_i9 (own_st (own_st 0 (own_cl c0)) (own_cl c1)))), .unset] [])) (fun t k => XS.icmpNo X123.here hx rfl (hb hby at_116) rfl (tlt (by decide)).2.2.2 k) ?_
    refine own_by (T' := T123) (f' := (mkF m 121 #[.val (.int i0), .val (.int i1), .val (.int i2), .val (.int i3), .val (.int i4), .val (.int i5), .val (.int (4 : Int32)), .val (.int c0), .val (.int c1), .val (.int c2), .val (.int c3), .val (.int c4), .val (.int c5), .val (.ref b113), .val (.ref b115), .val (.int (own_i9 (own_st (own_st 0 (own_cl c0)) (own_cl c1)))), .unset] [(.int (own_i9 (own_st (own_st 0 (own_cl c0)) (own_cl c1))))])) (fun t k => XS.iload X123.here hx rfl (hb hby at_119) rfl k) ?_
    refine own_by (T' := T123) (f' := (mkF m 123 #[.val (.int i0), .val (.int i1), .val (.int i2), .val (.int i3), .val (.int i4), .val (.int i5), .val (.int (4 : Int32)), .val (.int c0), .val (.int c1), .val (.int c2), .val (.int c3), .val (.int c4), .val (.int c5), .val (.ref b113), .val (.ref b115), .val (.int (own_i9 (own_st (own_st 0 (own_cl c0)) (own_cl c1)))), .unset] [(.int c2), (.int (own_i9 (own_st (own_st 0 (own_cl c0)) (own_cl c1))))])) (fun t k => XS.iload X123.here hx rfl (hb hby at_121) rfl k) ?_
    refine own_callS X123 hx hZ hown e123 (hb hby at_123) [(.int (own_i9 (own_st (own_st 0 (own_cl c0)) (own_cl c1)))), (.int c2)] [] 0 (rmSP l Z a0 hw [] (own_i9 (own_st (own_st 0 (own_cl c0)) (own_cl c1))) c2 (own_st (own_st 0 (own_cl c0)) (own_cl c1)) T120.heap rfl (own_st9 _ _)) (own_w hw 65 rfl) (own_w hw 66 rfl) (own_w hw 6 rfl) (own_w hw 67 rfl) (by decide) pd__IC_I (by rw [hml]; rfl) rfl rfl (Nat.le_of_eq rfl) (by decide) (by decide) (by decide) (by decide) ?_
    rintro T124 _ L124 X124 ⟨rfl, rfl, e124⟩
    show own_Go p e below _ T124 (mkF m 126 #[.val (.int i0), .val (.int i1), .val (.int i2), .val (.int i3), .val (.int i4), .val (.int i5), .val (.int (4 : Int32)), .val (.int c0), .val (.int c1), .val (.int c2), .val (.int c3), .val (.int c4), .val (.int c5), .val (.ref b113), .val (.ref b115), .val (.int (own_i9 (own_st (own_st 0 (own_cl c0)) (own_cl c1)))), .unset] [(.int (own_i9 (own_st (own_st (own_st 0 (own_cl c0)) (own_cl c1)) (own_cl c2))))])
    rw [List.append_nil] at X124
    refine own_by (T' := T124) (f' := (mkF m 128 #[.val (.int i0), .val (.int i1), .val (.int i2), .val (.int i3), .val (.int i4), .val (.int i5), .val (.int (4 : Int32)), .val (.int c0), .val (.int c1), .val (.int c2), .val (.int c3), .val (.int c4), .val (.int c5), .val (.ref b113), .val (.ref b115), .val (.int (own_i9 (own_st (own_st (own_st 0 (own_cl c0)) (own_cl c1)) (own_cl c2)))), .unset] [])) (fun t k => XS.istore X124.here hx rfl (hb hby at_126) rfl (l' := #[.val (.int i0), .val (.int i1), .val (.int i2), .val (.int i3), .val (.int i4), .val (.int i5), .val (.int (4 : Int32)), .val (.int c0), .val (.int c1), .val (.int c2), .val (.int c3), .val (.int c4), .val (.int c5), .val (.ref b113), .val (.ref b115), .val (.int (own_i9 (own_st (own_st (own_st 0 (own_cl c0)) (own_cl c1)) (own_cl c2)))), .unset]) rfl k) ?_
    refine own_by (T' := T124) (f' := (mkF m 130 #[.val (.int i0), .val (.int i1), .val (.int i2), .val (.int i3), .val (.int i4), .val (.int i5), .val (.int (4 : Int32)), .val (.int c0), .val (.int c1), .val (.int c2), .val (.int c3), .val (.int c4), .val (.int c5), .val (.ref b113), .val (.ref b115), .val (.int (own_i9 (own_st (own_st (own_st 0 (own_cl c0)) (own_cl c1)) (own_cl c2)))), .unset] [(.int (4 : Int32))])) (fun t k => XS.iload X124.here hx rfl (hb hby at_128) rfl k) ?_
    refine own_by (T' := T124) (f' := (mkF m 131 #[.val (.int i0), .val (.int i1), .val (.int i2), .val (.int i3), .val (.int i4), .val (.int i5), .val (.int (4 : Int32)), .val (.int c0), .val (.int c1), .val (.int c2), .val (.int c3), .val (.int c4), .val (.int c5), .val (.ref b113), .val (.ref b115), .val (.int (own_i9 (own_st (own_st (own_st 0 (own_cl c0)) (own_cl c1)) (own_cl c2)))), .unset] [(.int (3 : Int32)), (.int (4 : Int32))])) (fun t k => XS.iconst X124.here hx rfl (hb hby at_130) k) ?_
    refine own_by (T' := T124) (f' := (mkF m 134 #[.val (.int i0), .val (.int i1), .val (.int i2), .val (.int i3), .val (.int i4), .val (.int i5), .val (.int (4 : Int32)), .val (.int c0), .val (.int c1), .val (.int c2), .val (.int c3), .val (.int c4), .val (.int c5), .val (.ref b113), .val (.ref b115), .val (.int (own_i9 (own_st (own_st (own_st 0 (own_cl c0)) (own_cl c1)) (own_cl c2)))), .unset] [])) (fun t k => XS.icmpNo X124.here hx rfl (hb hby at_131) rfl (tlt (by decide)).2.2.2 k) ?_
    refine own_by (T' := T124) (f' := (mkF m 136 #[.val (.int i0), .val (.int i1), .val (.int i2), .val (.int i3), .val (.int i4), .val (.int i5), .val (.int (4 : Int32)), .val (.int c0), .val (.int c1), .val (.int c2), .val (.int c3), .val (.int c4), .val (.int c5), .val (.ref b113), .val (.ref b115), .val (.int (own_i9 (own_st (own_st (own_st 0 (own_cl c0)) (own_cl c1)) (own_cl c2)))), .unset] [(.int (own_i9 (own_st (own_st (own_st 0 (own_cl c0)) (own_cl c1)) (own_cl c2))))])) (fun t k => XS.iload X124.here hx rfl (hb hby at_134) rfl k) ?_
    refine own_by (T' := T124) (f' := (mkF m 138 #[.val (.int i0), .val (.int i1), .val (.int i2), .val (.int i3), .val (.int i4), .val (.int i5), .val (.int (4 : Int32)), .val (.int c0), .val (.int c1), .val (.int c2), .val (.int c3), .val (.int c4), .val (.int c5), .val (.ref b113), .val (.ref b115), .val (.int (own_i9 (own_st (own_st (own_st 0 (own_cl c0)) (own_cl c1)) (own_cl c2)))), .unset] [(.int c3), (.int (own_i9 (own_st (own_st (own_st 0 (own_cl c0)) (own_cl c1)) (own_cl c2))))])) (fun t k => XS.iload X124.here hx rfl (hb hby at_136) rfl k) ?_
    refine own_callS X124 hx hZ hown e124 (hb hby at_138) [(.int (own_i9 (own_st (own_st (own_st 0 (own_cl c0)) (own_cl c1)) (own_cl c2)))), (.int c3)] [] 0 (rmSP l Z a0 hw [] (own_i9 (own_st (own_st (own_st 0 (own_cl c0)) (own_cl c1)) (own_cl c2))) c3 (own_st (own_st (own_st 0 (own_cl c0)) (own_cl c1)) (own_cl c2)) T120.heap rfl (own_st9 _ _)) (own_w hw 65 rfl) (own_w hw 66 rfl) (own_w hw 6 rfl) (own_w hw 67 rfl) (by decide) pd__IC_I (by rw [hml]; rfl) rfl rfl (Nat.le_of_eq rfl) (by decide) (by decide) (by decide) (by decide) ?_
    rintro T125 _ L125 X125 ⟨rfl, rfl, e125⟩
    show own_Go p e below _ T125 (mkF m 141 #[.val (.int i0), .val (.int i1), .val (.int i2), .val (.int i3), .val (.int i4), .val (.int i5), .val (.int (4 : Int32)), .val (.int c0), .val (.int c1), .val (.int c2), .val (.int c3), .val (.int c4), .val (.int c5), .val (.ref b113), .val (.ref b115), .val (.int (own_i9 (own_st (own_st (own_st 0 (own_cl c0)) (own_cl c1)) (own_cl c2)))), .unset] [(.int (own_i9 (own_st (own_st (own_st (own_st 0 (own_cl c0)) (own_cl c1)) (own_cl c2)) (own_cl c3))))])
    rw [List.append_nil] at X125
    refine own_by (T' := T125) (f' := (mkF m 143 #[.val (.int i0), .val (.int i1), .val (.int i2), .val (.int i3), .val (.int i4), .val (.int i5), .val (.int (4 : Int32)), .val (.int c0), .val (.int c1), .val (.int c2), .val (.int c3), .val (.int c4), .val (.int c5), .val (.ref b113), .val (.ref b115), .val (.int (own_i9 (own_st (own_st (own_st (own_st 0 (own_cl c0)) (own_cl c1)) (own_cl c2)) (own_cl c3)))), .unset] [])) (fun t k => XS.istore X125.here hx rfl (hb hby at_141) rfl (l' := #[.val (.int i0), .val (.int i1), .val (.int i2), .val (.int i3), .val (.int i4), .val (.int i5), .val (.int (4 : Int32)), .val (.int c0), .val (.int c1), .val (.int c2), .val (.int c3), .val (.int c4), .val (.int c5), .val (.ref b113), .val (.ref b115), .val (.int (own_i9 (own_st (own_st (own_st (own_st 0 (own_cl c0)) (own_cl c1)) (own_cl c2)) (own_cl c3)))), .unset]) rfl k) ?_
    refine own_by (T' := T125) (f' := (mkF m 145 #[.val (.int i0), .val (.int i1), .val (.int i2), .val (.int i3), .val (.int i4), .val (.int i5), .val (.int (4 : Int32)), .val (.int c0), .val (.int c1), .val (.int c2), .val (.int c3), .val (.int c4), .val (.int c5), .val (.ref b113), .val (.ref b115), .val (.int (own_i9 (own_st (own_st (own_st (own_st 0 (own_cl c0)) (own_cl c1)) (own_cl c2)) (own_cl c3)))), .unset] [(.int (4 : Int32))])) (fun t k => XS.iload X125.here hx rfl (hb hby at_143) rfl k) ?_
    refine own_by (T' := T125) (f' := (mkF m 146 #[.val (.int i0), .val (.int i1), .val (.int i2), .val (.int i3), .val (.int i4), .val (.int i5), .val (.int (4 : Int32)), .val (.int c0), .val (.int c1), .val (.int c2), .val (.int c3), .val (.int c4), .val (.int c5), .val (.ref b113), .val (.ref b115), .val (.int (own_i9 (own_st (own_st (own_st (own_st 0 (own_cl c0)) (own_cl c1)) (own_cl c2)) (own_cl c3)))), .unset] [(.int (4 : Int32)), (.int (4 : Int32))])) (fun t k => XS.iconst X125.here hx rfl (hb hby at_145) k) ?_
    refine own_by (T' := T125) (f' := (mkF m 158 #[.val (.int i0), .val (.int i1), .val (.int i2), .val (.int i3), .val (.int i4), .val (.int i5), .val (.int (4 : Int32)), .val (.int c0), .val (.int c1), .val (.int c2), .val (.int c3), .val (.int c4), .val (.int c5), .val (.ref b113), .val (.ref b115), .val (.int (own_i9 (own_st (own_st (own_st (own_st 0 (own_cl c0)) (own_cl c1)) (own_cl c2)) (own_cl c3)))), .unset] [])) (fun t k => XS.icmpYes X125.here hx rfl (pc0 := 146) (pc' := 158) rfl (hb hby at_146) rfl (flt (by decide)).2.2.2 (by decide) (by decide) k) ?_
    refine own_by (T' := T125) (f' := (mkF m 160 #[.val (.int i0), .val (.int i1), .val (.int i2), .val (.int i3), .val (.int i4), .val (.int i5), .val (.int (4 : Int32)), .val (.int c0), .val (.int c1), .val (.int c2), .val (.int c3), .val (.int c4), .val (.int c5), .val (.ref b113), .val (.ref b115), .val (.int (own_i9 (own_st (own_st (own_st (own_st 0 (own_cl c0)) (own_cl c1)) (own_cl c2)) (own_cl c3)))), .unset] [(.int (4 : Int32))])) (fun t k => XS.iload X125.here hx rfl (hb hby at_158) rfl k) ?_
    refine own_by (T' := T125) (f' := (mkF m 161 #[.val (.int i0), .val (.int i1), .val (.int i2), .val (.int i3), .val (.int i4), .val (.int i5), .val (.int (4 : Int32)), .val (.int c0), .val (.int c1), .val (.int c2), .val (.int c3), .val (.int c4), .val (.int c5), .val (.ref b113), .val (.ref b115), .val (.int (own_i9 (own_st (own_st (own_st (own_st 0 (own_cl c0)) (own_cl c1)) (own_cl c2)) (own_cl c3)))), .unset] [(.int (5 : Int32)), (.int (4 : Int32))])) (fun t k => XS.iconst X125.here hx rfl (hb hby at_160) k) ?_
    refine own_by (T' := T125) (f' := (mkF m 173 #[.val (.int i0), .val (.int i1), .val (.int i2), .val (.int i3), .val (.int i4), .val (.int i5), .val (.int (4 : Int32)), .val (.int c0), .val (.int c1), .val (.int c2), .val (.int c3), .val (.int c4), .val (.int c5), .val (.ref b113), .val (.ref b115), .val (.int (own_i9 (own_st (own_st (own_st (own_st 0 (own_cl c0)) (own_cl c1)) (own_cl c2)) (own_cl c3)))), .unset] [])) (fun t k => XS.icmpYes X125.here hx rfl (pc0 := 161) (pc' := 173) rfl (hb hby at_161) rfl (flt (by decide)).2.2.2 (by decide) (by decide) k) ?_
    refine own_by (T' := T125) (f' := (mkF m 175 #[.val (.int i0), .val (.int i1), .val (.int i2), .val (.int i3), .val (.int i4), .val (.int i5), .val (.int (4 : Int32)), .val (.int c0), .val (.int c1), .val (.int c2), .val (.int c3), .val (.int c4), .val (.int c5), .val (.ref b113), .val (.ref b115), .val (.int (own_i9 (own_st (own_st (own_st (own_st 0 (own_cl c0)) (own_cl c1)) (own_cl c2)) (own_cl c3)))), .unset] [(.int (own_i9 (own_st (own_st (own_st (own_st 0 (own_cl c0)) (own_cl c1)) (own_cl c2)) (own_cl c3))))])) (fun t k => XS.iload X125.here hx rfl (hb hby at_173) rfl k) ?_
    refine own_by (T' := T125) (f' := (mkF m 176 #[.val (.int i0), .val (.int i1), .val (.int i2), .val (.int i3), .val (.int i4), .val (.int i5), .val (.int (4 : Int32)), .val (.int c0), .val (.int c1), .val (.int c2), .val (.int c3), .val (.int c4), .val (.int c5), .val (.ref b113), .val (.ref b115), .val (.int (own_i9 (own_st (own_st (own_st (own_st 0 (own_cl c0)) (own_cl c1)) (own_cl c2)) (own_cl c3)))), .unset] [(.int (2 : Int32)), (.int (own_i9 (own_st (own_st (own_st (own_st 0 (own_cl c0)) (own_cl c1)) (own_cl c2)) (own_cl c3))))])) (fun t k => XS.iconst X125.here hx rfl (hb hby at_175) k) ?_
    have mg129 : ∀ t, Steps p.tables e below (T125.setTop (mkF m 197 #[.val (.int i0), .val (.int i1), .val (.int i2), .val (.int i3), .val (.int i4), .val (.int i5), .val (.int (4 : Int32)), .val (.int c0), .val (.int c1), .val (.int c2), .val (.int c3), .val (.int c4), .val (.int c5), .val (.ref b113), .val (.ref b115), .val (.int (own_i9 (own_st (own_st (own_st (own_st 0 (own_cl c0)) (own_cl c1)) (own_cl c2)) (own_cl c3)))), .unset] [(.int (if (own_i9 (own_st (own_st (own_st (own_st 0 (own_cl c0)) (own_cl c1)) (own_cl c2)) (own_cl c3))) = (2 : Int32) then (1 : Int32) else (if (own_i9 (own_st (own_st (own_st (own_st 0 (own_cl c0)) (own_cl c1)) (own_cl c2)) (own_cl c3))) = (4 : Int32) then (1 : Int32) else (if (own_i9 (own_st (own_st (own_st (own_st 0 (own_cl c0)) (own_cl c1)) (own_cl c2)) (own_cl c3))) = (7 : Int32) then (1 : Int32) else (0 : Int32)))))])) t → Steps p.tables e below (T125.setTop (mkF m 176 #[.val (.int i0), .val (.int i1), .val (.int i2), .val (.int i3), .val (.int i4), .val (.int i5), .val (.int (4 : Int32)), .val (.int c0), .val (.int c1), .val (.int c2), .val (.int c3), .val (.int c4), .val (.int c5), .val (.ref b113), .val (.ref b115), .val (.int (own_i9 (own_st (own_st (own_st (own_st 0 (own_cl c0)) (own_cl c1)) (own_cl c2)) (own_cl c3)))), .unset] [(.int (2 : Int32)), (.int (own_i9 (own_st (own_st (own_st (own_st 0 (own_cl c0)) (own_cl c1)) (own_cl c2)) (own_cl c3))))])) t := by
      intro t k0
      by_cases hm126 : (own_i9 (own_st (own_st (own_st (own_st 0 (own_cl c0)) (own_cl c1)) (own_cl c2)) (own_cl c3))) = (2 : Int32)
      · skip
        refine XS.icmpYes X125.here hx rfl (pc0 := 176) (pc' := 192) rfl (hb hby at_176) rfl (teq hm126).1 (by decide) (by decide) ?_
        show Steps p.tables e below (T125.setTop (mkF m 192 #[.val (.int i0), .val (.int i1), .val (.int i2), .val (.int i3), .val (.int i4), .val (.int i5), .val (.int (4 : Int32)), .val (.int c0), .val (.int c1), .val (.int c2), .val (.int c3), .val (.int c4), .val (.int c5), .val (.ref b113), .val (.ref b115), .val (.int (own_i9 (own_st (own_st (own_st (own_st 0 (own_cl c0)) (own_cl c1)) (own_cl c2)) (own_cl c3)))), .unset] [])) _
        refine XS.iconst X125.here hx rfl (hb hby at_192) ?_
        show Steps p.tables e below (T125.setTop (mkF m 193 #[.val (.int i0), .val (.int i1), .val (.int i2), .val (.int i3), .val (.int i4), .val (.int i5), .val (.int (4 : Int32)), .val (.int c0), .val (.int c1), .val (.int c2), .val (.int c3), .val (.int c4), .val (.int c5), .val (.ref b113), .val (.ref b115), .val (.int (own_i9 (own_st (own_st (own_st (own_st 0 (own_cl c0)) (own_cl c1)) (own_cl c2)) (own_cl c3)))), .unset] [(.int (1 : Int32))])) _
        refine XS.goto X125.here hx rfl (pc0 := 193) (pc' := 197) rfl (hb hby at_193) (by decide) (by decide) ?_
        show Steps p.tables e below (T125.setTop (mkF m 197 #[.val (.int i0), .val (.int i1), .val (.int i2), .val (.int i3), .val (.int i4), .val (.int i5), .val (.int (4 : Int32)), .val (.int c0), .val (.int c1), .val (.int c2), .val (.int c3), .val (.int c4), .val (.int c5), .val (.ref b113), .val (.ref b115), .val (.int (own_i9 (own_st (own_st (own_st (own_st 0 (own_cl c0)) (own_cl c1)) (own_cl c2)) (own_cl c3)))), .unset] [(.int (1 : Int32))])) _
        try simp only [if_pos hm126] at k0
        exact k0
      · skip
        refine XS.icmpNo X125.here hx rfl (hb hby at_176) rfl (feq hm126).1 ?_
        show Steps p.tables e below (T125.setTop (mkF m 179 #[.val (.int i0), .val (.int i1), .val (.int i2), .val (.int i3), .val (.int i4), .val (.int i5), .val (.int (4 : Int32)), .val (.int c0), .val (.int c1), .val (.int c2), .val (.int c3), .val (.int c4), .val (.int c5), .val (.ref b113), .val (.ref b115), .val (.int (own_i9 (own_st (own_st (own_st (own_st 0 (own_cl c0)) (own_cl c1)) (own_cl c2)) (own_cl c3)))), .unset] [])) _
        refine XS.iload X125.here hx rfl (hb hby at_179) rfl ?_
        show Steps p.tables e below (T125.setTop (mkF m 181 #[.val (.int i0), .val (.int i1), .val (.int i2), .val (.int i3), .val (.int i4), .val (.int i5), .val (.int (4 : Int32)), .val (.int c0), .val (.int c1), .val (.int c2), .val (.int c3), .val (.int c4), .val (.int c5), .val (.ref b113), .val (.ref b115), .val (.int (own_i9 (own_st (own_st (own_st (own_st 0 (own_cl c0)) (own_cl c1)) (own_cl c2)) (own_cl c3)))), .unset] [(.int (own_i9 (own_st (own_st (own_st (own_st 0 (own_cl c0)) (own_cl c1)) (own_cl c2)) (own_cl c3))))])) _
        refine XS.iconst X125.here hx rfl (hb hby at_181) ?_
        show Steps p.tables e below (T125.setTop (mkF m 182 #[.val (.int i0), .val (.int i1), .val (.int i2), .val (.int i3), .val (.int i4), .val (.int i5), .val (.int (4 : Int32)), .val (.int c0), .val (.int c1), .val (.int c2), .val (.int c3), .val (.int c4), .val (.int c5), .val (.ref b113), .val (.ref b115), .val (.int (own_i9 (own_st (own_st (own_st (own_st 0 (own_cl c0)) (own_cl c1)) (own_cl c2)) (own_cl c3)))), .unset] [(.int (4 : Int32)), (.int (own_i9 (own_st (own_st (own_st (own_st 0 (own_cl c0)) (own_cl c1)) (own_cl c2)) (own_cl c3))))])) _
        by_cases hm127 : (own_i9 (own_st (own_st (own_st (own_st 0 (own_cl c0)) (own_cl c1)) (own_cl c2)) (own_cl c3))) = (4 : Int32)
        · skip
          refine XS.icmpYes X125.here hx rfl (pc0 := 182) (pc' := 192) rfl (hb hby at_182) rfl (teq hm127).1 (by decide) (by decide) ?_
          show Steps p.tables e below (T125.setTop (mkF m 192 #[.val (.int i0), .val (.int i1), .val (.int i2), .val (.int i3), .val (.int i4), .val (.int i5), .val (.int (4 : Int32)), .val (.int c0), .val (.int c1), .val (.int c2), .val (.int c3), .val (.int c4), .val (.int c5), .val (.ref b113), .val (.ref b115), .val (.int (own_i9 (own_st (own_st (own_st (own_st 0 (own_cl c0)) (own_cl c1)) (own_cl c2)) (own_cl c3)))), .unset] [])) _
          refine XS.iconst X125.here hx rfl (hb hby at_192) ?_
          show Steps p.tables e below (T125.setTop (mkF m 193 #[.val (.int i0), .val (.int i1), .val (.int i2), .val (.int i3), .val (.int i4), .val (.int i5), .val (.int (4 : Int32)), .val (.int c0), .val (.int c1), .val (.int c2), .val (.int c3), .val (.int c4), .val (.int c5), .val (.ref b113), .val (.ref b115), .val (.int (own_i9 (own_st (own_st (own_st (own_st 0 (own_cl c0)) (own_cl c1)) (own_cl c2)) (own_cl c3)))), .unset] [(.int (1 : Int32))])) _
          refine XS.goto X125.here hx rfl (pc0 := 193) (pc' := 197) rfl (hb hby at_193) (by decide) (by decide) ?_
          show Steps p.tables e below (T125.setTop (mkF m 197 #[.val (.int i0), .val (.int i1), .val (.int i2), .val (.int i3), .val (.int i4), .val (.int i5), .val (.int (4 : Int32)), .val (.int c0), .val (.int c1), .val (.int c2), .val (.int c3), .val (.int c4), .val (.int c5), .val (.ref b113), .val (.ref b115), .val (.int (own_i9 (own_st (own_st (own_st (own_st 0 (own_cl c0)) (own_cl c1)) (own_cl c2)) (own_cl c3)))), .unset] [(.int (1 : Int32))])) _
          try simp only [if_neg hm126, if_pos hm127] at k0
          exact k0
        · skip
          refine XS.icmpNo X125.here hx rfl (hb hby at_182) rfl (feq hm127).1 ?_
          show Steps p.tables e below (T125.setTop (mkF m 185 #[.val (.int i0), .val (.int i1), .val (.int i2), .val (.int i3), .val (.int i4), .val (.int i5), .val (.int (4 : Int32)), .val (.int c0), .val (.int c1), .val (.int c2), .val (.int c3), .val (.int c4), .val (.int c5), .val (.ref b113), .val (.ref b115), .val (.int (own_i9 (own_st (own_st (own_st (own_st 0 (own_cl c0)) (own_cl c1)) (own_cl c2)) (own_cl c3)))), .unset] [])) _
          refine XS.iload X125.here hx rfl (hb hby at_185) rfl ?_
          show Steps p.tables e below (T125.setTop (mkF m 187 #[.val (.int i0), .val (.int i1), .val (.int i2), .val (.int i3), .val (.int i4), .val (.int i5), .val (.int (4 : Int32)), .val (.int c0), .val (.int c1), .val (.int c2), .val (.int c3), .val (.int c4), .val (.int c5), .val (.ref b113), .val (.ref b115), .val (.int (own_i9 (own_st (own_st (own_st (own_st 0 (own_cl c0)) (own_cl c1)) (own_cl c2)) (own_cl c3)))), .unset] [(.int (own_i9 (own_st (own_st (own_st (own_st 0 (own_cl c0)) (own_cl c1)) (own_cl c2)) (own_cl c3))))])) _
          refine XS.bipush X125.here hx rfl (hb hby at_187) ?_
          show Steps p.tables e below (T125.setTop (mkF m 189 #[.val (.int i0), .val (.int i1), .val (.int i2), .val (.int i3), .val (.int i4), .val (.int i5), .val (.int (4 : Int32)), .val (.int c0), .val (.int c1), .val (.int c2), .val (.int c3), .val (.int c4), .val (.int c5), .val (.ref b113), .val (.ref b115), .val (.int (own_i9 (own_st (own_st (own_st (own_st 0 (own_cl c0)) (own_cl c1)) (own_cl c2)) (own_cl c3)))), .unset] [(.int (7 : Int32)), (.int (own_i9 (own_st (own_st (own_st (own_st 0 (own_cl c0)) (own_cl c1)) (own_cl c2)) (own_cl c3))))])) _
          by_cases hm128 : (own_i9 (own_st (own_st (own_st (own_st 0 (own_cl c0)) (own_cl c1)) (own_cl c2)) (own_cl c3))) = (7 : Int32)
          · skip
            refine XS.icmpNo X125.here hx rfl (hb hby at_189) rfl (teq hm128).2 ?_
            show Steps p.tables e below (T125.setTop (mkF m 192 #[.val (.int i0), .val (.int i1), .val (.int i2), .val (.int i3), .val (.int i4), .val (.int i5), .val (.int (4 : Int32)), .val (.int c0), .val (.int c1), .val (.int c2), .val (.int c3), .val (.int c4), .val (.int c5), .val (.ref b113), .val (.ref b115), .val (.int (own_i9 (own_st (own_st (own_st (own_st 0 (own_cl c0)) (own_cl c1)) (own_cl c2)) (own_cl c3)))), .unset] [])) _
            refine XS.iconst X125.here hx rfl (hb hby at_192) ?_
            show Steps p.tables e below (T125.setTop (mkF m 193 #[.val (.int i0), .val (.int i1), .val (.int i2), .val (.int i3), .val (.int i4), .val (.int i5), .val (.int (4 : Int32)), .val (.int c0), .val (.int c1), .val (.int c2), .val (.int c3), .val (.int c4), .val (.int c5), .val (.ref b113), .val (.ref b115), .val (.int (own_i9 (own_st (own_st (own_st (own_st 0 (own_cl c0)) (own_cl c1)) (own_cl c2)) (own_cl c3)))), .unset] [(.int (1 : Int32))])) _
            refine XS.goto X125.here hx rfl (pc0 := 193) (pc' := 197) rfl (hb hby at_193) (by decide) (by decide) ?_
            show Steps p.tables e below (T125.setTop (mkF m 197 #[.val (.int i0), .val (.int i1), .val (.int i2), .val (.int i3), .val (.int i4), .val (.int i5), .val (.int (4 : Int32)), .val (.int c0), .val (.int c1), .val (.int c2), .val (.int c3), .val (.int c4), .val (.int c5), .val (.ref b113), .val (.ref b115), .val (.int (own_i9 (own_st (own_st (own_st (own_st 0 (own_cl c0)) (own_cl c1)) (own_cl c2)) (own_cl c3)))), .unset] [(.int (1 : Int32))])) _
            try simp only [if_neg hm126, if_neg hm127, if_pos hm128] at k0
            exact k0
          · skip
            refine XS.icmpYes X125.here hx rfl (pc0 := 189) (pc' := 196) rfl (hb hby at_189) rfl (feq hm128).2 (by decide) (by decide) ?_
            show Steps p.tables e below (T125.setTop (mkF m 196 #[.val (.int i0), .val (.int i1), .val (.int i2), .val (.int i3), .val (.int i4), .val (.int i5), .val (.int (4 : Int32)), .val (.int c0), .val (.int c1), .val (.int c2), .val (.int c3), .val (.int c4), .val (.int c5), .val (.ref b113), .val (.ref b115), .val (.int (own_i9 (own_st (own_st (own_st (own_st 0 (own_cl c0)) (own_cl c1)) (own_cl c2)) (own_cl c3)))), .unset] [])) _
            refine XS.iconst X125.here hx rfl (hb hby at_196) ?_
            show Steps p.tables e below (T125.setTop (mkF m 197 #[.val (.int i0), .val (.int i1), .val (.int i2), .val (.int i3), .val (.int i4), .val (.int i5), .val (.int (4 : Int32)), .val (.int c0), .val (.int c1), .val (.int c2), .val (.int c3), .val (.int c4), .val (.int c5), .val (.ref b113), .val (.ref b115), .val (.int (own_i9 (own_st (own_st (own_st (own_st 0 (own_cl c0)) (own_cl c1)) (own_cl c2)) (own_cl c3)))), .unset] [(.int (0 : Int32))])) _
            try simp only [if_neg hm126, if_neg hm127, if_neg hm128] at k0
            exact k0
    refine own_by mg129 ?_
    rw [show (if (own_i9 (own_st (own_st (own_st (own_st 0 (own_cl c0)) (own_cl c1)) (own_cl c2)) (own_cl c3))) = (2 : Int32) then (1 : Int32) else (if (own_i9 (own_st (own_st (own_st (own_st 0 (own_cl c0)) (own_cl c1)) (own_cl c2)) (own_cl c3))) = (4 : Int32) then (1 : Int32) else (if (own_i9 (own_st (own_st (own_st (own_st 0 (own_cl c0)) (own_cl c1)) (own_cl c2)) (own_cl c3))) = (7 : Int32) then (1 : Int32) else (0 : Int32)))) = own_acc (own_st (own_st (own_st (own_st 0 (own_cl c0)) (own_cl c1)) (own_cl c2)) (own_cl c3)) from own_acc_i (k := (own_st (own_st (own_st (own_st 0 (own_cl c0)) (own_cl c1)) (own_cl c2)) (own_cl c3))) (own_st9 _ _)]
    show own_Go p e below _ T125 (mkF m 197 #[.val (.int i0), .val (.int i1), .val (.int i2), .val (.int i3), .val (.int i4), .val (.int i5), .val (.int (4 : Int32)), .val (.int c0), .val (.int c1), .val (.int c2), .val (.int c3), .val (.int c4), .val (.int c5), .val (.ref b113), .val (.ref b115), .val (.int (own_i9 (own_st (own_st (own_st (own_st 0 (own_cl c0)) (own_cl c1)) (own_cl c2)) (own_cl c3)))), .unset] [(.int (own_acc (own_st (own_st (own_st (own_st 0 (own_cl c0)) (own_cl c1)) (own_cl c2)) (own_cl c3))))])
    refine own_by (T' := T125) (f' := (mkF m 199 #[.val (.int i0), .val (.int i1), .val (.int i2), .val (.int i3), .val (.int i4), .val (.int i5), .val (.int (4 : Int32)), .val (.int c0), .val (.int c1), .val (.int c2), .val (.int c3), .val (.int c4), .val (.int c5), .val (.ref b113), .val (.ref b115), .val (.int (own_i9 (own_st (own_st (own_st (own_st 0 (own_cl c0)) (own_cl c1)) (own_cl c2)) (own_cl c3)))), .val (.int (own_acc (own_st (own_st (own_st (own_st 0 (own_cl c0)) (own_cl c1)) (own_cl c2)) (own_cl c3))))] [])) (fun t k => XS.istore X125.here hx rfl (hb hby at_197) rfl (l' := #[.val (.int i0), .val (.int i1), .val (.int i2), .val (.int i3), .val (.int i4), .val (.int i5), .val (.int (4 : Int32)), .val (.int c0), .val (.int c1), .val (.int c2), .val (.int c3), .val (.int c4), .val (.int c5), .val (.ref b113), .val (.ref b115), .val (.int (own_i9 (own_st (own_st (own_st (own_st 0 (own_cl c0)) (own_cl c1)) (own_cl c2)) (own_cl c3)))), .val (.int (own_acc (own_st (own_st (own_st (own_st 0 (own_cl c0)) (own_cl c1)) (own_cl c2)) (own_cl c3))))]) rfl k) ?_
    refine own_by (T' := T125) (f' := (mkF m 201 #[.val (.int i0), .val (.int i1), .val (.int i2), .val (.int i3), .val (.int i4), .val (.int i5), .val (.int (4 : Int32)), .val (.int c0), .val (.int c1), .val (.int c2), .val (.int c3), .val (.int c4), .val (.int c5), .val (.ref b113), .val (.ref b115), .val (.int (own_i9 (own_st (own_st (own_st (own_st 0 (own_cl c0)) (own_cl c1)) (own_cl c2)) (own_cl c3)))), .val (.int (own_acc (own_st (own_st (own_st (own_st 0 (own_cl c0)) (own_cl c1)) (own_cl c2)) (own_cl c3))))] [(.ref b115)])) (fun t k => XS.aload X125.here hx rfl (hb hby at_199) rfl rfl k) ?_
    have f130 := (f119.keep K120 q117)
    refine own_callS X125 hx hZ hown e125 (hb hby at_201) [(.ref b115)] [] 0 (rmDE l Z a0 hw [] b115 (4 : Int32) 4 (fun i => List.getD [c0, c1, c2, c3] i 0) (fun i => List.getD [own_cl c0, own_cl c1, own_cl c2, own_cl c3] i 0) cs fm T120.heap (fun i hi => by match i, hi with | 0, _ => rfl | 1, _ => rfl | 2, _ => rfl | 3, _ => rfl | (q + 4), h => exact absurd h (by omega)) (by decide) (by decide) Q120 f130) (own_w hw 34 rfl) (own_w hw 35 rfl) (own_w hw 36 rfl) (own_w hw 37 rfl) (by decide) pd__Ljava_lang_String__Z (by rw [hml]; rfl) rfl rfl (Nat.le_of_eq rfl) (by decide) (by decide) (by decide) (by decide) ?_
    rintro T131 _ L131 X131 ⟨rfl, rfl, e131⟩
    show own_Go p e below _ T131 (mkF m 204 #[.val (.int i0), .val (.int i1), .val (.int i2), .val (.int i3), .val (.int i4), .val (.int i5), .val (.int (4 : Int32)), .val (.int c0), .val (.int c1), .val (.int c2), .val (.int c3), .val (.int c4), .val (.int c5), .val (.ref b113), .val (.ref b115), .val (.int (own_i9 (own_st (own_st (own_st (own_st 0 (own_cl c0)) (own_cl c1)) (own_cl c2)) (own_cl c3)))), .val (.int (own_acc (own_st (own_st (own_st (own_st 0 (own_cl c0)) (own_cl c1)) (own_cl c2)) (own_cl c3))))] [(.int (own_isDec (fun i => List.getD [own_cl c0, own_cl c1, own_cl c2, own_cl c3] i 0) 4))])
    rw [List.append_nil] at X131
    have hlw : own_isDec (fun i => List.getD [own_cl c0, own_cl c1, own_cl c2, own_cl c3] i 0) 4 = own_acc (own_st (own_st (own_st (own_st 0 (own_cl c0)) (own_cl c1)) (own_cl c2)) (own_cl c3)) := own_law4 ⟨own_cl c0, own_cl_lt c0⟩ ⟨own_cl c1, own_cl_lt c1⟩ ⟨own_cl c2, own_cl_lt c2⟩ ⟨own_cl c3, own_cl_lt c3⟩
    refine own_by (T' := T131) (f' := (mkF m 206 #[.val (.int i0), .val (.int i1), .val (.int i2), .val (.int i3), .val (.int i4), .val (.int i5), .val (.int (4 : Int32)), .val (.int c0), .val (.int c1), .val (.int c2), .val (.int c3), .val (.int c4), .val (.int c5), .val (.ref b113), .val (.ref b115), .val (.int (own_i9 (own_st (own_st (own_st (own_st 0 (own_cl c0)) (own_cl c1)) (own_cl c2)) (own_cl c3)))), .val (.int (own_acc (own_st (own_st (own_st (own_st 0 (own_cl c0)) (own_cl c1)) (own_cl c2)) (own_cl c3))))] [(.int (own_acc (own_st (own_st (own_st (own_st 0 (own_cl c0)) (own_cl c1)) (own_cl c2)) (own_cl c3)))), (.int (own_isDec (fun i => List.getD [own_cl c0, own_cl c1, own_cl c2, own_cl c3] i 0) 4))])) (fun t k => XS.iload X131.here hx rfl (hb hby at_204) rfl k) ?_
    have hc206_132 : (own_isDec (fun i => List.getD [own_cl c0, own_cl c1, own_cl c2, own_cl c3] i 0) 4) = (own_acc (own_st (own_st (own_st (own_st 0 (own_cl c0)) (own_cl c1)) (own_cl c2)) (own_cl c3))) := hlw
    refine own_by (T' := T131) (f' := (mkF m 209 #[.val (.int i0), .val (.int i1), .val (.int i2), .val (.int i3), .val (.int i4), .val (.int i5), .val (.int (4 : Int32)), .val (.int c0), .val (.int c1), .val (.int c2), .val (.int c3), .val (.int c4), .val (.int c5), .val (.ref b113), .val (.ref b115), .val (.int (own_i9 (own_st (own_st (own_st (own_st 0 (own_cl c0)) (own_cl c1)) (own_cl c2)) (own_cl c3)))), .val (.int (own_acc (own_st (own_st (own_st (own_st 0 (own_cl c0)) (own_cl c1)) (own_cl c2)) (own_cl c3))))] [])) (fun t k => XS.icmpNo X131.here hx rfl (hb hby at_206) rfl (teq hc206_132).2 k) ?_
    refine own_by (T' := T131) (f' := (mkF m 210 #[.val (.int i0), .val (.int i1), .val (.int i2), .val (.int i3), .val (.int i4), .val (.int i5), .val (.int (4 : Int32)), .val (.int c0), .val (.int c1), .val (.int c2), .val (.int c3), .val (.int c4), .val (.int c5), .val (.ref b113), .val (.ref b115), .val (.int (own_i9 (own_st (own_st (own_st (own_st 0 (own_cl c0)) (own_cl c1)) (own_cl c2)) (own_cl c3)))), .val (.int (own_acc (own_st (own_st (own_st (own_st 0 (own_cl c0)) (own_cl c1)) (own_cl c2)) (own_cl c3))))] [(.int (1 : Int32))])) (fun t k => XS.iconst X131.here hx rfl (hb hby at_209) k) ?_
    refine own_by (T' := T131) (f' := (mkF m 214 #[.val (.int i0), .val (.int i1), .val (.int i2), .val (.int i3), .val (.int i4), .val (.int i5), .val (.int (4 : Int32)), .val (.int c0), .val (.int c1), .val (.int c2), .val (.int c3), .val (.int c4), .val (.int c5), .val (.ref b113), .val (.ref b115), .val (.int (own_i9 (own_st (own_st (own_st (own_st 0 (own_cl c0)) (own_cl c1)) (own_cl c2)) (own_cl c3)))), .val (.int (own_acc (own_st (own_st (own_st (own_st 0 (own_cl c0)) (own_cl c1)) (own_cl c2)) (own_cl c3))))] [(.int (1 : Int32))])) (fun t k => XS.goto X131.here hx rfl (pc0 := 210) (pc' := 214) rfl (hb hby at_210) (by decide) (by decide) k) ?_
    refine own_retW X131 hx hret hlk hZ hEL hs0 e131 hS hk CH (hb hby at_214) rfl (Or.inl ⟨rfl, Or.inr (Or.inl rfl), _, rfl⟩) (by decide) (by decide) ?_
    try rw [e131]
    exact ⟨rfl, N120⟩
  · rw [hl]
    show own_Go p e below _ T11 (mkF m 9 #[.val (.int i0), .val (.int i1), .val (.int i2), .val (.int i3), .val (.int i4), .val (.int i5), .unset, .unset, .unset, .unset, .unset, .unset, .unset, .unset, .unset, .unset, .unset] [(.int (5 : Int32))])
    refine own_by (T' := T11) (f' := (mkF m 11 #[.val (.int i0), .val (.int i1), .val (.int i2), .val (.int i3), .val (.int i4), .val (.int i5), .val (.int (5 : Int32)), .unset, .unset, .unset, .unset, .unset, .unset, .unset, .unset, .unset, .unset] [])) (fun t k => XS.istore X11.here hx rfl (hb hby at_9) rfl (l' := #[.val (.int i0), .val (.int i1), .val (.int i2), .val (.int i3), .val (.int i4), .val (.int i5), .val (.int (5 : Int32)), .unset, .unset, .unset, .unset, .unset, .unset, .unset, .unset, .unset, .unset]) rfl k) ?_
    refine own_by (T' := T11) (f' := (mkF m 12 #[.val (.int i0), .val (.int i1), .val (.int i2), .val (.int i3), .val (.int i4), .val (.int i5), .val (.int (5 : Int32)), .unset, .unset, .unset, .unset, .unset, .unset, .unset, .unset, .unset, .unset] [(.int i1)])) (fun t k => XS.iloadN X11.here hx rfl (hb hby at_11) rfl k) ?_
    refine own_callS X11 hx hZ hown e11 (hb hby at_12) [(.int i1)] [] 0 (rmCH l Z a0 hw [] i1 h0) (own_w hw 4 rfl) (own_w hw 5 rfl) (own_w hw 6 rfl) (own_w hw 7 rfl) (by decide) pd__I_C (by rw [hml]; rfl) rfl rfl (Nat.le_of_eq rfl) (by decide) (by decide) (by decide) (by decide) ?_
    rintro T133 _ L133 X133 ⟨c0, rfl, hc0, rfl, e133⟩
    rw [List.append_nil] at X133
    show own_Go p e below _ T133 (mkF m 15 #[.val (.int i0), .val (.int i1), .val (.int i2), .val (.int i3), .val (.int i4), .val (.int i5), .val (.int (5 : Int32)), .unset, .unset, .unset, .unset, .unset, .unset, .unset, .unset, .unset, .unset] [(.int c0)])
    refine own_by (T' := T133) (f' := (mkF m 17 #[.val (.int i0), .val (.int i1), .val (.int i2), .val (.int i3), .val (.int i4), .val (.int i5), .val (.int (5 : Int32)), .val (.int c0), .unset, .unset, .unset, .unset, .unset, .unset, .unset, .unset, .unset] [])) (fun t k => XS.istore X133.here hx rfl (hb hby at_15) rfl (l' := #[.val (.int i0), .val (.int i1), .val (.int i2), .val (.int i3), .val (.int i4), .val (.int i5), .val (.int (5 : Int32)), .val (.int c0), .unset, .unset, .unset, .unset, .unset, .unset, .unset, .unset, .unset]) rfl k) ?_
    refine own_by (T' := T133) (f' := (mkF m 18 #[.val (.int i0), .val (.int i1), .val (.int i2), .val (.int i3), .val (.int i4), .val (.int i5), .val (.int (5 : Int32)), .val (.int c0), .unset, .unset, .unset, .unset, .unset, .unset, .unset, .unset, .unset] [(.int i2)])) (fun t k => XS.iloadN X133.here hx rfl (hb hby at_17) rfl k) ?_
    refine own_callS X133 hx hZ hown e133 (hb hby at_18) [(.int i2)] [] 0 (rmCH l Z a0 hw [] i2 h0) (own_w hw 4 rfl) (own_w hw 5 rfl) (own_w hw 6 rfl) (own_w hw 7 rfl) (by decide) pd__I_C (by rw [hml]; rfl) rfl rfl (Nat.le_of_eq rfl) (by decide) (by decide) (by decide) (by decide) ?_
    rintro T134 _ L134 X134 ⟨c1, rfl, hc1, rfl, e134⟩
    rw [List.append_nil] at X134
    show own_Go p e below _ T134 (mkF m 21 #[.val (.int i0), .val (.int i1), .val (.int i2), .val (.int i3), .val (.int i4), .val (.int i5), .val (.int (5 : Int32)), .val (.int c0), .unset, .unset, .unset, .unset, .unset, .unset, .unset, .unset, .unset] [(.int c1)])
    refine own_by (T' := T134) (f' := (mkF m 23 #[.val (.int i0), .val (.int i1), .val (.int i2), .val (.int i3), .val (.int i4), .val (.int i5), .val (.int (5 : Int32)), .val (.int c0), .val (.int c1), .unset, .unset, .unset, .unset, .unset, .unset, .unset, .unset] [])) (fun t k => XS.istore X134.here hx rfl (hb hby at_21) rfl (l' := #[.val (.int i0), .val (.int i1), .val (.int i2), .val (.int i3), .val (.int i4), .val (.int i5), .val (.int (5 : Int32)), .val (.int c0), .val (.int c1), .unset, .unset, .unset, .unset, .unset, .unset, .unset, .unset]) rfl k) ?_
    refine own_by (T' := T134) (f' := (mkF m 24 #[.val (.int i0), .val (.int i1), .val (.int i2), .val (.int i3), .val (.int i4), .val (.int i5), .val (.int (5 : Int32)), .val (.int c0), .val (.int c1), .unset, .unset, .unset, .unset, .unset, .unset, .unset, .unset] [(.int i3)])) (fun t k => XS.iloadN X134.here hx rfl (hb hby at_23) rfl k) ?_
    refine own_callS X134 hx hZ hown e134 (hb hby at_24) [(.int i3)] [] 0 (rmCH l Z a0 hw [] i3 h0) (own_w hw 4 rfl) (own_w hw 5 rfl) (own_w hw 6 rfl) (own_w hw 7 rfl) (by decide) pd__I_C (by rw [hml]; rfl) rfl rfl (Nat.le_of_eq rfl) (by decide) (by decide) (by decide) (by decide) ?_
    rintro T135 _ L135 X135 ⟨c2, rfl, hc2, rfl, e135⟩
    rw [List.append_nil] at X135
    show own_Go p e below _ T135 (mkF m 27 #[.val (.int i0), .val (.int i1), .val (.int i2), .val (.int i3), .val (.int i4), .val (.int i5), .val (.int (5 : Int32)), .val (.int c0), .val (.int c1), .unset, .unset, .unset, .unset, .unset, .unset, .unset, .unset] [(.int c2)])
    refine own_by (T' := T135) (f' := (mkF m 29 #[.val (.int i0), .val (.int i1), .val (.int i2), .val (.int i3), .val (.int i4), .val (.int i5), .val (.int (5 : Int32)), .val (.int c0), .val (.int c1), .val (.int c2), .unset, .unset, .unset, .unset, .unset, .unset, .unset] [])) (fun t k => XS.istore X135.here hx rfl (hb hby at_27) rfl (l' := #[.val (.int i0), .val (.int i1), .val (.int i2), .val (.int i3), .val (.int i4), .val (.int i5), .val (.int (5 : Int32)), .val (.int c0), .val (.int c1), .val (.int c2), .unset, .unset, .unset, .unset, .unset, .unset, .unset]) rfl k) ?_
    refine own_by (T' := T135) (f' := (mkF m 31 #[.val (.int i0), .val (.int i1), .val (.int i2), .val (.int i3), .val (.int i4), .val (.int i5), .val (.int (5 : Int32)), .val (.int c0), .val (.int c1), .val (.int c2), .unset, .unset, .unset, .unset, .unset, .unset, .unset] [(.int i4)])) (fun t k => XS.iload X135.here hx rfl (hb hby at_29) rfl k) ?_
    refine own_callS X135 hx hZ hown e135 (hb hby at_31) [(.int i4)] [] 0 (rmCH l Z a0 hw [] i4 h0) (own_w hw 4 rfl) (own_w hw 5 rfl) (own_w hw 6 rfl) (own_w hw 7 rfl) (by decide) pd__I_C (by rw [hml]; rfl) rfl rfl (Nat.le_of_eq rfl) (by decide) (by decide) (by decide) (by decide) ?_
    rintro T136 _ L136 X136 ⟨c3, rfl, hc3, rfl, e136⟩
    rw [List.append_nil] at X136
    show own_Go p e below _ T136 (mkF m 34 #[.val (.int i0), .val (.int i1), .val (.int i2), .val (.int i3), .val (.int i4), .val (.int i5), .val (.int (5 : Int32)), .val (.int c0), .val (.int c1), .val (.int c2), .unset, .unset, .unset, .unset, .unset, .unset, .unset] [(.int c3)])
    refine own_by (T' := T136) (f' := (mkF m 36 #[.val (.int i0), .val (.int i1), .val (.int i2), .val (.int i3), .val (.int i4), .val (.int i5), .val (.int (5 : Int32)), .val (.int c0), .val (.int c1), .val (.int c2), .val (.int c3), .unset, .unset, .unset, .unset, .unset, .unset] [])) (fun t k => XS.istore X136.here hx rfl (hb hby at_34) rfl (l' := #[.val (.int i0), .val (.int i1), .val (.int i2), .val (.int i3), .val (.int i4), .val (.int i5), .val (.int (5 : Int32)), .val (.int c0), .val (.int c1), .val (.int c2), .val (.int c3), .unset, .unset, .unset, .unset, .unset, .unset]) rfl k) ?_
    refine own_by (T' := T136) (f' := (mkF m 38 #[.val (.int i0), .val (.int i1), .val (.int i2), .val (.int i3), .val (.int i4), .val (.int i5), .val (.int (5 : Int32)), .val (.int c0), .val (.int c1), .val (.int c2), .val (.int c3), .unset, .unset, .unset, .unset, .unset, .unset] [(.int i5)])) (fun t k => XS.iload X136.here hx rfl (hb hby at_36) rfl k) ?_
    refine own_callS X136 hx hZ hown e136 (hb hby at_38) [(.int i5)] [] 0 (rmCH l Z a0 hw [] i5 h0) (own_w hw 4 rfl) (own_w hw 5 rfl) (own_w hw 6 rfl) (own_w hw 7 rfl) (by decide) pd__I_C (by rw [hml]; rfl) rfl rfl (Nat.le_of_eq rfl) (by decide) (by decide) (by decide) (by decide) ?_
    rintro T137 _ L137 X137 ⟨c4, rfl, hc4, rfl, e137⟩
    rw [List.append_nil] at X137
    show own_Go p e below _ T137 (mkF m 41 #[.val (.int i0), .val (.int i1), .val (.int i2), .val (.int i3), .val (.int i4), .val (.int i5), .val (.int (5 : Int32)), .val (.int c0), .val (.int c1), .val (.int c2), .val (.int c3), .unset, .unset, .unset, .unset, .unset, .unset] [(.int c4)])
    refine own_by (T' := T137) (f' := (mkF m 43 #[.val (.int i0), .val (.int i1), .val (.int i2), .val (.int i3), .val (.int i4), .val (.int i5), .val (.int (5 : Int32)), .val (.int c0), .val (.int c1), .val (.int c2), .val (.int c3), .val (.int c4), .unset, .unset, .unset, .unset, .unset] [])) (fun t k => XS.istore X137.here hx rfl (hb hby at_41) rfl (l' := #[.val (.int i0), .val (.int i1), .val (.int i2), .val (.int i3), .val (.int i4), .val (.int i5), .val (.int (5 : Int32)), .val (.int c0), .val (.int c1), .val (.int c2), .val (.int c3), .val (.int c4), .unset, .unset, .unset, .unset, .unset]) rfl k) ?_
    refine own_by (T' := T137) (f' := (mkF m 44 #[.val (.int i0), .val (.int i1), .val (.int i2), .val (.int i3), .val (.int i4), .val (.int i5), .val (.int (5 : Int32)), .val (.int c0), .val (.int c1), .val (.int c2), .val (.int c3), .val (.int c4), .unset, .unset, .unset, .unset, .unset] [(.int i0)])) (fun t k => XS.iloadN X137.here hx rfl (hb hby at_43) rfl k) ?_
    refine own_by (T' := T137) (f' := (mkF m 45 #[.val (.int i0), .val (.int i1), .val (.int i2), .val (.int i3), .val (.int i4), .val (.int i5), .val (.int (5 : Int32)), .val (.int c0), .val (.int c1), .val (.int c2), .val (.int c3), .val (.int c4), .unset, .unset, .unset, .unset, .unset] [(.int (3 : Int32)), (.int i0)])) (fun t k => XS.iconst X137.here hx rfl (hb hby at_44) k) ?_
    refine own_by (T' := T137) (f' := (mkF m 46 #[.val (.int i0), .val (.int i1), .val (.int i2), .val (.int i3), .val (.int i4), .val (.int i5), .val (.int (5 : Int32)), .val (.int c0), .val (.int c1), .val (.int c2), .val (.int c3), .val (.int c4), .unset, .unset, .unset, .unset, .unset] [(.int ((i0.toUInt32 >>> ((3 : Int32) &&& 31).toUInt32).toInt32))])) (fun t k => XS.iushr X137.here hx rfl (hb hby at_45) rfl k) ?_
    refine own_callS X137 hx hZ hown e137 (hb hby at_46) [(.int ((i0.toUInt32 >>> ((3 : Int32) &&& 31).toUInt32).toInt32))] [] 0 (rmCH l Z a0 hw [] ((i0.toUInt32 >>> ((3 : Int32) &&& 31).toUInt32).toInt32) h0) (own_w hw 4 rfl) (own_w hw 5 rfl) (own_w hw 6 rfl) (own_w hw 7 rfl) (by decide) pd__I_C (by rw [hml]; rfl) rfl rfl (Nat.le_of_eq rfl) (by decide) (by decide) (by decide) (by decide) ?_
    rintro T138 _ L138 X138 ⟨c5, rfl, hc5, rfl, e138⟩
    rw [List.append_nil] at X138
    show own_Go p e below _ T138 (mkF m 49 #[.val (.int i0), .val (.int i1), .val (.int i2), .val (.int i3), .val (.int i4), .val (.int i5), .val (.int (5 : Int32)), .val (.int c0), .val (.int c1), .val (.int c2), .val (.int c3), .val (.int c4), .unset, .unset, .unset, .unset, .unset] [(.int c5)])
    refine own_by (T' := T138) (f' := (mkF m 51 #[.val (.int i0), .val (.int i1), .val (.int i2), .val (.int i3), .val (.int i4), .val (.int i5), .val (.int (5 : Int32)), .val (.int c0), .val (.int c1), .val (.int c2), .val (.int c3), .val (.int c4), .val (.int c5), .unset, .unset, .unset, .unset] [])) (fun t k => XS.istore X138.here hx rfl (hb hby at_49) rfl (l' := #[.val (.int i0), .val (.int i1), .val (.int i2), .val (.int i3), .val (.int i4), .val (.int i5), .val (.int (5 : Int32)), .val (.int c0), .val (.int c1), .val (.int c2), .val (.int c3), .val (.int c4), .val (.int c5), .unset, .unset, .unset, .unset]) rfl k) ?_
    refine own_by (T' := T138) (f' := (mkF m 53 #[.val (.int i0), .val (.int i1), .val (.int i2), .val (.int i3), .val (.int i4), .val (.int i5), .val (.int (5 : Int32)), .val (.int c0), .val (.int c1), .val (.int c2), .val (.int c3), .val (.int c4), .val (.int c5), .unset, .unset, .unset, .unset] [(.int (5 : Int32))])) (fun t k => XS.iload X138.here hx rfl (hb hby at_51) rfl k) ?_
    refine own_by (T' := T138) (f' := (mkF m 55 #[.val (.int i0), .val (.int i1), .val (.int i2), .val (.int i3), .val (.int i4), .val (.int i5), .val (.int (5 : Int32)), .val (.int c0), .val (.int c1), .val (.int c2), .val (.int c3), .val (.int c4), .val (.int c5), .unset, .unset, .unset, .unset] [(.int c0), (.int (5 : Int32))])) (fun t k => XS.iload X138.here hx rfl (hb hby at_53) rfl k) ?_
    refine own_by (T' := T138) (f' := (mkF m 57 #[.val (.int i0), .val (.int i1), .val (.int i2), .val (.int i3), .val (.int i4), .val (.int i5), .val (.int (5 : Int32)), .val (.int c0), .val (.int c1), .val (.int c2), .val (.int c3), .val (.int c4), .val (.int c5), .unset, .unset, .unset, .unset] [(.int c1), (.int c0), (.int (5 : Int32))])) (fun t k => XS.iload X138.here hx rfl (hb hby at_55) rfl k) ?_
    refine own_by (T' := T138) (f' := (mkF m 59 #[.val (.int i0), .val (.int i1), .val (.int i2), .val (.int i3), .val (.int i4), .val (.int i5), .val (.int (5 : Int32)), .val (.int c0), .val (.int c1), .val (.int c2), .val (.int c3), .val (.int c4), .val (.int c5), .unset, .unset, .unset, .unset] [(.int c2), (.int c1), (.int c0), (.int (5 : Int32))])) (fun t k => XS.iload X138.here hx rfl (hb hby at_57) rfl k) ?_
    refine own_by (T' := T138) (f' := (mkF m 61 #[.val (.int i0), .val (.int i1), .val (.int i2), .val (.int i3), .val (.int i4), .val (.int i5), .val (.int (5 : Int32)), .val (.int c0), .val (.int c1), .val (.int c2), .val (.int c3), .val (.int c4), .val (.int c5), .unset, .unset, .unset, .unset] [(.int c3), (.int c2), (.int c1), (.int c0), (.int (5 : Int32))])) (fun t k => XS.iload X138.here hx rfl (hb hby at_59) rfl k) ?_
    refine own_by (T' := T138) (f' := (mkF m 63 #[.val (.int i0), .val (.int i1), .val (.int i2), .val (.int i3), .val (.int i4), .val (.int i5), .val (.int (5 : Int32)), .val (.int c0), .val (.int c1), .val (.int c2), .val (.int c3), .val (.int c4), .val (.int c5), .unset, .unset, .unset, .unset] [(.int c4), (.int c3), (.int c2), (.int c1), (.int c0), (.int (5 : Int32))])) (fun t k => XS.iload X138.here hx rfl (hb hby at_61) rfl k) ?_
    refine own_by (T' := T138) (f' := (mkF m 65 #[.val (.int i0), .val (.int i1), .val (.int i2), .val (.int i3), .val (.int i4), .val (.int i5), .val (.int (5 : Int32)), .val (.int c0), .val (.int c1), .val (.int c2), .val (.int c3), .val (.int c4), .val (.int c5), .unset, .unset, .unset, .unset] [(.int c5), (.int c4), (.int c3), (.int c2), (.int c1), (.int c0), (.int (5 : Int32))])) (fun t k => XS.iload X138.here hx rfl (hb hby at_63) rfl k) ?_
    refine own_callS X138 hx hZ hown e138 (hb hby at_65) [(.int (5 : Int32)), (.int c0), (.int c1), (.int c2), (.int c3), (.int c4), (.int c5)] [] 0 (rmMK5 l Z a0 hw [] c0 c1 c2 c3 c4 c5 h0 n0 Z0 hc0 hc1 hc2 hc3 hc4 hc5) (own_w hw 9 rfl) (own_w hw 10 rfl) (own_w hw 6 rfl) (own_w hw 11 rfl) (by decide) pd__ICCCCCC__C (by rw [hml]; rfl) rfl rfl (Nat.le_of_eq rfl) (by decide) (by decide) (by decide) (by decide) ?_
    rintro T139 _ L139 X139 ⟨b139, rfl, N139q, K139, gb139, B139⟩
    show own_Go p e below _ T139 (mkF m 68 #[.val (.int i0), .val (.int i1), .val (.int i2), .val (.int i3), .val (.int i4), .val (.int i5), .val (.int (5 : Int32)), .val (.int c0), .val (.int c1), .val (.int c2), .val (.int c3), .val (.int c4), .val (.int c5), .unset, .unset, .unset, .unset] [(.ref b139)])
    have N139 := Fr.app N0 N139q
    have hk := Nat.le_trans hk K139.1
    have CH := CH.trans (CHr.keep K139 all0 CH.1)
    have sz140 : n0 ≤ T139.heap.size := Nat.le_trans Z0 K139.1
    refine own_by (T' := T139) (f' := (mkF m 70 #[.val (.int i0), .val (.int i1), .val (.int i2), .val (.int i3), .val (.int i4), .val (.int i5), .val (.int (5 : Int32)), .val (.int c0), .val (.int c1), .val (.int c2), .val (.int c3), .val (.int c4), .val (.int c5), .val (.ref b139), .unset, .unset, .unset] [])) (fun t k => XS.astore X139.here hx rfl (hb hby at_68) rfl rfl (l' := #[.val (.int i0), .val (.int i1), .val (.int i2), .val (.int i3), .val (.int i4), .val (.int i5), .val (.int (5 : Int32)), .val (.int c0), .val (.int c1), .val (.int c2), .val (.int c3), .val (.int c4), .val (.int c5), .val (.ref b139), .unset, .unset, .unset]) rfl k) ?_
    refine own_new X139 hx hZ hown rfl (hb hby at_70) (own_w hw 13 rfl) (own_w hw 14 rfl) (own_w hw 15 rfl) (by decide) (by decide) ?_
    intro T141 h141 b141 X141 e141 g141 E141 A141 D141
    have ne141_b139 : b139 ≠ b141 := Nat.ne_of_lt (by rw [g141]; exact B139.lt)
    have gn141 : n0 ≤ b141 := by rw [g141]; exact sz140
    show own_Go p e below _ T141 (mkF m 73 #[.val (.int i0), .val (.int i1), .val (.int i2), .val (.int i3), .val (.int i4), .val (.int i5), .val (.int (5 : Int32)), .val (.int c0), .val (.int c1), .val (.int c2), .val (.int c3), .val (.int c4), .val (.int c5), .val (.ref b139), .unset, .unset, .unset] [(.ref b141)])
    have S_b141 := Safe.ext E141 CH.1 (Safe.new (Nat.le_of_eq g141.symm))
    have hk := Nat.le_trans hk E141.1
    have CH := CH.trans (CHr.ext E141 CH.1)
    have F141_value : Fld Z h141 b141 "java/lang/String" "value" "[B" .null := D141 (Or.inr (own_w hw 28 rfl)) (ty := (.array .byte)) (by decide)
    have F141_coder : Fld Z h141 b141 "java/lang/String" "coder" "B" (.int (0 : Int32)) := D141 (Or.inr (own_w hw 29 rfl)) (ty := .byte) (by decide)
    have sz142 : n0 ≤ h141.size := Nat.le_trans sz140 E141.1
    refine own_by (T' := T141) (f' := (mkF m 74 #[.val (.int i0), .val (.int i1), .val (.int i2), .val (.int i3), .val (.int i4), .val (.int i5), .val (.int (5 : Int32)), .val (.int c0), .val (.int c1), .val (.int c2), .val (.int c3), .val (.int c4), .val (.int c5), .val (.ref b139), .unset, .unset, .unset] [(.ref b141), (.ref b141)])) (fun t k => XS.dup X141.here hx rfl (hb hby at_73) rfl rfl k) ?_
    refine own_by (T' := T141) (f' := (mkF m 76 #[.val (.int i0), .val (.int i1), .val (.int i2), .val (.int i3), .val (.int i4), .val (.int i5), .val (.int (5 : Int32)), .val (.int c0), .val (.int c1), .val (.int c2), .val (.int c3), .val (.int c4), .val (.int c5), .val (.ref b139), .unset, .unset, .unset] [(.ref b139), (.ref b141), (.ref b141)])) (fun t k => XS.aload X141.here hx rfl (hb hby at_74) rfl rfl k) ?_
    have q143 : ∀ x ∈ [b141], ∃ c : Cell, h141[x]? = some c ∧ c.vm.isStatics = false := (allS (own_ns A141) all0)
    have f144 := (B139.ext E141)
    have f145 := ((ST.keep K139 all0).ext E141)
    refine own_callN X141 hx hZ hown e141 (hb hby at_76) [(.ref b139)] [(.ref b141)] 1 (rmI1 l Z a0 hw [] b141 b139 (5 : Int32) 5 (fun i => List.getD [c0, c1, c2, c3, c4] i 0) _ _ cs fm h141 n0 sz142 gn141 (by decide) (by decide) (by decide) (fun i hi => by match i, hi with | 0, _ => exact hc0 | 1, _ => exact hc1 | 2, _ => exact hc2 | 3, _ => exact hc3 | 4, _ => exact hc4 | (q + 5), h => exact absurd h (by omega)) f144 ne141_b139 A141 F141_value F141_coder f145) (own_w hw 16 rfl) (own_w hw 17 rfl) (own_w hw 15 rfl) (own_w hw 18 rfl) rfl (by decide) pd___C_V (by rw [hml]; rfl) rfl rfl (Nat.le_of_eq rfl) (by decide) (by decide) (by decide) (by decide) ?_
    rintro T146 _ L146 X146 ⟨rfl, N146q, K146, Q146⟩
    show own_Go p e below _ T146 (mkF m 79 #[.val (.int i0), .val (.int i1), .val (.int i2), .val (.int i3), .val (.int i4), .val (.int i5), .val (.int (5 : Int32)), .val (.int c0), .val (.int c1), .val (.int c2), .val (.int c3), .val (.int c4), .val (.int c5), .val (.ref b139), .unset, .unset, .unset] [(.ref b141)])
    have S_b141' := Safe.keep K146 (allS S_b141 all0) CH.1 S_b141
    have hk := Nat.le_trans hk K146.1
    have CH := CH.trans (CHr.keep K146 (allS S_b141 all0) CH.1)
    have S_b141 := S_b141'
    have N146 := Fr.app N139 N146q
    have sz147 : n0 ≤ T146.heap.size := Nat.le_trans sz142 K146.1
    refine own_by (T' := T146) (f' := (mkF m 81 #[.val (.int i0), .val (.int i1), .val (.int i2), .val (.int i3), .val (.int i4), .val (.int i5), .val (.int (5 : Int32)), .val (.int c0), .val (.int c1), .val (.int c2), .val (.int c3), .val (.int c4), .val (.int c5), .val (.ref b139), .val (.ref b141), .unset, .unset] [])) (fun t k => XS.astore X146.here hx rfl (hb hby at_79) rfl rfl (l' := #[.val (.int i0), .val (.int i1), .val (.int i2), .val (.int i3), .val (.int i4), .val (.int i5), .val (.int (5 : Int32)), .val (.int c0), .val (.int c1), .val (.int c2), .val (.int c3), .val (.int c4), .val (.int c5), .val (.ref b139), .val (.ref b141), .unset, .unset]) rfl k) ?_
    refine own_by (T' := T146) (f' := (mkF m 82 #[.val (.int i0), .val (.int i1), .val (.int i2), .val (.int i3), .val (.int i4), .val (.int i5), .val (.int (5 : Int32)), .val (.int c0), .val (.int c1), .val (.int c2), .val (.int c3), .val (.int c4), .val (.int c5), .val (.ref b139), .val (.ref b141), .unset, .unset] [(.int (0 : Int32))])) (fun t k => XS.iconst X146.here hx rfl (hb hby at_81) k) ?_
    refine own_by (T' := T146) (f' := (mkF m 84 #[.val (.int i0), .val (.int i1), .val (.int i2), .val (.int i3), .val (.int i4), .val (.int i5), .val (.int (5 : Int32)), .val (.int c0), .val (.int c1), .val (.int c2), .val (.int c3), .val (.int c4), .val (.int c5), .val (.ref b139), .val (.ref b141), .val (.int (0 : Int32)), .unset] [])) (fun t k => XS.istore X146.here hx rfl (hb hby at_82) rfl (l' := #[.val (.int i0), .val (.int i1), .val (.int i2), .val (.int i3), .val (.int i4), .val (.int i5), .val (.int (5 : Int32)), .val (.int c0), .val (.int c1), .val (.int c2), .val (.int c3), .val (.int c4), .val (.int c5), .val (.ref b139), .val (.ref b141), .val (.int (0 : Int32)), .unset]) rfl k) ?_
    refine own_by (T' := T146) (f' := (mkF m 86 #[.val (.int i0), .val (.int i1), .val (.int i2), .val (.int i3), .val (.int i4), .val (.int i5), .val (.int (5 : Int32)), .val (.int c0), .val (.int c1), .val (.int c2), .val (.int c3), .val (.int c4), .val (.int c5), .val (.ref b139), .val (.ref b141), .val (.int (0 : Int32)), .unset] [(.int (5 : Int32))])) (fun t k => XS.iload X146.here hx rfl (hb hby at_84) rfl k) ?_
    refine own_by (T' := T146) (f' := (mkF m 89 #[.val (.int i0), .val (.int i1), .val (.int i2), .val (.int i3), .val (.int i4), .val (.int i5), .val (.int (5 : Int32)), .val (.int c0), .val (.int c1), .val (.int c2), .val (.int c3), .val (.int c4), .val (.int c5), .val (.ref b139), .val (.ref b141), .val (.int (0 : Int32)), .unset] [])) (fun t k => XS.ifNo X146.here hx rfl (hb hby at_86) rfl ((if0 _ _).trans (tlt (by decide)).2.2.2) k) ?_
    refine own_by (T' := T146) (f' := (mkF m 91 #[.val (.int i0), .val (.int i1), .val (.int i2), .val (.int i3), .val (.int i4), .val (.int i5), .val (.int (5 : Int32)), .val (.int c0), .val (.int c1), .val (.int c2), .val (.int c3), .val (.int c4), .val (.int c5), .val (.ref b139), .val (.ref b141), .val (.int (0 : Int32)), .unset] [(.int (0 : Int32))])) (fun t k => XS.iload X146.here hx rfl (hb hby at_89) rfl k) ?_
    refine own_by (T' := T146) (f' := (mkF m 93 #[.val (.int i0), .val (.int i1), .val (.int i2), .val (.int i3), .val (.int i4), .val (.int i5), .val (.int (5 : Int32)), .val (.int c0), .val (.int c1), .val (.int c2), .val (.int c3), .val (.int c4), .val (.int c5), .val (.ref b139), .val (.ref b141), .val (.int (0 : Int32)), .unset] [(.int c0), (.int (0 : Int32))])) (fun t k => XS.iload X146.here hx rfl (hb hby at_91) rfl k) ?_
    refine own_callS X146 hx hZ hown rfl (hb hby at_93) [(.int (0 : Int32)), (.int c0)] [] 0 (rmSP l Z a0 hw [] (0 : Int32) c0 0 T146.heap rfl (by decide)) (own_w hw 65 rfl) (own_w hw 66 rfl) (own_w hw 6 rfl) (own_w hw 67 rfl) (by decide) pd__IC_I (by rw [hml]; rfl) rfl rfl (Nat.le_of_eq rfl) (by decide) (by decide) (by decide) (by decide) ?_
    rintro T148 _ L148 X148 ⟨rfl, rfl, e148⟩
    show own_Go p e below _ T148 (mkF m 96 #[.val (.int i0), .val (.int i1), .val (.int i2), .val (.int i3), .val (.int i4), .val (.int i5), .val (.int (5 : Int32)), .val (.int c0), .val (.int c1), .val (.int c2), .val (.int c3), .val (.int c4), .val (.int c5), .val (.ref b139), .val (.ref b141), .val (.int (0 : Int32)), .unset] [(.int (own_i9 (own_st 0 (own_cl c0))))])
    rw [List.append_nil] at X148
    refine own_by (T' := T148) (f' := (mkF m 98 #[.val (.int i0), .val (.int i1), .val (.int i2), .val (.int i3), .val (.int i4), .val (.int i5), .val (.int (5 : Int32)), .val (.int c0), .val (.int c1), .val (.int c2), .val (.int c3), .val (.int c4), .val (.int c5), .val (.ref b139), .val (.ref b141), .val (.int (own_i9 (own_st 0 (own_cl c0)))), .unset] [])) (fun t k => XS.istore X148.here hx rfl (hb hby at_96) rfl (l' := #[.val (.int i0), .val (.int i1), .val (.int i2), .val (.int i3), .val (.int i4), .val (.int i5), .val (.int (5 : Int32)), .val (.int c0), .val (.int c1), .val (.int c2), .val (.int c3), .val (.int c4), .val (.int c5), .val (.ref b139), .val (.ref b141), .val (.int (own_i9 (own_st 0 (own_cl c0)))), .unset]) rfl k) ?_
    refine own_by (T' := T148) (f' := (mkF m 100 #[.val (.int i0), .val (.int i1), .val (.int i2), .val (.int i3), .val (.int i4), .val (.int i5), .val (.int (5 : Int32)), .val (.int c0), .val (.int c1), .val (.int c2), .val (.int c3), .val (.int c4), .val (.int c5), .val (.ref b139), .val (.ref b141), .val (.int (own_i9 (own_st 0 (own_cl c0)))), .unset] [(.int (5 : Int32))])) (fun t k => XS.iload X148.here hx rfl (hb hby at_98) rfl k) ?_
    refine own_by (T' := T148) (f' := (mkF m 101 #[.val (.int i0), .val (.int i1), .val (.int i2), .val (.int i3), .val (.int i4), .val (.int i5), .val (.int (5 : Int32)), .val (.int c0), .val (.int c1), .val (.int c2), .val (.int c3), .val (.int c4), .val (.int c5), .val (.ref b139), .val (.ref b141), .val (.int (own_i9 (own_st 0 (own_cl c0)))), .unset] [(.int (1 : Int32)), (.int (5 : Int32))])) (fun t k => XS.iconst X148.here hx rfl (hb hby at_100) k) ?_
    refine own_by (T' := T148) (f' := (mkF m 104 #[.val (.int i0), .val (.int i1), .val (.int i2), .val (.int i3), .val (.int i4), .val (.int i5), .val (.int (5 : Int32)), .val (.int c0), .val (.int c1), .val (.int c2), .val (.int c3), .val (.int c4), .val (.int c5), .val (.ref b139), .val (.ref b141), .val (.int (own_i9 (own_st 0 (own_cl c0)))), .unset] [])) (fun t k => XS.icmpNo X148.here hx rfl (hb hby at_101) rfl (tlt (by decide)).2.2.2 k) ?_
    refine own_by (T' := T148) (f' := (mkF m 106 #[.val (.int i0), .val (.int i1), .val (.int i2), .val (.int i3), .val (.int i4), .val (.int i5), .val (.int (5 : Int32)), .val (.int c0), .val (.int c1), .val (.int c2), .val (.int c3), .val (.int c4), .val (.int c5), .val (.ref b139), .val (.ref b141), .val (.int (own_i9 (own_st 0 (own_cl c0)))), .unset] [(.int (own_i9 (own_st 0 (own_cl c0))))])) (fun t k => XS.iload X148.here hx rfl (hb hby at_104) rfl k) ?_
    refine own_by (T' := T148) (f' := (mkF m 108 #[.val (.int i0), .val (.int i1), .val (.int i2), .val (.int i3), .val (.int i4), .val (.int i5), .val (.int (5 : Int32)), .val (.int c0), .val (.int c1), .val (.int c2), .val (.int c3), .val (.int c4), .val (.int c5), .val (.ref b139), .val (.ref b141), .val (.int (own_i9 (own_st 0 (own_cl c0)))), .unset] [(.int c1), (.int (own_i9 (own_st 0 (own_cl c0))))])) (fun t k => XS.iload X148.here hx rfl (hb hby at_106) rfl k) ?_
    refine own_callS X148 hx hZ hown e148 (hb hby at_108) [(.int (own_i9 (own_st 0 (own_cl c0)))), (.int c1)] [] 0 (rmSP l Z a0 hw [] (own_i9 (own_st 0 (own_cl c0))) c1 (own_st 0 (own_cl c0)) T146.heap rfl (own_st9 _ _)) (own_w hw 65 rfl) (own_w hw 66 rfl) (own_w hw 6 rfl) (own_w hw 67 rfl) (by decide) pd__IC_I (by rw [hml]; rfl) rfl rfl (Nat.le_of_eq rfl) (by decide) (by decide) (by decide) (by decide) ?_
    rintro T149 _ L149 X149 ⟨rfl, rfl, e149⟩
    show own_Go p e below _ T149 (mkF m 111 #[.val (.int i0), .val (.int i1), .val (.int i2), .val (.int i3), .val (.int i4), .val (.int i5), .val (.int (5 : Int32)), .val (.int c0), .val (.int c1), .val (.int c2), .val (.int c3), .val (.int c4), .val (.int c5), .val (.ref b139), .val (.ref b141), .val (.int (own_i9 (own_st 0 (own_cl c0)))), .unset] [(.int (own_i9 (own_st (own_st 0 (own_cl c0)) (own_cl c1))))])
    rw [List.append_nil] at X149
    refine own_by (T' := T149) (f' := (mkF m 113 #[.val (.int i0), .val (.int i1), .val (.int i2), .val (.int i3), .val (.int i4), .val (.int i5), .val (.int (5 : Int32)), .val (.int c0), .val (.int c1), .val (.int c2), .val (.int c3), .val (.int c4), .val (.int c5), .val (.ref b139), .val (.ref b141), .val (.int (own_i9 (own_st (own_st 0 (own_cl c0)) (own_cl c1)))), .unset] [])) (fun t k => XS.istore X149.here hx rfl (hb hby at_111) rfl (l' := #[.val (.int i0), .val (.int i1), .val (.int i2), .val (.int i3), .val (.int i4), .val (.int i5), .val (.int (5 : Int32)), .val (.int c0), .val (.int c1), .val (.int c2), .val (.int c3), .val (.int c4), .val (.int c5), .val (.ref b139), .val (.ref b141), .val (.int (own_i9 (own_st (own_st 0 (own_cl c0)) (own_cl c1)))), .unset]) rfl k) ?_
    refine own_by (T' := T149) (f' := (mkF m 115 #[.val (.int i0), .val (.int i1), .val (.int i2), .val (.int i3), .val (.int i4), .val (.int i5), .val (.int (5 : Int32)), .val (.int c0), .val (.int c1), .val (.int c2), .val (.int c3), .val (.int c4), .val (.int c5), .val (.ref b139), .val (.ref b141), .val (.int (own_i9 (own_st (own_st 0 (own_cl c0)) (own_cl c1)))), .unset] [(.int (5 : Int32))])) (fun t k => XS.iload X149.here hx rfl (hb hby at_113) rfl k) ?_
    refine own_by (T' := T149) (f' := (mkF m 116 #[.val (.int i0), .val (.int i1), .val (.int i2), .val (.int i3), .val (.int i4), .val (.int i5), .val (.int (5 : Int32)), .val (.int c0), .val (.int c1), .val (.int c2), .val (.int c3), .val (.int c4), .val (.int c5), .val (.ref b139), .val (.ref b141), .val (.int (own_i9 (own_st (own_st 0 (own_cl c0)) (own_cl c1)))), .unset] [(.int (2 : Int32)), (.int (5 : Int32))])) (fun t k => XS.iconst X149.here hx rfl (hb hby at_115) k) ?_
    refine own_by (T' := T149) (f' := (mkF m 119 #[.val (.int i0), .val (.int i1), .val (.int i2), .val (.int i3), .val (.int i4), .val (.int i5), .val (.int (5 : Int32)), .val (.int c0), .val (.int c1), .val (.int c2), .val (.int c3), .val (.int c4), .val (.int c5), .val (.ref b139), .val (.ref b141), .val (.int (own_i9 (own_st (own_st 0 (own_cl c0)) (own_cl c1)))), .unset] [])) (fun t k => XS.icmpNo X149.here hx rfl (hb hby at_116) rfl (tlt (by decide)).2.2.2 k) ?_
    refine own_by (T' := T149) (f' := (mkF m 121 #[.val (.int i0), .val (.int i1), .val (.int i2), .val (.int i3), .val (.int i4), .val (.int i5), .val (.int (5 : Int32)), .val (.int c0), .val (.int c1), .val (.int c2), .val (.int c3), .val (.int c4), .val (.int c5), .val (.ref b139), .val (.ref b141), .val (.int (own_i9 (own_st (own_st 0 (own_cl c0)) (own_cl c1)))), .unset] [(.int (own_i9 (own_st (own_st 0 (own_cl c0)) (own_cl c1))))])) (fun t k => XS.iload X149.here hx rfl (hb hby at_119) rfl k) ?_
    refine own_by (T' := T149) (f' := (mkF m 123 #[.val (.int i0), .val (.int i1), .val (.int i2), .val (.int i3), .val (.int i4), .val (.int i5), .val (.int (5 : Int32)), .val (.int c0), .val (.int c1), .val (.int c2), .val (.int c3), .val (.int c4), .val (.int c5), .val (.ref b139), .val (.ref b141), .val (.int (own_i9 (own_st (own_st 0 (own_cl c0)) (own_cl c1)))), .unset] [(.int c2), (.int (own_i9 (own_st (own_st 0 (own_cl c0)) (own_cl c1))))])) (fun t k => XS.iload X149.here hx rfl (hb hby at_121) rfl k) ?_
    refine own_callS X149 hx hZ hown e149 (hb hby at_123) [(.int (own_i9 (own_st (own_st 0 (own_cl c0)) (own_cl c1)))), (.int c2)] [] 0 (rmSP l Z a0 hw [] (own_i9 (own_st (own_st 0 (own_cl c0)) (own_cl c1))) c2 (own_st (own_st 0 (own_cl c0)) (own_cl c1)) T146.heap rfl (own_st9 _ _)) (own_w hw 65 rfl) (own_w hw 66 rfl) (own_w hw 6 rfl) (own_w hw 67 rfl) (by decide) pd__IC_I (by rw [hml]; rfl) rfl rfl (Nat.le_of_eq rfl) (by decide) (by decide) (by decide) (by decide) ?_
    rintro T150 _ L150 X150 ⟨rfl, rfl, e150⟩
    show own_Go p e below _ T150 (mkF m 126 #[.val (.int i0), .val (.int i1), .val (.int i2), .val (.int i3), .val (.int i4), .val (.int i5), .val (.int (5 : Int32)), .val (.int c0), .val (.int c1), .val (.int c2), .val (.int c3), .val (.int c4), .val (.int c5), .val (.ref b139), .val (.ref b141), .val (.int (own_i9 (own_st (own_st 0 (own_cl c0)) (own_cl c1)))), .unset] [(.int (own_i9 (own_st (own_st (own_st 0 (own_cl c0)) (own_cl c1)) (own_cl c2))))])
    rw [List.append_nil] at X150
    refine own_by (T' := T150) (f' := (mkF m 128 #[.val (.int i0), .val (.int i1), .val (.int i2), .val (.int i3), .val (.int i4), .val (.int i5), .val (.int (5 : Int32)), .val (.int c0), .val (.int c1), .val (.int c2), .val (.int c3), .val (.int c4), .val (.int c5), .val (.ref b139), .val (.ref b141), .val (.int (own_i9 (own_st (own_st (own_st 0 (own_cl c0)) (own_cl c1)) (own_cl c2)))), .unset] [])) (fun t k => XS.istore X150.here hx rfl (hb hby at_126) rfl (l' := #[.val (.int i0), .val (.int i1), .val (.int i2), .val (.int i3), .val (.int i4), .val (.int i5), .val (.int (5 : Int32)), .val (.int c0), .val (.int c1), .val (.int c2), .val (.int c3), .val (.int c4), .val (.int c5), .val (.ref b139), .val (.ref b141), .val (.int (own_i9 (own_st (own_st (own_st 0 (own_cl c0)) (own_cl c1)) (own_cl c2)))), .unset]) rfl k) ?_
    refine own_by (T' := T150) (f' := (mkF m 130 #[.val (.int i0), .val (.int i1), .val (.int i2), .val (.int i3), .val (.int i4), .val (.int i5), .val (.int (5 : Int32)), .val (.int c0), .val (.int c1), .val (.int c2), .val (.int c3), .val (.int c4), .val (.int c5), .val (.ref b139), .val (.ref b141), .val (.int (own_i9 (own_st (own_st (own_st 0 (own_cl c0)) (own_cl c1)) (own_cl c2)))), .unset] [(.int (5 : Int32))])) (fun t k => XS.iload X150.here hx rfl (hb hby at_128) rfl k) ?_
    refine own_by (T' := T150) (f' := (mkF m 131 #[.val (.int i0), .val (.int i1), .val (.int i2), .val (.int i3), .val (.int i4), .val (.int i5), .val (.int (5 : Int32)), .val (.int c0), .val (.int c1), .val (.int c2), .val (.int c3), .val (.int c4), .val (.int c5), .val (.ref b139), .val (.ref b141), .val (.int (own_i9 (own_st (own_st (own_st 0 (own_cl c0)) (own_cl c1)) (own_cl c2)))), .unset] [(.int (3 : Int32)), (.int (5 : Int32))])) (fun t k => XS.iconst X150.here hx rfl (hb hby at_130) k) ?_
    refine own_by (T' := T150) (f' := (mkF m 134 #[.val (.int i0), .val (.int i1), .val (.int i2), .val (.int i3), .val (.int i4), .val (.int i5), .val (.int (5 : Int32)), .val (.int c0), .val (.int c1), .val (.int c2), .val (.int c3), .val (.int c4), .val (.int c5), .val (.ref b139), .val (.ref b141), .val (.int (own_i9 (own_st (own_st (own_st 0 (own_cl c0)) (own_cl c1)) (own_cl c2)))), .unset] [])) (fun t k => XS.icmpNo X150.here hx rfl (hb hby at_131) rfl (tlt (by decide)).2.2.2 k) ?_
    refine own_by (T' := T150) (f' := (mkF m 136 #[.val (.int i0), .val (.int i1), .val (.int i2), .val (.int i3), .val (.int i4), .val (.int i5), .val (.int (5 : Int32)), .val (.int c0), .val (.int c1), .val (.int c2), .val (.int c3), .val (.int c4), .val (.int c5), .val (.ref b139), .val (.ref b141), .val (.int (own_i9 (own_st (own_st (own_st 0 (own_cl c0)) (own_cl c1)) (own_cl c2)))), .unset] [(.int (own_i9 (own_st (own_st (own_st 0 (own_cl c0)) (own_cl c1)) (own_cl c2))))])) (fun t k => XS.iload X150.here hx rfl (hb hby at_134) rfl k) ?_
    refine own_by (T' := T150) (f' := (mkF m 138 #[.val (.int i0), .val (.int i1), .val (.int i2), .val (.int i3), .val (.int i4), .val (.int i5), .val (.int (5 : Int32)), .val (.int c0), .val (.int c1), .val (.int c2), .val (.int c3), .val (.int c4), .val (.int c5), .val (.ref b139), .val (.ref b141), .val (.int (own_i9 (own_st (own_st (own_st 0 (own_cl c0)) (own_cl c1)) (own_cl c2)))), .unset] [(.int c3), (.int (own_i9 (own_st (own_st (own_st 0 (own_cl c0)) (own_cl c1)) (own_cl c2))))])) (fun t k => XS.iload X150.here hx rfl (hb hby at_136) rfl k) ?_
    refine own_callS X150 hx hZ hown e150 (hb hby at_138) [(.int (own_i9 (own_st (own_st (own_st 0 (own_cl c0)) (own_cl c1)) (own_cl c2)))), (.int c3)] [] 0 (rmSP l Z a0 hw [] (own_i9 (own_st (own_st (own_st 0 (own_cl c0)) (own_cl c1)) (own_cl c2))) c3 (own_st (own_st (own_st 0 (own_cl c0)) (own_cl c1)) (own_cl c2)) T146.heap rfl (own_st9 _ _)) (own_w hw 65 rfl) (own_w hw 66 rfl) (own_w hw 6 rfl) (own_w hw 67 rfl) (by decide) pd__IC_I (by rw [hml]; rfl) rfl rfl (Nat.le_of_eq rfl) (by decide) (by decide) (by decide) (by decide) ?_
    rintro T151 _ L151 X151 ⟨rfl, rfl, e151⟩
    show own_Go p e below _ T151 (mkF m 141 #[.val (.int i0), .val (.int i1), .val (.int i2), .val (.int i3), .val (.int i4), .val (.int i5), .val (.int (5 : Int32)), .val (.int c0), .val (.int c1), .val (.int c2), .val (.int c3), .val (.int c4), .val (.int c5), .val (.ref b139), .val (.ref b141), .val (.int (own_i9 (own_st (own_st (own_st 0 (own_cl c0)) (own_cl c1)) (own_cl c2)))), .unset] [(.int (own_i9 (own_st (own_st (own_st (own_st 0 (own_cl c0)) (own_cl c1)) (own_cl c2)) (own_cl c3))))])
    rw [List.append_nil] at X151
    refine own_by (T' := T151) (f' := (mkF m 143 #[.val (.int i0), .val (.int i1), .val (.int i2), .val (.int i3), .val (.int i4), .val (.int i5), .val (.int (5 : Int32)), .val (.int c0), .val (.int c1), .val (.int c2), .val (.int c3), .val (.int c4), .val (.int c5), .val (.ref b139), .val (.ref b141), .val (.int (own_i9 (own_st (own_st (own_st (own_st 0 (own_cl c0)) (own_cl c1)) (own_cl c2)) (own_cl c3)))), .unset] [])) (fun t k => XS.istore X151.here hx rfl (hb hby at_141) rfl (l' := #[.val (.int i0), .val (.int i1), .val (.int i2), .val (.int i3), .val (.int i4), .val (.int i5), .val (.int (5 : Int32)), .val (.int c0), .val (.int c1), .val (.int c2), .val (.int c3), .val (.int c4), .val (.int c5), .val (.ref b139), .val (.ref b141), .val (.int (own_i9 (own_st (own_st (own_st (own_st 0 (own_cl c0)) (own_cl c1)) (own_cl c2)) (own_cl c3)))), .unset]) rfl k) ?_
    refine own_by (T' := T151) (f' := (mkF m 145 #[.val (.int i0), .val (.int i1), .val (.int i2), .val (.int i3), .val (.int i4), .val (.int i5), .val (.int (5 : Int32)), .val (.int c0), .val (.int c1), .val (.int c2), .val (.int c3), .val (.int c4), .val (.int c5), .val (.ref b139), .val (.ref b141), .val (.int (own_i9 (own_st (own_st (own_st (own_st 0 (own_cl c0)) (own_cl c1)) (own_cl c2)) (own_cl c3)))), .unset] [(.int (5 : Int32))])) (fun t k => XS.iload X151.here hx rfl (hb hby at_143) rfl k) ?_
    refine own_by (T' := T151) (f' := (mkF m 146 #[.val (.int i0), .val (.int i1), .val (.int i2), .val (.int i3), .val (.int i4), .val (.int i5), .val (.int (5 : Int32)), .val (.int c0), .val (.int c1), .val (.int c2), .val (.int c3), .val (.int c4), .val (.int c5), .val (.ref b139), .val (.ref b141), .val (.int (own_i9 (own_st (own_st (own_st (own_st 0 (own_cl c0)) (own_cl c1)) (own_cl c2)) (own_cl c3)))), .unset] [(.int (4 : Int32)), (.int (5 : Int32))])) (fun t k => XS.iconst X151.here hx rfl (hb hby at_145) k) ?_
    refine own_by (T' := T151) (f' := (mkF m 149 #[.val (.int i0), .val (.int i1), .val (.int i2), .val (.int i3), .val (.int i4), .val (.int i5), .val (.int (5 : Int32)), .val (.int c0), .val (.int c1), .val (.int c2), .val (.int c3), .val (.int c4), .val (.int c5), .val (.ref b139), .val (.ref b141), .val (.int (own_i9 (own_st (own_st (own_st (own_st 0 (own_cl c0)) (own_cl c1)) (own_cl c2)) (own_cl c3)))), .unset] [])) (fun t k => XS.icmpNo X151.here hx rfl (hb hby at_146) rfl (tlt (by decide)).2.2.2 k) ?_
    refine own_by (T' := T151) (f' := (mkF m 151 #[.val (.int i0), .val (.int i1), .val (.int i2), .val (.int i3), .val (.int i4), .val (.int i5), .val (.int (5 : Int32)), .val (.int c0), .val (.int c1), .val (.int c2), .val (.int c3), .val (.int c4), .val (.int c5), .val (.ref b139), .val (.ref b141), .val (.int (own_i9 (own_st (own_st (own_st (own_st 0 (own_cl c0)) (own_cl c1)) (own_cl c2)) (own_cl c3)))), .unset] [(.int (own_i9 (own_st (own_st (own_st (own_st 0 (own_cl c0)) (own_cl c1)) (own_cl c2)) (own_cl c3))))])) (fun t k => XS.iload X151.here hx rfl (hb hby at_149) rfl k) ?_
    refine own_by (T' := T151) (f' := (mkF m 153 #[.val (.int i0), .val (.int i1), .val (.int i2), .val (.int i3), .val (.int i4), .val (.int i5), .val (.int (5 : Int32)), .val (.int c0), .val (.int c1), .val (.int c2), .val (.int c3), .val (.int c4), .val (.int c5), .val (.ref b139), .val (.ref b141), .val (.int (own_i9 (own_st (own_st (own_st (own_st 0 (own_cl c0)) (own_cl c1)) (own_cl c2)) (own_cl c3)))), .unset] [(.int c4), (.int (own_i9 (own_st (own_st (own_st (own_st 0 (own_cl c0)) (own_cl c1)) (own_cl c2)) (own_cl c3))))])) (fun t k => XS.iload X151.here hx rfl (hb hby at_151) rfl k) ?_
    refine own_callS X151 hx hZ hown e151 (hb hby at_153) [(.int (own_i9 (own_st (own_st (own_st (own_st 0 (own_cl c0)) (own_cl c1)) (own_cl c2)) (own_cl c3)))), (.int c4)] [] 0 (rmSP l Z a0 hw [] (own_i9 (own_st (own_st (own_st (own_st 0 (own_cl c0)) (own_cl c1)) (own_cl c2)) (own_cl c3))) c4 (own_st (own_st (own_st (own_st 0 (own_cl c0)) (own_cl c1)) (own_cl c2)) (own_cl c3)) T146.heap rfl (own_st9 _ _)) (own_w hw 65 rfl) (own_w hw 66 rfl) (own_w hw 6 rfl) (own_w hw 67 rfl) (by decide) pd__IC_I (by rw [hml]; rfl) rfl rfl (Nat.le_of_eq rfl) (by decide) (by decide) (by decide) (by decide) ?_
    rintro T152 _ L152 X152 ⟨rfl, rfl, e152⟩
    show own_Go p e below _ T152 (mkF m 156 #[.val (.int i0), .val (.int i1), .val (.int i2), .val (.int i3), .val (.int i4), .val (.int i5), .val (.int (5 : Int32)), .val (.int c0), .val (.int c1), .val (.int c2), .val (.int c3), .val (.int c4), .val (.int c5), .val (.ref b139), .val (.ref b141), .val (.int (own_i9 (own_st (own_st (own_st (own_st 0 (own_cl c0)) (own_cl c1)) (own_cl c2)) (own_cl c3)))), .unset] [(.int (own_i9 (own_st (own_st (own_st (own_st (own_st 0 (own_cl c0)) (own_cl c1)) (own_cl c2)) (own_cl c3)) (own_cl c4))))])
    rw [List.append_nil] at X152
    refine own_by (T' := T152) (f' := (mkF m 158 #[.val (.int i0), .val (.int i1), .val (.int i2), .val (.int i3), .val (.int i4), .val (.int i5), .val (.int (5 : Int32)), .val (.int c0), .val (.int c1), .val (.int c2), .val (.int c3), .val (.int c4), .val (.int c5), .val (.ref b139), .val (.ref b141), .val (.int (own_i9 (own_st (own_st (own_st (own_st (own_st 0 (own_cl c0)) (own_cl c1)) (own_cl c2)) (own_cl c3)) (own_cl c4)))), .unset] [])) (fun t k => XS.istore X152.here hx rfl (hb hby at_156) rfl (l' := #[.val (.int i0), .val (.int i1), .val (.int i2), .val (.int i3), .val (.int i4), .val (.int i5), .val (.int (5 : Int32)), .val (.int c0), .val (.int c1), .val (.int c2), .val (.int c3), .val (.int c4), .val (.int c5), .val (.ref b139), .val (.ref b141), .val (.int (own_i9 (own_st (own_st (own_st (own_st (own_st 0 (own_cl c0)) (own_cl c1)) (own_cl c2)) (own_cl c3)) (own_cl c4)))), .unset]) rfl k) ?_
    refine own_by (T' := T152) (f' := (mkF m 160 #[.val (.int i0), .val (.int i1), .val (.int i2), .val (.int i3), .val (.int i4), .val (.int i5), .val (.int (5 : Int32)), .val (.int c0), .val (.int c1), .val (.int c2), .val (.int c3), .val (.int c4), .val (.int c5), .val (.ref b139), .val (.ref b141), .val (.int (own_i9 (own_st (own_st (own_st (own_st (own_st 0 (own_cl c0)) (own_cl c1)) (own_cl c2)) (own_cl c3)) (own_cl c4)))), .unset] [(.int (5 : Int32))])) (fun t k => XS.iload X152.here hx rfl (hb hby at_158) rfl k) ?_
    refine own_by (T' := T152) (f' := (mkF m 161 #[.val (.int i0), .val (.int i1), .val (.int i2), .val (.int i3), .val (.int i4), .val (.int i5), .val (.int (5 : Int32)), .val (.int c0), .val (.int c1), .val (.int c2), .val (.int c3), .val (.int c4), .val (.int c5), .val (.ref b139), .val (.ref b141), .val (.int (own_i9 (own_st (own_st (own_st (own_st (own_st 0 (own_cl c0)) (own_cl c1)) (own_cl c2)) (own_cl c3)) (own_cl c4)))), .unset] [(.int (5 : Int32)), (.int (5 : Int32))])) (fun t k => XS.iconst X152.here hx rfl (hb hby at_160) k) ?_
    refine own_by (T' := T152) (f' := (mkF m 173 #[.val (.int i0), .val (.int i1), .val (.int i2), .val (.int i3), .val (.int i4), .val (.int i5), .val (.int (5 : Int32)), .val (.int c0), .val (.int c1), .val (.int c2), .val (.int c3), .val (.int c4), .val (.int c5), .val (.ref b139), .val (.ref b141), .val (.int (own_i9 (own_st (own_st (own_st (own_st (own_st 0 (own_cl c0)) (own_cl c1)) (own_cl c2)) (own_cl c3)) (own_cl c4)))), .unset] [])) (fun t k => XS.icmpYes X152.here hx rfl (pc0 := 161) (pc' := 173) rfl (hb hby at_161) rfl (flt (by decide)).2.2.2 (by decide) (by decide) k) ?_
    refine own_by (T' := T152) (f' := (mkF m 175 #[.val (.int i0), .val (.int i1), .val (.int i2), .val (.int i3), .val (.int i4), .val (.int i5), .val (.int (5 : Int32)), .val (.int c0), .val (.int c1), .val (.int c2), .val (.int c3), .val (.int c4), .val (.int c5), .val (.ref b139), .val (.ref b141), .val (.int (own_i9 (own_st (own_st (own_st (own_st (own_st 0 (own_cl c0)) (own_cl c1)) (own_cl c2)) (own_cl c3)) (own_cl c4)))), .unset] [(.int (own_i9 (own_st (own_st (own_st (own_st (own_st 0 (own_cl c0)) (own_cl c1)) (own_cl c2)) (own_cl c3)) (own_cl c4))))])) (fun t k => XS.iload X152.here hx rfl (hb hby at_173) rfl k) ?_
    refine own_by (T' := T152) (f' := (mkF m 176 #[.val (.int i0), .val (.int i1), .val (.int i2), .val (.int i3), .val (.int i4), .val (.int i5), .val (.int (5 : Int32)), .val (.int c0), .val (.int c1), .val (.int c2), .val (.int c3), .val (.int c4), .val (.int c5), .val (.ref b139), .val (.ref b141), .val (.int (own_i9 (own_st (own_st (own_st (own_st (own_st 0 (own_cl c0)) (own_cl c1)) (own_cl c2)) (own_cl c3)) (own_cl c4)))), .unset] [(.int (2 : Int32)), (.int (own_i9 (own_st (own_st (own_st (own_st (own_st 0 (own_cl c0)) (own_cl c1)) (own_cl c2)) (own_cl c3)) (own_cl c4))))])) (fun t k => XS.iconst X152.here hx rfl (hb hby at_175) k) ?_
    have mg156 : ∀ t, Steps p.tables e below (T152.setTop (mkF m 197 #[.val (.int i0), .val (.int i1), .val (.int i2), .val (.int i3), .val (.int i4), .val (.int i5), .val (.int (5 : Int32)), .val (.int c0), .val (.int c1), .val (.int c2), .val (.int c3), .val (.int c4), .val (.int c5), .val (.ref b139), .val (.ref b141), .val (.int (own_i9 (own_st (own_st (own_st (own_st (own_st 0 (own_cl c0)) (own_cl c1)) (own_cl c2)) (own_cl c3)) (own_cl c4)))), .unset] [(.int (if (own_i9 (own_st (own_st (own_st (own_st (own_st 0 (own_cl c0)) (own_cl c1)) (own_cl c2)) (own_cl c3)) (own_cl c4))) = (2 : Int32) then (1 : Int32) else (if (own_i9 (own_st (own_st (own_st (own_st (own_st 0 (own_cl c0)) (own_cl c1)) (own_cl c2)) (own_cl c3)) (own_cl c4))) = (4 : Int32) then (1 : Int32) else (if (own_i9 (own_st (own_st (own_st (own_st (own_st 0 (own_cl c0)) (own_cl c1)) (own_cl c2)) (own_cl c3)) (own_cl c4))) = (7 : Int32) then (1 : Int32) else (0 : Int32)))))])) t → Steps p.tables e below (T152.setTop (mkF m 176 #[.val (.int i0), .val (.int i1), .val (.int i2), .val (.int i3), .val (.int i4), .val (.int i5), .val (.int (5 : Int32)), .val (.int c0), .val (.int c1), .val (.int c2), .val (.int c3), .val (.int c4), .val (.int c5), .val (.ref b139), .val (.ref b141), .val (.int (own_i9 (own_st (own_st (own_st (own_st (own_st 0 (own_cl c0)) (own_cl c1)) (own_cl c2)) (own_cl c3)) (own_cl c4)))), .unset] [(.int (2 : Int32)), (.int (own_i9 (own_st (own_st (own_st (own_st (own_st 0 (own_cl c0)) (own_cl c1)) (own_cl c2)) (own_cl c3)) (own_cl c4))))])) t := by
      intro t k0
      by_cases hm153 : (own_i9 (own_st (own_st (own_st (own_st (own_st 0 (own_cl c0)) (own_cl c1)) (own_cl c2)) (own_cl c3)) (own_cl c4))) = (2 : Int32)
      · skip
        refine XS.icmpYes X152.here hx rfl (pc0 := 176) (pc' := 192) rfl (hb hby at_176) rfl (teq hm153).1 (by decide) (by decide) ?_
        show Steps p.tables e below (T152.setTop (mkF m 192 #[.val (.int i0), .val (.int i1), .val (.int i2), .val (.int i3), .val (.int i4), .val (.int i5), .val (.int (5 : Int32)), .val (.int c0), .val (.int c1), .val (.int c2), .val (.int c3), .val (.int c4), .val (.int c5), .val (.ref b139), .val (.ref b141), .val (.int (own_i9 (own_st (own_st (own_st (own_st (own_st 0 (own_cl c0)) (own_cl c1)) (own_cl c2)) (own_cl c3)) (own_cl c4)))), .unset] [])) _
        refine XS.iconst X152.here hx rfl (hb hby at_192) ?_
        show Steps p.tables e below (T152.setTop (mkF m 193 #[.val (.int i0), .val (.int i1), .val (.int i2), .val (.int i3), .val (.int i4), .val (.int i5), .val (.int (5 : Int32)), .val (.int c0), .val (.int c1), .val (.int c2), .val (.int c3), .val (.int c4), .val (.int c5), .val (.ref b139), .val (.ref b141), .val (.int (own_i9 (own_st (own_st (own_st (own_st (own_st 0 (own_cl c0)) (own_cl c1)) (own_cl c2)) (own_cl c3)) (own_cl c4)))), .unset] [(.int (1 : Int32))])) _
        refine XS.goto X152.here hx rfl (pc0 := 193) (pc' := 197) rfl (hb hby at_193) (by decide) (by decide) ?_
        show Steps p.tables e below (T152.setTop (mkF m 197 #[.val (.int i0), .val (.int i1), .val (.int i2), .val (.int i3), .val (.int i4), .val (.int i5), .val (.int (5 : Int32)), .val (.int c0), .val (.int c1), .val (.int c2), .val (.int c3), .val (.int c4), .val (.int c5), .val (.ref b139), .val (.ref b141), .val (.int (own_i9 (own_st (own_st (own_st (own_st (own_st 0 (own_cl c0)) (own_cl c1)) (own_cl c2)) (own_cl c3)) (own_cl c4)))), .unset] [(.int (1 : Int32))])) _
        try simp only [if_pos hm153] at k0
        exact k0
      · skip
        refine XS.icmpNo X152.here hx rfl (hb hby at_176) rfl (feq hm153).1 ?_
        show Steps p.tables e below (T152.setTop (mkF m 179 #[.val (.int i0), .val (.int i1), .val (.int i2), .val (.int i3), .val (.int i4), .val (.int i5), .val (.int (5 : Int32)), .val (.int c0), .val (.int c1), .val (.int c2), .val (.int c3), .val (.int c4), .val (.int c5), .val (.ref b139), .val (.ref b141), .val (.int (own_i9 (own_st (own_st (own_st (own_st (own_st 0 (own_cl c0)) (own_cl c1)) (own_cl c2)) (own_cl c3)) (own_cl c4)))), .unset] [])) _
        refine XS.iload X152.here hx rfl (hb hby at_179) rfl ?_
        show Steps p.tables e below (T152.setTop (mkF m 181 #[.val (.int i0), .val (.int i1), .val (.int i2), .val (.int i3), .val (.int i4), .val (.int i5), .val (.int (5 : Int32)), .val (.int c0), .val (.int c1), .val (.int c2), .val (.int c3), .val (.int c4), .val (.int c5), .val (.ref b139), .val (.ref b141), .val (.int (own_i9 (own_st (own_st (own_st (own_st (own_st 0 (own_cl c0)) (own_cl c1)) (own_cl c2)) (own_cl c3)) (own_cl c4)))), .unset] [(.int (own_i9 (own_st (own_st (own_st (own_st (own_st 0 (own_cl c0)) (own_cl c1)) (own_cl c2)) (own_cl c3)) (own_cl c4))))])) _
        refine XS.iconst X152.here hx rfl (hb hby at_181) ?_
        show Steps p.tables e below (T152.setTop (mkF m 182 #[.val (.int i0), .val (.int i1), .val (.int i2), .val (.int i3), .val (.int i4), .val (.int i5), .val (.int (5 : Int32)), .val (.int c0), .val (.int c1), .val (.int c2), .val (.int c3), .val (.int c4), .val (.int c5), .val (.ref b139), .val (.ref b141), .val (.int (own_i9 (own_st (own_st (own_st (own_st (own_st 0 (own_cl c0)) (own_cl c1)) (own_cl c2)) (own_cl c3)) (own_cl c4)))), .unset] [(.int (4 : Int32)), (.int (own_i9 (own_st (own_st (own_st (own_st (own_st 0 (own_cl c0)) (own_cl c1)) (own_cl c2)) (own_cl c3)) (own_cl c4))))])) _
        by_cases hm154 : (own_i9 (own_st (own_st (own_st (own_st (own_st 0 (own_cl c0)) (own_cl c1)) (own_cl c2)) (own_cl c3)) (own_cl c4))) = (4 : Int32)
        · skip
          refine XS.icmpYes X152.here hx rfl (pc0 := 182) (pc' := 192) rfl (hb hby at_182) rfl (teq hm154).1 (by decide) (by decide) ?_
          show Steps p.tables e below (T152.setTop (mkF m 192 #[.val (.int i0), .val (.int i1), .val (.int i2), .val (.int i3), .val (.int i4), .val (.int i5), .val (.int (5 : Int32)), .val (.int c0), .val (.int c1), .val (.int c2), .val (.int c3), .val (.int c4), .val (.int c5), .val (.ref b139), .val (.ref b141), .val (.int (own_i9 (own_st (own_st (own_st (own_st (own_st 0 (own_cl c0)) (own_cl c1)) (own_cl c2)) (own_cl c3)) (own_cl c4)))), .unset] [])) _
          refine XS.iconst X152.here hx rfl (hb hby at_192) ?_
          show Steps p.tables e below (T152.setTop (mkF m 193 #[.val (.int i0), .val (.int i1), .val (.int i2), .val (.int i3), .val (.int i4), .val (.int i5), .val (.int (5 : Int32)), .val (.int c0), .val (.int c1), .val (.int c2), .val (.int c3), .val (.int c4), .val (.int c5), .val (.ref b139), .val (.ref b141), .val (.int (own_i9 (own_st (own_st (own_st (own_st (own_st 0 (own_cl c0)) (own_cl c1)) (own_cl c2)) (own_cl c3)) (own_cl c4)))), .unset] [(.int (1 : Int32))])) _
          refine XS.goto X152.here hx rfl (pc0 := 193) (pc' := 197) rfl (hb hby at_193) (by decide) (by decide) ?_
          show Steps p.tables e below (T152.setTop (mkF m 197 #[.val (.int i0), .val (.int i1), .val (.int i2), .val (.int i3), .val (.int i4), .val (.int i5), .val (.int (5 : Int32)), .val (.int c0), .val (.int c1), .val (.int c2), .val (.int c3), .val (.int c4), .val (.int c5), .val (.ref b139), .val (.ref b141), .val (.int (own_i9 (own_st (own_st (own_st (own_st (own_st 0 (own_cl c0)) (own_cl c1)) (own_cl c2)) (own_cl c3)) (own_cl c4)))), .unset] [(.int (1 : Int32))])) _
          try simp only [if_neg hm153, if_pos hm154] at k0
          exact k0
        · skip
          refine XS.icmpNo X152.here hx rfl (hb hby at_182) rfl (feq hm154).1 ?_
          show Steps p.tables e below (T152.setTop (mkF m 185 #[.val (.int i0), .val (.int i1), .val (.int i2), .val (.int i3), .val (.int i4), .val (.int i5), .val (.int (5 : Int32)), .val (.int c0), .val (.int c1), .val (.int c2), .val (.int c3), .val (.int c4), .val (.int c5), .val (.ref b139), .val (.ref b141), .val (.int (own_i9 (own_st (own_st (own_st (own_st (own_st 0 (own_cl c0)) (own_cl c1)) (own_cl c2)) (own_cl c3)) (own_cl c4)))), .unset] [])) _
          refine XS.iload X152.here hx rfl (hb hby at_185) rfl ?_
          show Steps p.tables e below (T152.setTop (mkF m 187 #[.val (.int i0), .val (.int i1), .val (.int i2), .val (.int i3), .val (.int i4), .val (.int i5), .val (.int (5 : Int32)), .val (.int c0), .val (.int c1), .val (.int c2), .val (.int c3), .val (.int c4), .val (.int c5), .val (.ref b139), .val (.ref b141), .val (.int (own_i9 (own_st (own_st (own_st (own_st (own_st 0 (own_cl c0)) (own_cl c1)) (own_cl c2)) (own_cl c3)) (own_cl c4)))), .unset] [(.int (own_i9 (own_st (own_st (own_st (own_st (own_st 0 (own_cl c0)) (own_cl c1)) (own_cl c2)) (own_cl c3)) (own_cl c4))))])) _
          refine XS.bipush X152.here hx rfl (hb hby at_187) ?_
          show Steps p.tables e below (T152.setTop (mkF m 189 #[.val (.int i0), .val (.int i1), .val (.int i2), .val (.int i3), .val (.int i4), .val (.int i5), .val (.int (5 : Int32)), .val (.int c0), .val (.int c1), .val (.int c2), .val (.int c3), .val (.int c4), .val (.int c5), .val (.ref b139), .val (.ref b141), .val (.int (own_i9 (own_st (own_st (own_st (own_st (own_st 0 (own_cl c0)) (own_cl c1)) (own_cl c2)) (own_cl c3)) (own_cl c4)))), .unset] [(.int (7 : Int32)), (.int (own_i9 (own_st (own_st (own_st (own_st (own_st 0 (own_cl c0)) (own_cl c1)) (own_cl c2)) (own_cl c3)) (own_cl c4))))])) _
          by_cases hm155 : (own_i9 (own_st (own_st (own_st (own_st (own_st 0 (own_cl c0)) (own_cl c1)) (own_cl c2)) (own_cl c3)) (own_cl c4))) = (7 : Int32)
          · skip
            refine XS.icmpNo X152.here hx rfl (hb hby at_189) rfl (teq hm155).2 ?_
            show Steps p.tables e below (T152.setTop (mkF m 192 #[.val (.int i0), .val (.int i1), .val (.int i2), .val (.int i3), .val (.int i4), .val (.int i5), .val (.int (5 : Int32)), .val (.int c0), .val (.int c1), .val (.int c2), .val (.int c3), .val (.int c4), .val (.int c5), .val (.ref b139), .val (.ref b141), .val (.int (own_i9 (own_st (own_st (own_st (own_st (own_st 0 (own_cl c0)) (own_cl c1)) (own_cl c2)) (own_cl c3)) (own_cl c4)))), .unset] [])) _
            refine XS.iconst X152.here hx rfl (hb hby at_192) ?_
            show Steps p.tables e below (T152.setTop (mkF m 193 #[.val (.int i0), .val (.int i1), .val (.int i2), .val (.int i3), .val (.int i4), .val (.int i5), .val (.int (5 : Int32)), .val (.int c0), .val (.int c1), .val (.int c2), .val (.int c3), .val (.int c4), .val (.int c5), .val (.ref b139), .val (.ref b141), .val (.int (own_i9 (own_st (own_st (own_st (own_st (own_st 0 (own_cl c0)) (own_cl c1)) (own_cl c2)) (own_cl c3)) (own_cl c4)))), .unset] [(.int (1 : Int32))])) _
            refine XS.goto X152.here hx rfl (pc0 := 193) (pc' := 197) rfl (hb hby at_193) (by decide) (by decide) ?_
            show Steps p.tables e below (T152.setTop (mkF m 197 #[.val (.int i0), .val (.int i1), .val (.int i2), .val (.int i3), .val (.int i4), .val (.int i5), .val (.int (5 : Int32)), .val (.int c0), .val (.int c1), .val (.int c2), .val (.int c3), .val (.int c4), .val (.int c5), .val (.ref b139), .val (.ref b141), .val (.int (own_i9 (own_st (own_st (own_st (own_st (own_st 0 (own_cl c0)) (own_cl c1)) (own_cl c2)) (own_cl c3)) (own_cl c4)))), .unset] [(.int (1 : Int32))])) _
            try simp only [if_neg hm153, if_neg hm154, if_pos hm155] at k0
            exact k0
          · skip
            refine XS.icmpYes X152.here hx rfl (pc0 := 189) (pc' := 196) rfl (hb hby at_189) rfl (feq hm155).2 (by decide) (by decide) ?_
            show Steps p.tables e below (T152.setTop (mkF m 196 #[.val (.int i0), .val (.int i1), .val (.int i2), .val (.int i3), .val (.int i4), .val (.int i5), .val (.int (5 : Int32)), .val (.int c0), .val (.int c1), .val (.int c2), .val (.int c3), .val (.int c4), .val (.int c5), .val (.ref b139), .val (.ref b141), .val (.int (own_i9 (own_st (own_st (own_st (own_st (own_st 0 (own_cl c0)) (own_cl c1)) (own_cl c2)) (own_cl c3)) (own_cl c4)))), .unset] [])) _
            refine XS.iconst X152.here hx rfl (hb hby at_196) ?_
            show Steps p.tables e below (T152.setTop (mkF m 197 #[.val (.int i0), .val (.int i1), .val (.int i2), .val (.int i3), .val (.int i4), .val (.int i5), .val (.int (5 : Int32)), .val (.int c0), .val (.int c1), .val (.int c2), .val (.int c3), .val (.int c4), .val (.int c5), .val (.ref b139), .val (.ref b141), .val (.int (own_i9 (own_st (own_st (own_st (own_st (own_st 0 (own_cl c0)) (own_cl c1)) (own_cl c2)) (own_cl c3)) (own_cl c4)))), .unset] [(.int (0 : Int32))])) _
            try simp only [if_neg hm153, if_neg hm154, if_neg hm155] at k0
            exact k0
    refine own_by mg156 ?_
    rw [show (if (own_i9 (own_st (own_st (own_st (own_st (own_st 0 (own_cl c0)) (own_cl c1)) (own_cl c2)) (own_cl c3)) (own_cl c4))) = (2 : Int32) then (1 : Int32) else (if (own_i9 (own_st (own_st (own_st (own_st (own_st 0 (own_cl c0)) (own_cl c1)) (own_cl c2)) (own_cl c3)) (own_cl c4))) = (4 : Int32) then (1 : Int32) else (if (own_i9 (own_st (own_st (own_st (own_st (own_st 0 (own_cl c0)) (own_cl c1)) (own_cl c2)) (own_cl c3)) (own_cl c4))) = (7 : Int32) then (1 : Int32) else (0 : Int32)))) = own_acc (own_st (own_st (own_st (own_st (own_st 0 (own_cl c0)) (own_cl c1)) (own_cl c2)) (own_cl c3)) (own_cl c4)) from own_acc_i (k := (own_st (own_st (own_st (own_st (own_st 0 (own_cl c0)) (own_cl c1)) (own_cl c2)) (own_cl c3)) (own_cl c4))) (own_st9 _ _)]
    show own_Go p e below _ T152 (mkF m 197 #[.val (.int i0), .val (.int i1), .val (.int i2), .val (.int i3), .val (.int i4), .val (.int i5), .val (.int (5 : Int32)), .val (.int c0), .val (.int c1), .val (.int c2), .val (.int c3), .val (.int c4), .val (.int c5), .val (.ref b139), .val (.ref b141), .val (.int (own_i9 (own_st (own_st (own_st (own_st (own_st 0 (own_cl c0)) (own_cl c1)) (own_cl c2)) (own_cl c3)) (own_cl c4)))), .unset] [(.int (own_acc (own_st (own_st (own_st (own_st (own_st 0 (own_cl c0)) (own_cl c1)) (own_cl c2)) (own_cl c3)) (own_cl c4))))])
    refine own_by (T' := T152) (f' := (mkF m 199 #[.val (.int i0), .val (.int i1), .val (.int i2), .val (.int i3), .val (.int i4), .val (.int i5), .val (.int (5 : Int32)), .val (.int c0), .val (.int c1), .val (.int c2), .val (.int c3), .val (.int c4), .val (.int c5), .val (.ref b139), .val (.ref b141), .val (.int (own_i9 (own_st (own_st (own_st (own_st (own_st 0 (own_cl c0)) (own_cl c1)) (own_cl c2)) (own_cl c3)) (own_cl c4)))), .val (.int (own_acc (own_st (own_st (own_st (own_st (own_st 0 (own_cl c0)) (own_cl c1)) (own_cl c2)) (own_cl c3)) (own_cl c4))))] [])) (fun t k => XS.istore X152.here hx rfl (hb hby at_197) rfl (l' := #[.val (.int i0), .val (.int i1), .val (.int i2), .val (.int i3), .val (.int i4), .val (.int i5), .val (.int (5 : Int32)), .val (.int c0), .val (.int c1), .val (.int c2), .val (.int c3), .val (.int c4), .val (.int c5), .val (.ref b139), .val (.ref b141), .val (.int (own_i9 (own_st (own_st (own_st (own_st (own_st 0 (own_cl c0)) (own_cl c1)) (own_cl c2)) (own_cl c3)) (own_cl c4)))), .val (.int (own_acc (own_st (own_st (own_st (own_st (own_st 0 (own_cl c0)) (own_cl c1)) (own_cl c2)) (own_cl c3)) (own_cl c4))))]) rfl k) ?_
    refine own_by (T' := T152) (f' := (mkF m 201 #[.val (.int i0), .val (.int i1), .val (.int i2), .val (.int i3), .val (.int i4), .val (.int i5), .val (.int (5 : Int32)), .val (.int c0), .val (.int c1), .val (.int c2), .val (.int c3), .val (.int c4), .val (.int c5), .val (.ref b139), .val (.ref b141), .val (.int (own_i9 (own_st (own_st (own_st (own_st (own_st 0 (own_cl c0)) (own_cl c1)) (own_cl c2)) (own_cl c3)) (own_cl c4)))), .val (.int (own_acc (own_st (own_st (own_st (own_st (own_st 0 (own_cl c0)) (own_cl c1)) (own_cl c2)) (own_cl c3)) (own_cl c4))))] [(.ref b141)])) (fun t k => XS.aload X152.here hx rfl (hb hby at_199) rfl rfl k) ?_
    have f157 := (f145.keep K146 q143)
    refine own_callS X152 hx hZ hown e152 (hb hby at_201) [(.ref b141)] [] 0 (rmDE l Z a0 hw [] b141 (5 : Int32) 5 (fun i => List.getD [c0, c1, c2, c3, c4] i 0) (fun i => List.getD [own_cl c0, own_cl c1, own_cl c2, own_cl c3, own_cl c4] i 0) cs fm T146.heap (fun i hi => by match i, hi with | 0, _ => rfl | 1, _ => rfl | 2, _ => rfl | 3, _ => rfl | 4, _ => rfl | (q + 5), h => exact absurd h (by omega)) (by decide) (by decide) Q146 f157) (own_w hw 34 rfl) (own_w hw 35 rfl) (own_w hw 36 rfl) (own_w hw 37 rfl) (by decide) pd__Ljava_lang_String__Z (by rw [hml]; rfl) rfl rfl (Nat.le_of_eq rfl) (by decide) (by decide) (by decide) (by decide) ?_
    rintro T158 _ L158 X158 ⟨rfl, rfl, e158⟩
    show own_Go p e below _ T158 (mkF m 204 #[.val (.int i0), .val (.int i1), .val (.int i2), .val (.int i3), .val (.int i4), .val (.int i5), .val (.int (5 : Int32)), .val (.int c0), .val (.int c1), .val (.int c2), .val (.int c3), .val (.int c4), .val (.int c5), .val (.ref b139), .val (.ref b141), .val (.int (own_i9 (own_st (own_st (own_st (own_st (own_st 0 (own_cl c0)) (own_cl c1)) (own_cl c2)) (own_cl c3)) (own_cl c4)))), .val (.int (own_acc (own_st (own_st (own_st (own_st (own_st 0 (own_cl c0)) (own_cl c1)) (own_cl c2)) (own_cl c3)) (own_cl c4))))] [(.int (own_isDec (fun i => List.getD [own_cl c0, own_cl c1, own_cl c2, own_cl c3, own_cl c4] i 0) 5))])
    rw [List.append_nil] at X158
    have hlw : own_isDec (fun i => List.getD [own_cl c0, own_cl c1, own_cl c2, own_cl c3, own_cl c4] i 0) 5 = own_acc (own_st (own_st (own_st (own_st (own_st 0 (own_cl c0)) (own_cl c1)) (own_cl c2)) (own_cl c3)) (own_cl c4)) := own_law5 ⟨own_cl c0, own_cl_lt c0⟩ ⟨own_cl c1, own_cl_lt c1⟩ ⟨own_cl c2, own_cl_lt c2⟩ ⟨own_cl c3, own_cl_lt c3⟩ ⟨own_cl c4, own_cl_lt c4⟩
    refine own_by (T' := T158) (f' := (mkF m 206 #[.val (.int i0), .val (.int i1), .val (.int i2), .val (.int i3), .val (.int i4), .val (.int i5), .val (.int (5 : Int32)), .val (.int c0), .val (.int c1), .val (.int c2), .val (.int c3), .val (.int c4), .val (.int c5), .val (.ref b139), .val (.ref b141), .val (.int (own_i9 (own_st (own_st (own_st (own_st (own_st 0 (own_cl c0)) (own_cl c1)) (own_cl c2)) (own_cl c3)) (own_cl c4)))), .val (.int (own_acc (own_st (own_st (own_st (own_st (own_st 0 (own_cl c0)) (own_cl c1)) (own_cl c2)) (own_cl c3)) (own_cl c4))))] [(.int (own_acc (own_st (own_st (own_st (own_st (own_st 0 (own_cl c0)) (own_cl c1)) (own_cl c2)) (own_cl c3)) (own_cl c4)))), (.int (own_isDec (fun i => List.getD [own_cl c0, own_cl c1, own_cl c2, own_cl c3, own_cl c4] i 0) 5))])) (fun t k => XS.iload X158.here hx rfl (hb hby at_204) rfl k) ?_
    have hc206_159 : (own_isDec (fun i => List.getD [own_cl c0, own_cl c1, own_cl c2, own_cl c3, own_cl c4] i 0) 5) = (own_acc (own_st (own_st (own_st (own_st (own_st 0 (own_cl c0)) (own_cl c1)) (own_cl c2)) (own_cl c3)) (own_cl c4))) := hlw
    refine own_by (T' := T158) (f' := (mkF m 209 #[.val (.int i0), .val (.int i1), .val (.int i2), .val (.int i3), .val (.int i4), .val (.int i5), .val (.int (5 : Int32)), .val (.int c0), .val (.int c1), .val (.int c2), .val (.int c3), .val (.int c4), .val (.int c5), .val (.ref b139), .val (.ref b141), .val (.int (own_i9 (own_st (own_st (own_st (own_st (own_st 0 (own_cl c0)) (own_cl c1)) (own_cl c2)) (own_cl c3)) (own_cl c4)))), .val (.int (own_acc (own_st (own_st (own_st (own_st (own_st 0 (own_cl c0)) (own_cl c1)) (own_cl c2)) (own_cl c3)) (own_cl c4))))] [])) (fun t k => XS.icmpNo X158.here hx rfl (hb hby at_206) rfl (teq hc206_159).2 k) ?_
    refine own_by (T' := T158) (f' := (mkF m 210 #[.val (.int i0), .val (.int i1), .val (.int i2), .val (.int i3), .val (.int i4), .val (.int i5), .val (.int (5 : Int32)), .val (.int c0), .val (.int c1), .val (.int c2), .val (.int c3), .val (.int c4), .val (.int c5), .val (.ref b139), .val (.ref b141), .val (.int (own_i9 (own_st (own_st (own_st (own_st (own_st 0 (own_cl c0)) (own_cl c1)) (own_cl c2)) (own_cl c3)) (own_cl c4)))), .val (.int (own_acc (own_st (own_st (own_st (own_st (own_st 0 (own_cl c0)) (own_cl c1)) (own_cl c2)) (own_cl c3)) (own_cl c4))))] [(.int (1 : Int32))])) (fun t k => XS.iconst X158.here hx rfl (hb hby at_209) k) ?_
    refine own_by (T' := T158) (f' := (mkF m 214 #[.val (.int i0), .val (.int i1), .val (.int i2), .val (.int i3), .val (.int i4), .val (.int i5), .val (.int (5 : Int32)), .val (.int c0), .val (.int c1), .val (.int c2), .val (.int c3), .val (.int c4), .val (.int c5), .val (.ref b139), .val (.ref b141), .val (.int (own_i9 (own_st (own_st (own_st (own_st (own_st 0 (own_cl c0)) (own_cl c1)) (own_cl c2)) (own_cl c3)) (own_cl c4)))), .val (.int (own_acc (own_st (own_st (own_st (own_st (own_st 0 (own_cl c0)) (own_cl c1)) (own_cl c2)) (own_cl c3)) (own_cl c4))))] [(.int (1 : Int32))])) (fun t k => XS.goto X158.here hx rfl (pc0 := 210) (pc' := 214) rfl (hb hby at_210) (by decide) (by decide) k) ?_
    refine own_retW X158 hx hret hlk hZ hEL hs0 e158 hS hk CH (hb hby at_214) rfl (Or.inl ⟨rfl, Or.inr (Or.inl rfl), _, rfl⟩) (by decide) (by decide) ?_
    try rw [e158]
    exact ⟨rfl, N146⟩
  · rw [hl]
    show own_Go p e below _ T11 (mkF m 9 #[.val (.int i0), .val (.int i1), .val (.int i2), .val (.int i3), .val (.int i4), .val (.int i5), .unset, .unset, .unset, .unset, .unset, .unset, .unset, .unset, .unset, .unset, .unset] [(.int (6 : Int32))])
    refine own_by (T' := T11) (f' := (mkF m 11 #[.val (.int i0), .val (.int i1), .val (.int i2), .val (.int i3), .val (.int i4), .val (.int i5), .val (.int (6 : Int32)), .unset, .unset, .unset, .unset, .unset, .unset, .unset, .unset, .unset, .unset] [])) (fun t k => XS.istore X11.here hx rfl (hb hby at_9) rfl (l' := #[.val (.int i0), .val (.int i1), .val (.int i2), .val (.int i3), .val (.int i4), .val (.int i5), .val (.int (6 : Int32)), .unset, .unset, .unset, .unset, .unset, .unset, .unset, .unset, .unset, .unset]) rfl k) ?_
    refine own_by (T' := T11) (f' := (mkF m 12 #[.val (.int i0), .val (.int i1), .val (.int i2), .val (.int i3), .val (.int i4), .val (.int i5), .val (.int (6 : Int32)), .unset, .unset, .unset, .unset, .unset, .unset, .unset, .unset, .unset, .unset] [(.int i1)])) (fun t k => XS.iloadN X11.here hx rfl (hb hby at_11) rfl k) ?_
    refine own_callS X11 hx hZ hown e11 (hb hby at_12) [(.int i1)] [] 0 (rmCH l Z a0 hw [] i1 h0) (own_w hw 4 rfl) (own_w hw 5 rfl) (own_w hw 6 rfl) (own_w hw 7 rfl) (by decide) pd__I_C (by rw [hml]; rfl) rfl rfl (Nat.le_of_eq rfl) (by decide) (by decide) (by decide) (by decide) ?_
    rintro T160 _ L160 X160 ⟨c0, rfl, hc0, rfl, e160⟩
    rw [List.append_nil] at X160
    show own_Go p e below _ T160 (mkF m 15 #[.val (.int i0), .val (.int i1), .val (.int i2), .val (.int i3), .val (.int i4), .val (.int i5), .val (.int (6 : Int32)), .unset, .unset, .unset, .unset, .unset, .unset, .unset, .unset, .unset, .unset] [(.int c0)])
    refine own_by (T' := T160) (f' := (mkF m 17 #[.val (.int i0), .val (.int i1), .val (.int i2), .val (.int i3), .val (.int i4), .val (.int i5), .val (.int (6 : Int32)), .val (.int c0), .unset, .unset, .unset, .unset, .unset, .unset, .unset, .unset, .unset] [])) (fun t k => XS.istore X160.here hx rfl (hb hby at_15) rfl (l' := #[.val (.int i0), .val (.int i1), .val (.int i2), .val (.int i3), .val (.int i4), .val (.int i5), .val (.int (6 : Int32)), .val (.int c0), .unset, .unset, .unset, .unset, .unset, .unset, .unset, .unset, .unset]) rfl k) ?_
    refine own_by (T' := T160) (f' := (mkF m 18 #[.val (.int i0), .val (.int i1), .val (.int i2), .val (.int i3), .val (.int i4), .val (.int i5), .val (.int (6 : Int32)), .val (.int c0), .unset, .unset, .unset, .unset, .unset, .unset, .unset, .unset, .unset] [(.int i2)])) (fun t k => XS.iloadN X160.here hx rfl (hb hby at_17) rfl k) ?_
    refine own_callS X160 hx hZ hown e160 (hb hby at_18) [(.int i2)] [] 0 (rmCH l Z a0 hw [] i2 h0) (own_w hw 4 rfl) (own_w hw 5 rfl) (own_w hw 6 rfl) (own_w hw 7 rfl) (by decide) pd__I_C (by rw [hml]; rfl) rfl rfl (Nat.le_of_eq rfl) (by decide) (by decide) (by decide) (by decide) ?_
    rintro T161 _ L161 X161 ⟨c1, rfl, hc1, rfl, e161⟩
    rw [List.append_nil] at X161
    show own_Go p e below _ T161 (mkF m 21 #[.val (.int i0), .val (.int i1), .val (.int i2), .val (.int i3), .val (.int i4), .val (.int i5), .val (.int (6 : Int32)), .val (.int c0), .unset, .unset, .unset, .unset, .unset, .unset, .unset, .unset, .unset] [(.int c1)])
    refine own_by (T' := T161) (f' := (mkF m 23 #[.val (.int i0), .val (.int i1), .val (.int i2), .val (.int i3), .val (.int i4), .val (.int i5), .val (.int (6 : Int32)), .val (.int c0), .val (.int c1), .unset, .unset, .unset, .unset, .unset, .unset, .unset, .unset] [])) (fun t k => XS.istore X161.here hx rfl (hb hby at_21) rfl (l' := #[.val (.int i0), .val (.int i1), .val (.int i2), .val (.int i3), .val (.int i4), .val (.int i5), .val (.int (6 : Int32)), .val (.int c0), .val (.int c1), .unset, .unset, .unset, .unset, .unset, .unset, .unset, .unset]) rfl k) ?_
    refine own_by (T' := T161) (f' := (mkF m 24 #[.val (.int i0), .val (.int i1), .val (.int i2), .val (.int i3), .val (.int i4), .val (.int i5), .val (.int (6 : Int32)), .val (.int c0), .val (.int c1), .unset, .unset, .unset, .unset, .unset, .unset, .unset, .unset] [(.int i3)])) (fun t k => XS.iloadN X161.here hx rfl (hb hby at_23) rfl k) ?_
    refine own_callS X161 hx hZ hown e161 (hb hby at_24) [(.int i3)] [] 0 (rmCH l Z a0 hw [] i3 h0) (own_w hw 4 rfl) (own_w hw 5 rfl) (own_w hw 6 rfl) (own_w hw 7 rfl) (by decide) pd__I_C (by rw [hml]; rfl) rfl rfl (Nat.le_of_eq rfl) (by decide) (by decide) (by decide) (by decide) ?_
    rintro T162 _ L162 X162 ⟨c2, rfl, hc2, rfl, e162⟩
    rw [List.append_nil] at X162
    show own_Go p e below _ T162 (mkF m 27 #[.val (.int i0), .val (.int i1), .val (.int i2), .val (.int i3), .val (.int i4), .val (.int i5), .val (.int (6 : Int32)), .val (.int c0), .val (.int c1), .unset, .unset, .unset, .unset, .unset, .unset, .unset, .unset] [(.int c2)])
    refine own_by (T' := T162) (f' := (mkF m 29 #[.val (.int i0), .val (.int i1), .val (.int i2), .val (.int i3), .val (.int i4), .val (.int i5), .val (.int (6 : Int32)), .val (.int c0), .val (.int c1), .val (.int c2), .unset, .unset, .unset, .unset, .unset, .unset, .unset] [])) (fun t k => XS.istore X162.here hx rfl (hb hby at_27) rfl (l' := #[.val (.int i0), .val (.int i1), .val (.int i2), .val (.int i3), .val (.int i4), .val (.int i5), .val (.int (6 : Int32)), .val (.int c0), .val (.int c1), .val (.int c2), .unset, .unset, .unset, .unset, .unset, .unset, .unset]) rfl k) ?_
    refine own_by (T' := T162) (f' := (mkF m 31 #[.val (.int i0), .val (.int i1), .val (.int i2), .val (.int i3), .val (.int i4), .val (.int i5), .val (.int (6 : Int32)), .val (.int c0), .val (.int c1), .val (.int c2), .unset, .unset, .unset, .unset, .unset, .unset, .unset] [(.int i4)])) (fun t k => XS.iload X162.here hx rfl (hb hby at_29) rfl k) ?_
    refine own_callS X162 hx hZ hown e162 (hb hby at_31) [(.int i4)] [] 0 (rmCH l Z a0 hw [] i4 h0) (own_w hw 4 rfl) (own_w hw 5 rfl) (own_w hw 6 rfl) (own_w hw 7 rfl) (by decide) pd__I_C (by rw [hml]; rfl) rfl rfl (Nat.le_of_eq rfl) (by decide) (by decide) (by decide) (by decide) ?_
    rintro T163 _ L163 X163 ⟨c3, rfl, hc3, rfl, e163⟩
    rw [List.append_nil] at X163
    show own_Go p e below _ T163 (mkF m 34 #[.val (.int i0), .val (.int i1), .val (.int i2), .val (.int i3), .val (.int i4), .val (.int i5), .val (.int (6 : Int32)), .val (.int c0), .val (.int c1), .val (.int c2), .unset, .unset, .unset, .unset, .unset, .unset, .unset] [(.int c3)])
    refine own_by (T' := T163) (f' := (mkF m 36 #[.val (.int i0), .val (.int i1), .val (.int i2), .val (.int i3), .val (.int i4), .val (.int i5), .val (.int (6 : Int32)), .val (.int c0), .val (.int c1), .val (.int c2), .val (.int c3), .unset, .unset, .unset, .unset, .unset, .unset] [])) (fun t k => XS.istore X163.here hx rfl (hb hby at_34) rfl (l' := #[.val (.int i0), .val (.int i1), .val (.int i2), .val (.int i3), .val (.int i4), .val (.int i5), .val (.int (6 : Int32)), .val (.int c0), .val (.int c1), .val (.int c2), .val (.int c3), .unset, .unset, .unset, .unset, .unset, .unset]) rfl k) ?_
    refine own_by (T' := T163) (f' := (mkF m 38 #[.val (.int i0), .val (.int i1), .val (.int i2), .val (.int i3), .val (.int i4), .val (.int i5), .val (.int (6 : Int32)), .val (.int c0), .val (.int c1), .val (.int c2), .val (.int c3), .unset, .unset, .unset, .unset, .unset, .unset] [(.int i5)])) (fun t k => XS.iload X163.here hx rfl (hb hby at_36) rfl k) ?_
    refine own_callS X163 hx hZ hown e163 (hb hby at_38) [(.int i5)] [] 0 (rmCH l Z a0 hw [] i5 h0) (own_w hw 4 rfl) (own_w hw 5 rfl) (own_w hw 6 rfl) (own_w hw 7 rfl) (by decide) pd__I_C (by rw [hml]; rfl) rfl rfl (Nat.le_of_eq rfl) (by decide) (by decide) (by decide) (by decide) ?_
    rintro T164 _ L164 X164 ⟨c4, rfl, hc4, rfl, e164⟩
    rw [List.append_nil] at X164
    show own_Go p e below _ T164 (mkF m 41 #[.val (.int i0), .val (.int i1), .val (.int i2), .val (.int i3), .val (.int i4), .val (.int i5), .val (.int (6 : Int32)), .val (.int c0), .val (.int c1), .val (.int c2), .val (.int c3), .unset, .unset, .unset, .unset, .unset, .unset] [(.int c4)])
    refine own_by (T' := T164) (f' := (mkF m 43 #[.val (.int i0), .val (.int i1), .val (.int i2), .val (.int i3), .val (.int i4), .val (.int i5), .val (.int (6 : Int32)), .val (.int c0), .val (.int c1), .val (.int c2), .val (.int c3), .val (.int c4), .unset, .unset, .unset, .unset, .unset] [])) (fun t k => XS.istore X164.here hx rfl (hb hby at_41) rfl (l' := #[.val (.int i0), .val (.int i1), .val (.int i2), .val (.int i3), .val (.int i4), .val (.int i5), .val (.int (6 : Int32)), .val (.int c0), .val (.int c1), .val (.int c2), .val (.int c3), .val (.int c4), .unset, .unset, .unset, .unset, .unset]) rfl k) ?_
    refine own_by (T' := T164) (f' := (mkF m 44 #[.val (.int i0), .val (.int i1), .val (.int i2), .val (.int i3), .val (.int i4), .val (.int i5), .val (.int (6 : Int32)), .val (.int c0), .val (.int c1), .val (.int c2), .val (.int c3), .val (.int c4), .unset, .unset, .unset, .unset, .unset] [(.int i0)])) (fun t k => XS.iloadN X164.here hx rfl (hb hby at_43) rfl k) ?_
    refine own_by (T' := T164) (f' := (mkF m 45 #[.val (.int i0), .val (.int i1), .val (.int i2), .val (.int i3), .val (.int i4), .val (.int i5), .val (.int (6 : Int32)), .val (.int c0), .val (.int c1), .val (.int c2), .val (.int c3), .val (.int c4), .unset, .unset, .unset, .unset, .unset] [(.int (3 : Int32)), (.int i0)])) (fun t k => XS.iconst X164.here hx rfl (hb hby at_44) k) ?_
    refine own_by (T' := T164) (f' := (mkF m 46 #[.val (.int i0), .val (.int i1), .val (.int i2), .val (.int i3), .val (.int i4), .val (.int i5), .val (.int (6 : Int32)), .val (.int c0), .val (.int c1), .val (.int c2), .val (.int c3), .val (.int c4), .unset, .unset, .unset, .unset, .unset] [(.int ((i0.toUInt32 >>> ((3 : Int32) &&& 31).toUInt32).toInt32))])) (fun t k => XS.iushr X164.here hx rfl (hb hby at_45) rfl k) ?_
    refine own_callS X164 hx hZ hown e164 (hb hby at_46) [(.int ((i0.toUInt32 >>> ((3 : Int32) &&& 31).toUInt32).toInt32))] [] 0 (rmCH l Z a0 hw [] ((i0.toUInt32 >>> ((3 : Int32) &&& 31).toUInt32).toInt32) h0) (own_w hw 4 rfl) (own_w hw 5 rfl) (own_w hw 6 rfl) (own_w hw 7 rfl) (by decide) pd__I_C (by rw [hml]; rfl) rfl rfl (Nat.le_of_eq rfl) (by decide) (by decide) (by decide) (by decide) ?_
    rintro T165 _ L165 X165 ⟨c5, rfl, hc5, rfl, e165⟩
    rw [List.append_nil] at X165
    show own_Go p e below _ T165 (mkF m 49 #[.val (.int i0), .val (.int i1), .val (.int i2), .val (.int i3), .val (.int i4), .val (.int i5), .val (.int (6 : Int32)), .val (.int c0), .val (.int c1), .val (.int c2), .val (.int c3), .val (.int c4), .unset, .unset, .unset, .unset, .unset] [(.int c5)])
    refine own_by (T' := T165) (f' := (mkF m 51 #[.val (.int i0), .val (.int i1), .val (.int i2), .val (.int i3), .val (.int i4), .val (.int i5), .val (.int (6 : Int32)), .val (.int c0), .val (.int c1), .val (.int c2), .val (.int c3), .val (.int c4), .val (.int c5), .unset, .unset, .unset, .unset] [])) (fun t k => XS.istore X165.here hx rfl (hb hby at_49) rfl (l' := #[.val (.int i0), .val (.int i1), .val (.int i2), .val (.int i3), .val (.int i4), .val (.int i5), .val (.int (6 : Int32)), .val (.int c0), .val (.int c1), .val (.int c2), .val (.int c3), .val (.int c4), .val (.int c5), .unset, .unset, .unset, .unset]) rfl k) ?_
    refine own_by (T' := T165) (f' := (mkF m 53 #[.val (.int i0), .val (.int i1), .val (.int i2), .val (.int i3), .val (.int i4), .val (.int i5), .val (.int (6 : Int32)), .val (.int c0), .val (.int c1), .val (.int c2), .val (.int c3), .val (.int c4), .val (.int c5), .unset, .unset, .unset, .unset] [(.int (6 : Int32))])) (fun t k => XS.iload X165.here hx rfl (hb hby at_51) rfl k) ?_
    refine own_by (T' := T165) (f' := (mkF m 55 #[.val (.int i0), .val (.int i1), .val (.int i2), .val (.int i3), .val (.int i4), .val (.int i5), .val (.int (6 : Int32)), .val (.int c0), .val (.int c1), .val (.int c2), .val (.int c3), .val (.int c4), .val (.int c5), .unset, .unset, .unset, .unset] [(.int c0), (.int (6 : Int32))])) (fun t k => XS.iload X165.here hx rfl (hb hby at_53) rfl k) ?_
    refine own_by (T' := T165) (f' := (mkF m 57 #[.val (.int i0), .val (.int i1), .val (.int i2), .val (.int i3), .val (.int i4), .val (.int i5), .val (.int (6 : Int32)), .val (.int c0), .val (.int c1), .val (.int c2), .val (.int c3), .val (.int c4), .val (.int c5), .unset, .unset, .unset, .unset] [(.int c1), (.int c0), (.int (6 : Int32))])) (fun t k => XS.iload X165.here hx rfl (hb hby at_55) rfl k) ?_
    refine own_by (T' := T165) (f' := (mkF m 59 #[.val (.int i0), .val (.int i1), .val (.int i2), .val (.int i3), .val (.int i4), .val (.int i5), .val (.int (6 : Int32)), .val (.int c0), .val (.int c1), .val (.int c2), .val (.int c3), .val (.int c4), .val (.int c5), .unset, .unset, .unset, .unset] [(.int c2), (.int c1), (.int c0), (.int (6 : Int32))])) (fun t k => XS.iload X165.here hx rfl (hb hby at_57) rfl k) ?_
    refine own_by (T' := T165) (f' := (mkF m 61 #[.val (.int i0), .val (.int i1), .val (.int i2), .val (.int i3), .val (.int i4), .val (.int i5), .val (.int (6 : Int32)), .val (.int c0), .val (.int c1), .val (.int c2), .val (.int c3), .val (.int c4), .val (.int c5), .unset, .unset, .unset, .unset] [(.int c3), (.int c2), (.int c1), (.int c0), (.int (6 : Int32))])) (fun t k => XS.iload X165.here hx rfl (hb hby at_59) rfl k) ?_
    refine own_by (T' := T165) (f' := (mkF m 63 #[.val (.int i0), .val (.int i1), .val (.int i2), .val (.int i3), .val (.int i4), .val (.int i5), .val (.int (6 : Int32)), .val (.int c0), .val (.int c1), .val (.int c2), .val (.int c3), .val (.int c4), .val (.int c5), .unset, .unset, .unset, .unset] [(.int c4), (.int c3), (.int c2), (.int c1), (.int c0), (.int (6 : Int32))])) (fun t k => XS.iload X165.here hx rfl (hb hby at_61) rfl k) ?_
    refine own_by (T' := T165) (f' := (mkF m 65 #[.val (.int i0), .val (.int i1), .val (.int i2), .val (.int i3), .val (.int i4), .val (.int i5), .val (.int (6 : Int32)), .val (.int c0), .val (.int c1), .val (.int c2), .val (.int c3), .val (.int c4), .val (.int c5), .unset, .unset, .unset, .unset] [(.int c5), (.int c4), (.int c3), (.int c2), (.int c1), (.int c0), (.int (6 : Int32))])) (fun t k => XS.iload X165.here hx rfl (hb hby at_63) rfl k) ?_
    refine own_callS X165 hx hZ hown e165 (hb hby at_65) [(.int (6 : Int32)), (.int c0), (.int c1), (.int c2), (.int c3), (.int c4), (.int c5)] [] 0 (rmMK6 l Z a0 hw [] c0 c1 c2 c3 c4 c5 h0 n0 Z0 hc0 hc1 hc2 hc3 hc4 hc5) (own_w hw 9 rfl) (own_w hw 10 rfl) (own_w hw 6 rfl) (own_w hw 11 rfl) (by decide) pd__ICCCCCC__C (by rw [hml]; rfl) rfl rfl (Nat.le_of_eq rfl) (by decide) (by decide) (by decide) (by decide) ?_
    rintro T166 _ L166 X166 ⟨b166, rfl, N166q, K166, gb166, B166⟩
    show own_Go p e below _ T166 (mkF m 68 #[.val (.int i0), .val (.int i1), .val (.int i2), .val (.int i3), .val (.int i4), .val (.int i5), .val (.int (6 : Int32)), .val (.int c0), .val (.int c1), .val (.int c2), .val (.int c3), .val (.int c4), .val (.int c5), .unset, .unset, .unset, .unset] [(.ref b166)])
    have N166 := Fr.app N0 N166q
    have hk := Nat.le_trans hk K166.1
    have CH := CH.trans (CHr.keep K166 all0 CH.1)
    have sz167 : n0 ≤ T166.heap.size := Nat.le_trans Z0 K166.1
    refine own_by (T' := T166) (f' := (mkF m 70 #[.val (.int i0), .val (.int i1), .val (.int i2), .val (.int i3), .val (.int i4), .val (.int i5), .val (.int (6 : Int32)), .val (.int c0), .val (.int c1), .val (.int c2), .val (.int c3), .val (.int c4), .val (.int c5), .val (.ref b166), .unset, .unset, .unset] [])) (fun t k => XS.astore X166.here hx rfl (hb hby at_68) rfl rfl (l' := #[.val (.int i0), .val (.int i1), .val (.int i2), .val (.int i3), .val (.int i4), .val (.int i5), .val (.int (6 : Int32)), .val (.int c0), .val (.int c1), .val (.int c2), .val (.int c3), .val (.int c4), .val (.int c5), .val (.ref b166), .unset, .unset, .unset]) rfl k) ?_
    refine own_new X166 hx hZ hown rfl (hb hby at_70) (own_w hw 13 rfl) (own_w hw 14 rfl) (own_w hw 15 rfl) (by decide) (by decide) ?_
    intro T168 h168 b168 X168 e168 g168 E168 A168 D168
    have ne168_b166 : b166 ≠ b168 := Nat.ne_of_lt (by rw [g168]; exact B166.lt)
    have gn168 : n0 ≤ b168 := by rw [g168]; exact sz167
    show own_Go p e below _ T168 (mkF m 73 #[.val (.int i0), .val (.int i1), .val (.int i2), .val (.int i3), .val (.int i4), .val (.int i5), .val (.int (6 : Int32)), .val (.int c0), .val (.int c1), .val (.int c2), .val (.int c3), .val (.int c4), .val (.int c5), .val (.ref b166), .unset, .unset, .unset] [(.ref b168)])
    have S_b168 := Safe.ext E168 CH.1 (Safe.new (Nat.le_of_eq g168.symm))
    have hk := Nat.le_trans hk E168.1
    have CH := CH.trans (CHr.ext E168 CH.1)
    have F168_value : Fld Z h168 b168 "java/lang/String" "value" "[B" .null := D168 (Or.inr (own_w hw 28 rfl)) (ty := (.array .byte)) (by decide)
    have F168_coder : Fld Z h168 b168 "java/lang/String" "coder" "B" (.int (0 : Int32)) := D168 (Or.inr (own_w hw 29 rfl)) (ty := .byte) (by decide)
    have sz169 : n0 ≤ h168.size := Nat.le_trans sz167 E168.1
    refine own_by (T' := T168) (f' := (mkF m 74 #[.val (.int i0), .val (.int i1), .val (.int i2), .val (.int i3), .val (.int i4), .val (.int i5), .val (.int (6 : Int32)), .val (.int c0), .val (.int c1), .val (.int c2), .val (.int c3), .val (.int c4), .val (.int c5), .val (.ref b166), .unset, .unset, .unset] [(.ref b168), (.ref b168)])) (fun t k => XS.dup X168.here hx rfl (hb hby at_73) rfl rfl k) ?_
    refine own_by (T' := T168) (f' := (mkF m 76 #[.val (.int i0), .val (.int i1), .val (.int i2), .val (.int i3), .val (.int i4), .val (.int i5), .val (.int (6 : Int32)), .val (.int c0), .val (.int c1), .val (.int c2), .val (.int c3), .val (.int c4), .val (.int c5), .val (.ref b166), .unset, .unset, .unset] [(.ref b166), (.ref b168), (.ref b168)])) (fun t k => XS.aload X168.here hx rfl (hb hby at_74) rfl rfl k) ?_
    have q170 : ∀ x ∈ [b168], ∃ c : Cell, h168[x]? = some c ∧ c.vm.isStatics = false := (allS (own_ns A168) all0)
    have f171 := (B166.ext E168)
    have f172 := ((ST.keep K166 all0).ext E168)
    refine own_callN X168 hx hZ hown e168 (hb hby at_76) [(.ref b166)] [(.ref b168)] 1 (rmI1 l Z a0 hw [] b168 b166 (6 : Int32) 6 (fun i => List.getD [c0, c1, c2, c3, c4, c5] i 0) _ _ cs fm h168 n0 sz169 gn168 (by decide) (by decide) (by decide) (fun i hi => by match i, hi with | 0, _ => exact hc0 | 1, _ => exact hc1 | 2, _ => exact hc2 | 3, _ => exact hc3 | 4, _ => exact hc4 | 5, _ => exact hc5 | (q + 6), h => exact absurd h (by omega)) f171 ne168_b166 A168 F168_value F168_coder f172) (own_w hw 16 rfl) (own_w hw 17 rfl) (own_w hw 15 rfl) (own_w hw 18 rfl) rfl (by decide) pd___C_V (by rw [hml]; rfl) rfl rfl (Nat.le_of_eq rfl) (by decide) (by decide) (by decide) (by decide) ?_
    rintro T173 _ L173 X173 ⟨rfl, N173q, K173, Q173⟩
    show own_Go p e below _ T173 (mkF m 79 #[.val (.int i0), .val (.int i1), .val (.int i2), .val (.int i3), .val (.int i4), .val (.int i5), .val (.int (6 : Int32)), .val (.int c0), .val (.int c1), .val (.int c2), .val (.int c3), .val (.int c4), .val (.int c5), .val (.ref b166), .unset, .unset, .unset] [(.ref b168)])
    have S_b168' := Safe.keep K173 (allS S_b168 all0) CH.1 S_b168
    have hk := Nat.le_trans hk K173.1
    have CH := CH.trans (CHr.keep K173 (allS S_b168 all0) CH.1)
    have S_b168 := S_b168'
    have N173 := Fr.app N166 N173q
    have sz174 : n0 ≤ T173.heap.size := Nat.le_trans sz169 K173.1
    refine own_by (T' := T173) (f' := (mkF m 81 #[.val (.int i0), .val (.int i1), .val (.int i2), .val (.int i3), .val (.int i4), .val (.int i5), .val (.int (6 : Int32)), .val (.int c0), .val (.int c1), .val (.int c2), .val (.int c3), .val (.int c4), .val (.int c5), .val (.ref b166), .val (.ref b168), .unset, .unset] [])) (fun t k => XS.astore X173.here hx rfl (hb hby at_79) rfl rfl (l' := #[.val (.int i0), .val (.int i1), .val (.int i2), .val (.int i3), .val (.int i4), .val (.int i5), .val (.int (6 : Int32)), .val (.int c0), .val (.int c1), .val (.int c2), .val (.int c3), .val (.int c4), .val (.int c5), .val (.ref b166), .val (.ref b168), .unset, .unset]) rfl k) ?_
    refine own_by (T' := T173) (f' := (mkF m 82 #[.val (.int i0), .val (.int i1), .val (.int i2), .val (.int i3), .val (.int i4), .val (.int i5), .val (.int (6 : Int32)), .val (.int c0), .val (.int c1), .val (.int c2), .val (.int c3), .val (.int c4), .val (.int c5), .val (.ref b166), .val (.ref b168), .unset, .unset] [(.int (0 : Int32))])) (fun t k => XS.iconst X173.here hx rfl (hb hby at_81) k) ?_
    refine own_by (T' := T173) (f' := (mkF m 84 #[.val (.int i0), .val (.int i1), .val (.int i2), .val (.int i3), .val (.int i4), .val (.int i5), .val (.int (6 : Int32)), .val (.int c0), .val (.int c1), .val (.int c2), .val (.int c3), .val (.int c4), .val (.int c5), .val (.ref b166), .val (.ref b168), .val (.int (0 : Int32)), .unset] [])) (fun t k => XS.istore X173.here hx rfl (hb hby at_82) rfl (l' := #[.val (.int i0), .val (.int i1), .val (.int i2), .val (.int i3), .val (.int i4), .val (.int i5), .val (.int (6 : Int32)), .val (.int c0), .val (.int c1), .val (.int c2), .val (.int c3), .val (.int c4), .val (.int c5), .val (.ref b166), .val (.ref b168), .val (.int (0 : Int32)), .unset]) rfl k) ?_
    refine own_by (T' := T173) (f' := (mkF m 86 #[.val (.int i0), .val (.int i1), .val (.int i2), .val (.int i3), .val (.int i4), .val (.int i5), .val (.int (6 : Int32)), .val (.int c0), .val (.int c1), .val (.int c2), .val (.int c3), .val (.int c4), .val (.int c5), .val (.ref b166), .val (.ref b168), .val (.int (0 : Int32)), .unset] [(.int (6 : Int32))])) (fun t k => XS.iload X173.here hx rfl (hb hby at_84) rfl k) ?_
    refine own_by (T' := T173) (f' := (mkF m 89 #[.val (.int i0), .val (.int i1), .val (.int i2), .val (.int i3), .val (.int i4), .val (.int i5), .val (.int (6 : Int32)), .val (.int c0), .val (.int c1), .val (.int c2), .val (.int c3), .val (.int c4), .val (.int c5), .val (.ref b166), .val (.ref b168), .val (.int (0 : Int32)), .unset] [])) (fun t k => XS.ifNo X173.here hx rfl (hb hby at_86) rfl ((if0 _ _).trans (tlt (by decide)).2.2.2) k) ?_
    refine own_by (T' := T173) (f' := (mkF m 91 #[.val (.int i0), .val (.int i1), .val (.int i2), .val (.int i3), .val (.int i4), .val (.int i5), .val (.int (6 : Int32)), .val (.int c0), .val (.int c1), .val (.int c2), .val (.int c3), .val (.int c4), .val (.int c5), .val (.ref b166), .val (.ref b168), .val (.int (0 : Int32)), .unset] [(.int (0 : Int32))])) (fun t k => XS.iload X173.here hx rfl (hb hby at_89) rfl k) ?_
    refine own_by (T' := T173) (f' := (mkF m 93 #[.val (.int i0), .val (.int i1), .val (.int i2), .val (.int i3), .val (.int i4), .val (.int i5), .val (.int (6 : Int32)), .val (.int c0), .val (.int c1), .val (.int c2), .val (.int c3), .val (.int c4), .val (.int c5), .val (.ref b166), .val (.ref b168), .val (.int (0 : Int32)), .unset] [(.int c0), (.int (0 : Int32))])) (fun t k => XS.iload X173.here hx rfl (hb hby at_91) rfl k) ?_
    refine own_callS X173 hx hZ hown rfl (hb hby at_93) [(.int (0 : Int32)), (.int c0)] [] 0 (rmSP l Z a0 hw [] (0 : Int32) c0 0 T173.heap rfl (by decide)) (own_w hw 65 rfl) (own_w hw 66 rfl) (own_w hw 6 rfl) (own_w hw 67 rfl) (by decide) pd__IC_I (by rw [hml]; rfl) rfl rfl (Nat.le_of_eq rfl) (by decide) (by decide) (by decide) (by decide) ?_
    rintro T175 _ L175 X175 ⟨rfl, rfl, e175⟩
    show own_Go p e below _ T175 (mkF m 96 #[.val (.int i0), .val (.int i1), .val (.int i2), .val (.int i3), .val (.int i4), .val (.int i5), .val (.int (6 : Int32)), .val (.int c0), .val (.int c1), .val (.int c2), .val (.int c3), .val (.int c4), .val (.int c5), .val (.ref b166), .val (.ref b168), .val (.int (0 : Int32)), .unset] [(.int (own_i9 (own_st 0 (own_cl c0))))])
    rw [List.append_nil] at X175
    refine own_by (T' := T175) (f' := (mkF m 98 #[.val (.int i0), .val (.int i1), .val (.int i2), .val (.int i3), .val (.int i4), .val (.int i5), .val (.int (6 : Int32)), .val (.int c0), .val (.int c1), .val (.int c2), .val (.int c3), .val (.int c4), .val (.int c5), .val (.ref b166), .val (.ref b168), .val (.int (own_i9 (own_st 0 (own_cl c0)))), .unset] [])) (fun t k => XS.istore X175.here hx rfl (hb hby at_96) rfl (l' := #[.val (.int i0), .val (.int i1), .val (.int i2), .val (.int i3), .val (.int i4), .val (.int i5), .val (.int (6 : Int32)), .val (.int c0), .val (.int c1), .val (.int c2), .val (.int c3), .val (.int c4), .val (.int c5), .val (.ref b166), .val (.ref b168), .val (.int (own_i9 (own_st 0 (own_cl c0)))), .unset]) rfl k) ?_
    refine own_by (T' := T175) (f' := (mkF m 100 #[.val (.int i0), .val (.int i1), .val (.int i2), .val (.int i3), .val (.int i4), .val (.int i5), .val (.int (6 : Int32)), .val (.int c0), .val (.int c1), .val (.int c2), .val (.int c3), .val (.int c4), .val (.int c5), .val (.ref b166), .val (.ref b168), .val (.int (own_i9 (own_st 0 (own_cl c0)))), .unset] [(.int (6 : Int32))])) (fun t k => XS.iload X175.here hx rfl (hb hby at_98) rfl k) ?_
    refine own_by (T' := T175) (f' := (mkF m 101 #[.val (.int i0), .val (.int i1), .val (.int i2), .val (.int i3), .val (.int i4), .val (.int i5), .val (.int (6 : Int32)), .val (.int c0), .val (.int c1), .val (.int c2), .val (.int c3), .val (.int c4), .val (.int c5), .val (.ref b166), .val (.ref b168), .val (.int (own_i9 (own_st 0 (own_cl c0)))), .unset] [(.int (1 : Int32)), (.int (6 : Int32))])) (fun t k => XS.iconst X175.here hx rfl (hb hby at_100) k) ?_
    refine own_by (T' := T175) (f' := (mkF m 104 #[.val (.int i0), .val (.int i1), .val (.int i2), .val (.int i3), .val (.int i4), .val (.int i5), .val (.int (6 : Int32)), .val (.int c0), .val (.int c1), .val (.int c2), .val (.int c3), .val (.int c4), .val (.int c5), .val (.ref b166), .val (.ref b168), .val (.int (own_i9 (own_st 0 (own_cl c0)))), .unset] [])) (fun t k => XS.icmpNo X175.here hx rfl (hb hby at_101) rfl (tlt (by decide)).2.2.2 k) ?_
    refine own_by (T' := T175) (f' := (mkF m 106 #[.val (.int i0), .val (.int i1), .val (.int i2), .val (.int i3), .val (.int i4), .val (.int i5), .val (.int (6 : Int32)), .val (.int c0), .val (.int c1), .val (.int c2), .val (.int c3), .val (.int c4), .val (.int c5), .val (.ref b166), .val (.ref b168), .val (.int (own_i9 (own_st 0 (own_cl c0)))), .unset] [(.int (own_i9 (own_st 0 (own_cl c0))))])) (fun t k => XS.iload X175.here hx rfl (hb hby at_104) rfl k) ?_
    refine own_by (T' := T175) (f' := (mkF m 108 #[.val (.int i0), .val (.int i1), .val (.int i2), .val (.int i3), .val (.int i4), .val (.int i5), .val (.int (6 : Int32)), .val (.int c0), .val (.int c1), .val (.int c2), .val (.int c3), .val (.int c4), .val (.int c5), .val (.ref b166), .val (.ref b168), .val (.int (own_i9 (own_st 0 (own_cl c0)))), .unset] [(.int c1), (.int (own_i9 (own_st 0 (own_cl c0))))])) (fun t k => XS.iload X175.here hx rfl (hb hby at_106) rfl k) ?_
    refine own_callS X175 hx hZ hown e175 (hb hby at_108) [(.int (own_i9 (own_st 0 (own_cl c0)))), (.int c1)] [] 0 (rmSP l Z a0 hw [] (own_i9 (own_st 0 (own_cl c0))) c1 (own_st 0 (own_cl c0)) T173.heap rfl (own_st9 _ _)) (own_w hw 65 rfl) (own_w hw 66 rfl) (own_w hw 6 rfl) (own_w hw 67 rfl) (by decide) pd__IC_I (by rw [hml]; rfl) rfl rfl (Nat.le_of_eq rfl) (by decide) (by decide) (by decide) (by decide) ?_
    rintro T176 _ L176 X176 ⟨rfl, rfl, e176⟩
    show own_Go p e below _ T176 (mkF m 111 #[.val (.int i0), .val (.int i1), .val (.int i2), .val (.int i3), .val (.int i4), .val (.int i5), .val (.int (6 : Int32)), .val (.int c0), .val (.int c1), .val (.int c2), .val (.int c3), .val (.int c4), .val (.int c5), .val (.ref b166), .val (.ref b168), .val (.int (own_i9 (own_st 0 (own_cl c0)))), .unset] [(.int (own_i9 (own_st (own_st 0 (own_cl c0)) (own_cl c1))))])
    rw [List.append_nil] at X176
    refine own_by (T' := T176) (f' := (mkF m 113 #[.val (.int i0), .val (.int i1), .val (.int i2), .val (.int i3), .val (.int i4), .val (.int i5), .val (.int (6 : Int32)), .val (.int c0), .val (.int c1), .val (.int c2), .val (.int c3), .val (.int c4), .val (.int c5), .val (.ref b166), .val (.ref b168), .val (.int (own_i9 (own_st (own_st 0 (own_cl c0)) (own_cl c1)))), .unset] [])) (fun t k => XS.istore X176.here hx rfl (hb hby at_111) rfl (l' := #[.val (.int i0), .val (.int i1), .val (.int i2), .val (.int i3), .val (.int i4), .val (.int i5), .val (.int (6 : Int32)), .val (.int c0), .val (.int c1), .val (.int c2), .val (.int c3), .val (.int c4), .val (.int c5), .val (.ref b166), .val (.ref b168), .val (.int (own_i9 (own_st (own_st 0 (own_cl c0)) (own_cl c1)))), .unset]) rfl k) ?_
    refine own_by (T' := T176) (f' := (mkF m 115 #[.val (.int i0), .val (.int i1), .val (.int i2), .val (.int i3), .val (.int i4), .val (.int i5), .val (.int (6 : Int32)), .val (.int c0), .val (.int c1), .val (.int c2), .val (.int c3), .val (.int c4), .val (.int c5), .val (.ref b166), .val (.ref b168), .val (.int (own_i9 (own_st (own_st 0 (own_cl c0)) (own_cl c1)))), .unset] [(.int (6 : Int32))])) (fun t k => XS.iload X176.here hx rfl (hb hby at_113) rfl k) ?_
    refine own_by (T' := T176) (f' := (mkF m 116 #[.val (.int i0), .val (.int i1), .val (.int i2), .val (.int i3), .val (.int i4), .val (.int i5), .val (.int (6 : Int32)), .val (.int c0), .val (.int c1), .val (.int c2), .val (.int c3), .val (.int c4), .val (.int c5), .val (.ref b166), .val (.ref b168), .val (.int (own_i9 (own_st (own_st 0 (own_cl c0)) (own_cl c1)))), .unset] [(.int (2 : Int32)), (.int (6 : Int32))])) (fun t k => XS.iconst X176.here hx rfl (hb hby at_115) k) ?_
    refine own_by (T' := T176) (f' := (mkF m 119 #[.val (.int i0), .val (.int i1), .val (.int i2), .val (.int i3), .val (.int i4), .val (.int i5), .val (.int (6 : Int32)), .val (.int c0), .val (.int c1), .val (.int c2), .val (.int c3), .val (.int c4), .val (.int c5), .val (.ref b166), .val (.ref b168), .val (.int (own_i9 (own_st (own_st 0 (own_cl c0)) (own_cl c1)))), .unset] [])) (fun t k => XS.icmpNo X176.here hx rfl (hb hby at_116) rfl (tlt (by decide)).2.2.2 k) ?_
    refine own_by (T' := T176) (f' := (mkF m 121 #[.val (.int i0), .val (.int i1), .val (.int i2), .val (.int i3), .val (.int i4), .val (.int i5), .val (.int (6 : Int32)), .val (.int c0), .val (.int c1), .val (.int c2), .val (.int c3), .val (.int c4), .val (.int c5), .val (.ref b166), .val (.ref b168), .val (.int (own_i9 (own_st (own_st 0 (own_cl c0)) (own_cl c1)))), .unset] [(.int (own_i9 (own_st (own_st 0 (own_cl c0)) (own_cl c1))))])) (fun t k => XS.iload X176.here hx rfl (hb hby at_119) rfl k) ?_
    refine own_by (T' := T176) (f' := (mkF m 123 #[.val (.int i0), .val (.int i1), .val (.int i2), .val (.int i3), .val (.int i4), .val (.int i5), .val (.int (6 : Int32)), .val (.int c0), .val (.int c1), .val (.int c2), .val (.int c3), .val (.int c4), .val (.int c5), .val (.ref b166), .val (.ref b168), .val (.int (own_i9 (own_st (own_st 0 (own_cl c0)) (own_cl c1)))), .unset] [(.int c2), (.int (own_i9 (own_st (own_st 0 (own_cl c0)) (own_cl c1))))])) (fun t k => XS.iload X176.here hx rfl (hb hby at_121) rfl k) ?_
    refine own_callS X176 hx hZ hown e176 (hb hby at_123) [(.int (own_i9 (own_st (own_st 0 (own_cl c0)) (own_cl c1)))), (.int c2)] [] 0 (rmSP l Z a0 hw [] (own_i9 (own_st (own_st 0 (own_cl c0)) (own_cl c1))) c2 (own_st (own_st 0 (own_cl c0)) (own_cl c1)) T173.heap rfl (own_st9 _ _)) (own_w hw 65 rfl) (own_w hw 66 rfl) (own_w hw 6 rfl) (own_w hw 67 rfl) (by decide) pd__IC_I (by rw [hml]; rfl) rfl rfl (Nat.le_of_eq rfl) (by decide) (by decide) (by decide) (by decide) ?_
    rintro T177 _ L177 X177 ⟨rfl, rfl, e177⟩
    show own_Go p e below _ T177 (mkF m 126 #[.val (.int i0), .val (.int i1), .val (.int i2), .val (.int i3), .val (.int i4), .val (.int i5), .val (.int (6 : Int32)), .val (.int c0), .val (.int c1), .val (.int c2), .val (.int c3), .val (.int c4), .val (.int c5), .val (.ref b166), .val (.ref b168), .val (.int (own_i9 (own_st (own_st 0 (own_cl c0)) (own_cl c1)))), .unset] [(.int (own_i9 (own_st (own_st (own_st 0 (own_cl c0)) (own_cl c1)) (own_cl c2))))])
    rw [List.append_nil] at X177
    refine own_by (T' := T177) (f' := (mkF m 128 #[.val (.int i0), .val (.int i1), .val (.int i2), .val (.int i3), .val (.int i4), .val (.int i5), .val (.int (6 : Int32)), .val (.int c0), .val (.int c1), .val (.int c2), .val (.int c3), .val (.int c4), .val (.int c5), .val (.ref b166), .val (.ref b168), .val (.int (own_i9 (own_st (own_st (own_st 0 (own_cl c0)) (own_cl c1)) (own_cl c2)))), .unset] [])) (fun t k => XS.istore X177.here hx rfl (hb hby at_126) rfl (l' := #[.val (.int i0), .val (.int i1), .val (.int i2), .val (.int i3), .val (.int i4), .val (.int i5), .val (.int (6 : Int32)), .val (.int c0), .val (.int c1), .val (.int c2), .val (.int c3), .val (.int c4), .val (.int c5), .val (.ref b166), .val (.ref b168), .val (.int (own_i9 (own_st (own_st (own_st 0 (own_cl c0)) (own_cl c1)) (own_cl c2)))), .unset]) rfl k) ?_
    refine own_by (T' := T177) (f' := (mkF m 130 #[.val (.int i0), .val (.int i1), .val (.int i2), .val (.int i3), .val (.int i4), .val (.int i5), .val (.int (6 : Int32)), .val (.int c0), .val (.int c1), .val (.int c2), .val (.int c3), .val (.int c4), .val (.int c5), .val (.ref b166), .val (.ref b168), .val (.int (own_i9 (own_st (own_st (own_st 0 (own_cl c0)) (own_cl c1)) (own_cl c2)))), .unset] [(.int (6 : Int32))])) (fun t k => XS.iload X177.here hx rfl (hb hby at_128) rfl k) ?_
    refine own_by (T' := T177) (f' := (mkF m 131 #[.val (.int i0), .val (.int i1), .val (.int i2), .val (.int i3), .val (.int i4), .val (.int i5), .val (.int (6 : Int32)), .val (.int c0), .val (.int c1), .val (.int c2), .val (.int c3), .val (.int c4), .val (.int c5), .val (.ref b166), .val (.ref b168), .val (.int (own_i9 (own_st (own_st (own_st 0 (own_cl c0)) (own_cl c1)) (own_cl c2)))), .unset] [(.int (3 : Int32)), (.int (6 : Int32))])) (fun t k => XS.iconst X177.here hx rfl (hb hby at_130) k) ?_
    refine own_by (T' := T177) (f' := (mkF m 134 #[.val (.int i0), .val (.int i1), .val (.int i2), .val (.int i3), .val (.int i4), .val (.int i5), .val (.int (6 : Int32)), .val (.int c0), .val (.int c1), .val (.int c2), .val (.int c3), .val (.int c4), .val (.int c5), .val (.ref b166), .val (.ref b168), .val (.int (own_i9 (own_st (own_st (own_st 0 (own_cl c0)) (own_cl c1)) (own_cl c2)))), .unset] [])) (fun t k => XS.icmpNo X177.here hx rfl (hb hby at_131) rfl (tlt (by decide)).2.2.2 k) ?_
    refine own_by (T' := T177) (f' := (mkF m 136 #[.val (.int i0), .val (.int i1), .val (.int i2), .val (.int i3), .val (.int i4), .val (.int i5), .val (.int (6 : Int32)), .val (.int c0), .val (.int c1), .val (.int c2), .val (.int c3), .val (.int c4), .val (.int c5), .val (.ref b166), .val (.ref b168), .val (.int (own_i9 (own_st (own_st (own_st 0 (own_cl c0)) (own_cl c1)) (own_cl c2)))), .unset] [(.int (own_i9 (own_st (own_st (own_st 0 (own_cl c0)) (own_cl c1)) (own_cl c2))))])) (fun t k => XS.iload X177.here hx rfl (hb hby at_134) rfl k) ?_
    refine own_by (T' := T177) (f' := (mkF m 138 #[.val (.int i0), .val (.int i1), .val (.int i2), .val (.int i3), .val (.int i4), .val (.int i5), .val (.int (6 : Int32)), .val (.int c0), .val (.int c1), .val (.int c2), .val (.int c3), .val (.int c4), .val (.int c5), .val (.ref b166), .val (.ref b168), .val (.int (own_i9 (own_st (own_st (own_st 0 (own_cl c0)) (own_cl c1)) (own_cl c2)))), .unset] [(.int c3), (.int (own_i9 (own_st (own_st (own_st 0 (own_cl c0)) (own_cl c1)) (own_cl c2))))])) (fun t k => XS.iload X177.here hx rfl (hb hby at_136) rfl k) ?_
    refine own_callS X177 hx hZ hown e177 (hb hby at_138) [(.int (own_i9 (own_st (own_st (own_st 0 (own_cl c0)) (own_cl c1)) (own_cl c2)))), (.int c3)] [] 0 (rmSP l Z a0 hw [] (own_i9 (own_st (own_st (own_st 0 (own_cl c0)) (own_cl c1)) (own_cl c2))) c3 (own_st (own_st (own_st 0 (own_cl c0)) (own_cl c1)) (own_cl c2)) T173.heap rfl (own_st9 _ _)) (own_w hw 65 rfl) (own_w hw 66 rfl) (own_w hw 6 rfl) (own_w hw 67 rfl) (by decide) pd__IC_I (by rw [hml]; rfl) rfl rfl (Nat.le_of_eq rfl) (by decide) (by decide) (by decide) (by decide) ?_
    rintro T178 _ L178 X178 ⟨rfl, rfl, e178⟩
    show own_Go p e below _ T178 (mkF m 141 #[.val (.int i0), .val (.int i1), .val (.int i2), .val (.int i3), .val (.int i4), .val (.int i5), .val (.int (6 : Int32)), .val (.int c0), .val (.int c1), .val (.int c2), .val (.int c3), .val (.int c4), .val (.int c5), .val (.ref b166), .val (.ref b168), .val (.int (own_i9 (own_st (own_st (own_st 0 (own_cl c0)) (own_cl c1)) (own_cl c2)))), .unset] [(.int (own_i9 (own_st (own_st (own_st (own_st 0 (own_cl c0)) (own_cl c1)) (own_cl c2)) (own_cl c3))))])
    rw [List.append_nil] at X178
    refine own_by (T' := T178) (f' := (mkF m 143 #[.val (.int i0), .val (.int i1), .val (.int i2), .val (.int i3), .val (.int i4), .val (.int i5), .val (.int (6 : Int32)), .val (.int c0), .val (.int c1), .val (.int c2), .val (.int c3), .val (.int c4), .val (.int c5), .val (.ref b166), .val (.ref b168), .val (.int (own_i9 (own_st (own_st (own_st (own_st 0 (own_cl c0)) (own_cl c1)) (own_cl c2)) (own_cl c3)))), .unset] [])) (fun t k => XS.istore X178.here hx rfl (hb hby at_141) rfl (l' := #[.val (.int i0), .val (.int i1), .val (.int i2), .val (.int i3), .val (.int i4), .val (.int i5), .val (.int (6 : Int32)), .val (.int c0), .val (.int c1), .val (.int c2), .val (.int c3), .val (.int c4), .val (.int c5), .val (.ref b166), .val (.ref b168), .val (.int (own_i9 (own_st (own_st (own_st (own_st 0 (own_cl c0)) (own_cl c1)) (own_cl c2)) (own_cl c3)))), .unset]) rfl k) ?_
    refine own_by (T' := T178) (f' := (mkF m 145 #[.val (.int i0), .val (.int i1), .val (.int i2), .val (.int i3), .val (.int i4), .val (.int i5), .val (.int (6 : Int32)), .val (.int c0), .val (.int c1), .val (.int c2), .val (.int c3), .val (.int c4), .val (.int c5), .val (.ref b166), .val (.ref b168), .val (.int (own_i9 (own_st (own_st (own_st (own_st 0 (own_cl c0)) (own_cl c1)) (own_cl c2)) (own_cl c3)))), .unset] [(.int (6 : Int32))])) (fun t k => XS.iload X178.here hx rfl (hb hby at_143) rfl k) ?_
    refine own_by (T' := T178) (f' := (mkF m 146 #[.val (.int i0), .val (.int i1), .val (.int i2), .val (.int i3), .val (.int i4), .val (.int i5), .val (.int (6 : Int32)), .val (.int c0), .val (.int c1), .val (.int c2), .val (.int c3), .val (.int c4), .val (.int c5), .val (.ref b166), .val (.ref b168), .val (.int (own_i9 (own_st (own_st (own_st (own_st 0 (own_cl c0)) (own_cl c1)) (own_cl c2)) (own_cl c3)))), .unset] [(.int (4 : Int32)), (.int (6 : Int32))])) (fun t k => XS.iconst X178.here hx rfl (hb hby at_145) k) ?_
    refine own_by (T' := T178) (f' := (mkF m 149 #[.val (.int i0), .val (.int i1), .val (.int i2), .val (.int i3), .val (.int i4), .val (.int i5), .val (.int (6 : Int32)), .val (.int c0), .val (.int c1), .val (.int c2), .val (.int c3), .val (.int c4), .val (.int c5), .val (.ref b166), .val (.ref b168), .val (.int (own_i9 (own_st (own_st (own_st (own_st 0 (own_cl c0)) (own_cl c1)) (own_cl c2)) (own_cl c3)))), .unset] [])) (fun t k => XS.icmpNo X178.here hx rfl (hb hby at_146) rfl (tlt (by decide)).2.2.2 k) ?_
    refine own_by (T' := T178) (f' := (mkF m 151 #[.val (.int i0), .val (.int i1), .val (.int i2), .val (.int i3), .val (.int i4), .val (.int i5), .val (.int (6 : Int32)), .val (.int c0), .val (.int c1), .val (.int c2), .val (.int c3), .val (.int c4), .val (.int c5), .val (.ref b166), .val (.ref b168), .val (.int (own_i9 (own_st (own_st (own_st (own_st 0 (own_cl c0)) (own_cl c1)) (own_cl c2)) (own_cl c3)))), .unset] [(.int (own_i9 (own_st (own_st (own_st (own_st 0 (own_cl c0)) (own_cl c1)) (own_cl c2)) (own_cl c3))))])) (fun t k => XS.iload X178.here hx rfl (hb hby at_149) rfl k) ?_
    refine own_by (T' := T178) (f' := (mkF m 153 #[.val (.int i0), .val (.int i1), .val (.int i2), .val (.int i3), .val (.int i4), .val (.int i5), .val (.int (6 : Int32)), .val (.int c0), .val (.int c1), .val (.int c2), .val (.int c3), .val (.int c4), .val (.int c5), .val (.ref b166), .val (.ref b168), .val (.int (own_i9 (own_st (own_st (own_st (own_st 0 (own_cl c0)) (own_cl c1)) (own_cl c2)) (own_cl c3)))), .unset] [(.int c4), (.int (own_i9 (own_st (own_st (own_st (own_st 0 (own_cl c0)) (own_cl c1)) (own_cl c2)) (own_cl c3))))])) (fun t k => XS.iload X178.here hx rfl (hb hby at_151) rfl k) ?_
    refine own_callS X178 hx hZ hown e178 (hb hby at_153) [(.int (own_i9 (own_st (own_st (own_st (own_st 0 (own_cl c0)) (own_cl c1)) (own_cl c2)) (own_cl c3)))), (.int c4)] [] 0 (rmSP l Z a0 hw [] (own_i9 (own_st (own_st (own_st (own_st 0 (own_cl c0)) (own_cl c1)) (own_cl c2)) (own_cl c3))) c4 (own_st (own_st (own_st (own_st 0 (own_cl c0)) (own_cl c1)) (own_cl c2)) (own_cl c3)) T173.heap rfl (own_st9 _ _)) (own_w hw 65 rfl) (own_w hw 66 rfl) (own_w hw 6 rfl) (own_w hw 67 rfl) (by decide) pd__IC_I (by rw [hml]; rfl) rfl rfl (Nat.le_of_eq rfl) (by decide) (by decide) (by decide) (by decide) ?_
    rintro T179 _ L179 X179 ⟨rfl, rfl, e179⟩
    show own_Go p e below _ T179 (mkF m 156 #[.val (.int i0), .val (.int i1), .val (.int i2), .val (.int i3), .val (.int i4), .val (.int i5), .val (.int (6 : Int32)), .val (.int c0), .val (.int c1), .val (.int c2), .val (.int c3), .val (.int c4), .val (.int c5), .val (.ref b166), .val (.ref b168), .val (.int (own_i9 (own_st (own_st (own_st (own_st 0 (own_cl c0)) (own_cl c1)) (own_cl c2)) (own_cl c3)))), .unset] [(.int (own_i9 (own_st (own_st (own_st (own_st (own_st 0 (own_cl c0)) (own_cl c1)) (own_cl c2)) (own_cl c3)) (own_cl c4))))])
    rw [List.append_nil] at X179
    refine own_by (T' := T179) (f' := (mkF m 158 #[.val (.int i0), .val (.int i1), .val (.int i2), .val (.int i3), .val (.int i4), .val (.int i5), .val (.int (6 : Int32)), .val (.int c0), .val (.int c1), .val (.int c2), .val (.int c3), .val (.int c4), .val (.int c5), .val (.ref b166), .val (.ref b168), .val (.int (own_i9 (own_st (own_st (own_st (own_st (own_st 0 (own_cl c0)) (own_cl c1)) (own_cl c2)) (own_cl c3)) (own_cl c4)))), .unset] [])) (fun t k => XS.istore X179.here hx rfl (hb hby at_156) rfl (l' := #[.val (.int i0), .val (.int i1), .val (.int i2), .val (.int i3), .val (.int i4), .val (.int i5), .val (.int (6 : Int32)), .val (.int c0), .val (.int c1), .val (.int c2), .val (.int c3), .val (.int c4), .val (.int c5), .val (.ref b166), .val (.ref b168), .val (.int (own_i9 (own_st (own_st (own_st (own_st (own_st 0 (own_cl c0)) (own_cl c1)) (own_cl c2)) (own_cl c3)) (own_cl c4)))), .unset]) rfl k) ?_
    refine own_by (T' := T179) (f' := (mkF m 160 #[.val (.int i0), .val (.int i1), .val (.int i2), .val (.int i3), .val (.int i4), .val (.int i5), .val (.int (6 : Int32)), .val (.int c0), .val (.int c1), .val (.int c2), .val (.int c3), .val (.int c4), .val (.int c5), .val (.ref b166), .val (.ref b168), .val (.int (own_i9 (own_st (own_st (own_st (own_st (own_st 0 (own_cl c0)) (own_cl c1)) (own_cl c2)) (own_cl c3)) (own_cl c4)))), .unset] [(.int (6 : Int32))])) (fun t k => XS.iload X179.here hx rfl (hb hby at_158) rfl k) ?_
    refine own_by (T' := T179) (f' := (mkF m 161 #[.val (.int i0), .val (.int i1), .val (.int i2), .val (.int i3), .val (.int i4), .val (.int i5), .val (.int (6 : Int32)), .val (.int c0), .val (.int c1), .val (.int c2), .val (.int c3), .val (.int c4), .val (.int c5), .val (.ref b166), .val (.ref b168), .val (.int (own_i9 (own_st (own_st (own_st (own_st (own_st 0 (own_cl c0)) (own_cl c1)) (own_cl c2)) (own_cl c3)) (own_cl c4)))), .unset] [(.int (5 : Int32)), (.int (6 : Int32))])) (fun t k => XS.iconst X179.here hx rfl (hb hby at_160) k) ?_
    refine own_by (T' := T179) (f' := (mkF m 164 #[.val (.int i0), .val (.int i1), .val (.int i2), .val (.int i3), .val (.int i4), .val (.int i5), .val (.int (6 : Int32)), .val (.int c0), .val (.int c1), .val (.int c2), .val (.int c3), .val (.int c4), .val (.int c5), .val (.ref b166), .val (.ref b168), .val (.int (own_i9 (own_st (own_st (own_st (own_st (own_st 0 (own_cl c0)) (own_cl c1)) (own_cl c2)) (own_cl c3)) (own_cl c4)))), .unset] [])) (fun t k => XS.icmpNo X179.here hx rfl (hb hby at_161) rfl (tlt (by decide)).2.2.2 k) ?_
    refine own_by (T' := T179) (f' := (mkF m 166 #[.val (.int i0), .val (.int i1), .val (.int i2), .val (.int i3), .val (.int i4), .val (.int i5), .val (.int (6 : Int32)), .val (.int c0), .val (.int c1), .val (.int c2), .val (.int c3), .val (.int c4), .val (.int c5), .val (.ref b166), .val (.ref b168), .val (.int (own_i9 (own_st (own_st (own_st (own_st (own_st 0 (own_cl c0)) (own_cl c1)) (own_cl c2)) (own_cl c3)) (own_cl c4)))), .unset] [(.int (own_i9 (own_st (own_st (own_st (own_st (own_st 0 (own_cl c0)) (own_cl c1)) (own_cl c2)) (own_cl c3)) (own_cl c4))))])) (fun t k => XS.iload X179.here hx rfl (hb hby at_164) rfl k) ?_
    refine own_by (T' := T179) (f' := (mkF m 168 #[.val (.int i0), .val (.int i1), .val (.int i2), .val (.int i3), .val (.int i4), .val (.int i5), .val (.int (6 : Int32)), .val (.int c0), .val (.int c1), .val (.int c2), .val (.int c3), .val (.int c4), .val (.int c5), .val (.ref b166), .val (.ref b168), .val (.int (own_i9 (own_st (own_st (own_st (own_st (own_st 0 (own_cl c0)) (own_cl c1)) (own_cl c2)) (own_cl c3)) (own_cl c4)))), .unset] [(.int c5), (.int (own_i9 (own_st (own_st (own_st (own_st (own_st 0 (own_cl c0)) (own_cl c1)) (own_cl c2)) (own_cl c3)) (own_cl c4))))])) (fun t k => XS.iload X179.here hx rfl (hb hby at_166) rfl k) ?_
    refine own_callS X179 hx hZ hown e179 (hb hby at_168) [(.int (own_i9 (own_st (own_st (own_st (own_st (own_st 0 (own_cl c0)) (own_cl c1)) (own_cl c2)) (own_cl c3)) (own_cl c4)))), (.int c5)] [] 0 (rmSP l Z a0 hw [] (own_i9 (own_st (own_st (own_st (own_st (own_st 0 (own_cl c0)) (own_cl c1)) (own_cl c2)) (own_cl c3)) (own_cl c4))) c5 (own_st (own_st (own_st (own_st (own_st 0 (own_cl c0)) (own_cl c1)) (own_cl c2)) (own_cl c3)) (own_cl c4)) T173.heap rfl (own_st9 _ _)) (own_w hw 65 rfl) (own_w hw 66 rfl) (own_w hw 6 rfl) (own_w hw 67 rfl) (by decide) pd__IC_I (by rw [hml]; rfl) rfl rfl (Nat.le_of_eq rfl) (by decide) (by decide) (by decide) (by decide) ?_
    rintro T180 _ L180 X180 ⟨rfl, rfl, e180⟩
    show own_Go p e below _ T180 (mkF m 171 #[.val (.int i0), .val (.int i1), .val (.int i2), .val (.int i3), .val (.int i4), .val (.int i5), .val (.int (6 : Int32)), .val (.int c0), .val (.int c1), .val (.int c2), .val (.int c3), .val (.int c4), .val (.int c5), .val (.ref b166), .val (.ref b168), .val (.int (own_i9 (own_st (own_st (own_st (own_st (own_st 0 (own_cl c0)) (own_cl c1)) (own_cl c2)) (own_cl c3)) (own_cl c4)))), .unset] [(.int (own_i9 (own_st (own_st (own_st (own_st (own_st (own_st 0 (own_cl c0)) (own_cl c1)) (own_cl c2)) (own_cl c3)) (own_cl c4)) (own_cl c5))))])
    rw [List.append_nil] at X180
    refine own_by (T' := T180) (f' := (mkF m 173 #[.val (.int i0), .val (.int i1), .val (.int i2), .val (.int i3), .val (.int i4), .val (.int i5), .val (.int (6 : Int32)), .val (.int c0), .val (.int c1), .val (.int c2), .val (.int c3), .val (.int c4), .val (.int c5), .val (.ref b166), .val (.ref b168), .val (.int (own_i9 (own_st (own_st (own_st (own_st (own_st (own_st 0 (own_cl c0)) (own_cl c1)) (own_cl c2)) (own_cl c3)) (own_cl c4)) (own_cl c5)))), .unset] [])) (fun t k => XS.istore X180.here hx rfl (hb hby at_171) rfl (l' := #[.val (.int i0), .val (.int i1), .val (.int i2), .val (.int i3), .val (.int i4), .val (.int i5), .val (.int (6 : Int32)), .val (.int c0), .val (.int c1), .val (.int c2), .val (.int c3), .val (.int c4), .val (.int c5), .val (.ref b166), .val (.ref b168), .val (.int (own_i9 (own_st (own_st (own_st (own_st (own_st (own_st 0 (own_cl c0)) (own_cl c1)) (own_cl c2)) (own_cl c3)) (own_cl c4)) (own_cl c5)))), .unset]) rfl k) ?_
    refine own_by (T' := T180) (f' := (mkF m 175 #[.val (.int i0), .val (.int i1), .val (.int i2), .val (.int i3), .val (.int i4), .val (.int i5), .val (.int (6 : Int32)), .val (.int c0), .val (.int c1), .val (.int c2), .val (.int c3), .val (.int c4), .val (.int c5), .val (.ref b166), .val (.ref b168), .val (.int (own_i9 (own_st (own_st (own_st (own_st (own_st (own_st 0 (own_cl c0)) (own_cl c1)) (own_cl c2)) (own_cl c3)) (own_cl c4)) (own_cl c5)))), .unset] [(.int (own_i9 (own_st (own_st (own_st (own_st (own_st (own_st 0 (own_cl c0)) (own_cl c1)) (own_cl c2)) (own_cl c3)) (own_cl c4)) (own_cl c5))))])) (fun t k => XS.iload X180.here hx rfl (hb hby at_173) rfl k) ?_
    refine own_by (T' := T180) (f' := (mkF m 176 #[.val (.int i0), .val (.int i1), .val (.int i2), .val (.int i3), .val (.int i4), .val (.int i5), .val (.int (6 : Int32)), .val (.int c0), .val (.int c1), .val (.int c2), .val (.int c3), .val (.int c4), .val (.int c5), .val (.ref b166), .val (.ref b168), .val (.int (own_i9 (own_st (own_st (own_st (own_st (own_st (own_st 0 (own_cl c0)) (own_cl c1)) (own_cl c2)) (own_cl c3)) (own_cl c4)) (own_cl c5)))), .unset] [(.int (2 : Int32)), (.int (own_i9 (own_st (own_st (own_st (own_st (own_st (own_st 0 (own_cl c0)) (own_cl c1)) (own_cl c2)) (own_cl c3)) (own_cl c4)) (own_cl c5))))])) (fun t k => XS.iconst X180.here hx rfl (hb hby at_175) k) ?_
    have mg184 : ∀ t, Steps p.tables e below (T180.setTop (mkF m 197 #[.val (.int i0), .val (.int i1), .val (.int i2), .val (.int i3), .val (.int i4), .val (.int i5), .val (.int (6 : Int32)), .val (.int c0), .val (.int c1), .val (.int c2), .val (.int c3), .val (.int c4), .val (.int c5), .val (.ref b166), .val (.ref b168), .val (.int (own_i9 (own_st (own_st (own_st (own_st (own_st (own_st 0 (own_cl c0)) (own_cl c1)) (own_cl c2)) (own_cl c3)) (own_cl c4)) (own_cl c5)))), .unset] [(.int (if (own_i9 (own_st (own_st (own_st (own_st (own_st (own_st 0 (own_cl c0)) (own_cl c1)) (own_cl c2)) (own_cl c3)) (own_cl c4)) (own_cl c5))) = (2 : Int32) then (1 : Int32) else (if (own_i9 (own_st (own_st (own_st (own_st (own_st (own_st 0 (own_cl c0)) (own_cl c1)) (own_cl c2)) (own_cl c3)) (own_cl c4)) (own_cl c5))) = (4 : Int32) then (1 : Int32) else (if (own_i9 (own_st (own_st (own_st (own_st (own_st (own_st 0 (own_cl c0)) (own_cl c1)) (own_cl c2)) (own_cl c3)) (own_cl c4)) (own_cl c5))) = (7 : Int32) then (1 : Int32) else (0 : Int32)))))])) t → Steps p.tables e below (T180.setTop (mkF m 176 #[.val (.int i0), .val (.int i1), .val (.int i2), .val (.int i3), .val (.int i4), .val (.int i5), .val (.int (6 : Int32)), .val (.int c0), .val (.int c1), .val (.int c2), .val (.int c3), .val (.int c4), .val (.int c5), .val (.ref b166), .val (.ref b168), .val (.int (own_i9 (own_st (own_st (own_st (own_st (own_st (own_st 0 (own_cl c0)) (own_cl c1)) (own_cl c2)) (own_cl c3)) (own_cl c4)) (own_cl c5)))), .unset] [(.int (2 : Int32)), (.int (own_i9 (own_st (own_st (own_st (own_st (own_st (own_st 0 (own_cl c0)) (own_cl c1)) (own_cl c2)) (own_cl c3)) (own_cl c4)) (own_cl c5))))])) t := by
      intro t k0
      by_cases hm181 : (own_i9 (own_st (own_st (own_st (own_st (own_st (own_st 0 (own_cl c0)) (own_cl c1)) (own_cl c2)) (own_cl c3)) (own_cl c4)) (own_cl c5))) = (2 : Int32)
      · skip
        refine XS.icmpYes X180.here hx rfl (pc0 := 176) (pc' := 192) rfl (hb hby at_176) rfl (teq hm181).1 (by decide) (by decide) ?_
        show Steps p.tables e below (T180.setTop (mkF m 192 #[.val (.int i0), .val (.int i1), .val (.int i2), .val (.int i3), .val (.int i4), .val (.int i5), .val (.int (6 : Int32)), .val (.int c0), .val (.int c1), .val (.int c2), .val (.int c3), .val (.int c4), .val (.int c5), .val (.ref b166), .val (.ref b168), .val (.int (own_i9 (own_st (own_st (own_st (own_st (own_st (own_st 0 (own_cl c0)) (own_cl c1)) (own_cl c2)) (own_cl c3)) (own_cl c4)) (own_cl c5)))), .unset] [])) _
        refine XS.iconst X180.here hx rfl (hb hby at_192) ?_
        show Steps p.tables e below (T180.setTop (mkF m 193 #[.val (.int i0), .val (.int i1), .val (.int i2), .val (.int i3), .val (.int i4), .val (.int i5), .val (.int (6 : Int32)), .val (.int c0), .val (.int c1), .val (.int c2), .val (.int c3), .val (.int c4), .val (.int c5), .val (.ref b166), .val (.ref b168), .val (.int (own_i9 (own_st (own_st (own_st (own_st (own_st (own_st 0 (own_cl c0)) (own_cl c1)) (own_cl c2)) (own_cl c3)) (own_cl c4)) (own_cl c5)))), .unset] [(.int (1 : Int32))])) _
        refine XS.goto X180.here hx rfl (pc0 := 193) (pc' := 197) rfl (hb hby at_193) (by decide) (by decide) ?_
        show Steps p.tables e below (T180.setTop (mkF m 197 #[.val (.int i0), .val (.int i1), .val (.int i2), .val (.int i3), .val (.int i4), .val (.int i5), .val (.int (6 : Int32)), .val (.int c0), .val (.int c1), .val (.int c2), .val (.int c3), .val (.int c4), .val (.int c5), .val (.ref b166), .val (.ref b168), .val (.int (own_i9 (own_st (own_st (own_st (own_st (own_st (own_st 0 (own_cl c0)) (own_cl c1)) (own_cl c2)) (own_cl c3)) (own_cl c4)) (own_cl c5)))), .unset] [(.int (1 : Int32))])) _
        try simp only [if_pos hm181] at k0
        exact k0
      · skip
        refine XS.icmpNo X180.here hx rfl (hb hby at_176) rfl (feq hm181).1 ?_
        show Steps p.tables e below (T180.setTop (mkF m 179 #[.val (.int i0), .val (.int i1), .val (.int i2), .val (.int i3), .val (.int i4), .val (.int i5), .val (.int (6 : Int32)), .val (.int c0), .val (.int c1), .val (.int c2), .val (.int c3), .val (.int c4), .val (.int c5), .val (.ref b166), .val (.ref b168), .val (.int (own_i9 (own_st (own_st (own_st (own_st (own_st (own_st 0 (own_cl c0)) (own_cl c1)) (own_cl c2)) (own_cl c3)) (own_cl c4)) (own_cl c5)))), .unset] [])) _
        refine XS.iload X180.here hx rfl (hb hby at_179) rfl ?_
        show Steps p.tables e below (T180.setTop (mkF m 181 #[.val (.int i0), .val (.int i1), .val (.int i2), .val (.int i3), .val (.int i4), .val (.int i5), .val (.int (6 : Int32)), .val (.int c0), .val (.int c1), .val (.int c2), .val (.int c3), .val (.int c4), .val (.int c5), .val (.ref b166), .val (.ref b168), .val (.int (own_i9 (own_st (own_st (own_st (own_st (own_st (own_st 0 (own_cl c0)) (own_cl c1)) (own_cl c2)) (own_cl c3)) (own_cl c4)) (own_cl c5)))), .unset] [(.int (own_i9 (own_st (own_st (own_st (own_st (own_st (own_st 0 (own_cl c0)) (own_cl c1)) (own_cl c2)) (own_cl c3)) (own_cl c4)) (own_cl c5))))])) _
        refine XS.iconst X180.here hx rfl (hb hby at_181) ?_
        show Steps p.tables e below (T180.setTop (mkF m 182 #[.val (.int i0), .val (.int i1), .val (.int i2), .val (.int i3), .val (.int i4), .val (.int i5), .val (.int (6 : Int32)), .val (.int c0), .val (.int c1), .val (.int c2), .val (.int c3), .val (.int c4), .val (.int c5), .val (.ref b166), .val (.ref b168), .val (.int (own_i9 (own_st (own_st (own_st (own_st (own_st (own_st 0 (own_cl c0)) (own_cl c1)) (own_cl c2)) (own_cl c3)) (own_cl c4)) (own_cl c5)))), .unset] [(.int (4 : Int32)), (.int (own_i9 (own_st (own_st (own_st (own_st (own_st (own_st 0 (own_cl c0)) (own_cl c1)) (own_cl c2)) (own_cl c3)) (own_cl c4)) (own_cl c5))))])) _
        by_cases hm182 : (own_i9 (own_st (own_st (own_st (own_st (own_st (own_st 0 (own_cl c0)) (own_cl c1)) (own_cl c2)) (own_cl c3)) (own_cl c4)) (own_cl c5))) = (4 : Int32)
        · skip
          refine XS.icmpYes X180.here hx rfl (pc0 := 182) (pc' := 192) rfl (hb hby at_182) rfl (teq hm182).1 (by decide) (by decide) ?_
          show Steps p.tables e below (T180.setTop (mkF m 192 #[.val (.int i0), .val (.int i1), .val (.int i2), .val (.int i3), .val (.int i4), .val (.int i5), .val (.int (6 : Int32)), .val (.int c0), .val (.int c1), .val (.int c2), .val (.int c3), .val (.int c4), .val (.int c5), .val (.ref b166), .val (.ref b168), .val (.int (own_i9 (own_st (own_st (own_st (own_st (own_st (own_st 0 (own_cl c0)) (own_cl c1)) (own_cl c2)) (own_cl c3)) (own_cl c4)) (own_cl c5)))), .unset] [])) _
          refine XS.iconst X180.here hx rfl (hb hby at_192) ?_
          show Steps p.tables e below (T180.setTop (mkF m 193 #[.val (.int i0), .val (.int i1), .val (.int i2), .val (.int i3), .val (.int i4), .val (.int i5), .val (.int (6 : Int32)), .val (.int c0), .val (.int c1), .val (.int c2), .val (.int c3), .val (.int c4), .val (.int c5), .val (.ref b166), .val (.ref b168), .val (.int (own_i9 (own_st (own_st (own_st (own_st (own_st (own_st 0 (own_cl c0)) (own_cl c1)) (own_cl c2)) (own_cl c3)) (own_cl c4)) (own_cl c5)))), .unset] [(.int (1 : Int32))])) _
          refine XS.goto X180.here hx rfl (pc0 := 193) (pc' := 197) rfl (hb hby at_193) (by decide) (by decide) ?_
          show Steps p.tables e below (T180.setTop (mkF m 197 #[.val (.int i0), .val (.int i1), .val (.int i2), .val (.int i3), .val (.int i4), .val (.int i5), .val (.int (6 : Int32)), .val (.int c0), .val (.int c1), .val (.int c2), .val (.int c3), .val (.int c4), .val (.int c5), .val (.ref b166), .val (.ref b168), .val (.int (own_i9 (own_st (own_st (own_st (own_st (own_st (own_st 0 (own_cl c0)) (own_cl c1)) (own_cl c2)) (own_cl c3)) (own_cl c4)) (own_cl c5)))), .unset] [(.int (1 : Int32))])) _
          try simp only [if_neg hm181, if_pos hm182] at k0
          exact k0
        · skip
          refine XS.icmpNo X180.here hx rfl (hb hby at_182) rfl (feq hm182).1 ?_
          show Steps p.tables e below (T180.setTop (mkF m 185 #[.val (.int i0), .val (.int i1), .val (.int i2), .val (.int i3), .val (.int i4), .val (.int i5), .val (.int (6 : Int32)), .val (.int c0), .val (.int c1), .val (.int c2), .val (.int c3), .val (.int c4), .val (.int c5), .val (.ref b166), .val (.ref b168), .val (.int (own_i9 (own_st (own_st (own_st (own_st (own_st (own_st 0 (own_cl c0)) (own_cl c1)) (own_cl c2)) (own_cl c3)) (own_cl c4)) (own_cl c5)))), .unset] [])) _
          refine XS.iload X180.here hx rfl (hb hby at_185) rfl ?_
          show Steps p.tables e below (T180.setTop (mkF m 187 #[.val (.int i0), .val (.int i1), .val (.int i2), .val (.int i3), .val (.int i4), .val (.int i5), .val (.int (6 : Int32)), .val (.int c0), .val (.int c1), .val (.int c2), .val (.int c3), .val (.int c4), .val (.int c5), .val (.ref b166), .val (.ref b168), .val (.int (own_i9 (own_st (own_st (own_st (own_st (own_st (own_st 0 (own_cl c0)) (own_cl c1)) (own_cl c2)) (own_cl c3)) (own_cl c4)) (own_cl c5)))), .unset] [(.int (own_i9 (own_st (own_st (own_st (own_st (own_st (own_st 0 (own_cl c0)) (own_cl c1)) (own_cl c2)) (own_cl c3)) (own_cl c4)) (own_cl c5))))])) _
          refine XS.bipush X180.here hx rfl (hb hby at_187) ?_
          show Steps p.tables e below (T180.setTop (mkF m 189 #[.val (.int i0), .val (.int i1), .val (.int i2), .val (.int i3), .val (.int i4), .val (.int i5), .val (.int (6 : Int32)), .val (.int c0), .val (.int c1), .val (.int c2), .val (.int c3), .val (.int c4), .val (.int c5), .val (.ref b166), .val (.ref b168), .val (.int (own_i9 (own_st (own_st (own_st (own_st (own_st (own_st 0 (own_cl c0)) (own_cl c1)) (own_cl c2)) (own_cl c3)) (own_cl c4)) (own_cl c5)))), .unset] [(.int (7 : Int32)), (.int (own_i9 (own_st (own_st (own_st (own_st (own_st (own_st 0 (own_cl c0)) (own_cl c1)) (own_cl c2)) (own_cl c3)) (own_cl c4)) (own_cl c5))))])) _
          by_cases hm183 : (own_i9 (own_st (own_st (own_st (own_st (own_st (own_st 0 (own_cl c0)) (own_cl c1)) (own_cl c2)) (own_cl c3)) (own_cl c4)) (own_cl c5))) = (7 : Int32)
          · skip
            refine XS.icmpNo X180.here hx rfl (hb hby at_189) rfl (teq hm183).2 ?_
            show Steps p.tables e below (T180.setTop (mkF m 192 #[.val (.int i0), .val (.int i1), .val (.int i2), .val (.int i3), .val (.int i4), .val (.int i5), .val (.int (6 : Int32)), .val (.int c0), .val (.int c1), .val (.int c2), .val (.int c3), .val (.int c4), .val (.int c5), .val (.ref b166), .val (.ref b168), .val (.int (own_i9 (own_st (own_st (own_st (own_st (own_st (own_st 0 (own_cl c0)) (own_cl c1)) (own_cl c2)) (own_cl c3)) (own_cl c4)) (own_cl c5)))), .unset] [])) _
            refine XS.iconst X180.here hx rfl (hb hby at_192) ?_
            show Steps p.tables e below (T180.setTop (mkF m 193 #[.val (.int i0), .val (.int i1), .val (.int i2), .val (.int i3), .val (.int i4), .val (.int i5), .val (.int (6 : Int32)), .val (.int c0), .val (.int c1), .val (.int c2), .val (.int c3), .val (.int c4), .val (.int c5), .val (.ref b166), .val (.ref b168), .val (.int (own_i9 (own_st (own_st (own_st (own_st (own_st (own_st 0 (own_cl c0)) (own_cl c1)) (own_cl c2)) (own_cl c3)) (own_cl c4)) (own_cl c5)))), .unset] [(.int (1 : Int32))])) _
            refine XS.goto X180.here hx rfl (pc0 := 193) (pc' := 197) rfl (hb hby at_193) (by decide) (by decide) ?_
            show Steps p.tables e below (T180.setTop (mkF m 197 #[.val (.int i0), .val (.int i1), .val (.int i2), .val (.int i3), .val (.int i4), .val (.int i5), .val (.int (6 : Int32)), .val (.int c0), .val (.int c1), .val (.int c2), .val (.int c3), .val (.int c4), .val (.int c5), .val (.ref b166), .val (.ref b168), .val (.int (own_i9 (own_st (own_st (own_st (own_st (own_st (own_st 0 (own_cl c0)) (own_cl c1)) (own_cl c2)) (own_cl c3)) (own_cl c4)) (own_cl c5)))), .unset] [(.int (1 : Int32))])) _
            try simp only [if_neg hm181, if_neg hm182, if_pos hm183] at k0
            exact k0
          · skip
            refine XS.icmpYes X180.here hx rfl (pc0 := 189) (pc' := 196) rfl (hb hby at_189) rfl (feq hm183).2 (by decide) (by decide) ?_
            show Steps p.tables e below (T180.setTop (mkF m 196 #[.val (.int i0), .val (.int i1), .val (.int i2), .val (.int i3), .val (.int i4), .val (.int i5), .val (.int (6 : Int32)), .val (.int c0), .val (.int c1), .val (.int c2), .val (.int c3), .val (.int c4), .val (.int c5), .val (.ref b166), .val (.ref b168), .val (.int (own_i9 (own_st (own_st (own_st (own_st (own_st (own_st 0 (own_cl c0)) (own_cl c1)) (own_cl c2)) (own_cl c3)) (own_cl c4)) (own_cl c5)))), .unset] [])) _
            refine XS.iconst X180.here hx rfl (hb hby at_196) ?_
            show Steps p.tables e below (T180.setTop (mkF m 197 #[.val (.int i0), .val (.int i1), .val (.int i2), .val (.int i3), .val (.int i4), .val (.int i5), .val (.int (6 : Int32)), .val (.int c0), .val (.int c1), .val (.int c2), .val (.int c3), .val (.int c4), .val (.int c5), .val (.ref b166), .val (.ref b168), .val (.int (own_i9 (own_st (own_st (own_st (own_st (own_st (own_st 0 (own_cl c0)) (own_cl c1)) (own_cl c2)) (own_cl c3)) (own_cl c4)) (own_cl c5)))), .unset] [(.int (0 : Int32))])) _
            try simp only [if_neg hm181, if_neg hm182, if_neg hm183] at k0
            exact k0
    refine own_by mg184 ?_
    rw [show (if (own_i9 (own_st (own_st (own_st (own_st (own_st (own_st 0 (own_cl c0)) (own_cl c1)) (own_cl c2)) (own_cl c3)) (own_cl c4)) (own_cl c5))) = (2 : Int32) then (1 : Int32) else (if (own_i9 (own_st (own_st (own_st (own_st (own_st (own_st 0 (own_cl c0)) (own_cl c1)) (own_cl c2)) (own_cl c3)) (own_cl c4)) (own_cl c5))) = (4 : Int32) then (1 : Int32) else (if (own_i9 (own_st (own_st (own_st (own_st (own_st (own_st 0 (own_cl c0)) (own_cl c1)) (own_cl c2)) (own_cl c3)) (own_cl c4)) (own_cl c5))) = (7 : Int32) then (1 : Int32) else (0 : Int32)))) = own_acc (own_st (own_st (own_st (own_st (own_st (own_st 0 (own_cl c0)) (own_cl c1)) (own_cl c2)) (own_cl c3)) (own_cl c4)) (own_cl c5)) from own_acc_i (k := (own_st (own_st (own_st (own_st (own_st (own_st 0 (own_cl c0)) (own_cl c1)) (own_cl c2)) (own_cl c3)) (own_cl c4)) (own_cl c5))) (own_st9 _ _)]
    show own_Go p e below _ T180 (mkF m 197 #[.val (.int i0), .val (.int i1), .val (.int i2), .val (.int i3), .val (.int i4), .val (.int i5), .val (.int (6 : Int32)), .val (.int c0), .val (.int c1), .val (.int c2), .val (.int c3), .val (.int c4), .val (.int c5), .val (.ref b166), .val (.ref b168), .val (.int (own_i9 (own_st (own_st (own_st (own_st (own_st (own_st 0 (own_cl c0)) (own_cl c1)) (own_cl c2)) (own_cl c3)) (own_cl c4)) (own_cl c5)))), .unset] [(.int (own_acc (own_st (own_st (own_st (own_st (own_st (own_st 0 (own_cl c0)) (own_cl c1)) (own_cl c2)) (own_cl c3)) (own_cl c4)) (own_cl c5))))])
    refine own_by (T' := T180) (f' := (mkF m 199 #[.val (.int i0), .val (.int i1), .val (.int i2), .val (.int i3), .val (.int i4), .val (.int i5), .val (.int (6 : Int32)), .val (.int c0), .val (.int c1), .val (.int c2), .val (.int c3), .val (.int c4), .val (.int c5), .val (.ref b166), .val (.ref b168), .val (.int (own_i9 (own_st (own_st (own_st (own_st (own_st (own_st 0 (own_cl c0)) (own_cl c1)) (own_cl c2)) (own_cl c3)) (own_cl c4)) (own_cl c5)))), .val (.int (own_acc (own_st (own_st (own_st (own_st (own_st (own_st 0 (own_cl c0)) (own_cl c1)) (own_cl c2)) (own_cl c3)) (own_cl c4)) (own_cl c5))))] [])) (fun t k => XS.istore X180.here hx rfl (hb hby at_197) rfl (l' := #[.val (.int i0), .val (.int i1), .val (.int i2), .val (.int i3), .val (.int i4), .val (.int i5), .val (.int (6 : Int32)), .val (.int c0), .val (.int c1), .val (.int c2), .val (.int c3), .val (.int c4), .val (.int c5), .val (.ref b166), .val (.ref b168), .val (.int (own_i9 (own_st (own_st (own_st (own_st (own_st (own_st 0 (own_cl c0)) (own_cl c1)) (own_cl c2)) (own_cl c3)) (own_cl c4)) (own_cl c5)))), .val (.int (own_acc (own_st (own_st (own_st (own_st (own_st (own_st 0 (own_cl c0)) (own_cl c1)) (own_cl c2)) (own_cl c3)) (own_cl c4)) (own_cl c5))))]) rfl k) ?_
    refine own_by (T' := T180) (f' := (mkF m 201 #[.val (.int i0), .val (.int i1), .val (.int i2), .val (.int i3), .val (.int i4), .val (.int i5), .val (.int (6 : Int32)), .val (.int c0), .val (.int c1), .val (.int c2), .val (.int c3), .val (.int c4), .val (.int c5), .val (.ref b166), .val (.ref b168), .val (.int (own_i9 (own_st (own_st (own_st (own_st (own_st (own_st 0 (own_cl c0)) (own_cl c1)) (own_cl c2)) (own_cl c3)) (own_cl c4)) (own_cl c5)))), .val (.int (own_acc (own_st (own_st (own_st (own_st (own_st (own_st 0 (own_cl c0)) (own_cl c1)) (own_cl c2)) (own_cl c3)) (own_cl c4)) (own_cl c5))))] [(.ref b168)])) (fun t k => XS.aload X180.here hx rfl (hb hby at_199) rfl rfl k) ?_
    have f185 := (f172.keep K173 q170)
    refine own_callS X180 hx hZ hown e180 (hb hby at_201) [(.ref b168)] [] 0 (rmDE l Z a0 hw [] b168 (6 : Int32) 6 (fun i => List.getD [c0, c1, c2, c3, c4, c5] i 0) (fun i => List.getD [own_cl c0, own_cl c1, own_cl c2, own_cl c3, own_cl c4, own_cl c5] i 0) cs fm T173.heap (fun i hi => by match i, hi with | 0, _ => rfl | 1, _ => rfl | 2, _ => rfl | 3, _ => rfl | 4, _ => rfl | 5, _ => rfl | (q + 6), h => exact absurd h (by omega)) (by decide) (by decide) Q173 f185) (own_w hw 34 rfl) (own_w hw 35 rfl) (own_w hw 36 rfl) (own_w hw 37 rfl) (by decide) pd__Ljava_lang_String__Z (by rw [hml]; rfl) rfl rfl (Nat.le_of_eq rfl) (by decide) (by decide) (by decide) (by decide) ?_
    rintro T186 _ L186 X186 ⟨rfl, rfl, e186⟩
    show own_Go p e below _ T186 (mkF m 204 #[.val (.int i0), .val (.int i1), .val (.int i2), .val (.int i3), .val (.int i4), .val (.int i5), .val (.int (6 : Int32)), .val (.int c0), .val (.int c1), .val (.int c2), .val (.int c3), .val (.int c4), .val (.int c5), .val (.ref b166), .val (.ref b168), .val (.int (own_i9 (own_st (own_st (own_st (own_st (own_st (own_st 0 (own_cl c0)) (own_cl c1)) (own_cl c2)) (own_cl c3)) (own_cl c4)) (own_cl c5)))), .val (.int (own_acc (own_st (own_st (own_st (own_st (own_st (own_st 0 (own_cl c0)) (own_cl c1)) (own_cl c2)) (own_cl c3)) (own_cl c4)) (own_cl c5))))] [(.int (own_isDec (fun i => List.getD [own_cl c0, own_cl c1, own_cl c2, own_cl c3, own_cl c4, own_cl c5] i 0) 6))])
    rw [List.append_nil] at X186
    have hlw : own_isDec (fun i => List.getD [own_cl c0, own_cl c1, own_cl c2, own_cl c3, own_cl c4, own_cl c5] i 0) 6 = own_acc (own_st (own_st (own_st (own_st (own_st (own_st 0 (own_cl c0)) (own_cl c1)) (own_cl c2)) (own_cl c3)) (own_cl c4)) (own_cl c5)) := own_law6 ⟨own_cl c0, own_cl_lt c0⟩ ⟨own_cl c1, own_cl_lt c1⟩ ⟨own_cl c2, own_cl_lt c2⟩ ⟨own_cl c3, own_cl_lt c3⟩ ⟨own_cl c4, own_cl_lt c4⟩ ⟨own_cl c5, own_cl_lt c5⟩
    refine own_by (T' := T186) (f' := (mkF m 206 #[.val (.int i0), .val (.int i1), .val (.int i2), .val (.int i3), .val (.int i4), .val (.int i5), .val (.int (6 : Int32)), .val (.int c0), .val (.int c1), .val (.int c2), .val (.int c3), .val (.int c4), .val (.int c5), .val (.ref b166), .val (.ref b168), .val (.int (own_i9 (own_st (own_st (own_st (own_st (own_st (own_st 0 (own_cl c0)) (own_cl c1)) (own_cl c2)) (own_cl c3)) (own_cl c4)) (own_cl c5)))), .val (.int (own_acc (own_st (own_st (own_st (own_st (own_st (own_st 0 (own_cl c0)) (own_cl c1)) (own_cl c2)) (own_cl c3)) (own_cl c4)) (own_cl c5))))] [(.int (own_acc (own_st (own_st (own_st (own_st (own_st (own_st 0 (own_cl c0)) (own_cl c1)) (own_cl c2)) (own_cl c3)) (own_cl c4)) (own_cl c5)))), (.int (own_isDec (fun i => List.getD [own_cl c0, own_cl c1, own_cl c2, own_cl c3, own_cl c4, own_cl c5] i 0) 6))])) (fun t k => XS.iload X186.here hx rfl (hb hby at_204) rfl k) ?_
    have hc206_187 : (own_isDec (fun i => List.getD [own_cl c0, own_cl c1, own_cl c2, own_cl c3, own_cl c4, own_cl c5] i 0) 6) = (own_acc (own_st (own_st (own_st (own_st (own_st (own_st 0 (own_cl c0)) (own_cl c1)) (own_cl c2)) (own_cl c3)) (own_cl c4)) (own_cl c5))) := hlw
    refine own_by (T' := T186) (f' := (mkF m 209 #[.val (.int i0), .val (.int i1), .val (.int i2), .val (.int i3), .val (.int i4), .val (.int i5), .val (.int (6 : Int32)), .val (.int c0), .val (.int c1), .val (.int c2), .val (.int c3), .val (.int c4), .val (.int c5), .val (.ref b166), .val (.ref b168), .val (.int (own_i9 (own_st (own_st (own_st (own_st (own_st (own_st 0 (own_cl c0)) (own_cl c1)) (own_cl c2)) (own_cl c3)) (own_cl c4)) (own_cl c5)))), .val (.int (own_acc (own_st (own_st (own_st (own_st (own_st (own_st 0 (own_cl c0)) (own_cl c1)) (own_cl c2)) (own_cl c3)) (own_cl c4)) (own_cl c5))))] [])) (fun t k => XS.icmpNo X186.here hx rfl (hb hby at_206) rfl (teq hc206_187).2 k) ?_
    refine own_by (T' := T186) (f' := (mkF m 210 #[.val (.int i0), .val (.int i1), .val (.int i2), .val (.int i3), .val (.int i4), .val (.int i5), .val (.int (6 : Int32)), .val (.int c0), .val (.int c1), .val (.int c2), .val (.int c3), .val (.int c4), .val (.int c5), .val (.ref b166), .val (.ref b168), .val (.int (own_i9 (own_st (own_st (own_st (own_st (own_st (own_st 0 (own_cl c0)) (own_cl c1)) (own_cl c2)) (own_cl c3)) (own_cl c4)) (own_cl c5)))), .val (.int (own_acc (own_st (own_st (own_st (own_st (own_st (own_st 0 (own_cl c0)) (own_cl c1)) (own_cl c2)) (own_cl c3)) (own_cl c4)) (own_cl c5))))] [(.int (1 : Int32))])) (fun t k => XS.iconst X186.here hx rfl (hb hby at_209) k) ?_
    refine own_by (T' := T186) (f' := (mkF m 214 #[.val (.int i0), .val (.int i1), .val (.int i2), .val (.int i3), .val (.int i4), .val (.int i5), .val (.int (6 : Int32)), .val (.int c0), .val (.int c1), .val (.int c2), .val (.int c3), .val (.int c4), .val (.int c5), .val (.ref b166), .val (.ref b168), .val (.int (own_i9 (own_st (own_st (own_st (own_st (own_st (own_st 0 (own_cl c0)) (own_cl c1)) (own_cl c2)) (own_cl c3)) (own_cl c4)) (own_cl c5)))), .val (.int (own_acc (own_st (own_st (own_st (own_st (own_st (own_st 0 (own_cl c0)) (own_cl c1)) (own_cl c2)) (own_cl c3)) (own_cl c4)) (own_cl c5))))] [(.int (1 : Int32))])) (fun t k => XS.goto X186.here hx rfl (pc0 := 210) (pc' := 214) rfl (hb hby at_210) (by decide) (by decide) k) ?_
    refine own_retW X186 hx hret hlk hZ hEL hs0 e186 hS hk CH (hb hby at_214) rfl (Or.inl ⟨rfl, Or.inr (Or.inl rfl), _, rfl⟩) (by decide) (by decide) ?_
    try rw [e186]
    exact ⟨rfl, N173⟩
theorem own_eqv {args : Array Value} {first s : State} {o : Option Outcome} {idx : List Nat} {a b : Term} {k : Int32} (h : (Jvm.Cond.eq a b).value args first o s idx = some true) (hb : b.eval args first o idx s = some (.int k)) : a.eval args first o idx s = some (.int k) := by
  cases ha : a.eval args first o idx s with
  | none => simp [Cond.value, ha] at h
  | some x => cases x <;> simp [Cond.value, ha, hb] at h ⊢; exact h
theorem own_ncs {args : Array Value} {s : State} {t : Term} {cs : Int32} (ev : t.eval args s none [] s = some (.int cs)) (h5 : (Jvm.Cond.not (Jvm.Cond.eq t (Jvm.Term.int (0 : Int32)))).value args s none s [] = some true) : ¬ (cs = (0 : Int32)) := fun q => by
  have h6 := not_v h5
  rw [eq_i ev (Term.int_eval 0) (by rw [q])] at h6
  simp at h6
set_option maxRecDepth 65536 in
set_option maxHeartbeats 40000000 in
theorem comes_1 {Post : Tables → Env → Array Value → State → Outcome → State → Prop} (hpost : ∀ tb e args s v u, (limb_1_1.after args s (.returned v) u = true ∧ limb_1_2.after args s (.returned v) u = true ∧ True) → ReturnedEndW s (.returned v) u (Jvm.fieldLocs frame_1_writes args s ++ Jvm.arrayLocs frame_1_arrays args s ++ Jvm.staticLocs frame_1_statics s) 24 1152 → Post tb e args s (.returned v) u) :
    ArmFor flags0 classFile x code maxLocals ret World_1 tables_1 room_1 Calls_1 rest_1 Pre_1 Post := by
  intro l hfl _ _ p e ha hc hk s m args below hf hA hF happ hP
  obtain ⟨hcalls, hrest, hpre⟩ := hP
  obtain ⟨-, -, -, hnamed, -, -, -, hat⟩ := (Spec.applies_iff hf).mp happ
  obtain ⟨hg, hn⟩ := and_e (Cond.before_iff.mp (show (Jvm.Cond.and given_1 narrow_1).before args s = true from hpre))
  obtain ⟨gc, gr0⟩ := and_e hg
  obtain ⟨ga0, gr1⟩ := and_e gr0
  obtain ⟨ga1, gr2⟩ := and_e gr1
  obtain ⟨ga2, gr3⟩ := and_e gr2
  obtain ⟨ga3, gr4⟩ := and_e gr3
  obtain ⟨ga4, gr5⟩ := and_e gr4
  obtain ⟨w0, w1, w2, w3, w4, w5, rfl⟩ : ∃ w0 w1 w2 w3 w4 w5 : Value, args = #[w0, w1, w2, w3, w4, w5] := by
    have hs : args.size = 6 := by simpa [Cond.value, given_1] using gc
    obtain ⟨L⟩ := args
    match L, hs with
    | [w0, w1, w2, w3, w4, w5], _ => exact ⟨w0, w1, w2, w3, w4, w5, rfl⟩
  have hw := fun d (hd : d ∈ tables_1) => atoms_spec (ws := Jvm.Cond.code x code maxLocals ret :: tables_1) hat d (List.mem_cons_of_mem _ hd)
  have hfit : Fit s := fun {y c} hc i hi => by
    obtain ⟨ha, rfl⟩ := Array.getElem?_eq_some_iff.mp hc
    have q := List.all_eq_true.mp ((Array.all_eq_true_iff_forall_mem.mp hF) _ (Array.getElem_mem ha)) i (List.mem_range.mpr hi)
    simpa [Array.getElem?_eq_getElem hi] using q
  obtain ⟨i0, ei0⟩ := is_v ga0
  obtain rfl : w0 = (.int i0) := Option.some.inj ei0
  obtain ⟨i1, ei1⟩ := is_v ga1
  obtain rfl : w1 = (.int i1) := Option.some.inj ei1
  obtain ⟨i2, ei2⟩ := is_v ga2
  obtain rfl : w2 = (.int i2) := Option.some.inj ei2
  obtain ⟨i3, ei3⟩ := is_v ga3
  obtain rfl : w3 = (.int i3) := Option.some.inj ei3
  obtain ⟨i4, ei4⟩ := is_v ga4
  obtain rfl : w4 = (.int i4) := Option.some.inj ei4
  obtain ⟨i5, ei5⟩ := is_v gr5
  obtain rfl : w5 = (.int i5) := Option.some.inj ei5
  have hrc := Cond.before_iff.mp (show rest_1_c.before _ s = true from hrest)
  rw [rest_1_c_eq] at hrc
  obtain ⟨sq0, sr0⟩ := and_e hrc
  obtain ⟨sq1, sr1⟩ := and_e sr0
  obtain ⟨sq2, sr2⟩ := and_e sr1
  obtain ⟨sq3, sr3⟩ := and_e sr2
  obtain ⟨sq4, sr4⟩ := and_e sr3
  obtain ⟨sq5, sr5⟩ := and_e sr4
  obtain ⟨sq6, sr6⟩ := and_e sr5
  obtain ⟨sq7, sr7⟩ := and_e sr6
  obtain ⟨sq8, sr8⟩ := and_e sr7
  obtain ⟨sq9, sr9⟩ := and_e sr8
  obtain ⟨sq10, sr10⟩ := and_e sr9
  obtain ⟨sq11, sr11⟩ := and_e sr10
  obtain ⟨sq12, sr12⟩ := and_e sr11
  obtain ⟨sq13, sr13⟩ := and_e sr12
  obtain ⟨sq14, sr14⟩ := and_e sr13
  obtain ⟨sq15, sr15⟩ := and_e sr14
  obtain ⟨sq16, sr16⟩ := and_e sr15
  obtain ⟨sq17, sr17⟩ := and_e sr16
  obtain ⟨sq18, sr18⟩ := and_e sr17
  obtain ⟨cs, ev0⟩ := is_v sq1
  have st0 := Sta.start ev0 (Or.inl (Cond.before_iff.mpr sq0))
  have hcs := own_ncs ev0 sq2
  have hcw := Cond.before_iff.mpr sq2
  have st1 := Sta.start (own_eqv sq12 (Term.int_eval 1)) (Or.inl (Cond.before_iff.mpr sq11))
  have st2 := Sta.start (own_eqv sq15 (Term.int_eval 0)) (Or.inl (Cond.before_iff.mpr sq14))
  have st3 := Sta.start (own_eqv sq18 (Term.int_eval 8)) (Or.inl (Cond.before_iff.mpr sq17))
  obtain ⟨fm, ev4, hfm⟩ := isR_v sq8
  have st4 := Sta.start ev4 (Or.inl (Cond.before_iff.mpr sq7))
  have STT : own_St s s.heap cs fm := ⟨st0, st1, st2, st3, st4, hcs, hfm⟩
  have hCH : CHv s consts_1 s.vm s.heap := CHv.start (own_EW hw) (fun p hp => hcalls.1 p hp) hcw (own_w hw 27 rfl) (own_w hw 14 rfl)
  obtain ⟨n, o, h1, h2, h3, _, L, rfl, ⟨rfl, N⟩, -, hq⟩ := rm0 l s _ hw tables_1 i0 i1 i2 i3 i4 i5 cs fm s.heap s.heap.size (Nat.le_refl _) STT p e ha hc hk s m _ below hf ((Spec.applies_iff_loose hf).mp happ).1 ⟨rfl, State.Warmed39.refl s, rfl, hCH⟩ trivial
  refine ⟨n, _, h1, h2, h3, hpost _ _ _ _ _ _ ⟨Cond.after_iff.mpr rfl, Cond.after_iff.mpr (eq_i res_at (Term.int_eval (1)) rfl), trivial⟩ ⟨hq.1, hq.2.1, hq.2.2.1, (hq.2.2.2.sift fun y hy => Or.inr (N y hy)).mono (by decide) (by decide)⟩⟩
theorem main_1_1 : Claimed_1_1 := comes_1 fun _ _ _ _ _ _ h hF => ⟨h.1, hF⟩
theorem main_1_2 : Claimed_1_2 := comes_1 fun _ _ _ _ _ _ h hF => ⟨h.2.1, hF⟩
end Jvm.Pilot.@@N@@
namespace Jvm.Pilot.@@N@@
open Jvm Jvm.ClassFile Sem Op Lib Jvm.Free Jvm.Stand Jvm.Pilot.@@N@@.Jvm.D
/-! MADE BY PROGRAM (witnessworld.py) out of the Statement's table words and the real class files: 21 classes; the members and pool entries that the words name. The judged class is class 1, her method 1. -/
namespace start1
open Jvm.ClassFile
def u (s : String) : CpInfo := .utf8 (stringToUtf16 s)
/-- a pool by its gaps: so many unusable entries, then the entry; so many at the end -/
def gap : Nat → List CpInfo → List CpInfo
  | 0, r => r
  | n + 1, r => .unusable :: gap n r
def poolList (es : List (Nat × CpInfo)) (last : Nat) : List CpInfo := es.foldr (fun e r => gap e.1 (e.2 :: r)) (gap last [])
def pool (es : List (Nat × CpInfo)) (last : Nat) : Array CpInfo := ⟨poolList es last⟩
def fileOf (pool : Array CpInfo) (this : Nat) (attrs : Array Attribute := #[]) (ms : Array MethodInfo := #[]) (fl : Nat := 33) (sup : Nat := 0) (ifs : Array Nat := #[]) (fds : Array FieldInfo := #[]) : ClassFile where
  minorVersion := 0
  majorVersion := 65
  constantPool := pool
  accessFlags := fl
  thisClass := this
  superClass := sup
  interfaces := ifs
  fields := fds
  methods := ms
  attributes := attrs
def plain (name : String) (sup : Option ClassId) : Class where
  name := name
  kind := .ordinary
  loader := none
  accessFlags := 33
  super := sup
  interfaces := #[]
  cf := none
  fields := #[]
  methods := #[]
  instanceTypes := #[]
  staticTypes := #[]
  resolved := #[]
  callSites := []
  init := .initialized
  statics := none
  mirror := none

def pool0 : Array CpInfo := pool [(5, u "<init>"), (0, u "()V"), (1, .class_ 10), (1, u "java/lang/Object")] 113

def k0c0 : Code := { maxStack := 0, maxLocals := 1, code := object_method_1_code, exceptionTable := #[], attributes := #[] }
def k0m0 : Method := { name := "<init>", desc := "()V", sig := { parameters := [], returnType := none }, accessFlags := 1, code := some k0c0 }
/-- java/lang/Object -/
def k0 : Class := { plain "java/lang/Object" none with
  accessFlags := 33
  interfaces := #[]
  cf := some (fileOf pool0 8 #[] #[{ accessFlags := 1, nameIndex := 5, descriptorIndex := 6, attributes := #[] }] 33 0 #[] #[])
  fields := #[]
  methods := #[k0m0]
  instanceTypes := #[]
  staticTypes := #[]
  resolved := Array.replicate 124 none
  statics := none }

def pool1 : Array CpInfo := pool [(2, .class_ 4), (1, u "java/lang/Object"), (0, u "<init>"), (0, u "()V"), (0, .methodref 8 9), (0, .class_ 10), (0, .nameAndType 11 12), (0, u "java/lang/Math"), (0, u "min"), (0, u "(II)I"), (0, .methodref 14 15), (0, .class_ 16), (0, .nameAndType 17 18), (0, u "com/example/kissena/kissena/ColumnsIsDecimalPinLaw"), (0, u "ch"), (0, u "(I)C"), (0, .methodref 14 20), (0, .nameAndType 21 22), (0, u "make"), (0, u "(ICCCCCC)[C"), (0, .class_ 24), (0, u "java/lang/String"), (0, .methodref 23 26), (0, .nameAndType 5 27), (0, u "([C)V"), (0, .methodref 14 29), (0, .nameAndType 30 31), (0, u "step"), (0, u "(IC)I"), (0, .methodref 33 34), (0, .class_ 35), (0, .nameAndType 36 37), (0, u "com/example/kissena/kissena/Columns"), (0, u "isDecimal"), (0, u "(Ljava/lang/String;)Z"), (0, .integer 65535), (2, u "law"), (0, u "(IIIIII)Z")] 5

def k1m0 : Method := { name := "<init>", desc := "()V", sig := { parameters := [], returnType := none }, accessFlags := 2, code := none }
def k1c1 : Code := { maxStack := 7, maxLocals := 17, code := code, exceptionTable := #[], attributes := #[] }
def k1m1 : Method := { name := "law", desc := "(IIIIII)Z", sig := { parameters := [.int, .int, .int, .int, .int, .int], returnType := some .boolean }, accessFlags := 9, code := some k1c1 }
def k1c2 : Code := { maxStack := 3, maxLocals := 3, code := method_3_code, exceptionTable := #[], attributes := #[] }
def k1m2 : Method := { name := "ch", desc := "(I)C", sig := { parameters := [.int], returnType := some .char }, accessFlags := 10, code := some k1c2 }
def k1c3 : Code := { maxStack := 4, maxLocals := 7, code := method_4_code, exceptionTable := #[], attributes := #[] }
def k1m3 : Method := { name := "make", desc := "(ICCCCCC)[C", sig := { parameters := [.int, .char, .char, .char, .char, .char, .char], returnType := some (.array .char) }, accessFlags := 10, code := some k1c3 }
def k1c4 : Code := { maxStack := 2, maxLocals := 6, code := method_5_code, exceptionTable := #[], attributes := #[] }
def k1m4 : Method := { name := "step", desc := "(IC)I", sig := { parameters := [.int, .char], returnType := some .int }, accessFlags := 10, code := some k1c4 }
/-- com/example/kissena/kissena/ColumnsIsDecimalPinLaw -/
def k1 : Class := { plain "com/example/kissena/kissena/ColumnsIsDecimalPinLaw" (some 0) with
  accessFlags := 49
  interfaces := #[]
  cf := some (fileOf pool1 14 #[] #[{ accessFlags := 2, nameIndex := 5, descriptorIndex := 6, attributes := #[] }, { accessFlags := 9, nameIndex := 41, descriptorIndex := 42, attributes := #[] }, { accessFlags := 10, nameIndex := 17, descriptorIndex := 18, attributes := #[] }, { accessFlags := 10, nameIndex := 21, descriptorIndex := 22, attributes := #[] }, { accessFlags := 10, nameIndex := 30, descriptorIndex := 31, attributes := #[] }] 49 2 #[] #[])
  fields := #[]
  methods := #[k1m0, k1m1, k1m2, k1m3, k1m4]
  instanceTypes := #[]
  staticTypes := #[]
  resolved := Array.replicate 48 none
  statics := none }

def pool2 : Array CpInfo := pool [(1, .class_ 2), (0, u "java/lang/Math"), (1, .class_ 6), (1, u "java/lang/Object"), (0, u "<init>"), (0, u "()V"), (89, .class_ 100), (1, u "java/lang/Math$RandomNumberGeneratorHolder"), (71, u "negativeZeroFloatBits"), (0, u "J"), (2, u "negativeZeroDoubleBits"), (24, u "min"), (43, u "$assertionsDisabled"), (0, u "Z"), (88, u "(II)I"), (2, u "twoToTheDoubleScaleDown"), (0, u "D"), (4, u "twoToTheDoubleScaleUp"), (9, u "E"), (3, u "PI"), (2, u "TAU"), (2, u "DEGREES_TO_RADIANS"), (0, u "RADIANS_TO_DEGREES")] 94

def k2m0 : Method := { name := "<init>", desc := "()V", sig := { parameters := [], returnType := none }, accessFlags := 2, code := none }
def k2c1 : Code := { maxStack := 2, maxLocals := 2, code := jdk_29_method_69_code, exceptionTable := #[], attributes := #[] }
def k2m1 : Method := { name := "min", desc := "(II)I", sig := { parameters := [.int, .int], returnType := some .int }, accessFlags := 9, code := some k2c1 }
/-- java/lang/Math -/
def k2 : Class := { plain "java/lang/Math" (some 0) with
  accessFlags := 49
  interfaces := #[]
  cf := some (fileOf pool2 1 #[.nestMembers #[98]] #[{ accessFlags := 2, nameIndex := 7, descriptorIndex := 8, attributes := #[] }, { accessFlags := 9, nameIndex := 201, descriptorIndex := 335, attributes := #[] }] 49 4 #[] #[{ accessFlags := 25, nameIndex := 354, descriptorIndex := 339, attributes := #[] }, { accessFlags := 25, nameIndex := 358, descriptorIndex := 339, attributes := #[] }, { accessFlags := 25, nameIndex := 361, descriptorIndex := 339, attributes := #[] }, { accessFlags := 26, nameIndex := 364, descriptorIndex := 339, attributes := #[] }, { accessFlags := 26, nameIndex := 365, descriptorIndex := 339, attributes := #[] }, { accessFlags := 26, nameIndex := 172, descriptorIndex := 173, attributes := #[] }, { accessFlags := 26, nameIndex := 176, descriptorIndex := 173, attributes := #[] }, { accessFlags := 8, nameIndex := 344, descriptorIndex := 339, attributes := #[] }, { accessFlags := 8, nameIndex := 338, descriptorIndex := 339, attributes := #[] }, { accessFlags := 4120, nameIndex := 245, descriptorIndex := 246, attributes := #[] }])
  fields := #[{ name := "E", type := .double, accessFlags := 25, slot := 0, constantValue := 0 }, { name := "PI", type := .double, accessFlags := 25, slot := 1, constantValue := 0 }, { name := "TAU", type := .double, accessFlags := 25, slot := 2, constantValue := 0 }, { name := "DEGREES_TO_RADIANS", type := .double, accessFlags := 26, slot := 3, constantValue := 0 }, { name := "RADIANS_TO_DEGREES", type := .double, accessFlags := 26, slot := 4, constantValue := 0 }, { name := "negativeZeroFloatBits", type := .long, accessFlags := 26, slot := 5, constantValue := 0 }, { name := "negativeZeroDoubleBits", type := .long, accessFlags := 26, slot := 6, constantValue := 0 }, { name := "twoToTheDoubleScaleUp", type := .double, accessFlags := 8, slot := 7, constantValue := 0 }, { name := "twoToTheDoubleScaleDown", type := .double, accessFlags := 8, slot := 8, constantValue := 0 }, { name := "$assertionsDisabled", type := .boolean, accessFlags := 4120, slot := 9, constantValue := 0 }]
  methods := #[k2m0, k2m1]
  instanceTypes := #[]
  staticTypes := #[.double, .double, .double, .double, .double, .long, .long, .double, .double, .boolean]
  resolved := Array.replicate 460 none
  statics := none }

def pool3 : Array CpInfo := pool [(1, .class_ 2), (0, u "java/io/Serializable"), (0, .class_ 4), (0, u "java/lang/Object")] 2

/-- java/io/Serializable -/
def k3 : Class := { plain "java/io/Serializable" (some 0) with
  accessFlags := 1537
  interfaces := #[]
  cf := some (fileOf pool3 1 #[] #[] 1537 3 #[] #[])
  fields := #[]
  methods := #[]
  instanceTypes := #[]
  staticTypes := #[]
  resolved := Array.replicate 7 none
  statics := none }

def pool4 : Array CpInfo := pool [(1, .class_ 2), (0, u "java/lang/Comparable"), (0, .class_ 4), (0, u "java/lang/Object")] 7

/-- java/lang/Comparable -/
def k4 : Class := { plain "java/lang/Comparable" (some 0) with
  accessFlags := 1537
  interfaces := #[]
  cf := some (fileOf pool4 1 #[] #[] 1537 3 #[] #[])
  fields := #[]
  methods := #[]
  instanceTypes := #[]
  staticTypes := #[]
  resolved := Array.replicate 12 none
  statics := none }

def pool5 : Array CpInfo := pool [(2, .class_ 4), (1, u "java/lang/CharSequence"), (42, .class_ 48), (0, u "java/lang/CharSequence$1CodePointIterator"), (10, .class_ 60), (0, u "java/lang/CharSequence$1CharIterator"), (5, .class_ 67), (0, u "java/lang/Object")] 63

/-- java/lang/CharSequence -/
def k5 : Class := { plain "java/lang/CharSequence" (some 0) with
  accessFlags := 1537
  interfaces := #[]
  cf := some (fileOf pool5 2 #[.nestMembers #[47, 59]] #[] 1537 66 #[] #[])
  fields := #[]
  methods := #[]
  instanceTypes := #[]
  staticTypes := #[]
  resolved := Array.replicate 131 none
  statics := none }

def pool6 : Array CpInfo := pool [(1, .class_ 2), (0, u "java/lang/constant/Constable"), (0, .class_ 4), (0, u "java/lang/Object")] 6

/-- java/lang/constant/Constable -/
def k6 : Class := { plain "java/lang/constant/Constable" (some 0) with
  accessFlags := 1537
  interfaces := #[]
  cf := some (fileOf pool6 1 #[] #[] 1537 3 #[] #[])
  fields := #[]
  methods := #[]
  instanceTypes := #[]
  staticTypes := #[]
  resolved := Array.replicate 11 none
  statics := none }

def pool7 : Array CpInfo := pool [(1, .class_ 2), (0, u "java/lang/constant/ConstantDesc"), (0, .class_ 4), (0, u "java/lang/Object")] 32

/-- java/lang/constant/ConstantDesc -/
def k7 : Class := { plain "java/lang/constant/ConstantDesc" (some 0) with
  accessFlags := 1537
  interfaces := #[]
  cf := some (fileOf pool7 1 #[] #[] 1537 3 #[] #[])
  fields := #[]
  methods := #[]
  instanceTypes := #[]
  staticTypes := #[]
  resolved := Array.replicate 37 none
  statics := none }

def pool8 : Array CpInfo := pool [(1, .methodref 2 3), (0, .class_ 4), (0, .nameAndType 5 6), (0, u "java/lang/Object"), (0, u "<init>"), (0, u "()V"), (0, .string 8), (0, u ""), (0, .fieldref 10 11), (0, .class_ 12), (0, .nameAndType 13 14), (0, u "java/lang/String"), (0, u "value"), (0, u "[B"), (0, .fieldref 10 16), (0, .nameAndType 17 18), (0, u "coder"), (0, u "B"), (2, u "hash"), (0, u "I"), (2, u "hashIsZero"), (0, u "Z"), (0, .methodref 10 28), (0, .nameAndType 5 29), (0, u "([CIILjava/lang/Void;)V"), (8, .fieldref 10 39), (0, .nameAndType 40 26), (0, u "COMPACT_STRINGS"), (1, .class_ 44), (1, u "java/lang/StringUTF16"), (0, u "compress"), (1, .methodref 42 48), (0, .nameAndType 49 50), (0, u "coderFromArrayLen"), (0, u "([BI)B"), (56, .class_ 109), (1, u "java/lang/StringLatin1"), (32, u "()Z"), (34, .methodref 42 178), (0, .nameAndType 45 179), (0, u "([CII)[B"), (154, u "()I"), (0, .methodref 10 336), (0, .nameAndType 17 337), (0, u "()B"), (25, u "([BI)C"), (27, u "(II)V"), (35, u "(I)C"), (64, .methodref 10 493), (0, .nameAndType 494 142), (0, u "isLatin1"), (0, .methodref 107 496), (0, .nameAndType 497 363), (0, u "charAt"), (0, .methodref 42 496), (2, u "checkIndex"), (5, u "length"), (67, .class_ 576), (0, u "java/lang/CharSequence"), (22, u "CASE_INSENSITIVE_ORDER"), (0, u "Ljava/util/Comparator;"), (409, u "([C)V"), (42, .fieldref 1054 1055), (0, .class_ 1056), (0, .nameAndType 1057 1058), (0, u "jdk/internal/util/Preconditions"), (0, u "SIOOBE_FORMATTER"), (0, u "Ljava/util/function/BiFunction;"), (0, .methodref 1054 1060), (0, .nameAndType 501 1061), (0, u "(IILjava/util/function/BiFunction;)I"), (39, u "serialPersistentFields"), (0, u "[Ljava/io/ObjectStreamField;"), (0, .class_ 1104), (0, u "java/lang/String$CaseInsensitiveComparator"), (1, .class_ 1107), (0, u "java/io/Serializable"), (0, .class_ 1109), (0, u "java/lang/Comparable"), (0, .class_ 1111), (0, u "java/lang/constant/Constable"), (0, .class_ 1113), (0, u "java/lang/constant/ConstantDesc"), (2, u "serialVersionUID"), (0, u "J"), (3, u "REPL"), (0, u "C"), (2, u "LATIN1"), (1, u "UTF16")] 323

def k8m0 : Method := { name := "<init>", desc := "()V", sig := { parameters := [], returnType := none }, accessFlags := 1, code := none }
def k8c1 : Code := { maxStack := 5, maxLocals := 2, code := jdk_42_method_3_code, exceptionTable := #[], attributes := #[] }
def k8m1 : Method := { name := "<init>", desc := "([C)V", sig := { parameters := [(.array .char)], returnType := none }, accessFlags := 1, code := some k8c1 }
def k8c2 : Code := { maxStack := 2, maxLocals := 1, code := jdk_42_method_54_code, exceptionTable := #[], attributes := #[] }
def k8m2 : Method := { name := "length", desc := "()I", sig := { parameters := [], returnType := some .int }, accessFlags := 1, code := some k8c2 }
def k8c3 : Code := { maxStack := 2, maxLocals := 2, code := jdk_42_method_56_code, exceptionTable := #[], attributes := #[] }
def k8m3 : Method := { name := "charAt", desc := "(I)C", sig := { parameters := [.int], returnType := some .char }, accessFlags := 1, code := some k8c3 }
def k8c4 : Code := { maxStack := 4, maxLocals := 6, code := jdk_42_method_149_code, exceptionTable := #[], attributes := #[] }
def k8m4 : Method := { name := "<init>", desc := "([CIILjava/lang/Void;)V", sig := { parameters := [(.array .char), .int, .int, (.object "java/lang/Void")], returnType := none }, accessFlags := 2, code := some k8c4 }
def k8c5 : Code := { maxStack := 1, maxLocals := 1, code := jdk_42_method_152_code, exceptionTable := #[], attributes := #[] }
def k8m5 : Method := { name := "coder", desc := "()B", sig := { parameters := [], returnType := some .byte }, accessFlags := 0, code := some k8c5 }
def k8c6 : Code := { maxStack := 1, maxLocals := 1, code := jdk_42_method_154_code, exceptionTable := #[], attributes := #[] }
def k8m6 : Method := { name := "isLatin1", desc := "()Z", sig := { parameters := [], returnType := some .boolean }, accessFlags := 0, code := some k8c6 }
def k8c7 : Code := { maxStack := 3, maxLocals := 2, code := jdk_42_method_155_code, exceptionTable := #[], attributes := #[] }
def k8m7 : Method := { name := "checkIndex", desc := "(II)V", sig := { parameters := [.int, .int], returnType := none }, accessFlags := 8, code := some k8c7 }
/-- java/lang/String -/
def k8 : Class := { plain "java/lang/String" (some 0) with
  accessFlags := 49
  interfaces := #[3, 4, 5, 6, 7]
  cf := some (fileOf pool8 10 #[.nestMembers #[1103]] #[{ accessFlags := 1, nameIndex := 5, descriptorIndex := 6, attributes := #[] }, { accessFlags := 1, nameIndex := 5, descriptorIndex := 1010, attributes := #[] }, { accessFlags := 1, nameIndex := 507, descriptorIndex := 334, attributes := #[] }, { accessFlags := 1, nameIndex := 497, descriptorIndex := 427, attributes := #[] }, { accessFlags := 2, nameIndex := 5, descriptorIndex := 29, attributes := #[] }, { accessFlags := 0, nameIndex := 17, descriptorIndex := 337, attributes := #[] }, { accessFlags := 0, nameIndex := 494, descriptorIndex := 142, attributes := #[] }, { accessFlags := 8, nameIndex := 501, descriptorIndex := 391, attributes := #[] }] 49 2 #[1106, 1108, 575, 1110, 1112] #[{ accessFlags := 18, nameIndex := 13, descriptorIndex := 14, attributes := #[] }, { accessFlags := 18, nameIndex := 17, descriptorIndex := 18, attributes := #[] }, { accessFlags := 2, nameIndex := 21, descriptorIndex := 22, attributes := #[] }, { accessFlags := 2, nameIndex := 25, descriptorIndex := 26, attributes := #[] }, { accessFlags := 26, nameIndex := 1116, descriptorIndex := 1117, attributes := #[] }, { accessFlags := 24, nameIndex := 40, descriptorIndex := 26, attributes := #[] }, { accessFlags := 26, nameIndex := 1101, descriptorIndex := 1102, attributes := #[] }, { accessFlags := 26, nameIndex := 1121, descriptorIndex := 1122, attributes := #[] }, { accessFlags := 25, nameIndex := 599, descriptorIndex := 600, attributes := #[] }, { accessFlags := 24, nameIndex := 1125, descriptorIndex := 18, attributes := #[] }, { accessFlags := 24, nameIndex := 1127, descriptorIndex := 18, attributes := #[] }])
  fields := #[{ name := "value", type := (.array .byte), accessFlags := 18, slot := 0, constantValue := 0 }, { name := "coder", type := .byte, accessFlags := 18, slot := 1, constantValue := 0 }, { name := "hash", type := .int, accessFlags := 2, slot := 2, constantValue := 0 }, { name := "hashIsZero", type := .boolean, accessFlags := 2, slot := 3, constantValue := 0 }, { name := "serialVersionUID", type := .long, accessFlags := 26, slot := 0, constantValue := 0 }, { name := "COMPACT_STRINGS", type := .boolean, accessFlags := 24, slot := 1, constantValue := 0 }, { name := "serialPersistentFields", type := (.array (.object "java/io/ObjectStreamField")), accessFlags := 26, slot := 2, constantValue := 0 }, { name := "REPL", type := .char, accessFlags := 26, slot := 3, constantValue := 0 }, { name := "CASE_INSENSITIVE_ORDER", type := (.object "java/util/Comparator"), accessFlags := 25, slot := 4, constantValue := 0 }, { name := "LATIN1", type := .byte, accessFlags := 24, slot := 5, constantValue := 0 }, { name := "UTF16", type := .byte, accessFlags := 24, slot := 6, constantValue := 0 }]
  methods := #[k8m0, k8m1, k8m2, k8m3, k8m4, k8m5, k8m6, k8m7]
  instanceTypes := #[(.array .byte), .byte, .int, .boolean]
  staticTypes := #[.long, .boolean, (.array (.object "java/io/ObjectStreamField")), .char, (.object "java/util/Comparator"), .byte, .byte]
  resolved := Array.replicate 1451 none
  statics := some 0 }

def pool9 : Array CpInfo := pool [(2, .class_ 4), (1, u "java/lang/Object"), (0, u "<init>"), (0, u "()V"), (5, .class_ 14), (1, u "com/example/kissena/kissena/Columns"), (13, .class_ 30), (1, u "java/lang/String"), (18, .class_ 51), (1, u "com/example/kissena/kissena/Columns$Form"), (4, u "()I"), (27, .class_ 86), (1, u "com/example/kissena/kissena/Columns$Row"), (39, .methodref 28 127), (0, .nameAndType 128 56), (0, u "length"), (0, .methodref 28 130), (0, .nameAndType 131 132), (0, u "charAt"), (0, u "(I)C"), (26, .methodref 12 160), (0, .nameAndType 161 162), (0, u "skipSign"), (0, u "(Ljava/lang/String;I)I"), (0, .methodref 12 164), (0, .nameAndType 165 162), (0, u "skipDigits"), (24, u "CHARACTER_ORDER"), (0, u "Ljava/util/Comparator;"), (20, u "(Ljava/lang/String;)Z"), (0, u "isDecimal")] 58

def k9m0 : Method := { name := "<init>", desc := "()V", sig := { parameters := [], returnType := none }, accessFlags := 2, code := none }
def k9c1 : Code := { maxStack := 3, maxLocals := 5, code := prog_3_method_10_code, exceptionTable := #[], attributes := #[] }
def k9m1 : Method := { name := "isDecimal", desc := "(Ljava/lang/String;)Z", sig := { parameters := [(.object "java/lang/String")], returnType := some .boolean }, accessFlags := 8, code := some k9c1 }
def k9c2 : Code := { maxStack := 2, maxLocals := 3, code := prog_3_method_11_code, exceptionTable := #[], attributes := #[] }
def k9m2 : Method := { name := "skipSign", desc := "(Ljava/lang/String;I)I", sig := { parameters := [(.object "java/lang/String"), .int], returnType := some .int }, accessFlags := 10, code := some k9c2 }
def k9c3 : Code := { maxStack := 2, maxLocals := 3, code := prog_3_method_12_code, exceptionTable := #[], attributes := #[] }
def k9m3 : Method := { name := "skipDigits", desc := "(Ljava/lang/String;I)I", sig := { parameters := [(.object "java/lang/String"), .int], returnType := some .int }, accessFlags := 10, code := some k9c3 }
/-- com/example/kissena/kissena/Columns -/
def k9 : Class := { plain "com/example/kissena/kissena/Columns" (some 0) with
  accessFlags := 32
  interfaces := #[]
  cf := some (fileOf pool9 12 #[.nestMembers #[49, 84]] #[{ accessFlags := 2, nameIndex := 5, descriptorIndex := 6, attributes := #[] }, { accessFlags := 8, nameIndex := 213, descriptorIndex := 212, attributes := #[] }, { accessFlags := 10, nameIndex := 161, descriptorIndex := 162, attributes := #[] }, { accessFlags := 10, nameIndex := 165, descriptorIndex := 162, attributes := #[] }] 32 2 #[] #[{ accessFlags := 24, nameIndex := 190, descriptorIndex := 191, attributes := #[] }])
  fields := #[{ name := "CHARACTER_ORDER", type := (.object "java/util/Comparator"), accessFlags := 24, slot := 0, constantValue := 0 }]
  methods := #[k9m0, k9m1, k9m2, k9m3]
  instanceTypes := #[]
  staticTypes := #[(.object "java/util/Comparator")]
  resolved := Array.replicate 272 none
  statics := none }

def pool10 : Array CpInfo := pool [(3, .class_ 4), (0, u "java/lang/String"), (1, .class_ 8), (1, u "java/lang/Object"), (0, u "<init>"), (0, u "()V"), (0, .methodref 12 13), (0, .class_ 14), (0, .nameAndType 15 16), (0, u "java/lang/StringUTF16"), (0, u "newBytesLength"), (0, u "(I)I"), (3, .integer 1073741823), (23, .fieldref 12 45), (0, .nameAndType 46 47), (0, u "$assertionsDisabled"), (0, u "Z"), (0, .methodref 12 49), (0, .nameAndType 50 51), (0, u "length"), (0, u "([B)I"), (7, .fieldref 12 60), (0, .nameAndType 61 62), (0, u "HI_BYTE_SHIFT"), (0, u "I"), (0, .fieldref 12 64), (0, .nameAndType 65 62), (0, u "LO_BYTE_SHIFT"), (1, .methodref 12 68), (0, .nameAndType 69 70), (0, u "checkIndex"), (0, u "(I[B)V"), (0, .methodref 12 72), (0, .nameAndType 73 74), (0, u "getChar"), (0, u "([BI)C"), (32, .methodref 12 108), (0, .nameAndType 109 110), (0, u "newBytesFor"), (0, u "(I)[B"), (0, .methodref 12 112), (0, .nameAndType 113 114), (0, u "putChar"), (0, u "([BII)V"), (0, .methodref 12 116), (0, .nameAndType 117 118), (0, u "compress"), (0, u "([CI[BII)I"), (0, .methodref 12 120), (0, .nameAndType 121 122), (0, u "toBytes"), (0, u "([CII)[B"), (138, u "coderFromArrayLen"), (0, u "([BI)B"), (106, .class_ 371), (1, u "java/lang/StringUTF16$LinesSpliterator"), (20, u "charAt"), (21, .methodref 3 415), (0, .nameAndType 69 416), (0, u "(II)V"), (13, u "MAX_LENGTH"), (196, .class_ 628), (0, u "java/lang/StringUTF16$CodePointsSpliterator"), (0, .class_ 630), (0, u "java/lang/StringUTF16$CharsSpliterator")] 4

def k10m0 : Method := { name := "<init>", desc := "()V", sig := { parameters := [], returnType := none }, accessFlags := 0, code := none }
def k10c1 : Code := { maxStack := 1, maxLocals := 1, code := jdk_52_method_2_code, exceptionTable := #[], attributes := #[] }
def k10m1 : Method := { name := "newBytesFor", desc := "(I)[B", sig := { parameters := [.int], returnType := some (.array .byte) }, accessFlags := 9, code := some k10c1 }
def k10c2 : Code := { maxStack := 4, maxLocals := 1, code := jdk_52_method_3_code, exceptionTable := #[], attributes := #[] }
def k10m2 : Method := { name := "newBytesLength", desc := "(I)I", sig := { parameters := [.int], returnType := some .int }, accessFlags := 9, code := some k10c2 }
def k10c3 : Code := { maxStack := 4, maxLocals := 3, code := jdk_52_method_4_code, exceptionTable := #[], attributes := #[] }
def k10m3 : Method := { name := "putChar", desc := "([BII)V", sig := { parameters := [(.array .byte), .int, .int], returnType := none }, accessFlags := 8, code := some k10c3 }
def k10c4 : Code := { maxStack := 3, maxLocals := 2, code := jdk_52_method_5_code, exceptionTable := #[], attributes := #[] }
def k10m4 : Method := { name := "getChar", desc := "([BI)C", sig := { parameters := [(.array .byte), .int], returnType := some .char }, accessFlags := 8, code := some k10c4 }
def k10c5 : Code := { maxStack := 2, maxLocals := 1, code := jdk_52_method_6_code, exceptionTable := #[], attributes := #[] }
def k10m5 : Method := { name := "length", desc := "([B)I", sig := { parameters := [(.array .byte)], returnType := some .int }, accessFlags := 9, code := some k10c5 }
def k10c6 : Code := { maxStack := 4, maxLocals := 5, code := jdk_52_method_14_code, exceptionTable := #[], attributes := #[] }
def k10m6 : Method := { name := "toBytes", desc := "([CII)[B", sig := { parameters := [(.array .char), .int, .int], returnType := some (.array .byte) }, accessFlags := 9, code := some k10c6 }
def k10c7 : Code := { maxStack := 2, maxLocals := 2, code := jdk_52_method_15_code, exceptionTable := #[], attributes := #[] }
def k10m7 : Method := { name := "coderFromArrayLen", desc := "([BI)B", sig := { parameters := [(.array .byte), .int], returnType := some .byte }, accessFlags := 8, code := some k10c7 }
def k10c8 : Code := { maxStack := 5, maxLocals := 6, code := jdk_52_method_16_code, exceptionTable := #[], attributes := #[] }
def k10m8 : Method := { name := "compress", desc := "([CII)[B", sig := { parameters := [(.array .char), .int, .int], returnType := some (.array .byte) }, accessFlags := 9, code := some k10c8 }
def k10c9 : Code := { maxStack := 3, maxLocals := 7, code := jdk_52_method_21_code, exceptionTable := #[], attributes := #[] }
def k10m9 : Method := { name := "compress", desc := "([CI[BII)I", sig := { parameters := [(.array .char), .int, (.array .byte), .int, .int], returnType := some .int }, accessFlags := 9, code := some k10c9 }
def k10c10 : Code := { maxStack := 2, maxLocals := 2, code := jdk_52_method_83_code, exceptionTable := #[], attributes := #[] }
def k10m10 : Method := { name := "charAt", desc := "([BI)C", sig := { parameters := [(.array .byte), .int], returnType := some .char }, accessFlags := 9, code := some k10c10 }
def k10c11 : Code := { maxStack := 2, maxLocals := 2, code := jdk_52_method_91_code, exceptionTable := #[], attributes := #[] }
def k10m11 : Method := { name := "checkIndex", desc := "(I[B)V", sig := { parameters := [.int, (.array .byte)], returnType := none }, accessFlags := 9, code := some k10c11 }
/-- java/lang/StringUTF16 -/
def k10 : Class := { plain "java/lang/StringUTF16" (some 0) with
  accessFlags := 48
  interfaces := #[]
  cf := some (fileOf pool10 12 #[.nestMembers #[627, 629, 369]] #[{ accessFlags := 0, nameIndex := 9, descriptorIndex := 10, attributes := #[] }, { accessFlags := 9, nameIndex := 109, descriptorIndex := 110, attributes := #[] }, { accessFlags := 9, nameIndex := 15, descriptorIndex := 16, attributes := #[] }, { accessFlags := 8, nameIndex := 113, descriptorIndex := 114, attributes := #[] }, { accessFlags := 8, nameIndex := 73, descriptorIndex := 74, attributes := #[] }, { accessFlags := 9, nameIndex := 50, descriptorIndex := 51, attributes := #[] }, { accessFlags := 9, nameIndex := 121, descriptorIndex := 122, attributes := #[] }, { accessFlags := 8, nameIndex := 261, descriptorIndex := 262, attributes := #[] }, { accessFlags := 9, nameIndex := 117, descriptorIndex := 122, attributes := #[] }, { accessFlags := 9, nameIndex := 117, descriptorIndex := 118, attributes := #[] }, { accessFlags := 9, nameIndex := 392, descriptorIndex := 74, attributes := #[] }, { accessFlags := 9, nameIndex := 69, descriptorIndex := 70, attributes := #[] }] 48 6 #[] #[{ accessFlags := 26, nameIndex := 61, descriptorIndex := 62, attributes := #[] }, { accessFlags := 26, nameIndex := 65, descriptorIndex := 62, attributes := #[] }, { accessFlags := 24, nameIndex := 430, descriptorIndex := 62, attributes := #[] }, { accessFlags := 4120, nameIndex := 46, descriptorIndex := 47, attributes := #[] }])
  fields := #[{ name := "HI_BYTE_SHIFT", type := .int, accessFlags := 26, slot := 0, constantValue := 0 }, { name := "LO_BYTE_SHIFT", type := .int, accessFlags := 26, slot := 1, constantValue := 0 }, { name := "MAX_LENGTH", type := .int, accessFlags := 24, slot := 2, constantValue := 0 }, { name := "$assertionsDisabled", type := .boolean, accessFlags := 4120, slot := 3, constantValue := 0 }]
  methods := #[k10m0, k10m1, k10m2, k10m3, k10m4, k10m5, k10m6, k10m7, k10m8, k10m9, k10m10, k10m11]
  instanceTypes := #[]
  staticTypes := #[.int, .int, .int, .boolean]
  resolved := Array.replicate 635 none
  statics := some 1 }

def pool11 : Array CpInfo := pool [(1, .class_ 2), (0, u "java/lang/String"), (1, .class_ 6), (1, u "java/lang/Object"), (0, u "<init>"), (0, u "()V"), (0, .methodref 1 10), (0, .nameAndType 11 12), (0, u "checkIndex"), (0, u "(II)V"), (1, .class_ 16), (1, u "java/lang/StringLatin1"), (36, u "([BI)C"), (67, u "$assertionsDisabled"), (0, u "Z"), (98, .class_ 223), (1, u "java/lang/StringLatin1$LinesSpliterator"), (28, u "charAt"), (137, .class_ 391), (0, u "java/lang/StringLatin1$CharsSpliterator")] 3

def k11m0 : Method := { name := "<init>", desc := "()V", sig := { parameters := [], returnType := none }, accessFlags := 0, code := none }
def k11c1 : Code := { maxStack := 2, maxLocals := 2, code := jdk_43_method_2_code, exceptionTable := #[], attributes := #[] }
def k11m1 : Method := { name := "charAt", desc := "([BI)C", sig := { parameters := [(.array .byte), .int], returnType := some .char }, accessFlags := 9, code := some k11c1 }
/-- java/lang/StringLatin1 -/
def k11 : Class := { plain "java/lang/StringLatin1" (some 0) with
  accessFlags := 48
  interfaces := #[]
  cf := some (fileOf pool11 14 #[.nestMembers #[390, 221]] #[{ accessFlags := 0, nameIndex := 7, descriptorIndex := 8, attributes := #[] }, { accessFlags := 9, nameIndex := 252, descriptorIndex := 53, attributes := #[] }] 48 4 #[] #[{ accessFlags := 4120, nameIndex := 121, descriptorIndex := 122, attributes := #[] }])
  fields := #[{ name := "$assertionsDisabled", type := .boolean, accessFlags := 4120, slot := 0, constantValue := 0 }]
  methods := #[k11m0, k11m1]
  instanceTypes := #[]
  staticTypes := #[.boolean]
  resolved := Array.replicate 395 none
  statics := none }

def pool12 : Array CpInfo := pool [(2, .class_ 4), (1, u "java/lang/Object"), (0, u "<init>"), (0, u "()V"), (17, .class_ 26), (1, u "jdk/internal/util/Preconditions"), (6, u "checkIndex"), (21, .class_ 56), (0, u "jdk/internal/util/Preconditions$4"), (57, .class_ 115), (0, u "jdk/internal/util/Preconditions$1"), (7, u "SIOOBE_FORMATTER"), (0, u "Ljava/util/function/BiFunction;"), (0, .class_ 126), (0, u "jdk/internal/util/Preconditions$2"), (3, u "AIOOBE_FORMATTER"), (0, .class_ 132), (0, u "jdk/internal/util/Preconditions$3"), (3, u "IOOBE_FORMATTER"), (41, u "(IILjava/util/function/BiFunction;)I")] 15

def k12m0 : Method := { name := "<init>", desc := "()V", sig := { parameters := [], returnType := none }, accessFlags := 1, code := none }
def k12c1 : Code := { maxStack := 3, maxLocals := 3, code := jdk_41_method_11_code, exceptionTable := #[], attributes := #[] }
def k12m1 : Method := { name := "checkIndex", desc := "(IILjava/util/function/BiFunction;)I", sig := { parameters := [.int, .int, (.object "java/util/function/BiFunction")], returnType := some .int }, accessFlags := 9, code := some k12c1 }
/-- jdk/internal/util/Preconditions -/
def k12 : Class := { plain "jdk/internal/util/Preconditions" (some 0) with
  accessFlags := 33
  interfaces := #[]
  cf := some (fileOf pool12 24 #[.nestMembers #[55, 131, 125, 114]] #[{ accessFlags := 1, nameIndex := 5, descriptorIndex := 6, attributes := #[] }, { accessFlags := 9, nameIndex := 33, descriptorIndex := 178, attributes := #[] }] 33 2 #[] #[{ accessFlags := 25, nameIndex := 123, descriptorIndex := 124, attributes := #[] }, { accessFlags := 25, nameIndex := 130, descriptorIndex := 124, attributes := #[] }, { accessFlags := 25, nameIndex := 136, descriptorIndex := 124, attributes := #[] }])
  fields := #[{ name := "SIOOBE_FORMATTER", type := (.object "java/util/function/BiFunction"), accessFlags := 25, slot := 0, constantValue := 0 }, { name := "AIOOBE_FORMATTER", type := (.object "java/util/function/BiFunction"), accessFlags := 25, slot := 1, constantValue := 0 }, { name := "IOOBE_FORMATTER", type := (.object "java/util/function/BiFunction"), accessFlags := 25, slot := 2, constantValue := 0 }]
  methods := #[k12m0, k12m1]
  instanceTypes := #[]
  staticTypes := #[(.object "java/util/function/BiFunction"), (.object "java/util/function/BiFunction"), (.object "java/util/function/BiFunction")]
  resolved := Array.replicate 194 none
  statics := some 2 }

def pool13 : Array CpInfo := pool [(9, u "<init>"), (6, .class_ 18), (1, u "java/lang/Object"), (0, u "()V"), (1, .class_ 23), (1, u "jdk/internal/util/ArraysSupport"), (0, u "LOG2_ARRAY_LONG_INDEX_SCALE"), (0, u "I"), (2, u "U"), (0, u "Ljdk/internal/misc/Unsafe;"), (8, u "BIG_ENDIAN"), (0, u "Z"), (8, u "LOG2_BYTE_BIT_SIZE"), (4, u "LOG2_ARRAY_INT_INDEX_SCALE"), (54, u "JLA"), (0, u "Ljdk/internal/access/JavaLangAccess;"), (11, u "LOG2_ARRAY_BOOLEAN_INDEX_SCALE"), (9, u "LOG2_ARRAY_BYTE_INDEX_SCALE"), (5, u "LOG2_ARRAY_CHAR_INDEX_SCALE"), (5, u "LOG2_ARRAY_SHORT_INDEX_SCALE"), (18, u "LOG2_ARRAY_FLOAT_INDEX_SCALE"), (24, u "LOG2_ARRAY_DOUBLE_INDEX_SCALE"), (89, u "T_BOOLEAN"), (2, u "T_CHAR"), (1, u "T_FLOAT"), (1, u "T_DOUBLE"), (1, u "T_BYTE"), (1, u "T_SHORT"), (1, u "T_INT"), (1, u "T_LONG"), (1, u "SOFT_MAX_ARRAY_LENGTH")] 83

def k13m0 : Method := { name := "<init>", desc := "()V", sig := { parameters := [], returnType := none }, accessFlags := 2, code := none }
/-- jdk/internal/util/ArraysSupport -/
def k13 : Class := { plain "jdk/internal/util/ArraysSupport" (some 0) with
  accessFlags := 33
  interfaces := #[]
  cf := some (fileOf pool13 21 #[] #[{ accessFlags := 2, nameIndex := 9, descriptorIndex := 19, attributes := #[] }] 33 16 #[] #[{ accessFlags := 24, nameIndex := 28, descriptorIndex := 29, attributes := #[] }, { accessFlags := 26, nameIndex := 38, descriptorIndex := 39, attributes := #[] }, { accessFlags := 25, nameIndex := 121, descriptorIndex := 25, attributes := #[] }, { accessFlags := 25, nameIndex := 131, descriptorIndex := 25, attributes := #[] }, { accessFlags := 25, nameIndex := 137, descriptorIndex := 25, attributes := #[] }, { accessFlags := 25, nameIndex := 143, descriptorIndex := 25, attributes := #[] }, { accessFlags := 25, nameIndex := 53, descriptorIndex := 25, attributes := #[] }, { accessFlags := 25, nameIndex := 24, descriptorIndex := 25, attributes := #[] }, { accessFlags := 25, nameIndex := 162, descriptorIndex := 25, attributes := #[] }, { accessFlags := 25, nameIndex := 187, descriptorIndex := 25, attributes := #[] }, { accessFlags := 26, nameIndex := 48, descriptorIndex := 25, attributes := #[] }, { accessFlags := 25, nameIndex := 277, descriptorIndex := 25, attributes := #[] }, { accessFlags := 25, nameIndex := 280, descriptorIndex := 25, attributes := #[] }, { accessFlags := 25, nameIndex := 282, descriptorIndex := 25, attributes := #[] }, { accessFlags := 25, nameIndex := 284, descriptorIndex := 25, attributes := #[] }, { accessFlags := 25, nameIndex := 286, descriptorIndex := 25, attributes := #[] }, { accessFlags := 25, nameIndex := 288, descriptorIndex := 25, attributes := #[] }, { accessFlags := 25, nameIndex := 290, descriptorIndex := 25, attributes := #[] }, { accessFlags := 25, nameIndex := 292, descriptorIndex := 25, attributes := #[] }, { accessFlags := 26, nameIndex := 108, descriptorIndex := 109, attributes := #[] }, { accessFlags := 25, nameIndex := 294, descriptorIndex := 25, attributes := #[] }])
  fields := #[{ name := "U", type := (.object "jdk/internal/misc/Unsafe"), accessFlags := 24, slot := 0, constantValue := 0 }, { name := "BIG_ENDIAN", type := .boolean, accessFlags := 26, slot := 1, constantValue := 0 }, { name := "LOG2_ARRAY_BOOLEAN_INDEX_SCALE", type := .int, accessFlags := 25, slot := 2, constantValue := 0 }, { name := "LOG2_ARRAY_BYTE_INDEX_SCALE", type := .int, accessFlags := 25, slot := 3, constantValue := 0 }, { name := "LOG2_ARRAY_CHAR_INDEX_SCALE", type := .int, accessFlags := 25, slot := 4, constantValue := 0 }, { name := "LOG2_ARRAY_SHORT_INDEX_SCALE", type := .int, accessFlags := 25, slot := 5, constantValue := 0 }, { name := "LOG2_ARRAY_INT_INDEX_SCALE", type := .int, accessFlags := 25, slot := 6, constantValue := 0 }, { name := "LOG2_ARRAY_LONG_INDEX_SCALE", type := .int, accessFlags := 25, slot := 7, constantValue := 0 }, { name := "LOG2_ARRAY_FLOAT_INDEX_SCALE", type := .int, accessFlags := 25, slot := 8, constantValue := 0 }, { name := "LOG2_ARRAY_DOUBLE_INDEX_SCALE", type := .int, accessFlags := 25, slot := 9, constantValue := 0 }, { name := "LOG2_BYTE_BIT_SIZE", type := .int, accessFlags := 26, slot := 10, constantValue := 0 }, { name := "T_BOOLEAN", type := .int, accessFlags := 25, slot := 11, constantValue := 0 }, { name := "T_CHAR", type := .int, accessFlags := 25, slot := 12, constantValue := 0 }, { name := "T_FLOAT", type := .int, accessFlags := 25, slot := 13, constantValue := 0 }, { name := "T_DOUBLE", type := .int, accessFlags := 25, slot := 14, constantValue := 0 }, { name := "T_BYTE", type := .int, accessFlags := 25, slot := 15, constantValue := 0 }, { name := "T_SHORT", type := .int, accessFlags := 25, slot := 16, constantValue := 0 }, { name := "T_INT", type := .int, accessFlags := 25, slot := 17, constantValue := 0 }, { name := "T_LONG", type := .int, accessFlags := 25, slot := 18, constantValue := 0 }, { name := "JLA", type := (.object "jdk/internal/access/JavaLangAccess"), accessFlags := 26, slot := 19, constantValue := 0 }, { name := "SOFT_MAX_ARRAY_LENGTH", type := .int, accessFlags := 25, slot := 20, constantValue := 0 }]
  methods := #[k13m0]
  instanceTypes := #[]
  staticTypes := #[(.object "jdk/internal/misc/Unsafe"), .boolean, .int, .int, .int, .int, .int, .int, .int, .int, .int, .int, .int, .int, .int, .int, .int, .int, .int, (.object "jdk/internal/access/JavaLangAccess"), .int]
  resolved := Array.replicate 378 none
  statics := none }

def pool14 : Array CpInfo := pool [(1, u "java/lang/Cloneable"), (0, .class_ 1), (0, u "java/lang/Object"), (0, .class_ 3)] 3

/-- java/lang/Cloneable -/
def k14 : Class := { plain "java/lang/Cloneable" (some 0) with
  accessFlags := 1537
  interfaces := #[]
  cf := some (fileOf pool14 2 #[] #[] 1537 4 #[] #[])
  fields := #[]
  methods := #[]
  instanceTypes := #[]
  staticTypes := #[]
  resolved := Array.replicate 8 none
  statics := none }

/-- the primitive byte -/
def k15 : Class := { plain "byte" none with kind := .primitive 'B', accessFlags := 0x411 }
/-- [B -/
def k16 : Class := { plain "[B" (some 0) with kind := .array 15 .byte, interfaces := #[14, 3], accessFlags := 1041 }

/-- the primitive char -/
def k17 : Class := { plain "char" none with kind := .primitive 'C', accessFlags := 0x411 }
/-- [C -/
def k18 : Class := { plain "[C" (some 0) with kind := .array 17 .char, interfaces := #[14, 3], accessFlags := 1041 }

/-- the primitive int -/
def k19 : Class := { plain "int" none with kind := .primitive 'I', accessFlags := 0x411 }
/-- [I -/
def k20 : Class := { plain "[I" (some 0) with kind := .array 19 .int, interfaces := #[14, 3], accessFlags := 1041 }

def heap : Heap := #[{ cls := 8, slots := #[.long 0, .int 1, .null, .int 0, .null, .int 0, .int 0], vm := .statics 8 },
  { cls := 10, slots := #[.int 0, .int 8, .int 0, .int 1], vm := .statics 10 },
  { cls := 12, slots := #[.null, .null, .null], vm := .statics 12 }]
def classes : Array Class := #[k0, k1, k2, k3, k4, k5, k6, k7, k8, k9, k10, k11, k12, k13, k14, k15, k16, k17, k18, k19, k20]
def interned : List (Array UInt16 × Addr) := []
def slotsUsed : Nat := 14
def theMethod : MethodId := ⟨1, 1⟩
def args0 : Array Value := #[.int 5, .int 5, .int 5, .int 5, .int 5, .int 5]
def aboutOver (below : List Frame) : State where
  vm := { classes := classes, interned := interned.toArray }
  heap := heap
  slotsUsed := slotsUsed
  threads := #[{ frames := .invoking theMethod args0 :: below }]
def below0 : List Frame := [.native { method := ⟨0, 0⟩, args := #[] }]
def about1 : State := aboutOver below0
def p0 : Program := .bare "" "" ""
def e0 : Env := launch0.env 0 0 0
theorem w_frames : about1.frames = Frame.invoking theMethod args0 :: below0 := rfl
set_option maxRecDepth 65536 in
theorem w_args : argsFit about1.vm theMethod args0 = true := by decide +kernel
set_option maxRecDepth 65536 in
theorem w_heap : heapFits about1 = true := by decide +kernel
set_option maxRecDepth 65536 in
theorem w_runnable : about1.curStatus? = some .runnable := by decide +kernel
set_option maxRecDepth 65536 in
theorem w_alone : about1.alone = true := by decide +kernel
set_option maxRecDepth 65536 in
theorem w_named : about1.methodNamed? x = some theMethod := by decide +kernel
set_option maxRecDepth 65536 in
theorem w_hears : about1.hears theMethod below0 = true := by decide +kernel
set_option maxRecDepth 65536 in
theorem w_ripe : about1.ripe theMethod args0 below0 = true := by decide +kernel
theorem w_running : about1.status = .running := rfl
set_option maxRecDepth 65536 in
theorem w_room : about1.hasRoom e0.platform room_1 = true :=
  launch0.hasRoom_least _ room_1 (by decide +kernel) (by decide +kernel) (by decide +kernel) (by decide +kernel) (by decide +kernel) (by decide +kernel)
theorem allAtoms_all (ts : List Jvm.Cond) (a : Array Jvm.Value) (st : Jvm.State) : (allAtoms ts).before a st = ts.all (fun c => c.before a st) := by
  induction ts with
  | nil => rfl
  | cons c t ih =>
    show (Jvm.Cond.and c (allAtoms t)).before a st = _
    rw [Jvm.Cond.before_and, ih, List.all_cons]
def words1 : List Jvm.Cond := Jvm.Cond.code x code maxLocals ret :: tables_1
/-- a 'code' word, met by the world's own term for the bytes: nothing is compared byte by byte -/
theorem code_word {y : MethodName} {bytes : ByteArray} {mx : Nat} {rt : Option FieldType} {a : Array Value} {s : State} {m : MethodId} {meth : Method} {c : Code} (h1 : s.methodNamed? y = some m) (h2 : s.vm.method? m = some meth) (h3 : meth.code = some c) (h4 : c.code = bytes)
    (h5 : (c.maxLocals == mx && c.exceptionTable.isEmpty && decide (c.maxStack ≤ mostOperands) && decide (meth.sig.returnType = rt) && !meth.locks && decide (parseMethodDescriptor y.desc = some meth.sig)) = true) : (Jvm.Cond.code y bytes mx rt).before a s = true := by
  simp only [Bool.and_eq_true, beq_iff_eq, Bool.not_eq_true', decide_eq_true_eq] at h5
  obtain ⟨⟨⟨⟨⟨g1, g2⟩, g3⟩, g4⟩, g5⟩, g6⟩ := h5
  simp [Cond.before, Cond.holds, Cond.value, h1, h2, h3, h4, g1, g2, g3, g4, g5, g6]
def isCode : Jvm.Cond → Bool
  | .code _ _ _ _ => true
  | _ => false
theorem all_split {L : List Jvm.Cond} {P : Jvm.Cond → Bool} (h1 : L.all (fun c => isCode c || P c) = true) (h2 : ∀ c ∈ L.filter isCode, P c = true) : L.all P = true := by
  refine List.all_eq_true.mpr fun c hc => ?_
  have h := List.all_eq_true.mp h1 c hc
  rcases Bool.eq_false_or_eq_true (isCode c) with hi | hi
  · exact h2 c (List.mem_filter.mpr ⟨hc, hi⟩)
  · simpa [hi] using h
set_option maxRecDepth 65536 in
theorem w_c0 : (Jvm.Cond.code x code maxLocals ret).before args0 about1 = true := code_word (m := ⟨1, 1⟩) (meth := k1m1) (c := k1c1) (by decide +kernel) rfl rfl rfl (by decide +kernel)
set_option maxRecDepth 65536 in
theorem w_c1 : (Jvm.Cond.code ({ cls := "java/lang/Math", name := "min", desc := "(II)I" } : Jvm.MethodName) jdk_29_method_69_code (2 : Nat) (Option.some Jvm.ClassFile.FieldType.int)).before args0 about1 = true := code_word (m := ⟨2, 1⟩) (meth := k2m1) (c := k2c1) (by decide +kernel) rfl rfl rfl (by decide +kernel)
set_option maxRecDepth 65536 in
theorem w_c2 : (Jvm.Cond.code ({ cls := "com/example/kissena/kissena/ColumnsIsDecimalPinLaw", name := "ch", desc := "(I)C" } : Jvm.MethodName) method_3_code (3 : Nat) (Option.some Jvm.ClassFile.FieldType.char)).before args0 about1 = true := code_word (m := ⟨1, 2⟩) (meth := k1m2) (c := k1c2) (by decide +kernel) rfl rfl rfl (by decide +kernel)
set_option maxRecDepth 65536 in
theorem w_c3 : (Jvm.Cond.code ({ cls := "com/example/kissena/kissena/ColumnsIsDecimalPinLaw", name := "make", desc := "(ICCCCCC)[C" } : Jvm.MethodName) method_4_code (7 : Nat) (Option.some (Jvm.ClassFile.FieldType.array Jvm.ClassFile.FieldType.char))).before args0 about1 = true := code_word (m := ⟨1, 3⟩) (meth := k1m3) (c := k1c3) (by decide +kernel) rfl rfl rfl (by decide +kernel)
set_option maxRecDepth 65536 in
theorem w_c4 : (Jvm.Cond.code ({ cls := "java/lang/String", name := "<init>", desc := "([C)V" } : Jvm.MethodName) jdk_42_method_3_code (2 : Nat) (Option.none : Option Jvm.ClassFile.FieldType)).before args0 about1 = true := code_word (m := ⟨8, 1⟩) (meth := k8m1) (c := k8c1) (by decide +kernel) rfl rfl rfl (by decide +kernel)
set_option maxRecDepth 65536 in
theorem w_c5 : (Jvm.Cond.code ({ cls := "java/lang/String", name := "<init>", desc := "([CIILjava/lang/Void;)V" } : Jvm.MethodName) jdk_42_method_149_code (6 : Nat) (Option.none : Option Jvm.ClassFile.FieldType)).before args0 about1 = true := code_word (m := ⟨8, 4⟩) (meth := k8m4) (c := k8c4) (by decide +kernel) rfl rfl rfl (by decide +kernel)
set_option maxRecDepth 65536 in
theorem w_c6 : (Jvm.Cond.code ({ cls := "java/lang/Object", name := "<init>", desc := "()V" } : Jvm.MethodName) object_method_1_code (1 : Nat) (Option.none : Option Jvm.ClassFile.FieldType)).before args0 about1 = true := code_word (m := ⟨0, 0⟩) (meth := k0m0) (c := k0c0) (by decide +kernel) rfl rfl rfl (by decide +kernel)
set_option maxRecDepth 65536 in
theorem w_c7 : (Jvm.Cond.code ({ cls := "com/example/kissena/kissena/Columns", name := "isDecimal", desc := "(Ljava/lang/String;)Z" } : Jvm.MethodName) prog_3_method_10_code (5 : Nat) (Option.some Jvm.ClassFile.FieldType.boolean)).before args0 about1 = true := code_word (m := ⟨9, 1⟩) (meth := k9m1) (c := k9c1) (by decide +kernel) rfl rfl rfl (by decide +kernel)
set_option maxRecDepth 65536 in
theorem w_c8 : (Jvm.Cond.code ({ cls := "com/example/kissena/kissena/Columns", name := "skipSign", desc := "(Ljava/lang/String;I)I" } : Jvm.MethodName) prog_3_method_11_code (3 : Nat) (Option.some Jvm.ClassFile.FieldType.int)).before args0 about1 = true := code_word (m := ⟨9, 2⟩) (meth := k9m2) (c := k9c2) (by decide +kernel) rfl rfl rfl (by decide +kernel)
set_option maxRecDepth 65536 in
theorem w_c9 : (Jvm.Cond.code ({ cls := "java/lang/String", name := "length", desc := "()I" } : Jvm.MethodName) jdk_42_method_54_code (1 : Nat) (Option.some Jvm.ClassFile.FieldType.int)).before args0 about1 = true := code_word (m := ⟨8, 2⟩) (meth := k8m2) (c := k8c2) (by decide +kernel) rfl rfl rfl (by decide +kernel)
set_option maxRecDepth 65536 in
theorem w_c10 : (Jvm.Cond.code ({ cls := "java/lang/String", name := "coder", desc := "()B" } : Jvm.MethodName) jdk_42_method_152_code (1 : Nat) (Option.some Jvm.ClassFile.FieldType.byte)).before args0 about1 = true := code_word (m := ⟨8, 5⟩) (meth := k8m5) (c := k8c5) (by decide +kernel) rfl rfl rfl (by decide +kernel)
set_option maxRecDepth 65536 in
theorem w_c11 : (Jvm.Cond.code ({ cls := "com/example/kissena/kissena/Columns", name := "skipDigits", desc := "(Ljava/lang/String;I)I" } : Jvm.MethodName) prog_3_method_12_code (3 : Nat) (Option.some Jvm.ClassFile.FieldType.int)).before args0 about1 = true := code_word (m := ⟨9, 3⟩) (meth := k9m3) (c := k9c3) (by decide +kernel) rfl rfl rfl (by decide +kernel)
set_option maxRecDepth 65536 in
theorem w_c12 : (Jvm.Cond.code ({ cls := "java/lang/StringUTF16", name := "compress", desc := "([CII)[B" } : Jvm.MethodName) jdk_52_method_16_code (6 : Nat) (Option.some (Jvm.ClassFile.FieldType.array Jvm.ClassFile.FieldType.byte))).before args0 about1 = true := code_word (m := ⟨10, 8⟩) (meth := k10m8) (c := k10c8) (by decide +kernel) rfl rfl rfl (by decide +kernel)
set_option maxRecDepth 65536 in
theorem w_c13 : (Jvm.Cond.code ({ cls := "java/lang/StringUTF16", name := "compress", desc := "([CI[BII)I" } : Jvm.MethodName) jdk_52_method_21_code (7 : Nat) (Option.some Jvm.ClassFile.FieldType.int)).before args0 about1 = true := code_word (m := ⟨10, 9⟩) (meth := k10m9) (c := k10c9) (by decide +kernel) rfl rfl rfl (by decide +kernel)
set_option maxRecDepth 65536 in
theorem w_c14 : (Jvm.Cond.code ({ cls := "java/lang/StringUTF16", name := "coderFromArrayLen", desc := "([BI)B" } : Jvm.MethodName) jdk_52_method_15_code (2 : Nat) (Option.some Jvm.ClassFile.FieldType.byte)).before args0 about1 = true := code_word (m := ⟨10, 7⟩) (meth := k10m7) (c := k10c7) (by decide +kernel) rfl rfl rfl (by decide +kernel)
set_option maxRecDepth 65536 in
theorem w_c15 : (Jvm.Cond.code ({ cls := "com/example/kissena/kissena/ColumnsIsDecimalPinLaw", name := "step", desc := "(IC)I" } : Jvm.MethodName) method_5_code (6 : Nat) (Option.some Jvm.ClassFile.FieldType.int)).before args0 about1 = true := code_word (m := ⟨1, 4⟩) (meth := k1m4) (c := k1c4) (by decide +kernel) rfl rfl rfl (by decide +kernel)
set_option maxRecDepth 65536 in
theorem w_c16 : (Jvm.Cond.code ({ cls := "java/lang/String", name := "charAt", desc := "(I)C" } : Jvm.MethodName) jdk_42_method_56_code (2 : Nat) (Option.some Jvm.ClassFile.FieldType.char)).before args0 about1 = true := code_word (m := ⟨8, 3⟩) (meth := k8m3) (c := k8c3) (by decide +kernel) rfl rfl rfl (by decide +kernel)
set_option maxRecDepth 65536 in
theorem w_c17 : (Jvm.Cond.code ({ cls := "java/lang/String", name := "isLatin1", desc := "()Z" } : Jvm.MethodName) jdk_42_method_154_code (1 : Nat) (Option.some Jvm.ClassFile.FieldType.boolean)).before args0 about1 = true := code_word (m := ⟨8, 6⟩) (meth := k8m6) (c := k8c6) (by decide +kernel) rfl rfl rfl (by decide +kernel)
set_option maxRecDepth 65536 in
theorem w_c18 : (Jvm.Cond.code ({ cls := "java/lang/StringLatin1", name := "charAt", desc := "([BI)C" } : Jvm.MethodName) jdk_43_method_2_code (2 : Nat) (Option.some Jvm.ClassFile.FieldType.char)).before args0 about1 = true := code_word (m := ⟨11, 1⟩) (meth := k11m1) (c := k11c1) (by decide +kernel) rfl rfl rfl (by decide +kernel)
set_option maxRecDepth 65536 in
theorem w_c19 : (Jvm.Cond.code ({ cls := "java/lang/String", name := "checkIndex", desc := "(II)V" } : Jvm.MethodName) jdk_42_method_155_code (2 : Nat) (Option.none : Option Jvm.ClassFile.FieldType)).before args0 about1 = true := code_word (m := ⟨8, 7⟩) (meth := k8m7) (c := k8c7) (by decide +kernel) rfl rfl rfl (by decide +kernel)
set_option maxRecDepth 65536 in
theorem w_c20 : (Jvm.Cond.code ({ cls := "jdk/internal/util/Preconditions", name := "checkIndex", desc := "(IILjava/util/function/BiFunction;)I" } : Jvm.MethodName) jdk_41_method_11_code (3 : Nat) (Option.some Jvm.ClassFile.FieldType.int)).before args0 about1 = true := code_word (m := ⟨12, 1⟩) (meth := k12m1) (c := k12c1) (by decide +kernel) rfl rfl rfl (by decide +kernel)
set_option maxRecDepth 65536 in
theorem w_c21 : (Jvm.Cond.code ({ cls := "java/lang/StringUTF16", name := "toBytes", desc := "([CII)[B" } : Jvm.MethodName) jdk_52_method_14_code (5 : Nat) (Option.some (Jvm.ClassFile.FieldType.array Jvm.ClassFile.FieldType.byte))).before args0 about1 = true := code_word (m := ⟨10, 6⟩) (meth := k10m6) (c := k10c6) (by decide +kernel) rfl rfl rfl (by decide +kernel)
set_option maxRecDepth 65536 in
theorem w_c22 : (Jvm.Cond.code ({ cls := "java/lang/StringUTF16", name := "newBytesFor", desc := "(I)[B" } : Jvm.MethodName) jdk_52_method_2_code (1 : Nat) (Option.some (Jvm.ClassFile.FieldType.array Jvm.ClassFile.FieldType.byte))).before args0 about1 = true := code_word (m := ⟨10, 1⟩) (meth := k10m1) (c := k10c1) (by decide +kernel) rfl rfl rfl (by decide +kernel)
set_option maxRecDepth 65536 in
theorem w_c23 : (Jvm.Cond.code ({ cls := "java/lang/StringUTF16", name := "newBytesLength", desc := "(I)I" } : Jvm.MethodName) jdk_52_method_3_code (1 : Nat) (Option.some Jvm.ClassFile.FieldType.int)).before args0 about1 = true := code_word (m := ⟨10, 2⟩) (meth := k10m2) (c := k10c2) (by decide +kernel) rfl rfl rfl (by decide +kernel)
set_option maxRecDepth 65536 in
theorem w_c24 : (Jvm.Cond.code ({ cls := "java/lang/StringUTF16", name := "putChar", desc := "([BII)V" } : Jvm.MethodName) jdk_52_method_4_code (3 : Nat) (Option.none : Option Jvm.ClassFile.FieldType)).before args0 about1 = true := code_word (m := ⟨10, 3⟩) (meth := k10m3) (c := k10c3) (by decide +kernel) rfl rfl rfl (by decide +kernel)
set_option maxRecDepth 65536 in
theorem w_c25 : (Jvm.Cond.code ({ cls := "java/lang/StringUTF16", name := "getChar", desc := "([BI)C" } : Jvm.MethodName) jdk_52_method_5_code (2 : Nat) (Option.some Jvm.ClassFile.FieldType.char)).before args0 about1 = true := code_word (m := ⟨10, 4⟩) (meth := k10m4) (c := k10c4) (by decide +kernel) rfl rfl rfl (by decide +kernel)
set_option maxRecDepth 65536 in
theorem w_c26 : (Jvm.Cond.code ({ cls := "java/lang/StringUTF16", name := "charAt", desc := "([BI)C" } : Jvm.MethodName) jdk_52_method_83_code (2 : Nat) (Option.some Jvm.ClassFile.FieldType.char)).before args0 about1 = true := code_word (m := ⟨10, 10⟩) (meth := k10m10) (c := k10c10) (by decide +kernel) rfl rfl rfl (by decide +kernel)
set_option maxRecDepth 65536 in
theorem w_c27 : (Jvm.Cond.code ({ cls := "java/lang/StringUTF16", name := "checkIndex", desc := "(I[B)V" } : Jvm.MethodName) jdk_52_method_91_code (2 : Nat) (Option.none : Option Jvm.ClassFile.FieldType)).before args0 about1 = true := code_word (m := ⟨10, 11⟩) (meth := k10m11) (c := k10c11) (by decide +kernel) rfl rfl rfl (by decide +kernel)
set_option maxRecDepth 65536 in
theorem w_c28 : (Jvm.Cond.code ({ cls := "java/lang/StringUTF16", name := "length", desc := "([B)I" } : Jvm.MethodName) jdk_52_method_6_code (1 : Nat) (Option.some Jvm.ClassFile.FieldType.int)).before args0 about1 = true := code_word (m := ⟨10, 5⟩) (meth := k10m5) (c := k10c5) (by decide +kernel) rfl rfl rfl (by decide +kernel)
def codes1 : List Jvm.Cond := [Jvm.Cond.code x code maxLocals ret, Jvm.Cond.code ({ cls := "java/lang/Math", name := "min", desc := "(II)I" } : Jvm.MethodName) jdk_29_method_69_code (2 : Nat) (Option.some Jvm.ClassFile.FieldType.int), Jvm.Cond.code ({ cls := "com/example/kissena/kissena/ColumnsIsDecimalPinLaw", name := "ch", desc := "(I)C" } : Jvm.MethodName) method_3_code (3 : Nat) (Option.some Jvm.ClassFile.FieldType.char), Jvm.Cond.code ({ cls := "com/example/kissena/kissena/ColumnsIsDecimalPinLaw", name := "make", desc := "(ICCCCCC)[C" } : Jvm.MethodName) method_4_code (7 : Nat) (Option.some (Jvm.ClassFile.FieldType.array Jvm.ClassFile.FieldType.char)), Jvm.Cond.code ({ cls := "java/lang/String", name := "<init>", desc := "([C)V" } : Jvm.MethodName) jdk_42_method_3_code (2 : Nat) (Option.none : Option Jvm.ClassFile.FieldType), Jvm.Cond.code ({ cls := "java/lang/String", name := "<init>", desc := "([CIILjava/lang/Void;)V" } : Jvm.MethodName) jdk_42_method_149_code (6 : Nat) (Option.none : Option Jvm.ClassFile.FieldType), Jvm.Cond.code ({ cls := "java/lang/Object", name := "<init>", desc := "()V" } : Jvm.MethodName) object_method_1_code (1 : Nat) (Option.none : Option Jvm.ClassFile.FieldType), Jvm.Cond.code ({ cls := "com/example/kissena/kissena/Columns", name := "isDecimal", desc := "(Ljava/lang/String;)Z" } : Jvm.MethodName) prog_3_method_10_code (5 : Nat) (Option.some Jvm.ClassFile.FieldType.boolean), Jvm.Cond.code ({ cls := "com/example/kissena/kissena/Columns", name := "skipSign", desc := "(Ljava/lang/String;I)I" } : Jvm.MethodName) prog_3_method_11_code (3 : Nat) (Option.some Jvm.ClassFile.FieldType.int), Jvm.Cond.code ({ cls := "java/lang/String", name := "length", desc := "()I" } : Jvm.MethodName) jdk_42_method_54_code (1 : Nat) (Option.some Jvm.ClassFile.FieldType.int), Jvm.Cond.code ({ cls := "java/lang/String", name := "coder", desc := "()B" } : Jvm.MethodName) jdk_42_method_152_code (1 : Nat) (Option.some Jvm.ClassFile.FieldType.byte), Jvm.Cond.code ({ cls := "com/example/kissena/kissena/Columns", name := "skipDigits", desc := "(Ljava/lang/String;I)I" } : Jvm.MethodName) prog_3_method_12_code (3 : Nat) (Option.some Jvm.ClassFile.FieldType.int), Jvm.Cond.code ({ cls := "java/lang/StringUTF16", name := "compress", desc := "([CII)[B" } : Jvm.MethodName) jdk_52_method_16_code (6 : Nat) (Option.some (Jvm.ClassFile.FieldType.array Jvm.ClassFile.FieldType.byte)), Jvm.Cond.code ({ cls := "java/lang/StringUTF16", name := "compress", desc := "([CI[BII)I" } : Jvm.MethodName) jdk_52_method_21_code (7 : Nat) (Option.some Jvm.ClassFile.FieldType.int), Jvm.Cond.code ({ cls := "java/lang/StringUTF16", name := "coderFromArrayLen", desc := "([BI)B" } : Jvm.MethodName) jdk_52_method_15_code (2 : Nat) (Option.some Jvm.ClassFile.FieldType.byte), Jvm.Cond.code ({ cls := "com/example/kissena/kissena/ColumnsIsDecimalPinLaw", name := "step", desc := "(IC)I" } : Jvm.MethodName) method_5_code (6 : Nat) (Option.some Jvm.ClassFile.FieldType.int), Jvm.Cond.code ({ cls := "java/lang/String", name := "charAt", desc := "(I)C" } : Jvm.MethodName) jdk_42_method_56_code (2 : Nat) (Option.some Jvm.ClassFile.FieldType.char), Jvm.Cond.code ({ cls := "java/lang/String", name := "isLatin1", desc := "()Z" } : Jvm.MethodName) jdk_42_method_154_code (1 : Nat) (Option.some Jvm.ClassFile.FieldType.boolean), Jvm.Cond.code ({ cls := "java/lang/StringLatin1", name := "charAt", desc := "([BI)C" } : Jvm.MethodName) jdk_43_method_2_code (2 : Nat) (Option.some Jvm.ClassFile.FieldType.char), Jvm.Cond.code ({ cls := "java/lang/String", name := "checkIndex", desc := "(II)V" } : Jvm.MethodName) jdk_42_method_155_code (2 : Nat) (Option.none : Option Jvm.ClassFile.FieldType), Jvm.Cond.code ({ cls := "jdk/internal/util/Preconditions", name := "checkIndex", desc := "(IILjava/util/function/BiFunction;)I" } : Jvm.MethodName) jdk_41_method_11_code (3 : Nat) (Option.some Jvm.ClassFile.FieldType.int), Jvm.Cond.code ({ cls := "java/lang/StringUTF16", name := "toBytes", desc := "([CII)[B" } : Jvm.MethodName) jdk_52_method_14_code (5 : Nat) (Option.some (Jvm.ClassFile.FieldType.array Jvm.ClassFile.FieldType.byte)), Jvm.Cond.code ({ cls := "java/lang/StringUTF16", name := "newBytesFor", desc := "(I)[B" } : Jvm.MethodName) jdk_52_method_2_code (1 : Nat) (Option.some (Jvm.ClassFile.FieldType.array Jvm.ClassFile.FieldType.byte)), Jvm.Cond.code ({ cls := "java/lang/StringUTF16", name := "newBytesLength", desc := "(I)I" } : Jvm.MethodName) jdk_52_method_3_code (1 : Nat) (Option.some Jvm.ClassFile.FieldType.int), Jvm.Cond.code ({ cls := "java/lang/StringUTF16", name := "putChar", desc := "([BII)V" } : Jvm.MethodName) jdk_52_method_4_code (3 : Nat) (Option.none : Option Jvm.ClassFile.FieldType), Jvm.Cond.code ({ cls := "java/lang/StringUTF16", name := "getChar", desc := "([BI)C" } : Jvm.MethodName) jdk_52_method_5_code (2 : Nat) (Option.some Jvm.ClassFile.FieldType.char), Jvm.Cond.code ({ cls := "java/lang/StringUTF16", name := "charAt", desc := "([BI)C" } : Jvm.MethodName) jdk_52_method_83_code (2 : Nat) (Option.some Jvm.ClassFile.FieldType.char), Jvm.Cond.code ({ cls := "java/lang/StringUTF16", name := "checkIndex", desc := "(I[B)V" } : Jvm.MethodName) jdk_52_method_91_code (2 : Nat) (Option.none : Option Jvm.ClassFile.FieldType), Jvm.Cond.code ({ cls := "java/lang/StringUTF16", name := "length", desc := "([B)I" } : Jvm.MethodName) jdk_52_method_6_code (1 : Nat) (Option.some Jvm.ClassFile.FieldType.int)]
set_option maxRecDepth 65536 in
theorem codes_eq : words1.filter isCode = codes1 := rfl
theorem w_codes : ∀ c ∈ words1.filter isCode, c.before args0 about1 = true := by
  rw [codes_eq]
  intro c hc
  simp only [codes1, List.mem_cons, List.not_mem_nil, or_false] at hc
  rcases hc with rfl | rfl | rfl | rfl | rfl | rfl | rfl | rfl | rfl | rfl | rfl | rfl | rfl | rfl | rfl | rfl | rfl | rfl | rfl | rfl | rfl | rfl | rfl | rfl | rfl | rfl | rfl | rfl | rfl
  · exact w_c0
  · exact w_c1
  · exact w_c2
  · exact w_c3
  · exact w_c4
  · exact w_c5
  · exact w_c6
  · exact w_c7
  · exact w_c8
  · exact w_c9
  · exact w_c10
  · exact w_c11
  · exact w_c12
  · exact w_c13
  · exact w_c14
  · exact w_c15
  · exact w_c16
  · exact w_c17
  · exact w_c18
  · exact w_c19
  · exact w_c20
  · exact w_c21
  · exact w_c22
  · exact w_c23
  · exact w_c24
  · exact w_c25
  · exact w_c26
  · exact w_c27
  · exact w_c28
set_option maxRecDepth 65536 in
theorem w_t1 : (words1.take 24).all (fun c => isCode c || c.before args0 about1) = true := by decide +kernel
set_option maxRecDepth 65536 in
theorem w_t2 : ((words1.drop 24).take 24).all (fun c => isCode c || c.before args0 about1) = true := by decide +kernel
set_option maxRecDepth 65536 in
theorem w_t3 : (((words1.drop 24).drop 24).take 24).all (fun c => isCode c || c.before args0 about1) = true := by decide +kernel
set_option maxRecDepth 65536 in
theorem w_t4 : ((((words1.drop 24).drop 24).drop 24).take 24).all (fun c => isCode c || c.before args0 about1) = true := by decide +kernel
set_option maxRecDepth 65536 in
theorem w_t5 : ((((words1.drop 24).drop 24).drop 24).drop 24).all (fun c => isCode c || c.before args0 about1) = true := by decide +kernel
theorem w_tables : (allAtoms (Jvm.Cond.code x code maxLocals ret :: tables_1)).before args0 about1 = true := by
  rw [allAtoms_all]
  show words1.all (fun c => c.before args0 about1) = true
  refine all_split ?_ w_codes
  rw [← List.take_append_drop 24 words1, List.all_append, w_t1, ← List.take_append_drop 24 (words1.drop 24), List.all_append, w_t2, ← List.take_append_drop 24 ((words1.drop 24).drop 24), List.all_append, w_t3, ← List.take_append_drop 24 (((words1.drop 24).drop 24).drop 24), List.all_append, w_t4, w_t5]
  rfl
set_option maxRecDepth 65536 in
theorem w_rest : rest_1_c.before args0 about1 = true := by decide +kernel
set_option maxRecDepth 65536 in
theorem w_case : (Jvm.Cond.and given_1 narrow_1).before args0 about1 = true := by decide +kernel
set_option maxRecDepth 65536 in
theorem w_consts : constsHeld consts_1 about1 := Jvm.Lit.constsHeldB_iff.mp (by decide +kernel)
theorem w_applies : (headSpec (Jvm.Cond.code x code maxLocals ret :: tables_1) room_1).applies x e0.platform about1 = true :=
  (Spec.applies_iff w_frames).mpr ⟨w_running, w_runnable, w_alone, w_named, w_hears, w_ripe, w_room, w_tables⟩
theorem atStart : AtStart classFile x code maxLocals ret World_1 tables_1 room_1 Calls_1 rest_1 Pre_1 launch0 p0 e0 about1 theMethod args0 below0 :=
  ⟨lists_1, trivial, launch0.admits_env _ _ _, launch0.least_env, fairChoices_fair.cas, fairChoices_fair.clock, w_frames, w_args, w_heap, w_applies, ⟨w_consts, trivial⟩, w_rest, w_case⟩
end start1
theorem witness_1 : WitnessClaimed_1 := ⟨start1.p0, start1.e0, start1.about1, start1.theMethod, start1.args0, start1.below0, start1.atStart⟩
end Jvm.Pilot.@@N@@
