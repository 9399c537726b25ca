import JvmDerived
import JvmDerived.Pilot.@@N@@Statement
import JvmDerived.Pilot.@@N@@Code
set_option linter.unusedVariables false
set_option linter.unusedSimpArgs false
namespace Jvm.Pilot.@@N@@
open Jvm Jvm.ClassFile Sem Op Lib Jvm.Free Jvm.Stand Jvm.LawKit Jvm.RoadKit Bundle Jvm.Pilot.@@N@@.Jvm.D
section Own
variable {p : Program} {l : Launch} {e : Env} {R : Room} {s : State} {m : MethodId} {args : Array Value} {below : List Frame} {meth : Method} {c : Code} {T : State} {locs : List Loc} {cells slots : Nat} {Z : State} {a0 : Array Value} {h : Heap} {P : State → Outcome → Prop} {pc : Nat} {Ls : Array Slot} {rest st : List Value}
/-- from T, with f on top, the run comes to an end of which P holds -/
def own_Go (p : Program) (e : Env) (below : List Frame) (P : State → Outcome → Prop) (T : State) (f : JFrame) : Prop :=
  ∃ t o, Steps p.tables e below (T.setTop f) t ∧ t.status = .running ∧ Ended t below o ∧ P t o
theorem own_by {T' : State} {f f' : JFrame} (st : ∀ t, Steps p.tables e below (T'.setTop f') t → Steps p.tables e below (T.setTop f) t) (k : own_Go p e below P T' f') : own_Go p e below P T f := by
  obtain ⟨t, o, h1, h2⟩ := k
  exact ⟨t, o, st _ h1, h2⟩
/-- a method's end: what it returns, the heap, what it wrote -/
def own_Ends (s : State) (rm : Room) (Q : Option Value → Heap → List Loc → Prop) (t : State) (o : Outcome) : Prop := ∃ v L, o = .returned v ∧ Q v t.heap L ∧ FrameEnd s o t L rm.cells rm.slots
/-- a body's contract, at one list of arguments and one heap -/
def own_Ct (l : Launch) (Z : State) (y : MethodName) (bytes : ByteArray) (mx : Nat) (rt : Option FieldType) (ws : List Jvm.Cond) (rm : Room) (as' : Array Value) (h0 : Heap) (Q : Option Value → Heap → List Loc → Prop) : Prop :=
  MetFree l y (head1 (Jvm.Cond.code y bytes mx rt :: ws) rm) (fun a U => a = as' ∧ Z.Warmed39 U.vm ∧ U.heap = h0) (fun _ _ _ _ _ => True) (fun _ U o U' => own_Ends U rm Q U' o)
theorem own_of {y : MethodName} {bytes : ByteArray} {mx : Nat} {rt : Option FieldType} {ws : List Jvm.Cond} {rm : Room} {as' : Array Value} {h0 : Heap} {Q : Option Value → Heap → List Loc → Prop} (hpl : plainFor y = true)
    (body : ∀ (p : Program) (e : Env) (s : State) (m : MethodId) (below : List Frame) (meth : Method) (c : Code) (s₁ : State), p.tables.exec = Jvm.exec → c.code = bytes → c.maxLocals = mx → s.vm.findClass y.cls = some m.cls → meth.name = y.name → meth.sig.returnType = rt → meth.locks = false → Z.Warmed39 s.vm →
      Stand p l e rm s m as' below meth c s₁ [] 0 0 → s₁.heap = h0 → own_Go p e below (own_Ends s rm Q) s₁ (entryFrame m as' mx)) : own_Ct l Z y bytes mx rt ws rm as' h0 Q := by
  refine MetFree.of_bodySF hpl hisR ?_
  intro p e s m args below meth c s₁ Bd hml hP hK
  obtain ⟨rfl, hZ, hh⟩ := hP
  exact body p e s m below meth c s₁ Bd.exec Bd.bytes hml (findClass_of_methodNamed Bd.named) (name_of_methodNamed Bd.named Bd.method).1 Bd.returns Bd.notSynchronized hZ (Stand.of_body Bd) (by rw [← hh, Bd.state]; rfl)
theorem own_ret {rm : Room} {Q : Option Value → Heap → List Loc → Prop} {t : FieldType} {w : Value} {i : Instr} (X : Stand p l e R s m args below meth c T locs cells slots) (hx : p.tables.exec = Jvm.exec) (hret : meth.sig.returnType = some t) (hlk : meth.locks = false) (hd : decode c.code pc = .ok (i, 1)) (hn : narrow t w = w)
    (hi : (i = .ireturn ∧ (t = .int ∨ t = .boolean ∨ t = .byte ∨ t = .char ∨ t = .short) ∧ ∃ z, w = .int z) ∨ (i = .lreturn ∧ t = .long ∧ ∃ z, w = .long z) ∨ (i = .dreturn ∧ t = .double ∧ ∃ z, w = .double z) ∨ (i = .freturn ∧ t = .float ∧ ∃ z, w = .float z) ∨ (i = .areturn ∧ t.isReference = true ∧ w.isRef = true))
    (hc : cells ≤ rm.cells) (hs : slots ≤ rm.slots) (hq : Q (some w) T.heap locs) : own_Go p e below (own_Ends s rm Q) T (mkF m pc Ls (w :: rest)) := by
  obtain ⟨fs, hr, hrun, hended, hW, hsame⟩ := X.leave (v := some w) (fun h => by rw [hret] at h; cases h) hlk
  exact ⟨_, _, retOut X hx hret hn hi hd hr, hrun, hended, _, _, rfl, hq, ⟨_, rfl⟩, hW, hsame.mono hc hs⟩
theorem own_retI {rm : Room} {Q : Option Value → Heap → List Loc → Prop} {w : Int32} (X : Stand p l e R s m args below meth c T locs cells slots) (hx : p.tables.exec = Jvm.exec) (hret : meth.sig.returnType = some .int) (hlk : meth.locks = false) (hd : decode c.code pc = .ok (.ireturn, 1)) 
    (hc : cells ≤ rm.cells) (hs : slots ≤ rm.slots) (hq : Q (some (.int w)) T.heap locs) : own_Go p e below (own_Ends s rm Q) T (mkF m pc Ls (.int w :: rest)) :=
  own_ret X hx hret hlk hd rfl (Or.inl ⟨rfl, Or.inl rfl, _, rfl⟩) hc hs hq
theorem own_retZ {rm : Room} {Q : Option Value → Heap → List Loc → Prop} {w : Int32} (X : Stand p l e R s m args below meth c T locs cells slots) (hx : p.tables.exec = Jvm.exec) (hret : meth.sig.returnType = some .boolean) (hlk : meth.locks = false) (hd : decode c.code pc = .ok (.ireturn, 1)) (hw : w = 0 ∨ w = 1)
    (hc : cells ≤ rm.cells) (hs : slots ≤ rm.slots) (hq : Q (some (.int w)) T.heap locs) : own_Go p e below (own_Ends s rm Q) T (mkF m pc Ls (.int w :: rest)) :=
  own_ret X hx hret hlk hd (by rcases hw with rfl | rfl <;> rfl) (Or.inl ⟨rfl, Or.inr (Or.inl rfl), _, rfl⟩) hc hs hq
theorem own_retJ {rm : Room} {Q : Option Value → Heap → List Loc → Prop} {w : Int64} (X : Stand p l e R s m args below meth c T locs cells slots) (hx : p.tables.exec = Jvm.exec) (hret : meth.sig.returnType = some .long) (hlk : meth.locks = false) (hd : decode c.code pc = .ok (.lreturn, 1)) 
    (hc : cells ≤ rm.cells) (hs : slots ≤ rm.slots) (hq : Q (some (.long w)) T.heap locs) : own_Go p e below (own_Ends s rm Q) T (mkF m pc Ls (.long w :: rest)) :=
  own_ret X hx hret hlk hd rfl (Or.inr (Or.inl ⟨rfl, rfl, _, rfl⟩)) hc hs hq
theorem own_retA {rm : Room} {Q : Option Value → Heap → List Loc → Prop} {w : Value} {t : FieldType} (X : Stand p l e R s m args below meth c T locs cells slots) (hx : p.tables.exec = Jvm.exec) (hret : meth.sig.returnType = some t) (hlk : meth.locks = false) (hd : decode c.code pc = .ok (.areturn, 1)) (ht : t.isReference = true) (hn : narrow t w = w) (hw : w.isRef = true)
    (hc : cells ≤ rm.cells) (hs : slots ≤ rm.slots) (hq : Q (some w) T.heap locs) : own_Go p e below (own_Ends s rm Q) T (mkF m pc Ls (w :: rest)) :=
  own_ret X hx hret hlk hd hn (Or.inr (Or.inr (Or.inr (Or.inr ⟨rfl, ht, hw⟩)))) hc hs hq
theorem own_retV {rm : Room} {Q : Option Value → Heap → List Loc → Prop} (X : Stand p l e R s m args below meth c T locs cells slots) (hx : p.tables.exec = Jvm.exec) (hret : meth.sig.returnType = none) (hlk : meth.locks = false) (hd : decode c.code pc = .ok (.return_, 1))
    (hc : cells ≤ rm.cells) (hs : slots ≤ rm.slots) (hq : Q none T.heap locs) : own_Go p e below (own_Ends s rm Q) T (mkF m pc Ls []) := by
  obtain ⟨fs, hr, hrun, hended, hW, hsame⟩ := X.leave (v := none) (fun _ => rfl) hlk
  exact ⟨_, _, X.returnOut hx hret hd hr, hrun, hended, _, _, rfl, hq, ⟨_, rfl⟩, hW, hsame.mono hc hs⟩
abbrev own_K (p : Program) (l : Launch) (e : Env) (R : Room) (s : State) (m : MethodId) (args : Array Value) (below : List Frame) (meth : Method) (c : Code) (P : State → Outcome → Prop) (locs : List Loc) (cells slots : Nat) (rm : Room) (Q : Option Value → Heap → List Loc → Prop) (pc : Nat) (Ls : Array Slot) (rest : List Value) : Prop :=
  ∀ (T' : State) (v : Option Value) (L : List Loc), Stand p l e R s m args below meth c T' (locs ++ L) (cells + rm.cells) (slots + rm.slots) → Q v T'.heap L → own_Go p e below P T' (mkF m pc Ls (v.toList ++ rest))
theorem own_callS {own : String} {index : Nat} {y : MethodName} {bytes : ByteArray} {maxL : Nat} {ret : Option FieldType} {rm : Room} {Q : Option Value → Heap → List Loc → Prop} {ps : List FieldType} {r : Option FieldType} (X : Stand p l e R s m args below meth c T locs cells slots) (hx : p.tables.exec = Jvm.exec) (hZ : Z.Warmed39 s.vm) (hown : s.vm.findClass own = some m.cls) (eT : T.heap = h) (hd : decode c.code pc = .ok (.invokestatic index, 3))
    (argsL rest : List Value) (W : Nat) (C : own_Ct l Z y bytes maxL ret [] rm argsL.toArray h Q) (w1 : (Cond.methodLink own index y).before a0 Z = true) (w2 : (Cond.static y).before a0 Z = true) (w3 : (Cond.initialized y.cls).before a0 Z = true) (w4 : (Cond.code y bytes maxL ret).before a0 Z = true)
    (hy : y.cls ≠ "java/lang/invoke/MethodHandle" ∧ y.cls ≠ "java/lang/invoke/VarHandle") (hpd : parseMethodDescriptor y.desc = some ⟨ps, r⟩) (hsize : Ls.size = c.maxLocals) (hlen : argsL.length = ps.length) (hst : st = argsL.reverse ++ rest)
    (hW : (rest.map fun v => v.category).sum ≤ W) (hf : rm.frames + 1 ≤ R.frames) (hl : W + (maxL + 11) + rm.locals ≤ R.locals) (hc : cells + rm.cells ≤ R.cells) (hs : slots + rm.slots ≤ R.slots)
    (k : own_K p l e R s m args below meth c P locs cells slots rm Q (pc + 3) Ls rest) : own_Go p e below P T (mkF m pc Ls st) := by
  obtain ⟨v, _, ⟨T', L', k', n'⟩, -, X', ⟨Lc, hQ, l', y', z'⟩, stp⟩ := Jvm.LawKit.callS X hx (y := y) hown (mvT hZ w1) (mvT hZ w2) (mvT hZ w3) (mvT hZ w4) hy (backOf (W := W) (Q := Q) C hZ w4 w3 hf hl) (g := mkF m pc Ls st) rfl hsize (argsL := argsL) (rest := rest) (lenOf hpd hlen) hst (by show 2 * 0 + _ ≤ _; omega) hd (fun _ _ => ⟨rfl, eT, hc, hs⟩)
  dsimp only [Pt.U, Pt.locs, Pt.cells, Pt.slots] at X' l' y' z' stp hQ
  subst l' y' z'
  exact own_by stp (k T' v Lc X' hQ)
theorem own_callN {own : String} {index : Nat} {y : MethodName} {bytes : ByteArray} {maxL : Nat} {rm : Room} {Q : Option Value → Heap → List Loc → Prop} {ps : List FieldType} {r : Option FieldType} {a : Addr} (X : Stand p l e R s m args below meth c T locs cells slots) (hx : p.tables.exec = Jvm.exec) (hZ : Z.Warmed39 s.vm) (hown : s.vm.findClass own = some m.cls) (eT : T.heap = h) (hd : decode c.code pc = .ok (.invokespecial index, 3))
    (argsL rest : List Value) (W : Nat) (C : own_Ct l Z y bytes maxL none [] rm (.ref a :: argsL).toArray h Q) (w1 : (Cond.methodLink own index y).before a0 Z = true) (w2 : (Cond.instanceMethod y).before a0 Z = true) (w3 : (Cond.initialized y.cls).before a0 Z = true) (w4 : (Cond.code y bytes maxL none).before a0 Z = true)
    (hyi : y.name = "<init>") (hy : y.cls ≠ "java/lang/invoke/MethodHandle" ∧ y.cls ≠ "java/lang/invoke/VarHandle") (hpd : parseMethodDescriptor y.desc = some ⟨ps, r⟩) (hsize : Ls.size = c.maxLocals) (hlen : argsL.length = ps.length) (hst : st = argsL.reverse ++ .ref a :: rest)
    (hW : (rest.map fun v => v.category).sum ≤ W) (hf : rm.frames + 1 ≤ R.frames) (hl : W + (maxL + 11) + rm.locals ≤ R.locals) (hc : cells + rm.cells ≤ R.cells) (hs : slots + rm.slots ≤ R.slots)
    (k : own_K p l e R s m args below meth c P locs cells slots rm Q (pc + 3) Ls rest) : own_Go p e below P T (mkF m pc Ls st) := by
  obtain ⟨v, _, ⟨T', L', k', n'⟩, -, X', ⟨Lc, hQ, l', y', z'⟩, stp⟩ := X.specialBack hx (y := y) hyi hown (mvT hZ w1) (mvT hZ w2) (mvT hZ w4) hy (backOf (W := W) (Q := Q) C hZ w4 w3 hf hl) (g := mkF m pc Ls st) rfl hsize (Steps.refl _) (a := a) (argsL := argsL) (rest := rest) (lenOf hpd hlen) hst (by show 2 * 0 + _ ≤ _; omega) hd (fun _ _ => ⟨rfl, eT, hc, hs⟩)
  dsimp only [Pt.U, Pt.locs, Pt.cells, Pt.slots] at X' l' y' z' stp hQ
  subst l' y' z'
  exact own_by (fun _ k => stp.trans k) (k T' v Lc X' hQ)
theorem own_callV {own : String} {index : Nat} {C0 : String} {y z : MethodName} {bytes : ByteArray} {maxL : Nat} {ret : Option FieldType} {rm : Room} {Q : Option Value → Heap → List Loc → Prop} {ps : List FieldType} {r : Option FieldType} {a : Addr} (X : Stand p l e R s m args below meth c T locs cells slots) (hx : p.tables.exec = Jvm.exec) (hZ : Z.Warmed39 s.vm) (hown : s.vm.findClass own = some m.cls) (eT : T.heap = h) (hd : decode c.code pc = .ok (.invokevirtual index, 3))
    (argsL rest : List Value) (W : Nat) (C : own_Ct l Z z bytes maxL ret [] rm (.ref a :: argsL).toArray h Q) (E : Exa Z h a C0) (w1 : (Cond.methodLink own index y).before a0 Z = true) (w0 : (Cond.declares y).before a0 Z = true) (nf : NotFace s y) (ws : (Cond.selects C0 y z).before a0 Z = true) (w2 : (Cond.instanceMethod z).before a0 Z = true) (w3 : (Cond.initialized z.cls).before a0 Z = true) (w4 : (Cond.code z bytes maxL ret).before a0 Z = true)
    (hy : y.cls ≠ "java/lang/invoke/MethodHandle" ∧ y.cls ≠ "java/lang/invoke/VarHandle") (hpd : parseMethodDescriptor y.desc = some ⟨ps, r⟩) (hsize : Ls.size = c.maxLocals) (hlen : argsL.length = ps.length) (hst : st = argsL.reverse ++ .ref a :: rest)
    (hW : (rest.map fun v => v.category).sum ≤ W) (hf : rm.frames + 1 ≤ R.frames) (hl : W + (maxL + 11) + rm.locals ≤ R.locals) (hc : cells + rm.cells ≤ R.cells) (hs : slots + rm.slots ≤ R.slots)
    (k : own_K p l e R s m args below meth c P locs cells slots rm Q (pc + 3) Ls rest) : own_Go p e below P T (mkF m pc Ls st) := by
  obtain ⟨cq, kq, qa, qb, qc⟩ := isOf hZ eT E
  obtain ⟨v, _, ⟨T', L', k', n'⟩, -, X', ⟨Lc, hQ, l', y', z'⟩, stp⟩ := X.virtualBack hx (y := y) (z := z) hown (mvT hZ w1) (mvT hZ w0) nf (mvT hZ ws) (mvT hZ w2) hy (backOf (W := W) (Q := Q) C hZ w4 w3 hf hl) qa qc (g := mkF m pc Ls st) rfl hsize (Steps.refl _) (argsL := argsL) (rest := rest) (lenOf hpd hlen) hst (by show 2 * 0 + _ ≤ _; omega) hd (fun _ _ => ⟨rfl, eT, hc, hs⟩)
  dsimp only [Pt.U, Pt.locs, Pt.cells, Pt.slots] at X' l' y' z' stp hQ
  subst l' y' z'
  exact own_by (fun _ k => stp.trans k) (k T' v Lc X' hQ)
theorem own_callP {own : String} {index : Nat} {C0 : String} {y : MethodName} {bytes : ByteArray} {maxL : Nat} {ret : Option FieldType} {rm : Room} {Q : Option Value → Heap → List Loc → Prop} {ps : List FieldType} {r : Option FieldType} {a : Addr} (X : Stand p l e R s m args below meth c T locs cells slots) (hx : p.tables.exec = Jvm.exec) (hZ : Z.Warmed39 s.vm) (hown : s.vm.findClass own = some m.cls) (eT : T.heap = h) (hd : decode c.code pc = .ok (.invokevirtual index, 3))
    (argsL rest : List Value) (W : Nat) (C : own_Ct l Z y bytes maxL ret [] rm (.ref a :: argsL).toArray h Q) (E : Exa Z h a C0) (w1 : (Cond.methodLink own index y).before a0 Z = true) (w2 : (Cond.instanceMethod y).before a0 Z = true) (ws : (Cond.selects y.cls y y).before a0 Z = true) (wp : (Cond.privateMethod y).before a0 Z = true) (w3 : (Cond.initialized y.cls).before a0 Z = true) (w4 : (Cond.code y bytes maxL ret).before a0 Z = true)
    (hy : y.cls ≠ "java/lang/invoke/MethodHandle" ∧ y.cls ≠ "java/lang/invoke/VarHandle") (hpd : parseMethodDescriptor y.desc = some ⟨ps, r⟩) (hsize : Ls.size = c.maxLocals) (hlen : argsL.length = ps.length) (hst : st = argsL.reverse ++ .ref a :: rest)
    (hW : (rest.map fun v => v.category).sum ≤ W) (hf : rm.frames + 1 ≤ R.frames) (hl : W + (maxL + 11) + rm.locals ≤ R.locals) (hc : cells + rm.cells ≤ R.cells) (hs : slots + rm.slots ≤ R.slots)
    (k : own_K p l e R s m args below meth c P locs cells slots rm Q (pc + 3) Ls rest) : own_Go p e below P T (mkF m pc Ls st) := by
  obtain ⟨cq, q1, q2⟩ := E.cell
  obtain ⟨v, _, ⟨T', L', k', n'⟩, -, X', ⟨Lc, hQ, l', y', z'⟩, stp⟩ := X.privateBack hx (y := y) hown (mvT hZ w1) (mvT hZ w2) (mvT hZ ws) (Cond.privateMethod_at (mvP hZ wp (args := #[]))) (mvT hZ w4) hy (backOf (W := W) (Q := Q) C hZ w4 w3 hf hl) (g := mkF m pc Ls st) rfl hsize (Steps.refl _) (a := a) (by rw [eT]; exact q1) q2 (argsL := argsL) (rest := rest) (lenOf hpd hlen) hst (by show 2 * 0 + _ ≤ _; omega) hd (fun _ _ => ⟨rfl, eT, hc, hs⟩)
  dsimp only [Pt.U, Pt.locs, Pt.cells, Pt.slots] at X' l' y' z' stp hQ
  subst l' y' z'
  exact own_by (fun _ k => stp.trans k) (k T' v Lc X' hQ)
abbrev own_K0 (p : Program) (l : Launch) (e : Env) (R : Room) (s : State) (m : MethodId) (args : Array Value) (below : List Frame) (meth : Method) (c : Code) (P : State → Outcome → Prop) (locs : List Loc) (cells slots : Nat) (h : Heap) (pc : Nat) (Ls : Array Slot) (st : List Value) : Prop :=
  ∀ (T' : State), Stand p l e R s m args below meth c T' locs cells slots → T'.heap = h → own_Go p e below P T' (mkF m pc Ls st)
theorem own_init {own : String} {index : Nat} {a : Addr} (X : Stand p l e R s m args below meth c T locs cells slots) (hx : p.tables.exec = Jvm.exec) (hZ : Z.Warmed39 s.vm) (hown : s.vm.findClass own = some m.cls) (eT : T.heap = h) (hd : decode c.code pc = .ok (.invokespecial index, 3)) (W : Nat)
    (w1 : (Cond.methodLink own index Lib.objectInit).before a0 Z = true) (w2 : (Cond.instanceMethod Lib.objectInit).before a0 Z = true) (w3 : (Cond.code Lib.objectInit ⟨#[0xb1]⟩ 1 none).before a0 Z = true) (hsize : Ls.size = c.maxLocals) (hW : (rest.map fun v => v.category).sum ≤ W) (hf : 1 ≤ R.frames) (hl : W + 12 ≤ R.locals)
    (k : own_K0 p l e R s m args below meth c P locs cells slots h (pc + 3) Ls rest) : own_Go p e below P T (mkF m pc Ls (.ref a :: rest)) := by
  obtain ⟨T', X', e', st⟩ := initO X hx hZ hown w1 w2 w3 eT (g := mkF m pc Ls (.ref a :: rest)) rfl hsize rfl hd hf (W := W) (by show 2 * 0 + _ ≤ _; omega) hl
  exact own_by st (k T' X' e')
theorem own_getF {own R0 O n d host : String} {index : Nat} {a : Addr} {v : Value} (X : Stand p l e R s m args below meth c T locs cells slots) (hx : p.tables.exec = Jvm.exec) (hZ : Z.Warmed39 s.vm) (hown : s.vm.findClass own = some m.cls) (eT : T.heap = h) (hd : decode c.code pc = .ok (.getfield index, 3))
    (w : (Cond.fieldLink own index R0 n d).before a0 Z = true ∨ (Cond.fieldLinkNest own index R0 n d host).before a0 Z = true) (via : Via Z R0 O n d) (F : Fld Z h a O n d v)
    (k : own_K0 p l e R s m args below meth c P locs cells slots h (pc + 3) Ls (v :: rest)) : own_Go p e below P T (mkF m pc Ls (.ref a :: rest)) := by
  obtain ⟨T', X', e', st⟩ := getF X hx hZ hown w via eT F (g := mkF m pc Ls (.ref a :: rest)) rfl rfl hd
  exact own_by st (k T' X' e')
theorem own_getS {own R0 O n d host : String} {index : Nat} {v : Value} (X : Stand p l e R s m args below meth c T locs cells slots) (hx : p.tables.exec = Jvm.exec) (hZ : Z.Warmed39 s.vm) (hown : s.vm.findClass own = some m.cls) (eT : T.heap = h) (hd : decode c.code pc = .ok (.getstatic index, 3))
    (w : (Cond.fieldLink own index R0 n d).before a0 Z = true ∨ (Cond.fieldLinkNest own index R0 n d host).before a0 Z = true) (via : Via Z R0 O n d) (F : Sta Z h O n d v)
    (k : own_K0 p l e R s m args below meth c P locs cells slots h (pc + 3) Ls (v :: st)) : own_Go p e below P T (mkF m pc Ls st) := by
  obtain ⟨T', X', e', stp⟩ := getS2 X hx hZ hown w via eT F (g := mkF m pc Ls st) rfl hd
  exact own_by stp (k T' X' e')
theorem own_new {own C : String} {index n : Nat} (X : Stand p l e R s m args below meth c T locs cells slots) (hx : p.tables.exec = Jvm.exec) (hZ : Z.Warmed39 s.vm) (hown : s.vm.findClass own = some m.cls) (eT : T.heap = h) (hd : decode c.code pc = .ok (.new index, 3))
    (w : (Cond.classLink own index C).before a0 Z = true) (wi : (Cond.instantiable C n).before a0 Z = true) (wz : (Cond.initialized C).before a0 Z = true) (hc : cells + 1 ≤ R.cells) (hl : slots + n ≤ R.slots)
    (k : ∀ (T' : State) (h' : Heap) (b : Addr), Stand p l e R s m args below meth c T' locs (cells + 1) (slots + n) → T'.heap = h' → b = h.size → Ext h h' → Exa Z h' b C → (∀ {O nm d : String} {ty : FieldType}, Laid Z a0 C O nm d → parseFieldDescriptor d = some ty → Fld Z h' b O nm d (defaultValue ty)) → own_Go p e below P T' (mkF m (pc + 3) Ls (.ref b :: st))) :
    own_Go p e below P T (mkF m pc Ls st) := by
  obtain ⟨T', h', X', e', E, A, D, -, stp⟩ := newO X hx hZ hown w wi wz eT (g := mkF m pc Ls st) rfl hd hc hl
  exact own_by stp (k T' h' _ X' e' rfl E A D)
theorem own_putF {own R0 O n d host C : String} {index kk : Nat} {ty : FieldType} {a : Addr} {v old : Value} (X : Stand p l e R s m args below meth c T locs cells slots) (hx : p.tables.exec = Jvm.exec) (hZ : Z.Warmed39 s.vm) (hown : s.vm.findClass own = some m.cls) (eT : T.heap = h) (hd : decode c.code pc = .ok (.putfield index, 3))
    (w : (Cond.fieldLink own index R0 n d).before a0 Z = true ∨ (Cond.fieldLinkNest own index R0 n d host).before a0 Z = true) (via : Via Z R0 O n d) (F : Fld Z h a O n d old) (E : Exa Z h a C) (L : (Cond.lays C O n d).before a0 Z = true ∨ ((Cond.laysFinal C O n d).before a0 Z = true ∧ own = O ∧ meth.name = "<init>")) (wi : (Cond.instantiable C kk).before a0 Z = true)
    (hty : parseFieldDescriptor d = some ty) (hn : narrow ty v = v) (hf : fits ty v = true)
    (k : ∀ (T' : State) (h' : Heap), Stand p l e R s m args below meth c T' (locs ++ [⟨a, Jvm.RoadKit.slotOf Z O n d⟩]) cells slots → T'.heap = h' → Wr h h' a (Jvm.RoadKit.slotOf Z O n d) v → own_Go p e below P T' (mkF m (pc + 3) Ls rest)) :
    own_Go p e below P T (mkF m pc Ls (v :: .ref a :: rest)) := by
  obtain ⟨T', h', X', e', W, st⟩ := putF X hx hZ hown w via eT F E L wi hty hn hf (g := mkF m pc Ls (v :: .ref a :: rest)) rfl rfl hd
  exact own_by st (k T' h' X' e' W)
theorem own_newA {aty : ArrayType} {n : Int32} (X : Stand p l e R s m args below meth c T locs cells slots) (hx : p.tables.exec = Jvm.exec) (hZ : Z.Warmed39 s.vm) (eT : T.heap = h) (hd : decode c.code pc = .ok (.newarray aty, 2))
    (w : (Cond.arrayClass (newarray.typeOf aty)).before a0 Z = true) (hn : ¬ n < 0) (cap : Nat) (hcap : n.toNatClampNeg ≤ cap) (hb : cap * 8 ≤ 536870912) (hc : cells + 1 ≤ R.cells) (hl : slots + cap ≤ R.slots)
    (k : ∀ (T' : State) (h' : Heap) (b : Addr) (cA : ClassId), Stand p l e R s m args below meth c T' locs (cells + 1) (slots + cap) → T'.heap = h' → b = h.size → Ext h h' → Arv Z h' b cA (newarray.typeOf aty) n [] (defaultValue (newarray.typeOf aty)) → own_Go p e below P T' (mkF m (pc + 2) Ls (.ref b :: rest))) :
    own_Go p e below P T (mkF m pc Ls (.int n :: rest)) := by
  obtain ⟨T', h', cA, X', e', E, A, stp⟩ := newP X hx hZ w eT (g := mkF m pc Ls (.int n :: rest)) rfl hd rfl hn hcap hb hc hl
  exact own_by stp (k T' h' _ cA X' e' rfl E (Arv.new A hn))
theorem own_ldcI {own : String} {index : Nat} {i : Int32} (X : Stand p l e R s m args below meth c T locs cells slots) (hx : p.tables.exec = Jvm.exec) (hZ : Z.Warmed39 s.vm) (hown : s.vm.findClass own = some m.cls) (hd : decode c.code pc = .ok (.ldc index, 2)) (w : (Cond.constant own index i).before a0 Z = true)
    (k : own_Go p e below P T (mkF m (pc + 2) Ls (.int i :: st))) : own_Go p e below P T (mkF m pc Ls st) :=
  own_by (fun t k => X.ldcInt hx hown (mvT hZ w) (g := mkF m pc Ls st) rfl hd t k) k
theorem own_ldcJ {own : String} {index : Nat} {i : Int64} (X : Stand p l e R s m args below meth c T locs cells slots) (hx : p.tables.exec = Jvm.exec) (hZ : Z.Warmed39 s.vm) (hown : s.vm.findClass own = some m.cls) (hd : decode c.code pc = .ok (.ldc2_w index, 3)) (w : (Cond.constantLong own index i).before a0 Z = true)
    (k : own_Go p e below P T (mkF m (pc + 3) Ls (.long i :: st))) : own_Go p e below P T (mkF m pc Ls st) :=
  own_by (fun t k => X.ldc2Long hx hown (mvT hZ w) (g := mkF m pc Ls st) rfl hd t k) k
theorem own_ns {a : Addr} {C : String} (F : Exa Z h a C) : ∃ c : Cell, h[a]? = some c ∧ c.vm.isStatics = false := by obtain ⟨c, _, h1, -, -, h4, -⟩ := F; exact ⟨c, h1, h4⟩
theorem own_sta_keep {h' : Heap} {C n d : String} {v : Value} {ws : List Addr} (F : Sta Z h C n d v) (K : Keep h h' ws) (q : ∀ x ∈ ws, ∃ c : Cell, h[x]? = some c ∧ c.vm.isStatics = false) : Sta Z h' C n d v := by
  obtain ⟨cf, i, k, f, st, cell, h1, h2, h3, h4, h5, h6, h7⟩ := F
  refine ⟨cf, i, k, f, st, cell, h1, h2, h3, h4, K.2.1 st cell h5 fun z => ?_, h6, h7⟩
  obtain ⟨c, c1, c2⟩ := q st z
  cases h5.symm.trans c1
  rw [h6] at c2; cases c2
end Own
section OwnArr
variable {p : Program} {l : Launch} {e : Env} {R : Room} {s : State} {m : MethodId} {args : Array Value} {below : List Frame} {meth : Method} {c : Code} {T : State} {locs : List Loc} {cells slots : Nat} {Z : State} {a0 : Array Value} {h h' : Heap} {P : State → Outcome → Prop} {pc : Nat} {Ls : Array Slot} {rest st : List Value} {a b : Addr} {ty : FieldType} {n : Nat} {f g : Nat → Int32}
/-- an array of ints (chars, bytes ..): its length, its elements -/
def own_A (Z : State) (h : Heap) (a : Addr) (ty : FieldType) (n : Nat) (f : Nat → Int32) : Prop := ∃ cl : Cell, Arr Z h a cl ty ∧ cl.slots.size = n ∧ n < 2147483648 ∧ ∀ i, i < n → cl.slots[i]? = some (.int (f i))
theorem own_A.lt (F : own_A Z h a ty n f) : a < h.size := by obtain ⟨_, A, -⟩ := F; exact A.lt
theorem own_A.ext (F : own_A Z h a ty n f) (E : Ext h h') : own_A Z h' a ty n f := by obtain ⟨cl, A, r⟩ := F; exact ⟨cl, A.ext E, r⟩
theorem own_A.other {sl : Nat} {v : Value} (F : own_A Z h b ty n f) (W : Wr h h' a sl v) (q : b ≠ a) : own_A Z h' b ty n f := by obtain ⟨cl, A, r⟩ := F; exact ⟨cl, A.other W q, r⟩
theorem own_A.keep {ws : List Addr} (F : own_A Z h a ty n f) (K : Keep h h' ws) (q : a ∉ ws) : own_A Z h' a ty n f := by obtain ⟨cl, A, r⟩ := F; exact ⟨cl, ⟨K.2.1 a cl A.1 q, A.2⟩, r⟩
theorem own_A.small (F : own_A Z h a ty n f) : n < 2147483648 := by obtain ⟨_, _, _, q, _⟩ := F; exact q
theorem own_A.congr (F : own_A Z h a ty n f) (q : ∀ i, i < n → f i = g i) : own_A Z h a ty n g := by
  obtain ⟨cl, A, h1, h2, h3⟩ := F
  exact ⟨cl, A, h1, h2, fun i hi => by rw [h3 i hi, q i hi]⟩
theorem own_A.set {j : Nat} {v : Int32} (F : own_A Z h a ty n f) (W : Wr h h' a j (.int v)) : own_A Z h' a ty n (fun i => if i = j then v else f i) := by
  obtain ⟨cl, A, h1, h2, h3⟩ := F
  have hw : j < cl.slots.size := by obtain ⟨c', q1, -, q3, -⟩ := W; cases q1.symm.trans A.1; exact q3
  refine ⟨_, A.same W, by rw [sz_set]; exact h1, h2, fun i hi => ?_⟩
  by_cases q : i = j
  · subst q; simp [Cell.setSlot, hw]
  · show _ = some (Value.int (if i = j then v else f i))
    rw [if_neg q, ← h3 i hi]; exact Array.getElem?_setIfInBounds_ne (Ne.symm q)
theorem own_nsA (F : own_A Z h a ty n f) : ∃ c : Cell, h[a]? = some c ∧ c.vm.isStatics = false := by obtain ⟨cl, A, -⟩ := F; exact ⟨cl, A.1, A.plain⟩
theorem own_clamp {j : Int32} (h0 : 0 ≤ j.toInt) : j.toNatClampNeg = j.toInt.toNat := rfl
theorem own_inb {j : Int32} {k : Nat} (h0 : 0 ≤ j.toInt) (h1 : j.toInt < k) : ¬ (j < 0 ∨ k ≤ j.toNatClampNeg) := by
  rintro (q | q)
  · have := Int32.lt_iff_toInt_lt.mp q
    have e : (0 : Int32).toInt = 0 := by decide
    omega
  · rw [own_clamp h0] at q; omega
theorem own_A.new {k : ClassId} {z : Int32} {v : Int32} (F : Arv Z h a k ty z [] (.int v)) : own_A Z h a ty z.toInt.toNat (fun _ => v) := by
  obtain ⟨cl, A, -, h2, h3, H, -⟩ := F
  have e : z.toNatClampNeg = z.toInt.toNat := rfl
  refine ⟨cl, A, h2.trans e, ?_, fun i hi => ?_⟩
  · have := rng32 z; omega
  · rw [H i (by rw [h2, e]; exact hi)]; rfl
theorem own_alen {j : Int32} (X : Stand p l e R s m args below meth c T locs cells slots) (hx : p.tables.exec = Jvm.exec) (hZ : Z.Warmed39 s.vm) (eT : T.heap = h) (hd : decode c.code pc = .ok (.arraylength, 1)) (F : own_A Z h a ty n f) (hj : j.toInt = n)
    (k : own_Go p e below P T (mkF m (pc + 1) Ls (.int j :: rest))) : own_Go p e below P T (mkF m pc Ls (.ref a :: rest)) := by
  obtain ⟨cl, A, h1, h2, -⟩ := F
  have e1 : cl.slots.size.toInt32 = j := by
    apply Int32.toInt_inj.mp
    rw [hj, h1]; exact Int32.toInt_ofNat_of_lt h2
  refine own_by (fun t k => X.arraylength hx (by rw [eT]; exact A.1) (State.isArrayOf_alike hZ.alike A.2.1) (g := mkF m pc Ls (.ref a :: rest)) rfl rfl hd t k) ?_
  rw [e1]; exact k
theorem own_ldI {j : Int32} (X : Stand p l e R s m args below meth c T locs cells slots) (hx : p.tables.exec = Jvm.exec) (hZ : Z.Warmed39 s.vm) (eT : T.heap = h) (hd : decode c.code pc = .ok (.iaload, 1)) (F : own_A Z h a .int n f) (h0 : 0 ≤ j.toInt) (h1 : j.toInt < n)
    (k : own_Go p e below P T (mkF m (pc + 1) Ls (.int (f j.toInt.toNat) :: rest))) : own_Go p e below P T (mkF m pc Ls (.int j :: .ref a :: rest)) := by
  obtain ⟨cl, A, e1, e2, e3⟩ := F
  exact own_by (fun t k => X.iaload hx (j := j) (v := .int (f j.toInt.toNat)) (by rw [eT]; exact A.1) (State.isArrayOf_alike hZ.alike A.2.1) A.2.2 (by rw [e1]; exact own_inb h0 h1) (e3 j.toInt.toNat (by omega)) (g := mkF m pc Ls (.int j :: .ref a :: rest)) rfl rfl hd t k) k
theorem own_ldC {j : Int32} (X : Stand p l e R s m args below meth c T locs cells slots) (hx : p.tables.exec = Jvm.exec) (hZ : Z.Warmed39 s.vm) (eT : T.heap = h) (hd : decode c.code pc = .ok (.caload, 1)) (F : own_A Z h a .char n f) (h0 : 0 ≤ j.toInt) (h1 : j.toInt < n)
    (k : own_Go p e below P T (mkF m (pc + 1) Ls (.int (f j.toInt.toNat) :: rest))) : own_Go p e below P T (mkF m pc Ls (.int j :: .ref a :: rest)) := by
  obtain ⟨cl, A, e1, e2, e3⟩ := F
  exact own_by (fun t k => X.caload hx (j := j) (v := .int (f j.toInt.toNat)) (by rw [eT]; exact A.1) (State.isArrayOf_alike hZ.alike A.2.1) A.2.2 (by rw [e1]; exact own_inb h0 h1) (e3 j.toInt.toNat (by omega)) (g := mkF m pc Ls (.int j :: .ref a :: rest)) rfl rfl hd t k) k
theorem own_ldB {j : Int32} (X : Stand p l e R s m args below meth c T locs cells slots) (hx : p.tables.exec = Jvm.exec) (hZ : Z.Warmed39 s.vm) (eT : T.heap = h) (hd : decode c.code pc = .ok (.baload, 1)) (F : own_A Z h a .byte n f) (h0 : 0 ≤ j.toInt) (h1 : j.toInt < n)
    (k : own_Go p e below P T (mkF m (pc + 1) Ls (.int (f j.toInt.toNat) :: rest))) : own_Go p e below P T (mkF m pc Ls (.int j :: .ref a :: rest)) := by
  obtain ⟨cl, A, e1, e2, e3⟩ := F
  exact own_by (fun t k => X.baloadBytes hx (j := j) (v := .int (f j.toInt.toNat)) (by rw [eT]; exact A.1) (State.isArrayOf_alike hZ.alike A.2.1) A.2.2 (by rw [e1]; exact own_inb h0 h1) (e3 j.toInt.toNat (by omega)) (g := mkF m pc Ls (.int j :: .ref a :: rest)) rfl rfl hd t k) k
abbrev own_KW (p : Program) (l : Launch) (e : Env) (R : Room) (s : State) (m : MethodId) (args : Array Value) (below : List Frame) (meth : Method) (c : Code) (P : State → Outcome → Prop) (locs : List Loc) (cells slots : Nat) (Z : State) (h : Heap) (a : Addr) (ty : FieldType) (n : Nat) (f : Nat → Int32) (j : Nat) (v : Int32) (pc : Nat) (Ls : Array Slot) (st : List Value) : Prop :=
  ∀ (T' : State) (h' : Heap), Stand p l e R s m args below meth c T' (locs ++ [⟨a, j⟩]) cells slots → T'.heap = h' → Wr h h' a j (.int v) → own_A Z h' a ty n (fun i => if i = j then v else f i) → own_Go p e below P T' (mkF m pc Ls st)
theorem own_stI {j x : Int32} (X : Stand p l e R s m args below meth c T locs cells slots) (hx : p.tables.exec = Jvm.exec) (hZ : Z.Warmed39 s.vm) (eT : T.heap = h) (hd : decode c.code pc = .ok (.iastore, 1)) (F : own_A Z h a .int n f) (h0 : 0 ≤ j.toInt) (h1 : j.toInt < n)
    (k : own_KW p l e R s m args below meth c P locs cells slots Z h a .int n f j.toInt.toNat x (pc + 1) Ls rest) : own_Go p e below P T (mkF m pc Ls (.int x :: .int j :: .ref a :: rest)) := by
  obtain ⟨cl, A, e1, e2, e3⟩ := F
  obtain ⟨T', h', X', e', W, stp⟩ := stI X hx hZ eT A (j := j) (x := x) (by rw [e1]; exact own_inb h0 h1) (g := mkF m pc Ls (.int x :: .int j :: .ref a :: rest)) rfl rfl hd
  exact own_by stp (k T' h' X' e' W (own_A.set ⟨cl, A, e1, e2, e3⟩ W))
theorem own_stC {j x : Int32} (X : Stand p l e R s m args below meth c T locs cells slots) (hx : p.tables.exec = Jvm.exec) (hZ : Z.Warmed39 s.vm) (eT : T.heap = h) (hd : decode c.code pc = .ok (.castore, 1)) (F : own_A Z h a .char n f) (h0 : 0 ≤ j.toInt) (h1 : j.toInt < n)
    (k : own_KW p l e R s m args below meth c P locs cells slots Z h a .char n f j.toInt.toNat (nar .char x) (pc + 1) Ls rest) : own_Go p e below P T (mkF m pc Ls (.int x :: .int j :: .ref a :: rest)) := by
  obtain ⟨cl, A, e1, e2, e3⟩ := F
  obtain ⟨T', h', X', e', W, stp⟩ := stC X hx hZ eT A (j := j) (x := x) (by rw [e1]; exact own_inb h0 h1) (g := mkF m pc Ls (.int x :: .int j :: .ref a :: rest)) rfl rfl hd
  exact own_by stp (k T' h' X' e' W (own_A.set ⟨cl, A, e1, e2, e3⟩ W))
theorem own_stB {j x : Int32} (X : Stand p l e R s m args below meth c T locs cells slots) (hx : p.tables.exec = Jvm.exec) (hZ : Z.Warmed39 s.vm) (eT : T.heap = h) (hd : decode c.code pc = .ok (.bastore, 1)) (F : own_A Z h a .byte n f) (h0 : 0 ≤ j.toInt) (h1 : j.toInt < n)
    (k : own_KW p l e R s m args below meth c P locs cells slots Z h a .byte n f j.toInt.toNat (nar .byte x) (pc + 1) Ls rest) : own_Go p e below P T (mkF m pc Ls (.int x :: .int j :: .ref a :: rest)) := by
  obtain ⟨cl, A, e1, e2, e3⟩ := F
  obtain ⟨T', h', X', e', W, stp⟩ := stB X hx hZ eT A (j := j) (x := x) (by rw [e1]; exact own_inb h0 h1) (g := mkF m pc Ls (.int x :: .int j :: .ref a :: rest)) rfl rfl hd
  exact own_by stp (k T' h' X' e' W (own_A.set ⟨cl, A, e1, e2, e3⟩ W))
theorem own_mkA {aty : ArrayType} {z : Int32} {v : Int32} (X : Stand p l e R s m args below meth c T locs cells slots) (hx : p.tables.exec = Jvm.exec) (hZ : Z.Warmed39 s.vm) (eT : T.heap = h) (hd : decode c.code pc = .ok (.newarray aty, 2))
    (w : (Cond.arrayClass (newarray.typeOf aty)).before a0 Z = true) (hv : defaultValue (newarray.typeOf aty) = .int v) (h0 : 0 ≤ z.toInt) (cap : Nat) (hcap : z.toInt ≤ cap) (hb : cap * 8 ≤ 536870912) (hc : cells + 1 ≤ R.cells) (hl : slots + cap ≤ R.slots)
    (k : ∀ (T' : State) (h' : Heap) (b : Addr), Stand p l e R s m args below meth c T' locs (cells + 1) (slots + cap) → T'.heap = h' → b = h.size → Ext h h' → own_A Z h' b (newarray.typeOf aty) z.toInt.toNat (fun _ => v) → own_Go p e below P T' (mkF m (pc + 2) Ls (.ref b :: rest))) :
    own_Go p e below P T (mkF m pc Ls (.int z :: rest)) := by
  have e0 : (0 : Int32).toInt = 0 := by decide
  refine own_newA X hx hZ eT hd w (fun q => ?_) cap ?_ hb hc hl ?_
  · have := Int32.lt_iff_toInt_lt.mp q; omega
  · rw [own_clamp h0]; omega
  · intro T' h' b' cA X' e' g' E A
    rw [hv] at A
    exact k T' h' b' X' e' g' E (own_A.new A)
end OwnArr
section OwnStr
/-- the first place whose sign is above 255, from i on, of k places -/
def own_fstA (f : Nat → Int32) : Nat → Nat → Nat
  | 0, i => i
  | k + 1, i => if (255 : Int32) < f i then i else own_fstA f k (i + 1)
def own_fst (f : Nat → Int32) (n : Nat) : Nat := own_fstA f n 0
/-- a sign's byte as it is stored -/
def own_b8 (x : Int32) : Int32 := nar .byte x.toInt8.toInt32
theorem own_upd (j : Nat) (φ g : Nat → Int32) (i : Nat) : (if i = j then φ j else if i < j then φ i else g i) = (if i < j + 1 then φ i else g i) := by
  by_cases h : i = j
  · subst h; simp
  · by_cases h2 : i < j
    · rw [if_neg h, if_pos h2, if_pos (by omega)]
    · rw [if_neg h, if_neg h2, if_neg (by omega)]
theorem own_inc {iv : Int32} {j n : Nat} (h : iv.toInt = j) (h1 : j < n) (h2 : n < 2147483648) : (iv + (1 : Int32)).toInt = ((j + 1 : Nat) : Int) := by
  have q := c_iadd iv 1
  have e1 : (1 : Int32).toInt = 1 := by decide
  have r := rng32 (iv + 1)
  omega
theorem own_nz {z : Int32} {n : Nat} (hz : z.toInt = n) (h1 : 1 ≤ n) : ¬ (z = (0 : Int32)) := fun q => by
  rw [q] at hz
  have : (0 : Int32).toInt = 0 := by decide
  omega
theorem own_cd0 (z : Int32) : ((((z - z).toUInt32 >>> ((31 : Int32) &&& 31).toUInt32).toInt32).toInt8.toInt32) = 0 := by rw [Int32.sub_self]; decide
theorem own_fstA_all {f : Nat → Int32} : ∀ (k i : Nat), (∀ q, i ≤ q → q < i + k → ¬ (255 : Int32) < f q) → own_fstA f k i = i + k
  | 0, i, _ => rfl
  | k + 1, i, h => by
    rw [own_fstA, if_neg (h i (Nat.le_refl _) (by omega)), own_fstA_all k (i + 1) (fun q h1 h2 => h q (by omega) (by omega))]; omega
theorem own_fst_all {f : Nat → Int32} {n : Nat} (h : ∀ q, q < n → ¬ (255 : Int32) < f q) : own_fst f n = n := by
  rw [own_fst, own_fstA_all n 0 (fun q _ h2 => h q (by omega))]; omega
theorem own_A.uniq {Z : State} {h : Heap} {a : Addr} {ty ty' : FieldType} {n n' : Nat} {f f' : Nat → Int32} (F : own_A Z h a ty n f) (G : own_A Z h a ty' n' f') : n = n' ∧ ∀ i, i < n → f i = f' i := by
  obtain ⟨c, A, h1, h2, h3⟩ := F
  obtain ⟨c', A', h1', h2', h3'⟩ := G
  cases A.1.symm.trans A'.1
  have e : n = n' := h1.symm.trans h1'
  refine ⟨e, fun i hi => ?_⟩
  have q := (h3 i hi).symm.trans (h3' i (e ▸ hi))
  simpa using q
theorem own_fld_uniq {Z : State} {h : Heap} {a : Addr} {C n d : String} {v w : Value} (F : Fld Z h a C n d v) (G : Fld Z h a C n d w) : v = w := by
  by_cases e : v = w
  · exact e
  · exact absurd rfl (Fld.ne F G e)
/-- the answer of an equals on two arrays -/
def own_eqA (n1 : Nat) (f1 : Nat → Int32) (n2 : Nat) (f2 : Nat → Int32) : Int32 := if n1 = n2 ∧ ∀ i, i < n1 → f1 i = f2 i then 1 else 0
theorem own_eqA_01 (n1 : Nat) (f1 : Nat → Int32) (n2 : Nat) (f2 : Nat → Int32) : own_eqA n1 f1 n2 f2 = 0 ∨ own_eqA n1 f1 n2 f2 = 1 := by unfold own_eqA; split <;> simp
theorem own_eqA_ne {n1 n2 : Nat} {f1 f2 : Nat → Int32} (h : ¬ n1 = n2) : own_eqA n1 f1 n2 f2 = 0 := by unfold own_eqA; rw [if_neg fun q => h q.1]
theorem own_eqA_at {n1 n2 : Nat} {f1 f2 : Nat → Int32} {j : Nat} (hj : j < n1) (h : ¬ f1 j = f2 j) : own_eqA n1 f1 n2 f2 = 0 := by unfold own_eqA; rw [if_neg fun q => h (q.2 j hj)]
theorem own_eqA_all {n1 n2 : Nat} {f1 f2 : Nat → Int32} (e : n1 = n2) (h : ∀ i, i < n1 → f1 i = f2 i) : own_eqA n1 f1 n2 f2 = 1 := by unfold own_eqA; rw [if_pos ⟨e, h⟩]
theorem own_i256 (z : Int32) (h0 : 0 ≤ z.toInt) (h1 : z.toInt < 256) : ∃ k : Fin 256, z = Int32.ofNat k.1 := by
  refine ⟨⟨z.toInt.toNat, by omega⟩, Int32.toInt_inj.mp ?_⟩
  rw [Int32.toInt_ofNat_of_lt (by simp only; omega)]
  simp only; omega
theorem own_b8_tab : ∀ k : Fin 256, ((own_b8 (Int32.ofNat k.1)) &&& (255 : Int32)).toUInt32.toUInt16.toUInt32.toInt32 = Int32.ofNat k.1 := by decide +kernel
/-- the byte read back -/
theorem own_b8_char (x : Int32) (h0 : 0 ≤ x.toInt) (h1 : x.toInt < 256) : ((own_b8 x) &&& (255 : Int32)).toUInt32.toUInt16.toUInt32.toInt32 = x := by
  obtain ⟨k, rfl⟩ := own_i256 x h0 h1
  exact own_b8_tab k
theorem own_b8_inj (x y : Int32) (h0 : 0 ≤ x.toInt) (h1 : x.toInt < 256) (g0 : 0 ≤ y.toInt) (g1 : y.toInt < 256) (e : own_b8 x = own_b8 y) : x = y := by
  rw [← own_b8_char x h0 h1, ← own_b8_char y g0 g1, e]
end OwnStr
section OwnDS
def own_q (P : List Nat) (i : Nat) : Int32 := Int32.ofNat (P.getD i 0)
theorem own_oi {a : Nat} (h : a < 1000) : (Int32.ofNat a).toInt = (a : Int) := Int32.toInt_ofNat_of_lt (by omega)
theorem own_oe {a b : Nat} (ha : a < 1000) (hb : b < 1000) : Int32.ofNat a = Int32.ofNat b ↔ a = b := ⟨fun h => by have q := congrArg Int32.toInt h; rw [own_oi ha, own_oi hb] at q; omega, fun h => by rw [h]⟩
theorem own_ol {a b : Nat} (ha : a < 1000) (hb : b < 1000) : Int32.ofNat a < Int32.ofNat b ↔ a < b := by rw [Int32.lt_iff_toInt_lt, own_oi ha, own_oi hb]; omega
theorem own_oa {a b : Nat} (h : a + b < 1000) : Int32.ofNat a + Int32.ofNat b = Int32.ofNat (a + b) := Int32.toInt_inj.mp (by
  have q := c_iadd (Int32.ofNat a) (Int32.ofNat b)
  have r := rng32 (Int32.ofNat a + Int32.ofNat b)
  rw [own_oi (show a < 1000 by omega), own_oi (show b < 1000 by omega)] at q
  rw [own_oi h]; omega)
theorem own_qx {P : List Nat} {a : Nat} (h : a < 4) : own_q P (Int32.ofNat a).toInt.toNat = Int32.ofNat (P.getD a 0) := by unfold own_q; rw [own_oi (show a < 1000 by omega)]; rfl
theorem own_qset {P : List Nat} {a w i : Nat} (h : a < 4) (hl : P.length = 4) (hi : i < 4) : (if i = (Int32.ofNat a).toInt.toNat then Int32.ofNat w else own_q P i) = own_q (P.set a w) i := by
  unfold own_q; rw [own_oi (show a < 1000 by omega), show ((a : Int)).toNat = a from rfl]
  rw [List.getD_eq_getElem?_getD, List.getD_eq_getElem?_getD, List.getElem?_set]
  by_cases e : i = a
  · subst e; rw [if_pos rfl, if_pos rfl, if_pos (by omega)]; rfl
  · rw [if_neg e, if_neg (fun q => e q.symm)]
theorem own_gs {P : List Nat} {a w : Nat} (h : a < 4) (hl : P.length = 4) : (P.set a w).getD a 0 = w := by rw [List.getD_eq_getElem?_getD, List.getElem?_set, if_pos rfl, if_pos (by omega)]; rfl
def own_f : Nat → List Nat → Nat → List Nat × Nat
  | 0, P, x => (P, x)
  | k + 1, P, x => if P.getD x 0 = x then (P, x) else own_f k (P.set x (P.getD (P.getD x 0) 0)) (P.getD (P.getD x 0) 0)
def own_ok : Nat → List Nat → Nat → Bool
  | 0, _, _ => false
  | k + 1, P, x => decide (P.length = 4) && decide (x < 4) && decide (P.getD x 0 < 4) && (decide (P.getD x 0 = x) || own_ok k (P.set x (P.getD (P.getD x 0) 0)) (P.getD (P.getD x 0) 0))
theorem own_ok_s {k : Nat} {P : List Nat} {x : Nat} (h : own_ok (k + 1) P x = true) : P.length = 4 ∧ x < 4 ∧ P.getD x 0 < 4 ∧ (P.getD x 0 = x ∨ own_ok k (P.set x (P.getD (P.getD x 0) 0)) (P.getD (P.getD x 0) 0) = true) := by
  simp only [own_ok, Bool.and_eq_true, Bool.or_eq_true, decide_eq_true_eq] at h
  exact ⟨h.1.1.1, h.1.1.2, h.1.2, h.2⟩
def own_u3 (P S : List Nat) (ra rb : Nat) : List Nat × List Nat × Nat := if ra = rb then (P, S, 0) else if S.getD ra 0 < S.getD rb 0 then (P.set ra rb, S.set rb (S.getD rb 0 + S.getD ra 0), 1) else (P.set rb ra, S.set ra (S.getD ra 0 + S.getD rb 0), 1)
def own_rl (L : List Nat) (fr to : Nat) : List Nat := [if L.getD 0 0 = fr then to else L.getD 0 0, if L.getD 1 0 = fr then to else L.getD 1 0, if L.getD 2 0 = fr then to else L.getD 2 0, if L.getD 3 0 = fr then to else L.getD 3 0]
abbrev own_DS := List Nat × List Nat × List Nat
def own_F1 (st : own_DS) (a : Nat) := own_f 4 st.1 a
def own_F2 (st : own_DS) (a b : Nat) := own_f 4 (own_F1 st a).1 b
def own_U (st : own_DS) (a b : Nat) := own_u3 (own_F2 st a b).1 st.2.1 (own_F1 st a).2 (own_F2 st a b).2
def own_nx (st : own_DS) (a b : Nat) : own_DS := ((own_U st a b).1, (own_U st a b).2.1, if st.2.2.getD a 0 = st.2.2.getD b 0 then st.2.2 else own_rl st.2.2 (st.2.2.getD b 0) (st.2.2.getD a 0))
def own_gd (st : own_DS) (a b : Nat) : Prop := own_ok 4 st.1 a = true ∧ own_ok 4 (own_F1 st a).1 b = true ∧ (own_F1 st a).2 < 4 ∧ (own_F2 st a b).2 < 4 ∧ (own_F2 st a b).1.length = 4 ∧ st.2.1.length = 4 ∧ st.2.1.getD (own_F1 st a).2 0 < 100 ∧ st.2.1.getD (own_F2 st a b).2 0 < 100 ∧ st.2.2.length = 4 ∧ (∀ i : Fin 4, st.2.2.getD i.1 0 < 100) ∧ (own_U st a b).2.2 = (if st.2.2.getD a 0 = st.2.2.getD b 0 then 0 else 1)
instance (st : own_DS) (a b : Nat) : Decidable (own_gd st a b) := by unfold own_gd; infer_instance
def own_R : List own_DS := [([0, 1, 2, 3], [1, 1, 1, 1], [0, 1, 2, 3]), ([0, 0, 2, 3], [2, 1, 1, 1], [0, 0, 2, 3]), ([0, 1, 0, 3], [2, 1, 1, 1], [0, 1, 0, 3]), ([0, 1, 2, 0], [2, 1, 1, 1], [0, 1, 2, 0]), ([1, 1, 2, 3], [1, 2, 1, 1], [1, 1, 2, 3]), ([0, 1, 1, 3], [1, 2, 1, 1], [0, 1, 1, 3]), ([0, 1, 2, 1], [1, 2, 1, 1], [0, 1, 2, 1]), ([2, 1, 2, 3], [1, 1, 2, 1], [2, 1, 2, 3]), ([0, 2, 2, 3], [1, 1, 2, 1], [0, 2, 2, 3]), ([0, 1, 2, 2], [1, 1, 2, 1], [0, 1, 2, 2]), ([3, 1, 2, 3], [1, 1, 1, 2], [3, 1, 2, 3]), ([0, 3, 2, 3], [1, 1, 1, 2], [0, 3, 2, 3]), ([0, 1, 3, 3], [1, 1, 1, 2], [0, 1, 3, 3]), ([0, 0, 0, 3], [3, 1, 1, 1], [0, 0, 0, 3]), ([0, 0, 2, 0], [3, 1, 1, 1], [0, 0, 2, 0]), ([0, 0, 0, 3], [3, 1, 1, 1], [2, 2, 2, 3]), ([0, 0, 2, 2], [2, 1, 2, 1], [0, 0, 2, 2]), ([0, 0, 2, 0], [3, 1, 1, 1], [3, 3, 2, 3]), ([0, 0, 3, 3], [2, 1, 1, 2], [0, 0, 3, 3]), ([0, 1, 0, 0], [3, 1, 1, 1], [0, 1, 0, 0]), ([0, 0, 0, 3], [3, 1, 1, 1], [1, 1, 1, 3]), ([0, 1, 0, 1], [2, 2, 1, 1], [0, 1, 0, 1]), ([0, 1, 0, 0], [3, 1, 1, 1], [3, 1, 3, 3]), ([0, 3, 0, 3], [2, 1, 1, 2], [0, 3, 0, 3]), ([0, 0, 2, 0], [3, 1, 1, 1], [1, 1, 2, 1]), ([0, 1, 1, 0], [2, 2, 1, 1], [0, 1, 1, 0]), ([0, 1, 0, 0], [3, 1, 1, 1], [2, 1, 2, 2]), ([0, 2, 2, 0], [2, 1, 2, 1], [0, 2, 2, 0]), ([1, 1, 1, 3], [1, 3, 1, 1], [1, 1, 1, 3]), ([1, 1, 2, 1], [1, 3, 1, 1], [1, 1, 2, 1]), ([1, 1, 1, 3], [1, 3, 1, 1], [2, 2, 2, 3]), ([1, 1, 2, 2], [1, 2, 2, 1], [1, 1, 2, 2]), ([1, 1, 2, 1], [1, 3, 1, 1], [3, 3, 2, 3]), ([1, 1, 3, 3], [1, 2, 1, 2], [1, 1, 3, 3]), ([1, 1, 1, 3], [1, 3, 1, 1], [0, 0, 0, 3]), ([0, 1, 1, 1], [1, 3, 1, 1], [0, 1, 1, 1]), ([3, 1, 1, 3], [1, 2, 1, 2], [3, 1, 1, 3]), ([0, 1, 1, 1], [1, 3, 1, 1], [0, 3, 3, 3]), ([1, 1, 2, 1], [1, 3, 1, 1], [0, 0, 2, 0]), ([2, 1, 2, 1], [1, 2, 2, 1], [2, 1, 2, 1]), ([0, 1, 1, 1], [1, 3, 1, 1], [0, 2, 2, 2]), ([2, 2, 2, 3], [1, 1, 3, 1], [2, 2, 2, 3]), ([2, 1, 2, 2], [1, 1, 3, 1], [2, 1, 2, 2]), ([2, 2, 2, 3], [1, 1, 3, 1], [1, 1, 1, 3]), ([2, 1, 2, 2], [1, 1, 3, 1], [3, 1, 3, 3]), ([2, 3, 2, 3], [1, 1, 2, 2], [2, 3, 2, 3]), ([2, 2, 2, 3], [1, 1, 3, 1], [0, 0, 0, 3]), ([0, 2, 2, 2], [1, 1, 3, 1], [0, 2, 2, 2]), ([3, 2, 2, 3], [1, 1, 2, 2], [3, 2, 2, 3]), ([0, 2, 2, 2], [1, 1, 3, 1], [0, 3, 3, 3]), ([2, 1, 2, 2], [1, 1, 3, 1], [0, 1, 0, 0]), ([0, 2, 2, 2], [1, 1, 3, 1], [0, 1, 1, 1]), ([3, 3, 2, 3], [1, 1, 1, 3], [3, 3, 2, 3]), ([3, 1, 3, 3], [1, 1, 1, 3], [3, 1, 3, 3]), ([3, 3, 2, 3], [1, 1, 1, 3], [1, 1, 2, 1]), ([3, 1, 3, 3], [1, 1, 1, 3], [2, 1, 2, 2]), ([3, 3, 2, 3], [1, 1, 1, 3], [0, 0, 2, 0]), ([0, 3, 3, 3], [1, 1, 1, 3], [0, 3, 3, 3]), ([0, 3, 3, 3], [1, 1, 1, 3], [0, 2, 2, 2]), ([3, 1, 3, 3], [1, 1, 1, 3], [0, 1, 0, 0]), ([0, 3, 3, 3], [1, 1, 1, 3], [0, 1, 1, 1]), ([0, 0, 0, 0], [4, 1, 1, 1], [0, 0, 0, 0]), ([0, 0, 0, 0], [4, 1, 1, 1], [3, 3, 3, 3]), ([0, 0, 0, 0], [4, 1, 1, 1], [2, 2, 2, 2]), ([0, 0, 0, 2], [4, 1, 2, 1], [0, 0, 0, 0]), ([2, 0, 2, 2], [2, 1, 4, 1], [2, 2, 2, 2]), ([0, 0, 3, 0], [4, 1, 1, 2], [0, 0, 0, 0]), ([3, 0, 3, 3], [2, 1, 1, 4], [3, 3, 3, 3]), ([0, 0, 0, 0], [4, 1, 1, 1], [1, 1, 1, 1]), ([0, 0, 0, 1], [4, 2, 1, 1], [0, 0, 0, 0]), ([1, 1, 0, 1], [2, 4, 1, 1], [1, 1, 1, 1]), ([0, 3, 0, 0], [4, 1, 1, 2], [0, 0, 0, 0]), ([3, 3, 0, 3], [2, 1, 1, 4], [3, 3, 3, 3]), ([0, 0, 1, 0], [4, 2, 1, 1], [0, 0, 0, 0]), ([1, 1, 1, 0], [2, 4, 1, 1], [1, 1, 1, 1]), ([0, 2, 0, 0], [4, 1, 2, 1], [0, 0, 0, 0]), ([2, 2, 2, 0], [2, 1, 4, 1], [2, 2, 2, 2]), ([1, 1, 1, 1], [1, 4, 1, 1], [1, 1, 1, 1]), ([1, 1, 1, 1], [1, 4, 1, 1], [3, 3, 3, 3]), ([1, 1, 1, 1], [1, 4, 1, 1], [2, 2, 2, 2]), ([1, 1, 1, 2], [1, 4, 2, 1], [1, 1, 1, 1]), ([1, 2, 2, 2], [1, 2, 4, 1], [2, 2, 2, 2]), ([1, 1, 3, 1], [1, 4, 1, 2], [1, 1, 1, 1]), ([1, 3, 3, 3], [1, 2, 1, 4], [3, 3, 3, 3]), ([1, 1, 1, 1], [1, 4, 1, 1], [0, 0, 0, 0]), ([3, 3, 1, 3], [1, 2, 1, 4], [3, 3, 3, 3]), ([3, 1, 1, 1], [1, 4, 1, 2], [1, 1, 1, 1]), ([2, 2, 2, 1], [1, 2, 4, 1], [2, 2, 2, 2]), ([2, 1, 1, 1], [1, 4, 2, 1], [1, 1, 1, 1]), ([2, 2, 2, 2], [1, 1, 4, 1], [2, 2, 2, 2]), ([2, 2, 2, 2], [1, 1, 4, 1], [3, 3, 3, 3]), ([2, 2, 2, 2], [1, 1, 4, 1], [1, 1, 1, 1]), ([2, 3, 2, 2], [1, 1, 4, 2], [2, 2, 2, 2]), ([2, 3, 3, 3], [1, 1, 2, 4], [3, 3, 3, 3]), ([2, 2, 2, 2], [1, 1, 4, 1], [0, 0, 0, 0]), ([3, 2, 3, 3], [1, 1, 2, 4], [3, 3, 3, 3]), ([3, 2, 2, 2], [1, 1, 4, 2], [2, 2, 2, 2]), ([3, 3, 3, 3], [1, 1, 1, 4], [3, 3, 3, 3]), ([3, 3, 3, 3], [1, 1, 1, 4], [2, 2, 2, 2]), ([3, 3, 3, 3], [1, 1, 1, 4], [1, 1, 1, 1]), ([3, 3, 3, 3], [1, 1, 1, 4], [0, 0, 0, 0]), ([0, 0, 0, 0], [4, 1, 2, 1], [0, 0, 0, 0]), ([2, 2, 2, 2], [2, 1, 4, 1], [2, 2, 2, 2]), ([0, 0, 0, 0], [4, 1, 1, 2], [0, 0, 0, 0]), ([3, 3, 3, 3], [2, 1, 1, 4], [3, 3, 3, 3]), ([0, 0, 0, 0], [4, 2, 1, 1], [0, 0, 0, 0]), ([1, 1, 1, 1], [2, 4, 1, 1], [1, 1, 1, 1]), ([1, 1, 1, 1], [1, 4, 2, 1], [1, 1, 1, 1]), ([2, 2, 2, 2], [1, 2, 4, 1], [2, 2, 2, 2]), ([1, 1, 1, 1], [1, 4, 1, 2], [1, 1, 1, 1]), ([3, 3, 3, 3], [1, 2, 1, 4], [3, 3, 3, 3]), ([2, 2, 2, 2], [1, 1, 4, 2], [2, 2, 2, 2]), ([3, 3, 3, 3], [1, 1, 2, 4], [3, 3, 3, 3])]
theorem own_R0 : ([0, 1, 2, 3], [1, 1, 1, 1], [0, 1, 2, 3]) ∈ own_R := List.mem_cons_self
theorem own_Rs : ∀ st ∈ own_R, ∀ a b : Fin 4, own_gd st a.1 b.1 ∧ own_nx st a.1 b.1 ∈ own_R := by decide +kernel
def own_F3 (st : own_DS) (a b : Nat) := own_f 4 (own_F2 st a b).1 (own_F1 st a).2
def own_F4 (st : own_DS) (a b : Nat) := own_f 4 (own_F3 st a b).1 a
def own_fin (st : own_DS) (a b : Nat) : Prop := own_ok 4 st.1 a = true ∧ own_ok 4 (own_F1 st a).1 b = true ∧ own_ok 4 (own_F2 st a b).1 (own_F1 st a).2 = true ∧ own_ok 4 (own_F3 st a b).1 a = true ∧ (own_F1 st a).2 < 4 ∧ (own_F2 st a b).2 < 4 ∧ (own_F3 st a b).2 = (own_F1 st a).2 ∧ (own_F4 st a b).2 = (own_F1 st a).2 ∧
  (∀ i : Fin 4, st.2.2.getD i.1 0 < 100) ∧ st.2.2.getD (own_F1 st a).2 0 = st.2.2.getD a 0 ∧ st.2.2.getD (own_F2 st a b).2 0 = st.2.2.getD b 0 ∧ ((own_F1 st a).2 = (own_F2 st a b).2 ↔ st.2.2.getD a 0 = st.2.2.getD b 0)
instance (st : own_DS) (a b : Nat) : Decidable (own_fin st a b) := by unfold own_fin; infer_instance
theorem own_Rf : ∀ st ∈ own_R, ∀ a b : Fin 4, own_fin st a.1 b.1 := by decide +kernel
theorem own_m3 (y : Int32) : ∃ a : Nat, a < 4 ∧ (y &&& (3 : Int32)) = Int32.ofNat a := by
  have h1 := c_mask y 3 2 (by decide) (by decide)
  refine ⟨(y &&& (3 : Int32)).toInt.toNat, by omega, Int32.toInt_inj.mp ?_⟩
  rw [own_oi (by omega)]; omega
theorem own_l4 {L : List Nat} (h : L.length = 4) : L = [L.getD 0 0, L.getD 1 0, L.getD 2 0, L.getD 3 0] := by
  match L, h with
  | [a, b, c, d], _ => rfl
end OwnDS
theorem d1_0 : decode prog_20_method_1_code 0 = .ok (.aload_n 0, 1) := by decide +kernel
theorem d1_1 : decode prog_20_method_1_code 1 = .ok (.invokespecial 1, 3) := by decide +kernel
theorem d1_4 : decode prog_20_method_1_code 4 = .ok (.aload_n 0, 1) := by decide +kernel
theorem d1_5 : decode prog_20_method_1_code 5 = .ok (.iload_n 1, 1) := by decide +kernel
theorem d1_6 : decode prog_20_method_1_code 6 = .ok (.newarray .int, 2) := by decide +kernel
theorem d1_8 : decode prog_20_method_1_code 8 = .ok (.putfield 7, 3) := by decide +kernel
theorem d1_11 : decode prog_20_method_1_code 11 = .ok (.aload_n 0, 1) := by decide +kernel
theorem d1_12 : decode prog_20_method_1_code 12 = .ok (.iload_n 1, 1) := by decide +kernel
theorem d1_13 : decode prog_20_method_1_code 13 = .ok (.newarray .int, 2) := by decide +kernel
theorem d1_15 : decode prog_20_method_1_code 15 = .ok (.putfield 13, 3) := by decide +kernel
theorem d1_18 : decode prog_20_method_1_code 18 = .ok (.iconst 0, 1) := by decide +kernel
theorem d1_19 : decode prog_20_method_1_code 19 = .ok (.istore_n 2, 1) := by decide +kernel
theorem d1_20 : decode prog_20_method_1_code 20 = .ok (.iload_n 2, 1) := by decide +kernel
theorem d1_21 : decode prog_20_method_1_code 21 = .ok (.iload_n 1, 1) := by decide +kernel
theorem d1_22 : decode prog_20_method_1_code 22 = .ok (.if_icmp .ge 23, 3) := by decide +kernel
theorem d1_25 : decode prog_20_method_1_code 25 = .ok (.aload_n 0, 1) := by decide +kernel
theorem d1_26 : decode prog_20_method_1_code 26 = .ok (.getfield 7, 3) := by decide +kernel
theorem d1_29 : decode prog_20_method_1_code 29 = .ok (.iload_n 2, 1) := by decide +kernel
theorem d1_30 : decode prog_20_method_1_code 30 = .ok (.iload_n 2, 1) := by decide +kernel
theorem d1_31 : decode prog_20_method_1_code 31 = .ok (.iastore, 1) := by decide +kernel
theorem d1_32 : decode prog_20_method_1_code 32 = .ok (.aload_n 0, 1) := by decide +kernel
theorem d1_33 : decode prog_20_method_1_code 33 = .ok (.getfield 13, 3) := by decide +kernel
theorem d1_36 : decode prog_20_method_1_code 36 = .ok (.iload_n 2, 1) := by decide +kernel
theorem d1_37 : decode prog_20_method_1_code 37 = .ok (.iconst 1, 1) := by decide +kernel
theorem d1_38 : decode prog_20_method_1_code 38 = .ok (.iastore, 1) := by decide +kernel
theorem d1_39 : decode prog_20_method_1_code 39 = .ok (.iinc 2 1, 3) := by decide +kernel
theorem d1_42 : decode prog_20_method_1_code 42 = .ok (.goto (-22), 3) := by decide +kernel
theorem d1_45 : decode prog_20_method_1_code 45 = .ok (.return_, 1) := by decide +kernel
theorem pn_com_example_tollgraph_tollgraph_graph_DisjointSets : plainName "com/example/tollgraph/tollgraph/graph/DisjointSets" = true := by first | (simp [plainName, overriddenIn]; done) | decide +kernel
theorem d5_2 : decode prog_20_method_2_code 2 = .ok (.aload_n 0, 1) := by decide +kernel
theorem d5_3 : decode prog_20_method_2_code 3 = .ok (.getfield 7, 3) := by decide +kernel
theorem d5_6 : decode prog_20_method_2_code 6 = .ok (.iload_n 2, 1) := by decide +kernel
theorem d5_7 : decode prog_20_method_2_code 7 = .ok (.iaload, 1) := by decide +kernel
theorem d5_8 : decode prog_20_method_2_code 8 = .ok (.iload_n 2, 1) := by decide +kernel
theorem d5_9 : decode prog_20_method_2_code 9 = .ok (.if_icmp .eq 30, 3) := by decide +kernel
theorem d5_39 : decode prog_20_method_2_code 39 = .ok (.iload_n 2, 1) := by decide +kernel
theorem d5_40 : decode prog_20_method_2_code 40 = .ok (.ireturn, 1) := by decide +kernel
theorem d5_12 : decode prog_20_method_2_code 12 = .ok (.aload_n 0, 1) := by decide +kernel
theorem d5_13 : decode prog_20_method_2_code 13 = .ok (.getfield 7, 3) := by decide +kernel
theorem d5_16 : decode prog_20_method_2_code 16 = .ok (.iload_n 2, 1) := by decide +kernel
theorem d5_17 : decode prog_20_method_2_code 17 = .ok (.aload_n 0, 1) := by decide +kernel
theorem d5_18 : decode prog_20_method_2_code 18 = .ok (.getfield 7, 3) := by decide +kernel
theorem d5_21 : decode prog_20_method_2_code 21 = .ok (.aload_n 0, 1) := by decide +kernel
theorem d5_22 : decode prog_20_method_2_code 22 = .ok (.getfield 7, 3) := by decide +kernel
theorem d5_25 : decode prog_20_method_2_code 25 = .ok (.iload_n 2, 1) := by decide +kernel
theorem d5_26 : decode prog_20_method_2_code 26 = .ok (.iaload, 1) := by decide +kernel
theorem d5_27 : decode prog_20_method_2_code 27 = .ok (.iaload, 1) := by decide +kernel
theorem d5_28 : decode prog_20_method_2_code 28 = .ok (.iastore, 1) := by decide +kernel
theorem d5_29 : decode prog_20_method_2_code 29 = .ok (.aload_n 0, 1) := by decide +kernel
theorem d5_30 : decode prog_20_method_2_code 30 = .ok (.getfield 7, 3) := by decide +kernel
theorem d5_33 : decode prog_20_method_2_code 33 = .ok (.iload_n 2, 1) := by decide +kernel
theorem d5_34 : decode prog_20_method_2_code 34 = .ok (.iaload, 1) := by decide +kernel
theorem d5_35 : decode prog_20_method_2_code 35 = .ok (.istore_n 2, 1) := by decide +kernel
theorem d5_36 : decode prog_20_method_2_code 36 = .ok (.goto (-34), 3) := by decide +kernel
theorem d5_0 : decode prog_20_method_2_code 0 = .ok (.iload_n 1, 1) := by decide +kernel
theorem d5_1 : decode prog_20_method_2_code 1 = .ok (.istore_n 2, 1) := by decide +kernel
theorem d4_0 : decode prog_20_method_3_code 0 = .ok (.aload_n 0, 1) := by decide +kernel
theorem d4_1 : decode prog_20_method_3_code 1 = .ok (.iload_n 1, 1) := by decide +kernel
theorem d4_2 : decode prog_20_method_3_code 2 = .ok (.invokevirtual 16, 3) := by decide +kernel
theorem pd__I_I : parseMethodDescriptor "(I)I" = some ⟨[.int], some .int⟩ := by decide +kernel
theorem d4_5 : decode prog_20_method_3_code 5 = .ok (.istore_n 3, 1) := by decide +kernel
theorem d4_6 : decode prog_20_method_3_code 6 = .ok (.aload_n 0, 1) := by decide +kernel
theorem d4_7 : decode prog_20_method_3_code 7 = .ok (.iload_n 2, 1) := by decide +kernel
theorem d4_8 : decode prog_20_method_3_code 8 = .ok (.invokevirtual 16, 3) := by decide +kernel
theorem d4_11 : decode prog_20_method_3_code 11 = .ok (.istore 4, 2) := by decide +kernel
theorem d4_13 : decode prog_20_method_3_code 13 = .ok (.iload_n 3, 1) := by decide +kernel
theorem d4_14 : decode prog_20_method_3_code 14 = .ok (.iload 4, 2) := by decide +kernel
theorem d4_16 : decode prog_20_method_3_code 16 = .ok (.if_icmp .ne 5, 3) := by decide +kernel
theorem d4_19 : decode prog_20_method_3_code 19 = .ok (.iconst 0, 1) := by decide +kernel
theorem d4_20 : decode prog_20_method_3_code 20 = .ok (.ireturn, 1) := by decide +kernel
theorem d4_21 : decode prog_20_method_3_code 21 = .ok (.aload_n 0, 1) := by decide +kernel
theorem d4_22 : decode prog_20_method_3_code 22 = .ok (.getfield 13, 3) := by decide +kernel
theorem d4_25 : decode prog_20_method_3_code 25 = .ok (.iload_n 3, 1) := by decide +kernel
theorem d4_26 : decode prog_20_method_3_code 26 = .ok (.iaload, 1) := by decide +kernel
theorem d4_27 : decode prog_20_method_3_code 27 = .ok (.aload_n 0, 1) := by decide +kernel
theorem d4_28 : decode prog_20_method_3_code 28 = .ok (.getfield 13, 3) := by decide +kernel
theorem d4_31 : decode prog_20_method_3_code 31 = .ok (.iload 4, 2) := by decide +kernel
theorem d4_33 : decode prog_20_method_3_code 33 = .ok (.iaload, 1) := by decide +kernel
theorem d4_34 : decode prog_20_method_3_code 34 = .ok (.if_icmp .lt 7, 3) := by decide +kernel
theorem d4_41 : decode prog_20_method_3_code 41 = .ok (.iload 4, 2) := by decide +kernel
theorem d4_43 : decode prog_20_method_3_code 43 = .ok (.istore 5, 2) := by decide +kernel
theorem d4_45 : decode prog_20_method_3_code 45 = .ok (.iload 5, 2) := by decide +kernel
theorem d4_47 : decode prog_20_method_3_code 47 = .ok (.iload_n 3, 1) := by decide +kernel
theorem d4_48 : decode prog_20_method_3_code 48 = .ok (.if_icmp .ne 8, 3) := by decide +kernel
theorem d4_56 : decode prog_20_method_3_code 56 = .ok (.iload_n 3, 1) := by decide +kernel
theorem d4_57 : decode prog_20_method_3_code 57 = .ok (.istore 6, 2) := by decide +kernel
theorem d4_59 : decode prog_20_method_3_code 59 = .ok (.aload_n 0, 1) := by decide +kernel
theorem d4_60 : decode prog_20_method_3_code 60 = .ok (.getfield 7, 3) := by decide +kernel
theorem d4_63 : decode prog_20_method_3_code 63 = .ok (.iload 6, 2) := by decide +kernel
theorem d4_65 : decode prog_20_method_3_code 65 = .ok (.iload 5, 2) := by decide +kernel
theorem d4_67 : decode prog_20_method_3_code 67 = .ok (.iastore, 1) := by decide +kernel
theorem d4_68 : decode prog_20_method_3_code 68 = .ok (.aload_n 0, 1) := by decide +kernel
theorem d4_69 : decode prog_20_method_3_code 69 = .ok (.getfield 13, 3) := by decide +kernel
theorem d4_72 : decode prog_20_method_3_code 72 = .ok (.iload 5, 2) := by decide +kernel
theorem d4_74 : decode prog_20_method_3_code 74 = .ok (.dup2, 1) := by decide +kernel
theorem d4_75 : decode prog_20_method_3_code 75 = .ok (.iaload, 1) := by decide +kernel
theorem d4_76 : decode prog_20_method_3_code 76 = .ok (.aload_n 0, 1) := by decide +kernel
theorem d4_77 : decode prog_20_method_3_code 77 = .ok (.getfield 13, 3) := by decide +kernel
theorem d4_80 : decode prog_20_method_3_code 80 = .ok (.iload 6, 2) := by decide +kernel
theorem d4_82 : decode prog_20_method_3_code 82 = .ok (.iaload, 1) := by decide +kernel
theorem d4_83 : decode prog_20_method_3_code 83 = .ok (.iadd, 1) := by decide +kernel
theorem d4_84 : decode prog_20_method_3_code 84 = .ok (.iastore, 1) := by decide +kernel
theorem d4_85 : decode prog_20_method_3_code 85 = .ok (.iconst 1, 1) := by decide +kernel
theorem d4_86 : decode prog_20_method_3_code 86 = .ok (.ireturn, 1) := by decide +kernel
theorem d4_37 : decode prog_20_method_3_code 37 = .ok (.iload_n 3, 1) := by decide +kernel
theorem d4_38 : decode prog_20_method_3_code 38 = .ok (.goto 5, 3) := by decide +kernel
theorem d4_51 : decode prog_20_method_3_code 51 = .ok (.iload 4, 2) := by decide +kernel
theorem d4_53 : decode prog_20_method_3_code 53 = .ok (.goto 4, 3) := by decide +kernel
theorem d6_0 : decode method_2_code 0 = .ok (.aload_n 0, 1) := by decide +kernel
theorem d6_1 : decode method_2_code 1 = .ok (.iconst 0, 1) := by decide +kernel
theorem d6_2 : decode method_2_code 2 = .ok (.iaload, 1) := by decide +kernel
theorem d6_3 : decode method_2_code 3 = .ok (.iload_n 1, 1) := by decide +kernel
theorem d6_4 : decode method_2_code 4 = .ok (.if_icmp .ne 7, 3) := by decide +kernel
theorem d6_7 : decode method_2_code 7 = .ok (.aload_n 0, 1) := by decide +kernel
theorem d6_8 : decode method_2_code 8 = .ok (.iconst 0, 1) := by decide +kernel
theorem d6_9 : decode method_2_code 9 = .ok (.iload_n 2, 1) := by decide +kernel
theorem d6_10 : decode method_2_code 10 = .ok (.iastore, 1) := by decide +kernel
theorem d6_11 : decode method_2_code 11 = .ok (.aload_n 0, 1) := by decide +kernel
theorem d6_12 : decode method_2_code 12 = .ok (.iconst 1, 1) := by decide +kernel
theorem d6_13 : decode method_2_code 13 = .ok (.iaload, 1) := by decide +kernel
theorem d6_14 : decode method_2_code 14 = .ok (.iload_n 1, 1) := by decide +kernel
theorem d6_15 : decode method_2_code 15 = .ok (.if_icmp .ne 7, 3) := by decide +kernel
theorem d6_18 : decode method_2_code 18 = .ok (.aload_n 0, 1) := by decide +kernel
theorem d6_19 : decode method_2_code 19 = .ok (.iconst 1, 1) := by decide +kernel
theorem d6_20 : decode method_2_code 20 = .ok (.iload_n 2, 1) := by decide +kernel
theorem d6_21 : decode method_2_code 21 = .ok (.iastore, 1) := by decide +kernel
theorem d6_22 : decode method_2_code 22 = .ok (.aload_n 0, 1) := by decide +kernel
theorem d6_23 : decode method_2_code 23 = .ok (.iconst 2, 1) := by decide +kernel
theorem d6_24 : decode method_2_code 24 = .ok (.iaload, 1) := by decide +kernel
theorem d6_25 : decode method_2_code 25 = .ok (.iload_n 1, 1) := by decide +kernel
theorem d6_26 : decode method_2_code 26 = .ok (.if_icmp .ne 7, 3) := by decide +kernel
theorem d6_29 : decode method_2_code 29 = .ok (.aload_n 0, 1) := by decide +kernel
theorem d6_30 : decode method_2_code 30 = .ok (.iconst 2, 1) := by decide +kernel
theorem d6_31 : decode method_2_code 31 = .ok (.iload_n 2, 1) := by decide +kernel
theorem d6_32 : decode method_2_code 32 = .ok (.iastore, 1) := by decide +kernel
theorem d6_33 : decode method_2_code 33 = .ok (.aload_n 0, 1) := by decide +kernel
theorem d6_34 : decode method_2_code 34 = .ok (.iconst 3, 1) := by decide +kernel
theorem d6_35 : decode method_2_code 35 = .ok (.iaload, 1) := by decide +kernel
theorem d6_36 : decode method_2_code 36 = .ok (.iload_n 1, 1) := by decide +kernel
theorem d6_37 : decode method_2_code 37 = .ok (.if_icmp .ne 7, 3) := by decide +kernel
theorem d6_40 : decode method_2_code 40 = .ok (.aload_n 0, 1) := by decide +kernel
theorem d6_41 : decode method_2_code 41 = .ok (.iconst 3, 1) := by decide +kernel
theorem d6_42 : decode method_2_code 42 = .ok (.iload_n 2, 1) := by decide +kernel
theorem d6_43 : decode method_2_code 43 = .ok (.iastore, 1) := by decide +kernel
theorem d6_44 : decode method_2_code 44 = .ok (.return_, 1) := by decide +kernel
theorem pn_com_example_tollgraph_tollgraph_graph_DisjointSetsFindPinLaw : plainName "com/example/tollgraph/tollgraph/graph/DisjointSetsFindPinLaw" = true := by first | (simp [plainName, overriddenIn]; done) | decide +kernel
theorem d3_0 : decode method_3_code 0 = .ok (.aload_n 1, 1) := by decide +kernel
theorem d3_1 : decode method_3_code 1 = .ok (.iload_n 2, 1) := by decide +kernel
theorem d3_2 : decode method_3_code 2 = .ok (.iaload, 1) := by decide +kernel
theorem d3_3 : decode method_3_code 3 = .ok (.istore 4, 2) := by decide +kernel
theorem d3_5 : decode method_3_code 5 = .ok (.aload_n 1, 1) := by decide +kernel
theorem d3_6 : decode method_3_code 6 = .ok (.iload_n 3, 1) := by decide +kernel
theorem d3_7 : decode method_3_code 7 = .ok (.iaload, 1) := by decide +kernel
theorem d3_8 : decode method_3_code 8 = .ok (.istore 5, 2) := by decide +kernel
theorem d3_10 : decode method_3_code 10 = .ok (.iload 4, 2) := by decide +kernel
theorem d3_12 : decode method_3_code 12 = .ok (.iload 5, 2) := by decide +kernel
theorem d3_14 : decode method_3_code 14 = .ok (.if_icmp .eq 7, 3) := by decide +kernel
theorem d3_21 : decode method_3_code 21 = .ok (.iconst 0, 1) := by decide +kernel
theorem d3_22 : decode method_3_code 22 = .ok (.istore 6, 2) := by decide +kernel
theorem d3_24 : decode method_3_code 24 = .ok (.aload_n 0, 1) := by decide +kernel
theorem d3_25 : decode method_3_code 25 = .ok (.iload_n 2, 1) := by decide +kernel
theorem d3_26 : decode method_3_code 26 = .ok (.iload_n 3, 1) := by decide +kernel
theorem d3_27 : decode method_3_code 27 = .ok (.invokevirtual 7, 3) := by decide +kernel
theorem pd__II_Z : parseMethodDescriptor "(II)Z" = some ⟨[.int, .int], some .boolean⟩ := by decide +kernel
theorem d3_30 : decode method_3_code 30 = .ok (.istore 7, 2) := by decide +kernel
theorem d3_32 : decode method_3_code 32 = .ok (.iload 6, 2) := by decide +kernel
theorem d3_34 : decode method_3_code 34 = .ok (.ifCond .eq 11, 3) := by decide +kernel
theorem d3_45 : decode method_3_code 45 = .ok (.iload 7, 2) := by decide +kernel
theorem d3_47 : decode method_3_code 47 = .ok (.iload 6, 2) := by decide +kernel
theorem d3_49 : decode method_3_code 49 = .ok (.if_icmp .ne 7, 3) := by decide +kernel
theorem d3_52 : decode method_3_code 52 = .ok (.iconst 1, 1) := by decide +kernel
theorem d3_53 : decode method_3_code 53 = .ok (.goto 4, 3) := by decide +kernel
theorem d3_57 : decode method_3_code 57 = .ok (.ireturn, 1) := by decide +kernel
theorem d3_17 : decode method_3_code 17 = .ok (.iconst 1, 1) := by decide +kernel
theorem d3_18 : decode method_3_code 18 = .ok (.goto 4, 3) := by decide +kernel
theorem d3_37 : decode method_3_code 37 = .ok (.aload_n 1, 1) := by decide +kernel
theorem d3_38 : decode method_3_code 38 = .ok (.iload 5, 2) := by decide +kernel
theorem d3_40 : decode method_3_code 40 = .ok (.iload 4, 2) := by decide +kernel
theorem d3_42 : decode method_3_code 42 = .ok (.invokestatic 13, 3) := by decide +kernel
theorem pd___III_V : parseMethodDescriptor "([III)V" = some ⟨[(.array .int), .int, .int], none⟩ := by decide +kernel
theorem pd__I_V : parseMethodDescriptor "(I)V" = some ⟨[.int], none⟩ := by decide +kernel
theorem pd__Lcom_example_tollgraph_tollgraph_graph_DisjointSets__III_Z : parseMethodDescriptor "(Lcom/example/tollgraph/tollgraph/graph/DisjointSets;[III)Z" = some ⟨[(.object "com/example/tollgraph/tollgraph/graph/DisjointSets"), (.array .int), .int, .int], some .boolean⟩ := by decide +kernel
theorem ef_rmI (m : MethodId) (x0 : Addr) (x1 : Int32) : entryFrame m #[(.ref x0), (.int x1)] 3 = mkF m 0 #[.val (.ref x0), .val (.int x1), .unset] [] := by first | (simp [entryFrame, mkF, argsToLocals, Value.category]; done) | rfl
set_option maxRecDepth 65536 in
set_option maxHeartbeats 40000000 in
theorem rmI (l : Launch) (Z : State) (a0 : Array Value) (hw : ∀ d ∈ tables_1, d.before a0 Z = true) (ws : List Jvm.Cond) (d : Addr) (u1 u2 : Value) (h0 : Heap) (n0 : Nat) (Z0 : n0 ≤ h0.size) (gd : n0 ≤ d) (Ed : Exa Z h0 d "com/example/tollgraph/tollgraph/graph/DisjointSets") (Fp : Fld Z h0 d "com/example/tollgraph/tollgraph/graph/DisjointSets" "parent" "[I" u1) (Fs : Fld Z h0 d "com/example/tollgraph/tollgraph/graph/DisjointSets" "size" "[I" u2) :
    own_Ct l Z (⟨"com/example/tollgraph/tollgraph/graph/DisjointSets", "<init>", "(I)V"⟩ : MethodName) prog_20_method_1_code 3 none ws ({ frames := 1, cells := 2, slots := 8, locals := 12 } : Room) #[(.ref d), (.int (4 : Int32))] h0 (fun v h L => ∃ pa sa : Addr, v = none ∧ Fr n0 L ∧ Keep h0 h [d] ∧ h0.size ≤ pa ∧ h0.size ≤ sa ∧ pa ≠ sa ∧ Exa Z h d "com/example/tollgraph/tollgraph/graph/DisjointSets" ∧ Fld Z h d "com/example/tollgraph/tollgraph/graph/DisjointSets" "parent" "[I" (.ref pa) ∧ Fld Z h d "com/example/tollgraph/tollgraph/graph/DisjointSets" "size" "[I" (.ref sa) ∧ own_A Z h pa .int 4 (own_q [0, 1, 2, 3]) ∧ own_A Z h sa .int 4 (own_q [1, 1, 1, 1])) := by
  refine own_of (plainFor_of_name pn_com_example_tollgraph_tollgraph_graph_DisjointSets) ?_
  intro p e s m below meth c s₁ hx hby hml hown hnm hret hlk hZ X0 e0
  have N0 := Fr.nil n0
  have K0 := Keep.refl h0 [d]
  rw [ef_rmI]
  refine own_by (T' := s₁) (f' := (mkF m 1 #[.val (.ref d), .val (.int (4 : Int32)), .unset] [(.ref d)])) (fun t k => XS.aloadN X0.here hx rfl (hb hby d1_0) rfl rfl k) ?_
  refine own_init X0 hx hZ hown e0 (hb hby d1_1) 0 (hw _ (List.mem_of_getElem? (i := 6) rfl)) (hw _ (List.mem_of_getElem? (i := 7) rfl)) (hw _ (List.mem_of_getElem? (i := 8) rfl)) (by rw [hml]; rfl) (Nat.le_of_eq rfl) (by decide) (by decide) ?_
  intro T11 X11 e11
  show own_Go p e below _ T11 (mkF m 4 #[.val (.ref d), .val (.int (4 : Int32)), .unset] [])
  refine own_by (T' := T11) (f' := (mkF m 5 #[.val (.ref d), .val (.int (4 : Int32)), .unset] [(.ref d)])) (fun t k => XS.aloadN X11.here hx rfl (hb hby d1_4) rfl rfl k) ?_
  refine own_by (T' := T11) (f' := (mkF m 6 #[.val (.ref d), .val (.int (4 : Int32)), .unset] [(.int (4 : Int32)), (.ref d)])) (fun t k => XS.iloadN X11.here hx rfl (hb hby d1_5) rfl k) ?_
  refine own_mkA X11 hx hZ e11 (hb hby d1_6) (hw _ (List.mem_of_getElem? (i := 9) rfl)) (v := 0) rfl (by decide) 4 (by decide) (by decide) (by decide) (by decide) ?_
  intro T12 h12 b12 X12 e12 g12 E12 A12r
  have ne12_d : d ≠ b12 := Nat.ne_of_lt (by rw [g12]; exact Ed.lt)
  have gn12 : n0 ≤ b12 := by rw [g12]; exact Z0
  have gh12 : h0.size ≤ b12 := by rw [g12]; exact K0.1
  show own_Go p e below _ T12 (mkF m 8 #[.val (.ref d), .val (.int (4 : Int32)), .unset] [(.ref b12), (.ref d)])
  have A12 : own_A Z h12 b12 .int 4 (fun _ => 0) := A12r
  have sz13 : n0 ≤ h12.size := Nat.le_trans Z0 E12.1
  have K14 := K0.ext E12
  have f15 := (Fp.ext E12)
  have f16 := (Ed.ext E12)
  refine own_putF (host := "") X12 hx hZ hown e12 (hb hby d1_8) (Or.inl (hw _ (List.mem_of_getElem? (i := 10) rfl))) Via.refl f15 f16 (Or.inr ⟨(hw _ (List.mem_of_getElem? (i := 11) rfl)), rfl, hnm⟩) (hw _ (List.mem_of_getElem? (i := 1) rfl)) (ty := (.array .int)) (by decide) rfl rfl ?_
  intro T17 h17 X17 e17 W17
  show own_Go p e below _ T17 (mkF m 11 #[.val (.ref d), .val (.int (4 : Int32)), .unset] [])
  have F17 := f15.same W17
  have sz18 : n0 ≤ h17.size := by rw [W17.size]; exact sz13
  have K19 := K14.wr W17 (Or.inl (List.mem_of_getElem? (i := 0) rfl))
  have N17 := Fr.snoc X17 N0 gd
  refine own_by (T' := T17) (f' := (mkF m 12 #[.val (.ref d), .val (.int (4 : Int32)), .unset] [(.ref d)])) (fun t k => XS.aloadN X17.here hx rfl (hb hby d1_11) rfl rfl k) ?_
  refine own_by (T' := T17) (f' := (mkF m 13 #[.val (.ref d), .val (.int (4 : Int32)), .unset] [(.int (4 : Int32)), (.ref d)])) (fun t k => XS.iloadN X17.here hx rfl (hb hby d1_12) rfl k) ?_
  refine own_mkA X17 hx hZ e17 (hb hby d1_13) (hw _ (List.mem_of_getElem? (i := 9) rfl)) (v := 0) rfl (by decide) 4 (by decide) (by decide) (by decide) (by decide) ?_
  intro T20 h20 b20 X20 e20 g20 E20 A20r
  have f21 := (f16.wr W17)
  have ne20_d : d ≠ b20 := Nat.ne_of_lt (by rw [g20]; exact f21.lt)
  have f22 := (A12.other W17 (Ne.symm ne12_d))
  have ne20_b12 : b12 ≠ b20 := Nat.ne_of_lt (by rw [g20]; exact f22.lt)
  have gn20 : n0 ≤ b20 := by rw [g20]; exact sz18
  have gh20 : h0.size ≤ b20 := by rw [g20]; exact K19.1
  show own_Go p e below _ T20 (mkF m 15 #[.val (.ref d), .val (.int (4 : Int32)), .unset] [(.ref b20), (.ref d)])
  have A20 : own_A Z h20 b20 .int 4 (fun _ => 0) := A20r
  have sz23 : n0 ≤ h20.size := Nat.le_trans sz18 E20.1
  have K24 := K19.ext E20
  have f25 := (((Fs.ext E12).other W17 (Or.inr (slot_ne (Or.inr (hw _ (List.mem_of_getElem? (i := 13) rfl))) (Or.inr (hw _ (List.mem_of_getElem? (i := 11) rfl))) (by decide) (t := (.array .int)) (t' := (.array .int)) (by decide) (by decide)))).ext E20)
  have f26 := (f21.ext E20)
  refine own_putF (host := "") X20 hx hZ hown e20 (hb hby d1_15) (Or.inl (hw _ (List.mem_of_getElem? (i := 12) rfl))) Via.refl f25 f26 (Or.inr ⟨(hw _ (List.mem_of_getElem? (i := 13) rfl)), rfl, hnm⟩) (hw _ (List.mem_of_getElem? (i := 1) rfl)) (ty := (.array .int)) (by decide) rfl rfl ?_
  intro T27 h27 X27 e27 W27
  show own_Go p e below _ T27 (mkF m 18 #[.val (.ref d), .val (.int (4 : Int32)), .unset] [])
  have F27 := f25.same W27
  have sz28 : n0 ≤ h27.size := by rw [W27.size]; exact sz23
  have K29 := K24.wr W27 (Or.inl (List.mem_of_getElem? (i := 0) rfl))
  have N27 := Fr.snoc X27 N17 gd
  refine own_by (T' := T27) (f' := (mkF m 19 #[.val (.ref d), .val (.int (4 : Int32)), .unset] [(.int (0 : Int32))])) (fun t k => XS.iconst X27.here hx rfl (hb hby d1_18) k) ?_
  refine own_by (T' := T27) (f' := (mkF m 20 #[.val (.ref d), .val (.int (4 : Int32)), .val (.int (0 : Int32))] [])) (fun t k => XS.istoreN X27.here hx rfl (hb hby d1_19) rfl (l' := #[.val (.ref d), .val (.int (4 : Int32)), .val (.int (0 : Int32))]) rfl k) ?_
  refine own_by (T' := T27) (f' := (mkF m 21 #[.val (.ref d), .val (.int (4 : Int32)), .val (.int (0 : Int32))] [(.int (0 : Int32))])) (fun t k => XS.iloadN X27.here hx rfl (hb hby d1_20) rfl k) ?_
  refine own_by (T' := T27) (f' := (mkF m 22 #[.val (.ref d), .val (.int (4 : Int32)), .val (.int (0 : Int32))] [(.int (4 : Int32)), (.int (0 : Int32))])) (fun t k => XS.iloadN X27.here hx rfl (hb hby d1_21) rfl k) ?_
  refine own_by (T' := T27) (f' := (mkF m 25 #[.val (.ref d), .val (.int (4 : Int32)), .val (.int (0 : Int32))] [])) (fun t k => XS.icmpNo X27.here hx rfl (hb hby d1_22) rfl (tlt (by decide)).2.1 k) ?_
  refine own_by (T' := T27) (f' := (mkF m 26 #[.val (.ref d), .val (.int (4 : Int32)), .val (.int (0 : Int32))] [(.ref d)])) (fun t k => XS.aloadN X27.here hx rfl (hb hby d1_25) rfl rfl k) ?_
  have f30 := ((F17.ext E20).other W27 (Or.inr (slot_ne (Or.inr (hw _ (List.mem_of_getElem? (i := 11) rfl))) (Or.inr (hw _ (List.mem_of_getElem? (i := 13) rfl))) (by decide) (t := (.array .int)) (t' := (.array .int)) (by decide) (by decide))))
  refine own_getF (host := "") X27 hx hZ hown e27 (hb hby d1_26) (Or.inl (hw _ (List.mem_of_getElem? (i := 10) rfl))) Via.refl f30 ?_
  intro T31 X31 e31
  show own_Go p e below _ T31 (mkF m 29 #[.val (.ref d), .val (.int (4 : Int32)), .val (.int (0 : Int32))] [(.ref b12)])
  refine own_by (T' := T31) (f' := (mkF m 30 #[.val (.ref d), .val (.int (4 : Int32)), .val (.int (0 : Int32))] [(.int (0 : Int32)), (.ref b12)])) (fun t k => XS.iloadN X31.here hx rfl (hb hby d1_29) rfl k) ?_
  refine own_by (T' := T31) (f' := (mkF m 31 #[.val (.ref d), .val (.int (4 : Int32)), .val (.int (0 : Int32))] [(.int (0 : Int32)), (.int (0 : Int32)), (.ref b12)])) (fun t k => XS.iloadN X31.here hx rfl (hb hby d1_30) rfl k) ?_
  have f32 := ((f22.ext E20).other W27 (Ne.symm ne12_d))
  have _ : (0 : Int32).toInt = 0 := by decide
  refine own_stI X31 hx hZ e31 (hb hby d1_31) f32 (by first | decide | omega) (by first | decide | omega) ?_
  intro T33 h33 X33 e33 W33 A33
  show own_Go p e below _ T33 (mkF m 32 #[.val (.ref d), .val (.int (4 : Int32)), .val (.int (0 : Int32))] [])
  have sz34 : n0 ≤ h33.size := by rw [W33.size]; exact sz28
  have K35 := K29.wr W33 (Or.inr gh12)
  have N33 := Fr.snoc X33 N27 gn12
  refine own_by (T' := T33) (f' := (mkF m 33 #[.val (.ref d), .val (.int (4 : Int32)), .val (.int (0 : Int32))] [(.ref d)])) (fun t k => XS.aloadN X33.here hx rfl (hb hby d1_32) rfl rfl k) ?_
  have f36 := (F27.other W33 (Or.inl ne12_d))
  refine own_getF (host := "") X33 hx hZ hown e33 (hb hby d1_33) (Or.inl (hw _ (List.mem_of_getElem? (i := 12) rfl))) Via.refl f36 ?_
  intro T37 X37 e37
  show own_Go p e below _ T37 (mkF m 36 #[.val (.ref d), .val (.int (4 : Int32)), .val (.int (0 : Int32))] [(.ref b20)])
  refine own_by (T' := T37) (f' := (mkF m 37 #[.val (.ref d), .val (.int (4 : Int32)), .val (.int (0 : Int32))] [(.int (0 : Int32)), (.ref b20)])) (fun t k => XS.iloadN X37.here hx rfl (hb hby d1_36) rfl k) ?_
  refine own_by (T' := T37) (f' := (mkF m 38 #[.val (.ref d), .val (.int (4 : Int32)), .val (.int (0 : Int32))] [(.int (1 : Int32)), (.int (0 : Int32)), (.ref b20)])) (fun t k => XS.iconst X37.here hx rfl (hb hby d1_37) k) ?_
  have f38 := ((A20.other W27 (Ne.symm ne20_d)).other W33 (Ne.symm ne20_b12))
  have _ : (0 : Int32).toInt = 0 := by decide
  refine own_stI X37 hx hZ e37 (hb hby d1_38) f38 (by first | decide | omega) (by first | decide | omega) ?_
  intro T39 h39 X39 e39 W39 A39
  show own_Go p e below _ T39 (mkF m 39 #[.val (.ref d), .val (.int (4 : Int32)), .val (.int (0 : Int32))] [])
  have sz40 : n0 ≤ h39.size := by rw [W39.size]; exact sz34
  have K41 := K35.wr W39 (Or.inr gh20)
  have N39 := Fr.snoc X39 N33 gn20
  refine own_by (T' := T39) (f' := (mkF m 42 #[.val (.ref d), .val (.int (4 : Int32)), .val (.int (1 : Int32))] [])) (fun t k => XS.iinc X39.here hx rfl (hb hby d1_39) rfl (l' := #[.val (.ref d), .val (.int (4 : Int32)), .val (.int (1 : Int32))]) rfl k) ?_
  refine own_by (T' := T39) (f' := (mkF m 20 #[.val (.ref d), .val (.int (4 : Int32)), .val (.int (1 : Int32))] [])) (fun t k => XS.goto X39.here hx rfl (pc0 := 42) (pc' := 20) rfl (hb hby d1_42) (by decide) (by decide) k) ?_
  refine own_by (T' := T39) (f' := (mkF m 21 #[.val (.ref d), .val (.int (4 : Int32)), .val (.int (1 : Int32))] [(.int (1 : Int32))])) (fun t k => XS.iloadN X39.here hx rfl (hb hby d1_20) rfl k) ?_
  refine own_by (T' := T39) (f' := (mkF m 22 #[.val (.ref d), .val (.int (4 : Int32)), .val (.int (1 : Int32))] [(.int (4 : Int32)), (.int (1 : Int32))])) (fun t k => XS.iloadN X39.here hx rfl (hb hby d1_21) rfl k) ?_
  refine own_by (T' := T39) (f' := (mkF m 25 #[.val (.ref d), .val (.int (4 : Int32)), .val (.int (1 : Int32))] [])) (fun t k => XS.icmpNo X39.here hx rfl (hb hby d1_22) rfl (tlt (by decide)).2.1 k) ?_
  refine own_by (T' := T39) (f' := (mkF m 26 #[.val (.ref d), .val (.int (4 : Int32)), .val (.int (1 : Int32))] [(.ref d)])) (fun t k => XS.aloadN X39.here hx rfl (hb hby d1_25) rfl rfl k) ?_
  have f42 := ((f30.other W33 (Or.inl ne12_d)).other W39 (Or.inl ne20_d))
  refine own_getF (host := "") X39 hx hZ hown e39 (hb hby d1_26) (Or.inl (hw _ (List.mem_of_getElem? (i := 10) rfl))) Via.refl f42 ?_
  intro T43 X43 e43
  show own_Go p e below _ T43 (mkF m 29 #[.val (.ref d), .val (.int (4 : Int32)), .val (.int (1 : Int32))] [(.ref b12)])
  refine own_by (T' := T43) (f' := (mkF m 30 #[.val (.ref d), .val (.int (4 : Int32)), .val (.int (1 : Int32))] [(.int (1 : Int32)), (.ref b12)])) (fun t k => XS.iloadN X43.here hx rfl (hb hby d1_29) rfl k) ?_
  refine own_by (T' := T43) (f' := (mkF m 31 #[.val (.ref d), .val (.int (4 : Int32)), .val (.int (1 : Int32))] [(.int (1 : Int32)), (.int (1 : Int32)), (.ref b12)])) (fun t k => XS.iloadN X43.here hx rfl (hb hby d1_30) rfl k) ?_
  have f44 := (A33.other W39 ne20_b12)
  have _ : (1 : Int32).toInt = 1 := by decide
  refine own_stI X43 hx hZ e43 (hb hby d1_31) f44 (by first | decide | omega) (by first | decide | omega) ?_
  intro T45 h45 X45 e45 W45 A45
  show own_Go p e below _ T45 (mkF m 32 #[.val (.ref d), .val (.int (4 : Int32)), .val (.int (1 : Int32))] [])
  have sz46 : n0 ≤ h45.size := by rw [W45.size]; exact sz40
  have K47 := K41.wr W45 (Or.inr gh12)
  have N45 := Fr.snoc X45 N39 gn12
  refine own_by (T' := T45) (f' := (mkF m 33 #[.val (.ref d), .val (.int (4 : Int32)), .val (.int (1 : Int32))] [(.ref d)])) (fun t k => XS.aloadN X45.here hx rfl (hb hby d1_32) rfl rfl k) ?_
  have f48 := ((f36.other W39 (Or.inl ne20_d)).other W45 (Or.inl ne12_d))
  refine own_getF (host := "") X45 hx hZ hown e45 (hb hby d1_33) (Or.inl (hw _ (List.mem_of_getElem? (i := 12) rfl))) Via.refl f48 ?_
  intro T49 X49 e49
  show own_Go p e below _ T49 (mkF m 36 #[.val (.ref d), .val (.int (4 : Int32)), .val (.int (1 : Int32))] [(.ref b20)])
  refine own_by (T' := T49) (f' := (mkF m 37 #[.val (.ref d), .val (.int (4 : Int32)), .val (.int (1 : Int32))] [(.int (1 : Int32)), (.ref b20)])) (fun t k => XS.iloadN X49.here hx rfl (hb hby d1_36) rfl k) ?_
  refine own_by (T' := T49) (f' := (mkF m 38 #[.val (.ref d), .val (.int (4 : Int32)), .val (.int (1 : Int32))] [(.int (1 : Int32)), (.int (1 : Int32)), (.ref b20)])) (fun t k => XS.iconst X49.here hx rfl (hb hby d1_37) k) ?_
  have f50 := (A39.other W45 (Ne.symm ne20_b12))
  have _ : (1 : Int32).toInt = 1 := by decide
  refine own_stI X49 hx hZ e49 (hb hby d1_38) f50 (by first | decide | omega) (by first | decide | omega) ?_
  intro T51 h51 X51 e51 W51 A51
  show own_Go p e below _ T51 (mkF m 39 #[.val (.ref d), .val (.int (4 : Int32)), .val (.int (1 : Int32))] [])
  have sz52 : n0 ≤ h51.size := by rw [W51.size]; exact sz46
  have K53 := K47.wr W51 (Or.inr gh20)
  have N51 := Fr.snoc X51 N45 gn20
  refine own_by (T' := T51) (f' := (mkF m 42 #[.val (.ref d), .val (.int (4 : Int32)), .val (.int (2 : Int32))] [])) (fun t k => XS.iinc X51.here hx rfl (hb hby d1_39) rfl (l' := #[.val (.ref d), .val (.int (4 : Int32)), .val (.int (2 : Int32))]) rfl k) ?_
  refine own_by (T' := T51) (f' := (mkF m 20 #[.val (.ref d), .val (.int (4 : Int32)), .val (.int (2 : Int32))] [])) (fun t k => XS.goto X51.here hx rfl (pc0 := 42) (pc' := 20) rfl (hb hby d1_42) (by decide) (by decide) k) ?_
  refine own_by (T' := T51) (f' := (mkF m 21 #[.val (.ref d), .val (.int (4 : Int32)), .val (.int (2 : Int32))] [(.int (2 : Int32))])) (fun t k => XS.iloadN X51.here hx rfl (hb hby d1_20) rfl k) ?_
  refine own_by (T' := T51) (f' := (mkF m 22 #[.val (.ref d), .val (.int (4 : Int32)), .val (.int (2 : Int32))] [(.int (4 : Int32)), (.int (2 : Int32))])) (fun t k => XS.iloadN X51.here hx rfl (hb hby d1_21) rfl k) ?_
  refine own_by (T' := T51) (f' := (mkF m 25 #[.val (.ref d), .val (.int (4 : Int32)), .val (.int (2 : Int32))] [])) (fun t k => XS.icmpNo X51.here hx rfl (hb hby d1_22) rfl (tlt (by decide)).2.1 k) ?_
  refine own_by (T' := T51) (f' := (mkF m 26 #[.val (.ref d), .val (.int (4 : Int32)), .val (.int (2 : Int32))] [(.ref d)])) (fun t k => XS.aloadN X51.here hx rfl (hb hby d1_25) rfl rfl k) ?_
  have f54 := ((f42.other W45 (Or.inl ne12_d)).other W51 (Or.inl ne20_d))
  refine own_getF (host := "") X51 hx hZ hown e51 (hb hby d1_26) (Or.inl (hw _ (List.mem_of_getElem? (i := 10) rfl))) Via.refl f54 ?_
  intro T55 X55 e55
  show own_Go p e below _ T55 (mkF m 29 #[.val (.ref d), .val (.int (4 : Int32)), .val (.int (2 : Int32))] [(.ref b12)])
  refine own_by (T' := T55) (f' := (mkF m 30 #[.val (.ref d), .val (.int (4 : Int32)), .val (.int (2 : Int32))] [(.int (2 : Int32)), (.ref b12)])) (fun t k => XS.iloadN X55.here hx rfl (hb hby d1_29) rfl k) ?_
  refine own_by (T' := T55) (f' := (mkF m 31 #[.val (.ref d), .val (.int (4 : Int32)), .val (.int (2 : Int32))] [(.int (2 : Int32)), (.int (2 : Int32)), (.ref b12)])) (fun t k => XS.iloadN X55.here hx rfl (hb hby d1_30) rfl k) ?_
  have f56 := (A45.other W51 ne20_b12)
  have _ : (2 : Int32).toInt = 2 := by decide
  refine own_stI X55 hx hZ e55 (hb hby d1_31) f56 (by first | decide | omega) (by first | decide | omega) ?_
  intro T57 h57 X57 e57 W57 A57
  show own_Go p e below _ T57 (mkF m 32 #[.val (.ref d), .val (.int (4 : Int32)), .val (.int (2 : Int32))] [])
  have sz58 : n0 ≤ h57.size := by rw [W57.size]; exact sz52
  have K59 := K53.wr W57 (Or.inr gh12)
  have N57 := Fr.snoc X57 N51 gn12
  refine own_by (T' := T57) (f' := (mkF m 33 #[.val (.ref d), .val (.int (4 : Int32)), .val (.int (2 : Int32))] [(.ref d)])) (fun t k => XS.aloadN X57.here hx rfl (hb hby d1_32) rfl rfl k) ?_
  have f60 := ((f48.other W51 (Or.inl ne20_d)).other W57 (Or.inl ne12_d))
  refine own_getF (host := "") X57 hx hZ hown e57 (hb hby d1_33) (Or.inl (hw _ (List.mem_of_getElem? (i := 12) rfl))) Via.refl f60 ?_
  intro T61 X61 e61
  show own_Go p e below _ T61 (mkF m 36 #[.val (.ref d), .val (.int (4 : Int32)), .val (.int (2 : Int32))] [(.ref b20)])
  refine own_by (T' := T61) (f' := (mkF m 37 #[.val (.ref d), .val (.int (4 : Int32)), .val (.int (2 : Int32))] [(.int (2 : Int32)), (.ref b20)])) (fun t k => XS.iloadN X61.here hx rfl (hb hby d1_36) rfl k) ?_
  refine own_by (T' := T61) (f' := (mkF m 38 #[.val (.ref d), .val (.int (4 : Int32)), .val (.int (2 : Int32))] [(.int (1 : Int32)), (.int (2 : Int32)), (.ref b20)])) (fun t k => XS.iconst X61.here hx rfl (hb hby d1_37) k) ?_
  have f62 := (A51.other W57 (Ne.symm ne20_b12))
  have _ : (2 : Int32).toInt = 2 := by decide
  refine own_stI X61 hx hZ e61 (hb hby d1_38) f62 (by first | decide | omega) (by first | decide | omega) ?_
  intro T63 h63 X63 e63 W63 A63
  show own_Go p e below _ T63 (mkF m 39 #[.val (.ref d), .val (.int (4 : Int32)), .val (.int (2 : Int32))] [])
  have sz64 : n0 ≤ h63.size := by rw [W63.size]; exact sz58
  have K65 := K59.wr W63 (Or.inr gh20)
  have N63 := Fr.snoc X63 N57 gn20
  refine own_by (T' := T63) (f' := (mkF m 42 #[.val (.ref d), .val (.int (4 : Int32)), .val (.int (3 : Int32))] [])) (fun t k => XS.iinc X63.here hx rfl (hb hby d1_39) rfl (l' := #[.val (.ref d), .val (.int (4 : Int32)), .val (.int (3 : Int32))]) rfl k) ?_
  refine own_by (T' := T63) (f' := (mkF m 20 #[.val (.ref d), .val (.int (4 : Int32)), .val (.int (3 : Int32))] [])) (fun t k => XS.goto X63.here hx rfl (pc0 := 42) (pc' := 20) rfl (hb hby d1_42) (by decide) (by decide) k) ?_
  refine own_by (T' := T63) (f' := (mkF m 21 #[.val (.ref d), .val (.int (4 : Int32)), .val (.int (3 : Int32))] [(.int (3 : Int32))])) (fun t k => XS.iloadN X63.here hx rfl (hb hby d1_20) rfl k) ?_
  refine own_by (T' := T63) (f' := (mkF m 22 #[.val (.ref d), .val (.int (4 : Int32)), .val (.int (3 : Int32))] [(.int (4 : Int32)), (.int (3 : Int32))])) (fun t k => XS.iloadN X63.here hx rfl (hb hby d1_21) rfl k) ?_
  refine own_by (T' := T63) (f' := (mkF m 25 #[.val (.ref d), .val (.int (4 : Int32)), .val (.int (3 : Int32))] [])) (fun t k => XS.icmpNo X63.here hx rfl (hb hby d1_22) rfl (tlt (by decide)).2.1 k) ?_
  refine own_by (T' := T63) (f' := (mkF m 26 #[.val (.ref d), .val (.int (4 : Int32)), .val (.int (3 : Int32))] [(.ref d)])) (fun t k => XS.aloadN X63.here hx rfl (hb hby d1_25) rfl rfl k) ?_
  have f66 := ((f54.other W57 (Or.inl ne12_d)).other W63 (Or.inl ne20_d))
  refine own_getF (host := "") X63 hx hZ hown e63 (hb hby d1_26) (Or.inl (hw _ (List.mem_of_getElem? (i := 10) rfl))) Via.refl f66 ?_
  intro T67 X67 e67
  show own_Go p e below _ T67 (mkF m 29 #[.val (.ref d), .val (.int (4 : Int32)), .val (.int (3 : Int32))] [(.ref b12)])
  refine own_by (T' := T67) (f' := (mkF m 30 #[.val (.ref d), .val (.int (4 : Int32)), .val (.int (3 : Int32))] [(.int (3 : Int32)), (.ref b12)])) (fun t k => XS.iloadN X67.here hx rfl (hb hby d1_29) rfl k) ?_
  refine own_by (T' := T67) (f' := (mkF m 31 #[.val (.ref d), .val (.int (4 : Int32)), .val (.int (3 : Int32))] [(.int (3 : Int32)), (.int (3 : Int32)), (.ref b12)])) (fun t k => XS.iloadN X67.here hx rfl (hb hby d1_30) rfl k) ?_
  have f68 := (A57.other W63 ne20_b12)
  have _ : (3 : Int32).toInt = 3 := by decide
  refine own_stI X67 hx hZ e67 (hb hby d1_31) f68 (by first | decide | omega) (by first | decide | omega) ?_
  intro T69 h69 X69 e69 W69 A69
  show own_Go p e below _ T69 (mkF m 32 #[.val (.ref d), .val (.int (4 : Int32)), .val (.int (3 : Int32))] [])
  have sz70 : n0 ≤ h69.size := by rw [W69.size]; exact sz64
  have K71 := K65.wr W69 (Or.inr gh12)
  have N69 := Fr.snoc X69 N63 gn12
  refine own_by (T' := T69) (f' := (mkF m 33 #[.val (.ref d), .val (.int (4 : Int32)), .val (.int (3 : Int32))] [(.ref d)])) (fun t k => XS.aloadN X69.here hx rfl (hb hby d1_32) rfl rfl k) ?_
  have f72 := ((f60.other W63 (Or.inl ne20_d)).other W69 (Or.inl ne12_d))
  refine own_getF (host := "") X69 hx hZ hown e69 (hb hby d1_33) (Or.inl (hw _ (List.mem_of_getElem? (i := 12) rfl))) Via.refl f72 ?_
  intro T73 X73 e73
  show own_Go p e below _ T73 (mkF m 36 #[.val (.ref d), .val (.int (4 : Int32)), .val (.int (3 : Int32))] [(.ref b20)])
  refine own_by (T' := T73) (f' := (mkF m 37 #[.val (.ref d), .val (.int (4 : Int32)), .val (.int (3 : Int32))] [(.int (3 : Int32)), (.ref b20)])) (fun t k => XS.iloadN X73.here hx rfl (hb hby d1_36) rfl k) ?_
  refine own_by (T' := T73) (f' := (mkF m 38 #[.val (.ref d), .val (.int (4 : Int32)), .val (.int (3 : Int32))] [(.int (1 : Int32)), (.int (3 : Int32)), (.ref b20)])) (fun t k => XS.iconst X73.here hx rfl (hb hby d1_37) k) ?_
  have f74 := (A63.other W69 (Ne.symm ne20_b12))
  have _ : (3 : Int32).toInt = 3 := by decide
  refine own_stI X73 hx hZ e73 (hb hby d1_38) f74 (by first | decide | omega) (by first | decide | omega) ?_
  intro T75 h75 X75 e75 W75 A75
  show own_Go p e below _ T75 (mkF m 39 #[.val (.ref d), .val (.int (4 : Int32)), .val (.int (3 : Int32))] [])
  have sz76 : n0 ≤ h75.size := by rw [W75.size]; exact sz70
  have K77 := K71.wr W75 (Or.inr gh20)
  have N75 := Fr.snoc X75 N69 gn20
  refine own_by (T' := T75) (f' := (mkF m 42 #[.val (.ref d), .val (.int (4 : Int32)), .val (.int (4 : Int32))] [])) (fun t k => XS.iinc X75.here hx rfl (hb hby d1_39) rfl (l' := #[.val (.ref d), .val (.int (4 : Int32)), .val (.int (4 : Int32))]) rfl k) ?_
  refine own_by (T' := T75) (f' := (mkF m 20 #[.val (.ref d), .val (.int (4 : Int32)), .val (.int (4 : Int32))] [])) (fun t k => XS.goto X75.here hx rfl (pc0 := 42) (pc' := 20) rfl (hb hby d1_42) (by decide) (by decide) k) ?_
  refine own_by (T' := T75) (f' := (mkF m 21 #[.val (.ref d), .val (.int (4 : Int32)), .val (.int (4 : Int32))] [(.int (4 : Int32))])) (fun t k => XS.iloadN X75.here hx rfl (hb hby d1_20) rfl k) ?_
  refine own_by (T' := T75) (f' := (mkF m 22 #[.val (.ref d), .val (.int (4 : Int32)), .val (.int (4 : Int32))] [(.int (4 : Int32)), (.int (4 : Int32))])) (fun t k => XS.iloadN X75.here hx rfl (hb hby d1_21) rfl k) ?_
  refine own_by (T' := T75) (f' := (mkF m 45 #[.val (.ref d), .val (.int (4 : Int32)), .val (.int (4 : Int32))] [])) (fun t k => XS.icmpYes X75.here hx rfl (pc0 := 22) (pc' := 45) rfl (hb hby d1_22) rfl (flt (by decide)).2.1 (by decide) (by decide) k) ?_
  have f78 := (A69.other W75 ne20_b12)
  have A79 : own_A Z h75 b12 .int 4 (own_q [0, 1, 2, 3]) := f78.congr (fun i hi => by match i, hi with | 0, _ => rfl | 1, _ => rfl | 2, _ => rfl | 3, _ => rfl | (q + 4), h => exact absurd h (by omega))
  have A80 : own_A Z h75 b20 .int 4 (own_q [1, 1, 1, 1]) := A75.congr (fun i hi => by match i, hi with | 0, _ => rfl | 1, _ => rfl | 2, _ => rfl | 3, _ => rfl | (q + 4), h => exact absurd h (by omega))
  have f81 := (((((((((f26.wr W27).wr W33).wr W39).wr W45).wr W51).wr W57).wr W63).wr W69).wr W75)
  have f82 := ((f66.other W69 (Or.inl ne12_d)).other W75 (Or.inl ne20_d))
  have f83 := (f72.other W75 (Or.inl ne20_d))
  refine own_retV X75 hx hret hlk (hb hby d1_45) (by decide) (by decide) ?_
  try rw [e75]
  exact ⟨b12, b20, rfl, N75, K77, gh12, gh20, ne20_b12, f81, f82, f83, A79, A80⟩
theorem ef_rmF (m : MethodId) (x0 : Addr) (x1 : Int32) : entryFrame m #[(.ref x0), (.int x1)] 3 = mkF m 0 #[.val (.ref x0), .val (.int x1), .unset] [] := by first | (simp [entryFrame, mkF, argsToLocals, Value.category]; done) | rfl
set_option maxRecDepth 65536 in
set_option maxHeartbeats 40000000 in
theorem rmF (l : Launch) (Z : State) (a0 : Array Value) (hw : ∀ d ∈ tables_1, d.before a0 Z = true) (ws : List Jvm.Cond) (d pa : Addr) (P0 : List Nat) (y0 : Nat) (h0 : Heap) (n0 : Nat) (Z0 : n0 ≤ h0.size) (gp : n0 ≤ pa) (ndp : d ≠ pa) (Ed : Exa Z h0 d "com/example/tollgraph/tollgraph/graph/DisjointSets") (Fp : Fld Z h0 d "com/example/tollgraph/tollgraph/graph/DisjointSets" "parent" "[I" (.ref pa)) (AP : own_A Z h0 pa .int 4 (own_q P0)) (hok : own_ok 4 P0 y0 = true) :
    own_Ct l Z (⟨"com/example/tollgraph/tollgraph/graph/DisjointSets", "find", "(I)I"⟩ : MethodName) prog_20_method_2_code 3 (some .int) ws ({ frames := 0, cells := 0, slots := 0, locals := 0 } : Room) #[(.ref d), (.int (Int32.ofNat y0))] h0 (fun v h L => v = some (.int (Int32.ofNat (own_f 4 P0 y0).2)) ∧ Fr n0 L ∧ Keep h0 h [pa] ∧ own_A Z h pa .int 4 (own_q (own_f 4 P0 y0).1)) := by
  refine own_of (plainFor_of_name pn_com_example_tollgraph_tollgraph_graph_DisjointSets) ?_
  intro p e s m below meth c s₁ hx hby hml hown hnm hret hlk hZ X0 e0
  have N0 := Fr.nil n0
  have loop : ∀ (k : Nat) (P : List Nat) (y : Nat) (TL : State) (hL : Heap) (LL : List Loc), own_ok k P y = true → own_f 4 P0 y0 = own_f k P y → Stand p l e ({ frames := 0, cells := 0, slots := 0, locals := 0 } : Room) s m #[(.ref d), (.int (Int32.ofNat y0))] below meth c TL LL 0 0 → TL.heap = hL → Exa Z hL d "com/example/tollgraph/tollgraph/graph/DisjointSets" → Fld Z hL d "com/example/tollgraph/tollgraph/graph/DisjointSets" "parent" "[I" (.ref pa) → own_A Z hL pa .int 4 (own_q P) → Keep h0 hL [pa] → Fr n0 LL → n0 ≤ hL.size → own_Go p e below (own_Ends s ({ frames := 0, cells := 0, slots := 0, locals := 0 } : Room) (fun v h L => v = some (.int (Int32.ofNat (own_f 4 P0 y0).2)) ∧ Fr n0 L ∧ Keep h0 h [pa] ∧ own_A Z h pa .int 4 (own_q (own_f 4 P0 y0).1))) TL (mkF m 2 #[.val (.ref d), .val (.int (Int32.ofNat y0)), .val (.int (Int32.ofNat y))] []) := by
    intro k
    induction k with
    | zero =>
      intro P y TL hL LL hok
      exact absurd hok (by simp [own_ok])
    | succ k ih =>
      intro P y TL hL LL hok hf XL eL Ed Fp AP KL NL ZL
      obtain ⟨hl4, hy4, hp4, hor⟩ := own_ok_s hok
      have iy : (Int32.ofNat y).toInt = (y : Int) := own_oi (by omega)
      have ip : (Int32.ofNat (List.getD P y 0)).toInt = ((List.getD P y 0 : Nat) : Int) := own_oi (by omega)
      refine own_by (T' := TL) (f' := (mkF m 3 #[.val (.ref d), .val (.int (Int32.ofNat y0)), .val (.int (Int32.ofNat y))] [(.ref d)])) (fun t k => XS.aloadN XL.here hx rfl (hb hby d5_2) rfl rfl k) ?_
      refine own_getF (host := "") XL hx hZ hown eL (hb hby d5_3) (Or.inl (hw _ (List.mem_of_getElem? (i := 10) rfl))) Via.refl Fp ?_
      intro T51 X51 e51
      show own_Go p e below _ T51 (mkF m 6 #[.val (.ref d), .val (.int (Int32.ofNat y0)), .val (.int (Int32.ofNat y))] [(.ref pa)])
      refine own_by (T' := T51) (f' := (mkF m 7 #[.val (.ref d), .val (.int (Int32.ofNat y0)), .val (.int (Int32.ofNat y))] [(.int (Int32.ofNat y)), (.ref pa)])) (fun t k => XS.iloadN X51.here hx rfl (hb hby d5_6) rfl k) ?_
      refine own_ldI X51 hx hZ e51 (hb hby d5_7) AP (by omega) (by omega) ?_
      rw [own_qx hy4]
      show own_Go p e below _ T51 (mkF m 8 #[.val (.ref d), .val (.int (Int32.ofNat y0)), .val (.int (Int32.ofNat y))] [(.int (Int32.ofNat (List.getD P y 0)))])
      refine own_by (T' := T51) (f' := (mkF m 9 #[.val (.ref d), .val (.int (Int32.ofNat y0)), .val (.int (Int32.ofNat y))] [(.int (Int32.ofNat y)), (.int (Int32.ofNat (List.getD P y 0)))])) (fun t k => XS.iloadN X51.here hx rfl (hb hby d5_8) rfl k) ?_
      by_cases hc9_52 : (Int32.ofNat (List.getD P y 0)) = (Int32.ofNat y)
      · have _ := X51
        refine own_by (T' := T51) (f' := (mkF m 39 #[.val (.ref d), .val (.int (Int32.ofNat y0)), .val (.int (Int32.ofNat y))] [])) (fun t k => XS.icmpYes X51.here hx rfl (pc0 := 9) (pc' := 39) rfl (hb hby d5_9) rfl (teq hc9_52).1 (by decide) (by decide) k) ?_
        refine own_by (T' := T51) (f' := (mkF m 40 #[.val (.ref d), .val (.int (Int32.ofNat y0)), .val (.int (Int32.ofNat y))] [(.int (Int32.ofNat y))])) (fun t k => XS.iloadN X51.here hx rfl (hb hby d5_39) rfl k) ?_
        have heq : List.getD P y 0 = y := (own_oe (by omega) (by omega)).mp hc9_52
        have hff : own_f 4 P0 y0 = (P, y) := by rw [hf, own_f, if_pos heq]
        refine own_retI X51 hx hret hlk (hb hby d5_40) (by decide) (by decide) ?_
        try rw [e51]
        exact ⟨by rw [hff], NL, KL, by rw [hff]; exact AP⟩
      · have _ := X51
        refine own_by (T' := T51) (f' := (mkF m 12 #[.val (.ref d), .val (.int (Int32.ofNat y0)), .val (.int (Int32.ofNat y))] [])) (fun t k => XS.icmpNo X51.here hx rfl (hb hby d5_9) rfl (feq hc9_52).1 k) ?_
        refine own_by (T' := T51) (f' := (mkF m 13 #[.val (.ref d), .val (.int (Int32.ofNat y0)), .val (.int (Int32.ofNat y))] [(.ref d)])) (fun t k => XS.aloadN X51.here hx rfl (hb hby d5_12) rfl rfl k) ?_
        refine own_getF (host := "") X51 hx hZ hown e51 (hb hby d5_13) (Or.inl (hw _ (List.mem_of_getElem? (i := 10) rfl))) Via.refl Fp ?_
        intro T53 X53 e53
        show own_Go p e below _ T53 (mkF m 16 #[.val (.ref d), .val (.int (Int32.ofNat y0)), .val (.int (Int32.ofNat y))] [(.ref pa)])
        refine own_by (T' := T53) (f' := (mkF m 17 #[.val (.ref d), .val (.int (Int32.ofNat y0)), .val (.int (Int32.ofNat y))] [(.int (Int32.ofNat y)), (.ref pa)])) (fun t k => XS.iloadN X53.here hx rfl (hb hby d5_16) rfl k) ?_
        refine own_by (T' := T53) (f' := (mkF m 18 #[.val (.ref d), .val (.int (Int32.ofNat y0)), .val (.int (Int32.ofNat y))] [(.ref d), (.int (Int32.ofNat y)), (.ref pa)])) (fun t k => XS.aloadN X53.here hx rfl (hb hby d5_17) rfl rfl k) ?_
        refine own_getF (host := "") X53 hx hZ hown e53 (hb hby d5_18) (Or.inl (hw _ (List.mem_of_getElem? (i := 10) rfl))) Via.refl Fp ?_
        intro T54 X54 e54
        show own_Go p e below _ T54 (mkF m 21 #[.val (.ref d), .val (.int (Int32.ofNat y0)), .val (.int (Int32.ofNat y))] [(.ref pa), (.int (Int32.ofNat y)), (.ref pa)])
        refine own_by (T' := T54) (f' := (mkF m 22 #[.val (.ref d), .val (.int (Int32.ofNat y0)), .val (.int (Int32.ofNat y))] [(.ref d), (.ref pa), (.int (Int32.ofNat y)), (.ref pa)])) (fun t k => XS.aloadN X54.here hx rfl (hb hby d5_21) rfl rfl k) ?_
        refine own_getF (host := "") X54 hx hZ hown e54 (hb hby d5_22) (Or.inl (hw _ (List.mem_of_getElem? (i := 10) rfl))) Via.refl Fp ?_
        intro T55 X55 e55
        show own_Go p e below _ T55 (mkF m 25 #[.val (.ref d), .val (.int (Int32.ofNat y0)), .val (.int (Int32.ofNat y))] [(.ref pa), (.ref pa), (.int (Int32.ofNat y)), (.ref pa)])
        refine own_by (T' := T55) (f' := (mkF m 26 #[.val (.ref d), .val (.int (Int32.ofNat y0)), .val (.int (Int32.ofNat y))] [(.int (Int32.ofNat y)), (.ref pa), (.ref pa), (.int (Int32.ofNat y)), (.ref pa)])) (fun t k => XS.iloadN X55.here hx rfl (hb hby d5_25) rfl k) ?_
        refine own_ldI X55 hx hZ e55 (hb hby d5_26) AP (by omega) (by omega) ?_
        rw [own_qx hy4]
        show own_Go p e below _ T55 (mkF m 27 #[.val (.ref d), .val (.int (Int32.ofNat y0)), .val (.int (Int32.ofNat y))] [(.int (Int32.ofNat (List.getD P y 0))), (.ref pa), (.int (Int32.ofNat y)), (.ref pa)])
        refine own_ldI X55 hx hZ e55 (hb hby d5_27) AP (by omega) (by omega) ?_
        rw [own_qx hp4]
        show own_Go p e below _ T55 (mkF m 28 #[.val (.ref d), .val (.int (Int32.ofNat y0)), .val (.int (Int32.ofNat y))] [(.int (Int32.ofNat (List.getD P (List.getD P y 0) 0))), (.int (Int32.ofNat y)), (.ref pa)])
        refine own_stI X55 hx hZ e55 (hb hby d5_28) AP (by omega) (by omega) ?_
        intro T56 h56 X56 e56 W56 A56
        show own_Go p e below _ T56 (mkF m 29 #[.val (.ref d), .val (.int (Int32.ofNat y0)), .val (.int (Int32.ofNat y))] [])
        have sz57 : n0 ≤ h56.size := by rw [W56.size]; exact ZL
        have K58 := KL.wr W56 (Or.inl (List.mem_of_getElem? (i := 0) rfl))
        have N56 := Fr.snoc X56 NL gp
        have A59 : own_A Z h56 pa .int 4 (own_q (List.set P y (List.getD P (List.getD P y 0) 0))) := A56.congr (fun i hi => by exact own_qset hy4 hl4 hi)
        refine own_by (T' := T56) (f' := (mkF m 30 #[.val (.ref d), .val (.int (Int32.ofNat y0)), .val (.int (Int32.ofNat y))] [(.ref d)])) (fun t k => XS.aloadN X56.here hx rfl (hb hby d5_29) rfl rfl k) ?_
        have f60 := (Fp.other W56 (Or.inl ndp))
        refine own_getF (host := "") X56 hx hZ hown e56 (hb hby d5_30) (Or.inl (hw _ (List.mem_of_getElem? (i := 10) rfl))) Via.refl f60 ?_
        intro T61 X61 e61
        show own_Go p e below _ T61 (mkF m 33 #[.val (.ref d), .val (.int (Int32.ofNat y0)), .val (.int (Int32.ofNat y))] [(.ref pa)])
        refine own_by (T' := T61) (f' := (mkF m 34 #[.val (.ref d), .val (.int (Int32.ofNat y0)), .val (.int (Int32.ofNat y))] [(.int (Int32.ofNat y)), (.ref pa)])) (fun t k => XS.iloadN X61.here hx rfl (hb hby d5_33) rfl k) ?_
        refine own_ldI X61 hx hZ e61 (hb hby d5_34) A59 (by omega) (by omega) ?_
        rw [own_qx hy4, own_gs hy4 hl4]
        show own_Go p e below _ T61 (mkF m 35 #[.val (.ref d), .val (.int (Int32.ofNat y0)), .val (.int (Int32.ofNat y))] [(.int (Int32.ofNat (List.getD P (List.getD P y 0) 0)))])
        refine own_by (T' := T61) (f' := (mkF m 36 #[.val (.ref d), .val (.int (Int32.ofNat y0)), .val (.int (Int32.ofNat (List.getD P (List.getD P y 0) 0)))] [])) (fun t k => XS.istoreN X61.here hx rfl (hb hby d5_35) rfl (l' := #[.val (.ref d), .val (.int (Int32.ofNat y0)), .val (.int (Int32.ofNat (List.getD P (List.getD P y 0) 0)))]) rfl k) ?_
        refine own_by (T' := T61) (f' := (mkF m 2 #[.val (.ref d), .val (.int (Int32.ofNat y0)), .val (.int (Int32.ofNat (List.getD P (List.getD P y 0) 0)))] [])) (fun t k => XS.goto X61.here hx rfl (pc0 := 36) (pc' := 2) rfl (hb hby d5_36) (by decide) (by decide) k) ?_
        have hne : ¬ (List.getD P y 0 = y) := fun q => hc9_52 ((own_oe (by omega) (by omega)).mpr q)
        have f62 := (Ed.wr W56)
        exact ih (List.set P y (List.getD P (List.getD P y 0) 0)) (List.getD P (List.getD P y 0) 0) T61 h56 _ (hor.resolve_left hne) (by rw [hf, own_f, if_neg hne]) X61 e61 f62 f60 A59 K58 N56 sz57
  rw [ef_rmF]
  refine own_by (T' := s₁) (f' := (mkF m 1 #[.val (.ref d), .val (.int (Int32.ofNat y0)), .unset] [(.int (Int32.ofNat y0))])) (fun t k => XS.iloadN X0.here hx rfl (hb hby d5_0) rfl k) ?_
  refine own_by (T' := s₁) (f' := (mkF m 2 #[.val (.ref d), .val (.int (Int32.ofNat y0)), .val (.int (Int32.ofNat y0))] [])) (fun t k => XS.istoreN X0.here hx rfl (hb hby d5_1) rfl (l' := #[.val (.ref d), .val (.int (Int32.ofNat y0)), .val (.int (Int32.ofNat y0))]) rfl k) ?_
  exact loop 4 P0 y0 s₁ h0 _ hok rfl X0 e0 Ed Fp AP (Keep.refl h0 [pa]) N0 Z0
theorem ef_rmU (m : MethodId) (x0 : Addr) (x1 : Int32) (x2 : Int32) : entryFrame m #[(.ref x0), (.int x1), (.int x2)] 7 = mkF m 0 #[.val (.ref x0), .val (.int x1), .val (.int x2), .unset, .unset, .unset, .unset] [] := by first | (simp [entryFrame, mkF, argsToLocals, Value.category]; done) | rfl
set_option maxRecDepth 65536 in
set_option maxHeartbeats 40000000 in
theorem rmU (l : Launch) (Z : State) (a0 : Array Value) (hw : ∀ d ∈ tables_1, d.before a0 Z = true) (ws : List Jvm.Cond) (d pa sa : Addr) (st : own_DS) (a b : Nat) (h0 : Heap) (n0 : Nat) (Z0 : n0 ≤ h0.size) (gp : n0 ≤ pa) (gs : n0 ≤ sa) (ndp : d ≠ pa) (nds : d ≠ sa) (nps : pa ≠ sa) (Ed : Exa Z h0 d "com/example/tollgraph/tollgraph/graph/DisjointSets") (Fp : Fld Z h0 d "com/example/tollgraph/tollgraph/graph/DisjointSets" "parent" "[I" (.ref pa)) (Fs : Fld Z h0 d "com/example/tollgraph/tollgraph/graph/DisjointSets" "size" "[I" (.ref sa)) (AP : own_A Z h0 pa .int 4 (own_q st.1)) (AS : own_A Z h0 sa .int 4 (own_q st.2.1)) (hg : own_gd st a b) :
    own_Ct l Z (⟨"com/example/tollgraph/tollgraph/graph/DisjointSets", "union", "(II)Z"⟩ : MethodName) prog_20_method_3_code 7 (some .boolean) ws ({ frames := 1, cells := 0, slots := 0, locals := 14 } : Room) #[(.ref d), (.int (Int32.ofNat a)), (.int (Int32.ofNat b))] h0 (fun v h L => v = some (.int (Int32.ofNat (own_U st a b).2.2)) ∧ Fr n0 L ∧ Keep h0 h [pa, sa] ∧ own_A Z h pa .int 4 (own_q (own_U st a b).1) ∧ own_A Z h sa .int 4 (own_q (own_U st a b).2.1)) := by
  refine own_of (plainFor_of_name pn_com_example_tollgraph_tollgraph_graph_DisjointSets) ?_
  intro p e s m below meth c s₁ hx hby hml hown hnm hret hlk hZ X0 e0
  have N0 := Fr.nil n0
  have K0 := Keep.refl h0 [pa, sa]
  obtain ⟨hok1, hok2, ha4, hb4, hl4, hls, hsa, hsb, -, -, -⟩ := hg
  have ia : (Int32.ofNat (own_F1 st a).2).toInt = (((own_F1 st a).2 : Nat) : Int) := own_oi (by omega)
  have ib : (Int32.ofNat (own_F2 st a b).2).toInt = (((own_F2 st a b).2 : Nat) : Int) := own_oi (by omega)
  rw [ef_rmU]
  refine own_by (T' := s₁) (f' := (mkF m 1 #[.val (.ref d), .val (.int (Int32.ofNat a)), .val (.int (Int32.ofNat b)), .unset, .unset, .unset, .unset] [(.ref d)])) (fun t k => XS.aloadN X0.here hx rfl (hb hby d4_0) rfl rfl k) ?_
  refine own_by (T' := s₁) (f' := (mkF m 2 #[.val (.ref d), .val (.int (Int32.ofNat a)), .val (.int (Int32.ofNat b)), .unset, .unset, .unset, .unset] [(.int (Int32.ofNat a)), (.ref d)])) (fun t k => XS.iloadN X0.here hx rfl (hb hby d4_1) rfl k) ?_
  have q11 : ∀ x ∈ [pa], ∃ c : Cell, h0[x]? = some c ∧ c.vm.isStatics = false := (allS (own_nsA AP) all0)
  refine own_callV X0 hx hZ hown e0 (hb hby d4_2) [(.int (Int32.ofNat a))] [] 0 (rmF l Z a0 hw [] d pa st.1 a h0 n0 Z0 gp ndp Ed Fp AP hok1) Ed (hw _ (List.mem_of_getElem? (i := 23) rfl)) (hw _ (List.mem_of_getElem? (i := 24) rfl)) (notFace_of_selects (args := #[]) (mvT hZ (hw _ (List.mem_of_getElem? (i := 26) rfl)))) (hw _ (List.mem_of_getElem? (i := 26) rfl)) (hw _ (List.mem_of_getElem? (i := 25) rfl)) (hw _ (List.mem_of_getElem? (i := 2) rfl)) (hw _ (List.mem_of_getElem? (i := 27) rfl)) (by decide) pd__I_I (by rw [hml]; rfl) rfl rfl (Nat.le_of_eq rfl) (by decide) (by decide) (by decide) (by decide) ?_
  rintro T12 _ L12 X12 ⟨rfl, N12q, K12, A12⟩
  show own_Go p e below _ T12 (mkF m 5 #[.val (.ref d), .val (.int (Int32.ofNat a)), .val (.int (Int32.ofNat b)), .unset, .unset, .unset, .unset] [(.int (Int32.ofNat (own_F1 st a).2))])
  have N12 := Fr.app N0 N12q
  have sz13 : n0 ≤ T12.heap.size := Nat.le_trans Z0 K12.1
  have K14 := K0.trans K12 (allS (Or.inl (List.mem_of_getElem? (i := 0) rfl)) all0)
  refine own_by (T' := T12) (f' := (mkF m 6 #[.val (.ref d), .val (.int (Int32.ofNat a)), .val (.int (Int32.ofNat b)), .val (.int (Int32.ofNat (own_F1 st a).2)), .unset, .unset, .unset] [])) (fun t k => XS.istoreN X12.here hx rfl (hb hby d4_5) rfl (l' := #[.val (.ref d), .val (.int (Int32.ofNat a)), .val (.int (Int32.ofNat b)), .val (.int (Int32.ofNat (own_F1 st a).2)), .unset, .unset, .unset]) rfl k) ?_
  refine own_by (T' := T12) (f' := (mkF m 7 #[.val (.ref d), .val (.int (Int32.ofNat a)), .val (.int (Int32.ofNat b)), .val (.int (Int32.ofNat (own_F1 st a).2)), .unset, .unset, .unset] [(.ref d)])) (fun t k => XS.aloadN X12.here hx rfl (hb hby d4_6) rfl rfl k) ?_
  refine own_by (T' := T12) (f' := (mkF m 8 #[.val (.ref d), .val (.int (Int32.ofNat a)), .val (.int (Int32.ofNat b)), .val (.int (Int32.ofNat (own_F1 st a).2)), .unset, .unset, .unset] [(.int (Int32.ofNat b)), (.ref d)])) (fun t k => XS.iloadN X12.here hx rfl (hb hby d4_7) rfl k) ?_
  have q15 : ∀ x ∈ [pa], ∃ c : Cell, T12.heap[x]? = some c ∧ c.vm.isStatics = false := (allS (own_nsA A12) all0)
  have f16 := (Ed.keep K12)
  have f17 := (Fp.keep K12 (ninS ndp nin0))
  refine own_callV X12 hx hZ hown rfl (hb hby d4_8) [(.int (Int32.ofNat b))] [] 0 (rmF l Z a0 hw [] d pa (own_F1 st a).1 b T12.heap n0 sz13 gp ndp f16 f17 A12 hok2) f16 (hw _ (List.mem_of_getElem? (i := 23) rfl)) (hw _ (List.mem_of_getElem? (i := 24) rfl)) (notFace_of_selects (args := #[]) (mvT hZ (hw _ (List.mem_of_getElem? (i := 26) rfl)))) (hw _ (List.mem_of_getElem? (i := 26) rfl)) (hw _ (List.mem_of_getElem? (i := 25) rfl)) (hw _ (List.mem_of_getElem? (i := 2) rfl)) (hw _ (List.mem_of_getElem? (i := 27) rfl)) (by decide) pd__I_I (by rw [hml]; rfl) rfl rfl (Nat.le_of_eq rfl) (by decide) (by decide) (by decide) (by decide) ?_
  rintro T18 _ L18 X18 ⟨rfl, N18q, K18, A18⟩
  show own_Go p e below _ T18 (mkF m 11 #[.val (.ref d), .val (.int (Int32.ofNat a)), .val (.int (Int32.ofNat b)), .val (.int (Int32.ofNat (own_F1 st a).2)), .unset, .unset, .unset] [(.int (Int32.ofNat (own_F2 st a b).2))])
  have N18 := Fr.app N12 N18q
  have sz19 : n0 ≤ T18.heap.size := Nat.le_trans sz13 K18.1
  have K20 := K14.trans K18 (allS (Or.inl (List.mem_of_getElem? (i := 0) rfl)) all0)
  refine own_by (T' := T18) (f' := (mkF m 13 #[.val (.ref d), .val (.int (Int32.ofNat a)), .val (.int (Int32.ofNat b)), .val (.int (Int32.ofNat (own_F1 st a).2)), .val (.int (Int32.ofNat (own_F2 st a b).2)), .unset, .unset] [])) (fun t k => XS.istore X18.here hx rfl (hb hby d4_11) rfl (l' := #[.val (.ref d), .val (.int (Int32.ofNat a)), .val (.int (Int32.ofNat b)), .val (.int (Int32.ofNat (own_F1 st a).2)), .val (.int (Int32.ofNat (own_F2 st a b).2)), .unset, .unset]) rfl k) ?_
  refine own_by (T' := T18) (f' := (mkF m 14 #[.val (.ref d), .val (.int (Int32.ofNat a)), .val (.int (Int32.ofNat b)), .val (.int (Int32.ofNat (own_F1 st a).2)), .val (.int (Int32.ofNat (own_F2 st a b).2)), .unset, .unset] [(.int (Int32.ofNat (own_F1 st a).2))])) (fun t k => XS.iloadN X18.here hx rfl (hb hby d4_13) rfl k) ?_
  refine own_by (T' := T18) (f' := (mkF m 16 #[.val (.ref d), .val (.int (Int32.ofNat a)), .val (.int (Int32.ofNat b)), .val (.int (Int32.ofNat (own_F1 st a).2)), .val (.int (Int32.ofNat (own_F2 st a b).2)), .unset, .unset] [(.int (Int32.ofNat (own_F2 st a b).2)), (.int (Int32.ofNat (own_F1 st a).2))])) (fun t k => XS.iload X18.here hx rfl (hb hby d4_14) rfl k) ?_
  by_cases hc16_21 : (Int32.ofNat (own_F1 st a).2) = (Int32.ofNat (own_F2 st a b).2)
  · have _ := X18
    refine own_by (T' := T18) (f' := (mkF m 19 #[.val (.ref d), .val (.int (Int32.ofNat a)), .val (.int (Int32.ofNat b)), .val (.int (Int32.ofNat (own_F1 st a).2)), .val (.int (Int32.ofNat (own_F2 st a b).2)), .unset, .unset] [])) (fun t k => XS.icmpNo X18.here hx rfl (hb hby d4_16) rfl (teq hc16_21).2 k) ?_
    refine own_by (T' := T18) (f' := (mkF m 20 #[.val (.ref d), .val (.int (Int32.ofNat a)), .val (.int (Int32.ofNat b)), .val (.int (Int32.ofNat (own_F1 st a).2)), .val (.int (Int32.ofNat (own_F2 st a b).2)), .unset, .unset] [(.int (0 : Int32))])) (fun t k => XS.iconst X18.here hx rfl (hb hby d4_19) k) ?_
    have hU : own_U st a b = ((own_F2 st a b).1, st.2.1, 0) := by unfold own_U own_u3; rw [if_pos ((own_oe (by omega) (by omega)).mp hc16_21)]
    have f22 := ((AS.keep K12 (ninS (Ne.symm nps) nin0)).keep K18 (ninS (Ne.symm nps) nin0))
    refine own_retZ X18 hx hret hlk (hb hby d4_20) (Or.inl rfl) (by decide) (by decide) ?_
    exact ⟨by rw [hU]; rfl, N18, K20, by rw [hU]; exact A18, by rw [hU]; exact f22⟩
  · have _ := X18
    refine own_by (T' := T18) (f' := (mkF m 21 #[.val (.ref d), .val (.int (Int32.ofNat a)), .val (.int (Int32.ofNat b)), .val (.int (Int32.ofNat (own_F1 st a).2)), .val (.int (Int32.ofNat (own_F2 st a b).2)), .unset, .unset] [])) (fun t k => XS.icmpYes X18.here hx rfl (pc0 := 16) (pc' := 21) rfl (hb hby d4_16) rfl (feq hc16_21).2 (by decide) (by decide) k) ?_
    refine own_by (T' := T18) (f' := (mkF m 22 #[.val (.ref d), .val (.int (Int32.ofNat a)), .val (.int (Int32.ofNat b)), .val (.int (Int32.ofNat (own_F1 st a).2)), .val (.int (Int32.ofNat (own_F2 st a b).2)), .unset, .unset] [(.ref d)])) (fun t k => XS.aloadN X18.here hx rfl (hb hby d4_21) rfl rfl k) ?_
    have f23 := ((Fs.keep K12 (ninS ndp nin0)).keep K18 (ninS ndp nin0))
    refine own_getF (host := "") X18 hx hZ hown rfl (hb hby d4_22) (Or.inl (hw _ (List.mem_of_getElem? (i := 12) rfl))) Via.refl f23 ?_
    intro T24 X24 e24
    show own_Go p e below _ T24 (mkF m 25 #[.val (.ref d), .val (.int (Int32.ofNat a)), .val (.int (Int32.ofNat b)), .val (.int (Int32.ofNat (own_F1 st a).2)), .val (.int (Int32.ofNat (own_F2 st a b).2)), .unset, .unset] [(.ref sa)])
    refine own_by (T' := T24) (f' := (mkF m 26 #[.val (.ref d), .val (.int (Int32.ofNat a)), .val (.int (Int32.ofNat b)), .val (.int (Int32.ofNat (own_F1 st a).2)), .val (.int (Int32.ofNat (own_F2 st a b).2)), .unset, .unset] [(.int (Int32.ofNat (own_F1 st a).2)), (.ref sa)])) (fun t k => XS.iloadN X24.here hx rfl (hb hby d4_25) rfl k) ?_
    have f25 := ((AS.keep K12 (ninS (Ne.symm nps) nin0)).keep K18 (ninS (Ne.symm nps) nin0))
    refine own_ldI X24 hx hZ e24 (hb hby d4_26) f25 (by omega) (by omega) ?_
    rw [own_qx ha4]
    show own_Go p e below _ T24 (mkF m 27 #[.val (.ref d), .val (.int (Int32.ofNat a)), .val (.int (Int32.ofNat b)), .val (.int (Int32.ofNat (own_F1 st a).2)), .val (.int (Int32.ofNat (own_F2 st a b).2)), .unset, .unset] [(.int (Int32.ofNat (List.getD st.2.1 (own_F1 st a).2 0)))])
    refine own_by (T' := T24) (f' := (mkF m 28 #[.val (.ref d), .val (.int (Int32.ofNat a)), .val (.int (Int32.ofNat b)), .val (.int (Int32.ofNat (own_F1 st a).2)), .val (.int (Int32.ofNat (own_F2 st a b).2)), .unset, .unset] [(.ref d), (.int (Int32.ofNat (List.getD st.2.1 (own_F1 st a).2 0)))])) (fun t k => XS.aloadN X24.here hx rfl (hb hby d4_27) rfl rfl k) ?_
    refine own_getF (host := "") X24 hx hZ hown e24 (hb hby d4_28) (Or.inl (hw _ (List.mem_of_getElem? (i := 12) rfl))) Via.refl f23 ?_
    intro T26 X26 e26
    show own_Go p e below _ T26 (mkF m 31 #[.val (.ref d), .val (.int (Int32.ofNat a)), .val (.int (Int32.ofNat b)), .val (.int (Int32.ofNat (own_F1 st a).2)), .val (.int (Int32.ofNat (own_F2 st a b).2)), .unset, .unset] [(.ref sa), (.int (Int32.ofNat (List.getD st.2.1 (own_F1 st a).2 0)))])
    refine own_by (T' := T26) (f' := (mkF m 33 #[.val (.ref d), .val (.int (Int32.ofNat a)), .val (.int (Int32.ofNat b)), .val (.int (Int32.ofNat (own_F1 st a).2)), .val (.int (Int32.ofNat (own_F2 st a b).2)), .unset, .unset] [(.int (Int32.ofNat (own_F2 st a b).2)), (.ref sa), (.int (Int32.ofNat (List.getD st.2.1 (own_F1 st a).2 0)))])) (fun t k => XS.iload X26.here hx rfl (hb hby d4_31) rfl k) ?_
    refine own_ldI X26 hx hZ e26 (hb hby d4_33) f25 (by omega) (by omega) ?_
    rw [own_qx hb4]
    show own_Go p e below _ T26 (mkF m 34 #[.val (.ref d), .val (.int (Int32.ofNat a)), .val (.int (Int32.ofNat b)), .val (.int (Int32.ofNat (own_F1 st a).2)), .val (.int (Int32.ofNat (own_F2 st a b).2)), .unset, .unset] [(.int (Int32.ofNat (List.getD st.2.1 (own_F2 st a b).2 0))), (.int (Int32.ofNat (List.getD st.2.1 (own_F1 st a).2 0)))])
    by_cases hc34_27 : (Int32.ofNat (List.getD st.2.1 (own_F1 st a).2 0)) < (Int32.ofNat (List.getD st.2.1 (own_F2 st a b).2 0))
    · have _ := X26
      refine own_by (T' := T26) (f' := (mkF m 41 #[.val (.ref d), .val (.int (Int32.ofNat a)), .val (.int (Int32.ofNat b)), .val (.int (Int32.ofNat (own_F1 st a).2)), .val (.int (Int32.ofNat (own_F2 st a b).2)), .unset, .unset] [])) (fun t k => XS.icmpYes X26.here hx rfl (pc0 := 34) (pc' := 41) rfl (hb hby d4_34) rfl (tlt hc34_27).1 (by decide) (by decide) k) ?_
      refine own_by (T' := T26) (f' := (mkF m 43 #[.val (.ref d), .val (.int (Int32.ofNat a)), .val (.int (Int32.ofNat b)), .val (.int (Int32.ofNat (own_F1 st a).2)), .val (.int (Int32.ofNat (own_F2 st a b).2)), .unset, .unset] [(.int (Int32.ofNat (own_F2 st a b).2))])) (fun t k => XS.iload X26.here hx rfl (hb hby d4_41) rfl k) ?_
      refine own_by (T' := T26) (f' := (mkF m 45 #[.val (.ref d), .val (.int (Int32.ofNat a)), .val (.int (Int32.ofNat b)), .val (.int (Int32.ofNat (own_F1 st a).2)), .val (.int (Int32.ofNat (own_F2 st a b).2)), .val (.int (Int32.ofNat (own_F2 st a b).2)), .unset] [])) (fun t k => XS.istore X26.here hx rfl (hb hby d4_43) rfl (l' := #[.val (.ref d), .val (.int (Int32.ofNat a)), .val (.int (Int32.ofNat b)), .val (.int (Int32.ofNat (own_F1 st a).2)), .val (.int (Int32.ofNat (own_F2 st a b).2)), .val (.int (Int32.ofNat (own_F2 st a b).2)), .unset]) rfl k) ?_
      refine own_by (T' := T26) (f' := (mkF m 47 #[.val (.ref d), .val (.int (Int32.ofNat a)), .val (.int (Int32.ofNat b)), .val (.int (Int32.ofNat (own_F1 st a).2)), .val (.int (Int32.ofNat (own_F2 st a b).2)), .val (.int (Int32.ofNat (own_F2 st a b).2)), .unset] [(.int (Int32.ofNat (own_F2 st a b).2))])) (fun t k => XS.iload X26.here hx rfl (hb hby d4_45) rfl k) ?_
      refine own_by (T' := T26) (f' := (mkF m 48 #[.val (.ref d), .val (.int (Int32.ofNat a)), .val (.int (Int32.ofNat b)), .val (.int (Int32.ofNat (own_F1 st a).2)), .val (.int (Int32.ofNat (own_F2 st a b).2)), .val (.int (Int32.ofNat (own_F2 st a b).2)), .unset] [(.int (Int32.ofNat (own_F1 st a).2)), (.int (Int32.ofNat (own_F2 st a b).2))])) (fun t k => XS.iloadN X26.here hx rfl (hb hby d4_47) rfl k) ?_
      refine own_by (T' := T26) (f' := (mkF m 56 #[.val (.ref d), .val (.int (Int32.ofNat a)), .val (.int (Int32.ofNat b)), .val (.int (Int32.ofNat (own_F1 st a).2)), .val (.int (Int32.ofNat (own_F2 st a b).2)), .val (.int (Int32.ofNat (own_F2 st a b).2)), .unset] [])) (fun t k => XS.icmpYes X26.here hx rfl (pc0 := 48) (pc' := 56) rfl (hb hby d4_48) rfl (feq (fun q => hc16_21 q.symm)).2 (by decide) (by decide) k) ?_
      refine own_by (T' := T26) (f' := (mkF m 57 #[.val (.ref d), .val (.int (Int32.ofNat a)), .val (.int (Int32.ofNat b)), .val (.int (Int32.ofNat (own_F1 st a).2)), .val (.int (Int32.ofNat (own_F2 st a b).2)), .val (.int (Int32.ofNat (own_F2 st a b).2)), .unset] [(.int (Int32.ofNat (own_F1 st a).2))])) (fun t k => XS.iloadN X26.here hx rfl (hb hby d4_56) rfl k) ?_
      refine own_by (T' := T26) (f' := (mkF m 59 #[.val (.ref d), .val (.int (Int32.ofNat a)), .val (.int (Int32.ofNat b)), .val (.int (Int32.ofNat (own_F1 st a).2)), .val (.int (Int32.ofNat (own_F2 st a b).2)), .val (.int (Int32.ofNat (own_F2 st a b).2)), .val (.int (Int32.ofNat (own_F1 st a).2))] [])) (fun t k => XS.istore X26.here hx rfl (hb hby d4_57) rfl (l' := #[.val (.ref d), .val (.int (Int32.ofNat a)), .val (.int (Int32.ofNat b)), .val (.int (Int32.ofNat (own_F1 st a).2)), .val (.int (Int32.ofNat (own_F2 st a b).2)), .val (.int (Int32.ofNat (own_F2 st a b).2)), .val (.int (Int32.ofNat (own_F1 st a).2))]) rfl k) ?_
      refine own_by (T' := T26) (f' := (mkF m 60 #[.val (.ref d), .val (.int (Int32.ofNat a)), .val (.int (Int32.ofNat b)), .val (.int (Int32.ofNat (own_F1 st a).2)), .val (.int (Int32.ofNat (own_F2 st a b).2)), .val (.int (Int32.ofNat (own_F2 st a b).2)), .val (.int (Int32.ofNat (own_F1 st a).2))] [(.ref d)])) (fun t k => XS.aloadN X26.here hx rfl (hb hby d4_59) rfl rfl k) ?_
      have f28 := (f17.keep K18 (ninS ndp nin0))
      refine own_getF (host := "") X26 hx hZ hown e26 (hb hby d4_60) (Or.inl (hw _ (List.mem_of_getElem? (i := 10) rfl))) Via.refl f28 ?_
      intro T29 X29 e29
      show own_Go p e below _ T29 (mkF m 63 #[.val (.ref d), .val (.int (Int32.ofNat a)), .val (.int (Int32.ofNat b)), .val (.int (Int32.ofNat (own_F1 st a).2)), .val (.int (Int32.ofNat (own_F2 st a b).2)), .val (.int (Int32.ofNat (own_F2 st a b).2)), .val (.int (Int32.ofNat (own_F1 st a).2))] [(.ref pa)])
      refine own_by (T' := T29) (f' := (mkF m 65 #[.val (.ref d), .val (.int (Int32.ofNat a)), .val (.int (Int32.ofNat b)), .val (.int (Int32.ofNat (own_F1 st a).2)), .val (.int (Int32.ofNat (own_F2 st a b).2)), .val (.int (Int32.ofNat (own_F2 st a b).2)), .val (.int (Int32.ofNat (own_F1 st a).2))] [(.int (Int32.ofNat (own_F1 st a).2)), (.ref pa)])) (fun t k => XS.iload X29.here hx rfl (hb hby d4_63) rfl k) ?_
      refine own_by (T' := T29) (f' := (mkF m 67 #[.val (.ref d), .val (.int (Int32.ofNat a)), .val (.int (Int32.ofNat b)), .val (.int (Int32.ofNat (own_F1 st a).2)), .val (.int (Int32.ofNat (own_F2 st a b).2)), .val (.int (Int32.ofNat (own_F2 st a b).2)), .val (.int (Int32.ofNat (own_F1 st a).2))] [(.int (Int32.ofNat (own_F2 st a b).2)), (.int (Int32.ofNat (own_F1 st a).2)), (.ref pa)])) (fun t k => XS.iload X29.here hx rfl (hb hby d4_65) rfl k) ?_
      refine own_stI X29 hx hZ e29 (hb hby d4_67) A18 (by omega) (by omega) ?_
      intro T30 h30 X30 e30 W30 A30
      show own_Go p e below _ T30 (mkF m 68 #[.val (.ref d), .val (.int (Int32.ofNat a)), .val (.int (Int32.ofNat b)), .val (.int (Int32.ofNat (own_F1 st a).2)), .val (.int (Int32.ofNat (own_F2 st a b).2)), .val (.int (Int32.ofNat (own_F2 st a b).2)), .val (.int (Int32.ofNat (own_F1 st a).2))] [])
      have sz31 : n0 ≤ h30.size := by rw [W30.size]; exact sz19
      have K32 := K20.wr W30 (Or.inl (List.mem_of_getElem? (i := 0) rfl))
      have N30 := Fr.snoc X30 N18 gp
      have A33 : own_A Z h30 pa .int 4 (own_q (List.set (own_F2 st a b).1 (own_F1 st a).2 (own_F2 st a b).2)) := A30.congr (fun i hi => by exact own_qset ha4 hl4 hi)
      refine own_by (T' := T30) (f' := (mkF m 69 #[.val (.ref d), .val (.int (Int32.ofNat a)), .val (.int (Int32.ofNat b)), .val (.int (Int32.ofNat (own_F1 st a).2)), .val (.int (Int32.ofNat (own_F2 st a b).2)), .val (.int (Int32.ofNat (own_F2 st a b).2)), .val (.int (Int32.ofNat (own_F1 st a).2))] [(.ref d)])) (fun t k => XS.aloadN X30.here hx rfl (hb hby d4_68) rfl rfl k) ?_
      have f34 := (f23.other W30 (Or.inl ndp))
      refine own_getF (host := "") X30 hx hZ hown e30 (hb hby d4_69) (Or.inl (hw _ (List.mem_of_getElem? (i := 12) rfl))) Via.refl f34 ?_
      intro T35 X35 e35
      show own_Go p e below _ T35 (mkF m 72 #[.val (.ref d), .val (.int (Int32.ofNat a)), .val (.int (Int32.ofNat b)), .val (.int (Int32.ofNat (own_F1 st a).2)), .val (.int (Int32.ofNat (own_F2 st a b).2)), .val (.int (Int32.ofNat (own_F2 st a b).2)), .val (.int (Int32.ofNat (own_F1 st a).2))] [(.ref sa)])
      refine own_by (T' := T35) (f' := (mkF m 74 #[.val (.ref d), .val (.int (Int32.ofNat a)), .val (.int (Int32.ofNat b)), .val (.int (Int32.ofNat (own_F1 st a).2)), .val (.int (Int32.ofNat (own_F2 st a b).2)), .val (.int (Int32.ofNat (own_F2 st a b).2)), .val (.int (Int32.ofNat (own_F1 st a).2))] [(.int (Int32.ofNat (own_F2 st a b).2)), (.ref sa)])) (fun t k => XS.iload X35.here hx rfl (hb hby d4_72) rfl k) ?_
      refine own_by (T' := T35) (f' := (mkF m 75 #[.val (.ref d), .val (.int (Int32.ofNat a)), .val (.int (Int32.ofNat b)), .val (.int (Int32.ofNat (own_F1 st a).2)), .val (.int (Int32.ofNat (own_F2 st a b).2)), .val (.int (Int32.ofNat (own_F2 st a b).2)), .val (.int (Int32.ofNat (own_F1 st a).2))] [(.int (Int32.ofNat (own_F2 st a b).2)), (.ref sa), (.int (Int32.ofNat (own_F2 st a b).2)), (.ref sa)])) (fun t k => XT.dup2 X35.here hx rfl (hb hby d4_74) rfl rfl rfl k) ?_
      have f36 := (f25.other W30 (Ne.symm nps))
      refine own_ldI X35 hx hZ e35 (hb hby d4_75) f36 (by omega) (by omega) ?_
      rw [own_qx hb4]
      show own_Go p e below _ T35 (mkF m 76 #[.val (.ref d), .val (.int (Int32.ofNat a)), .val (.int (Int32.ofNat b)), .val (.int (Int32.ofNat (own_F1 st a).2)), .val (.int (Int32.ofNat (own_F2 st a b).2)), .val (.int (Int32.ofNat (own_F2 st a b).2)), .val (.int (Int32.ofNat (own_F1 st a).2))] [(.int (Int32.ofNat (List.getD st.2.1 (own_F2 st a b).2 0))), (.int (Int32.ofNat (own_F2 st a b).2)), (.ref sa)])
      refine own_by (T' := T35) (f' := (mkF m 77 #[.val (.ref d), .val (.int (Int32.ofNat a)), .val (.int (Int32.ofNat b)), .val (.int (Int32.ofNat (own_F1 st a).2)), .val (.int (Int32.ofNat (own_F2 st a b).2)), .val (.int (Int32.ofNat (own_F2 st a b).2)), .val (.int (Int32.ofNat (own_F1 st a).2))] [(.ref d), (.int (Int32.ofNat (List.getD st.2.1 (own_F2 st a b).2 0))), (.int (Int32.ofNat (own_F2 st a b).2)), (.ref sa)])) (fun t k => XS.aloadN X35.here hx rfl (hb hby d4_76) rfl rfl k) ?_
      refine own_getF (host := "") X35 hx hZ hown e35 (hb hby d4_77) (Or.inl (hw _ (List.mem_of_getElem? (i := 12) rfl))) Via.refl f34 ?_
      intro T37 X37 e37
      show own_Go p e below _ T37 (mkF m 80 #[.val (.ref d), .val (.int (Int32.ofNat a)), .val (.int (Int32.ofNat b)), .val (.int (Int32.ofNat (own_F1 st a).2)), .val (.int (Int32.ofNat (own_F2 st a b).2)), .val (.int (Int32.ofNat (own_F2 st a b).2)), .val (.int (Int32.ofNat (own_F1 st a).2))] [(.ref sa), (.int (Int32.ofNat (List.getD st.2.1 (own_F2 st a b).2 0))), (.int (Int32.ofNat (own_F2 st a b).2)), (.ref sa)])
      refine own_by (T' := T37) (f' := (mkF m 82 #[.val (.ref d), .val (.int (Int32.ofNat a)), .val (.int (Int32.ofNat b)), .val (.int (Int32.ofNat (own_F1 st a).2)), .val (.int (Int32.ofNat (own_F2 st a b).2)), .val (.int (Int32.ofNat (own_F2 st a b).2)), .val (.int (Int32.ofNat (own_F1 st a).2))] [(.int (Int32.ofNat (own_F1 st a).2)), (.ref sa), (.int (Int32.ofNat (List.getD st.2.1 (own_F2 st a b).2 0))), (.int (Int32.ofNat (own_F2 st a b).2)), (.ref sa)])) (fun t k => XS.iload X37.here hx rfl (hb hby d4_80) rfl k) ?_
      refine own_ldI X37 hx hZ e37 (hb hby d4_82) f36 (by omega) (by omega) ?_
      rw [own_qx ha4]
      show own_Go p e below _ T37 (mkF m 83 #[.val (.ref d), .val (.int (Int32.ofNat a)), .val (.int (Int32.ofNat b)), .val (.int (Int32.ofNat (own_F1 st a).2)), .val (.int (Int32.ofNat (own_F2 st a b).2)), .val (.int (Int32.ofNat (own_F2 st a b).2)), .val (.int (Int32.ofNat (own_F1 st a).2))] [(.int (Int32.ofNat (List.getD st.2.1 (own_F1 st a).2 0))), (.int (Int32.ofNat (List.getD st.2.1 (own_F2 st a b).2 0))), (.int (Int32.ofNat (own_F2 st a b).2)), (.ref sa)])
      refine own_by (T' := T37) (f' := (mkF m 84 #[.val (.ref d), .val (.int (Int32.ofNat a)), .val (.int (Int32.ofNat b)), .val (.int (Int32.ofNat (own_F1 st a).2)), .val (.int (Int32.ofNat (own_F2 st a b).2)), .val (.int (Int32.ofNat (own_F2 st a b).2)), .val (.int (Int32.ofNat (own_F1 st a).2))] [(.int ((Int32.ofNat (List.getD st.2.1 (own_F2 st a b).2 0)) + (Int32.ofNat (List.getD st.2.1 (own_F1 st a).2 0)))), (.int (Int32.ofNat (own_F2 st a b).2)), (.ref sa)])) (fun t k => XS.iadd X37.here hx rfl (hb hby d4_83) rfl k) ?_
      rw [own_oa (show List.getD st.2.1 (own_F2 st a b).2 0 + List.getD st.2.1 (own_F1 st a).2 0 < 1000 by omega)]
      show own_Go p e below _ T37 (mkF m 84 #[.val (.ref d), .val (.int (Int32.ofNat a)), .val (.int (Int32.ofNat b)), .val (.int (Int32.ofNat (own_F1 st a).2)), .val (.int (Int32.ofNat (own_F2 st a b).2)), .val (.int (Int32.ofNat (own_F2 st a b).2)), .val (.int (Int32.ofNat (own_F1 st a).2))] [(.int (Int32.ofNat (List.getD st.2.1 (own_F2 st a b).2 0 + List.getD st.2.1 (own_F1 st a).2 0))), (.int (Int32.ofNat (own_F2 st a b).2)), (.ref sa)])
      refine own_stI X37 hx hZ e37 (hb hby d4_84) f36 (by omega) (by omega) ?_
      intro T38 h38 X38 e38 W38 A38
      show own_Go p e below _ T38 (mkF m 85 #[.val (.ref d), .val (.int (Int32.ofNat a)), .val (.int (Int32.ofNat b)), .val (.int (Int32.ofNat (own_F1 st a).2)), .val (.int (Int32.ofNat (own_F2 st a b).2)), .val (.int (Int32.ofNat (own_F2 st a b).2)), .val (.int (Int32.ofNat (own_F1 st a).2))] [])
      have sz39 : n0 ≤ h38.size := by rw [W38.size]; exact sz31
      have K40 := K32.wr W38 (Or.inl (List.mem_of_getElem? (i := 1) rfl))
      have N38 := Fr.snoc X38 N30 gs
      have A41 : own_A Z h38 sa .int 4 (own_q (List.set st.2.1 (own_F2 st a b).2 (List.getD st.2.1 (own_F2 st a b).2 0 + List.getD st.2.1 (own_F1 st a).2 0))) := A38.congr (fun i hi => by exact own_qset hb4 hls hi)
      refine own_by (T' := T38) (f' := (mkF m 86 #[.val (.ref d), .val (.int (Int32.ofNat a)), .val (.int (Int32.ofNat b)), .val (.int (Int32.ofNat (own_F1 st a).2)), .val (.int (Int32.ofNat (own_F2 st a b).2)), .val (.int (Int32.ofNat (own_F2 st a b).2)), .val (.int (Int32.ofNat (own_F1 st a).2))] [(.int (1 : Int32))])) (fun t k => XS.iconst X38.here hx rfl (hb hby d4_85) k) ?_
      have hU : own_U st a b = (List.set (own_F2 st a b).1 (own_F1 st a).2 (own_F2 st a b).2, List.set st.2.1 (own_F2 st a b).2 (List.getD st.2.1 (own_F2 st a b).2 0 + List.getD st.2.1 (own_F1 st a).2 0), 1) := by unfold own_U own_u3; rw [if_neg (fun q => hc16_21 ((own_oe (by omega) (by omega)).mpr q)), if_pos ((own_ol (by omega) (by omega)).mp hc34_27)]
      have f42 := (A33.other W38 nps)
      refine own_retZ X38 hx hret hlk (hb hby d4_86) (Or.inr rfl) (by decide) (by decide) ?_
      try rw [e38]
      exact ⟨by rw [hU]; rfl, N38, K40, by rw [hU]; exact f42, by rw [hU]; exact A41⟩
    · have _ := X26
      refine own_by (T' := T26) (f' := (mkF m 37 #[.val (.ref d), .val (.int (Int32.ofNat a)), .val (.int (Int32.ofNat b)), .val (.int (Int32.ofNat (own_F1 st a).2)), .val (.int (Int32.ofNat (own_F2 st a b).2)), .unset, .unset] [])) (fun t k => XS.icmpNo X26.here hx rfl (hb hby d4_34) rfl (flt hc34_27).1 k) ?_
      refine own_by (T' := T26) (f' := (mkF m 38 #[.val (.ref d), .val (.int (Int32.ofNat a)), .val (.int (Int32.ofNat b)), .val (.int (Int32.ofNat (own_F1 st a).2)), .val (.int (Int32.ofNat (own_F2 st a b).2)), .unset, .unset] [(.int (Int32.ofNat (own_F1 st a).2))])) (fun t k => XS.iloadN X26.here hx rfl (hb hby d4_37) rfl k) ?_
      refine own_by (T' := T26) (f' := (mkF m 43 #[.val (.ref d), .val (.int (Int32.ofNat a)), .val (.int (Int32.ofNat b)), .val (.int (Int32.ofNat (own_F1 st a).2)), .val (.int (Int32.ofNat (own_F2 st a b).2)), .unset, .unset] [(.int (Int32.ofNat (own_F1 st a).2))])) (fun t k => XS.goto X26.here hx rfl (pc0 := 38) (pc' := 43) rfl (hb hby d4_38) (by decide) (by decide) k) ?_
      refine own_by (T' := T26) (f' := (mkF m 45 #[.val (.ref d), .val (.int (Int32.ofNat a)), .val (.int (Int32.ofNat b)), .val (.int (Int32.ofNat (own_F1 st a).2)), .val (.int (Int32.ofNat (own_F2 st a b).2)), .val (.int (Int32.ofNat (own_F1 st a).2)), .unset] [])) (fun t k => XS.istore X26.here hx rfl (hb hby d4_43) rfl (l' := #[.val (.ref d), .val (.int (Int32.ofNat a)), .val (.int (Int32.ofNat b)), .val (.int (Int32.ofNat (own_F1 st a).2)), .val (.int (Int32.ofNat (own_F2 st a b).2)), .val (.int (Int32.ofNat (own_F1 st a).2)), .unset]) rfl k) ?_
      refine own_by (T' := T26) (f' := (mkF m 47 #[.val (.ref d), .val (.int (Int32.ofNat a)), .val (.int (Int32.ofNat b)), .val (.int (Int32.ofNat (own_F1 st a).2)), .val (.int (Int32.ofNat (own_F2 st a b).2)), .val (.int (Int32.ofNat (own_F1 st a).2)), .unset] [(.int (Int32.ofNat (own_F1 st a).2))])) (fun t k => XS.iload X26.here hx rfl (hb hby d4_45) rfl k) ?_
      refine own_by (T' := T26) (f' := (mkF m 48 #[.val (.ref d), .val (.int (Int32.ofNat a)), .val (.int (Int32.ofNat b)), .val (.int (Int32.ofNat (own_F1 st a).2)), .val (.int (Int32.ofNat (own_F2 st a b).2)), .val (.int (Int32.ofNat (own_F1 st a).2)), .unset] [(.int (Int32.ofNat (own_F1 st a).2)), (.int (Int32.ofNat (own_F1 st a).2))])) (fun t k => XS.iloadN X26.here hx rfl (hb hby d4_47) rfl k) ?_
      refine own_by (T' := T26) (f' := (mkF m 51 #[.val (.ref d), .val (.int (Int32.ofNat a)), .val (.int (Int32.ofNat b)), .val (.int (Int32.ofNat (own_F1 st a).2)), .val (.int (Int32.ofNat (own_F2 st a b).2)), .val (.int (Int32.ofNat (own_F1 st a).2)), .unset] [])) (fun t k => XS.icmpNo X26.here hx rfl (hb hby d4_48) rfl (teq rfl).2 k) ?_
      refine own_by (T' := T26) (f' := (mkF m 53 #[.val (.ref d), .val (.int (Int32.ofNat a)), .val (.int (Int32.ofNat b)), .val (.int (Int32.ofNat (own_F1 st a).2)), .val (.int (Int32.ofNat (own_F2 st a b).2)), .val (.int (Int32.ofNat (own_F1 st a).2)), .unset] [(.int (Int32.ofNat (own_F2 st a b).2))])) (fun t k => XS.iload X26.here hx rfl (hb hby d4_51) rfl k) ?_
      refine own_by (T' := T26) (f' := (mkF m 57 #[.val (.ref d), .val (.int (Int32.ofNat a)), .val (.int (Int32.ofNat b)), .val (.int (Int32.ofNat (own_F1 st a).2)), .val (.int (Int32.ofNat (own_F2 st a b).2)), .val (.int (Int32.ofNat (own_F1 st a).2)), .unset] [(.int (Int32.ofNat (own_F2 st a b).2))])) (fun t k => XS.goto X26.here hx rfl (pc0 := 53) (pc' := 57) rfl (hb hby d4_53) (by decide) (by decide) k) ?_
      refine own_by (T' := T26) (f' := (mkF m 59 #[.val (.ref d), .val (.int (Int32.ofNat a)), .val (.int (Int32.ofNat b)), .val (.int (Int32.ofNat (own_F1 st a).2)), .val (.int (Int32.ofNat (own_F2 st a b).2)), .val (.int (Int32.ofNat (own_F1 st a).2)), .val (.int (Int32.ofNat (own_F2 st a b).2))] [])) (fun t k => XS.istore X26.here hx rfl (hb hby d4_57) rfl (l' := #[.val (.ref d), .val (.int (Int32.ofNat a)), .val (.int (Int32.ofNat b)), .val (.int (Int32.ofNat (own_F1 st a).2)), .val (.int (Int32.ofNat (own_F2 st a b).2)), .val (.int (Int32.ofNat (own_F1 st a).2)), .val (.int (Int32.ofNat (own_F2 st a b).2))]) rfl k) ?_
      refine own_by (T' := T26) (f' := (mkF m 60 #[.val (.ref d), .val (.int (Int32.ofNat a)), .val (.int (Int32.ofNat b)), .val (.int (Int32.ofNat (own_F1 st a).2)), .val (.int (Int32.ofNat (own_F2 st a b).2)), .val (.int (Int32.ofNat (own_F1 st a).2)), .val (.int (Int32.ofNat (own_F2 st a b).2))] [(.ref d)])) (fun t k => XS.aloadN X26.here hx rfl (hb hby d4_59) rfl rfl k) ?_
      have f43 := (f17.keep K18 (ninS ndp nin0))
      refine own_getF (host := "") X26 hx hZ hown e26 (hb hby d4_60) (Or.inl (hw _ (List.mem_of_getElem? (i := 10) rfl))) Via.refl f43 ?_
      intro T44 X44 e44
      show own_Go p e below _ T44 (mkF m 63 #[.val (.ref d), .val (.int (Int32.ofNat a)), .val (.int (Int32.ofNat b)), .val (.int (Int32.ofNat (own_F1 st a).2)), .val (.int (Int32.ofNat (own_F2 st a b).2)), .val (.int (Int32.ofNat (own_F1 st a).2)), .val (.int (Int32.ofNat (own_F2 st a b).2))] [(.ref pa)])
      refine own_by (T' := T44) (f' := (mkF m 65 #[.val (.ref d), .val (.int (Int32.ofNat a)), .val (.int (Int32.ofNat b)), .val (.int (Int32.ofNat (own_F1 st a).2)), .val (.int (Int32.ofNat (own_F2 st a b).2)), .val (.int (Int32.ofNat (own_F1 st a).2)), .val (.int (Int32.ofNat (own_F2 st a b).2))] [(.int (Int32.ofNat (own_F2 st a b).2)), (.ref pa)])) (fun t k => XS.iload X44.here hx rfl (hb hby d4_63) rfl k) ?_
      refine own_by (T' := T44) (f' := (mkF m 67 #[.val (.ref d), .val (.int (Int32.ofNat a)), .val (.int (Int32.ofNat b)), .val (.int (Int32.ofNat (own_F1 st a).2)), .val (.int (Int32.ofNat (own_F2 st a b).2)), .val (.int (Int32.ofNat (own_F1 st a).2)), .val (.int (Int32.ofNat (own_F2 st a b).2))] [(.int (Int32.ofNat (own_F1 st a).2)), (.int (Int32.ofNat (own_F2 st a b).2)), (.ref pa)])) (fun t k => XS.iload X44.here hx rfl (hb hby d4_65) rfl k) ?_
      refine own_stI X44 hx hZ e44 (hb hby d4_67) A18 (by omega) (by omega) ?_
      intro T45 h45 X45 e45 W45 A45
      show own_Go p e below _ T45 (mkF m 68 #[.val (.ref d), .val (.int (Int32.ofNat a)), .val (.int (Int32.ofNat b)), .val (.int (Int32.ofNat (own_F1 st a).2)), .val (.int (Int32.ofNat (own_F2 st a b).2)), .val (.int (Int32.ofNat (own_F1 st a).2)), .val (.int (Int32.ofNat (own_F2 st a b).2))] [])
      have sz46 : n0 ≤ h45.size := by rw [W45.size]; exact sz19
      have K47 := K20.wr W45 (Or.inl (List.mem_of_getElem? (i := 0) rfl))
      have N45 := Fr.snoc X45 N18 gp
      have A48 : own_A Z h45 pa .int 4 (own_q (List.set (own_F2 st a b).1 (own_F2 st a b).2 (own_F1 st a).2)) := A45.congr (fun i hi => by exact own_qset hb4 hl4 hi)
      refine own_by (T' := T45) (f' := (mkF m 69 #[.val (.ref d), .val (.int (Int32.ofNat a)), .val (.int (Int32.ofNat b)), .val (.int (Int32.ofNat (own_F1 st a).2)), .val (.int (Int32.ofNat (own_F2 st a b).2)), .val (.int (Int32.ofNat (own_F1 st a).2)), .val (.int (Int32.ofNat (own_F2 st a b).2))] [(.ref d)])) (fun t k => XS.aloadN X45.here hx rfl (hb hby d4_68) rfl rfl k) ?_
      have f49 := (f23.other W45 (Or.inl ndp))
      refine own_getF (host := "") X45 hx hZ hown e45 (hb hby d4_69) (Or.inl (hw _ (List.mem_of_getElem? (i := 12) rfl))) Via.refl f49 ?_
      intro T50 X50 e50
      show own_Go p e below _ T50 (mkF m 72 #[.val (.ref d), .val (.int (Int32.ofNat a)), .val (.int (Int32.ofNat b)), .val (.int (Int32.ofNat (own_F1 st a).2)), .val (.int (Int32.ofNat (own_F2 st a b).2)), .val (.int (Int32.ofNat (own_F1 st a).2)), .val (.int (Int32.ofNat (own_F2 st a b).2))] [(.ref sa)])
      refine own_by (T' := T50) (f' := (mkF m 74 #[.val (.ref d), .val (.int (Int32.ofNat a)), .val (.int (Int32.ofNat b)), .val (.int (Int32.ofNat (own_F1 st a).2)), .val (.int (Int32.ofNat (own_F2 st a b).2)), .val (.int (Int32.ofNat (own_F1 st a).2)), .val (.int (Int32.ofNat (own_F2 st a b).2))] [(.int (Int32.ofNat (own_F1 st a).2)), (.ref sa)])) (fun t k => XS.iload X50.here hx rfl (hb hby d4_72) rfl k) ?_
      refine own_by (T' := T50) (f' := (mkF m 75 #[.val (.ref d), .val (.int (Int32.ofNat a)), .val (.int (Int32.ofNat b)), .val (.int (Int32.ofNat (own_F1 st a).2)), .val (.int (Int32.ofNat (own_F2 st a b).2)), .val (.int (Int32.ofNat (own_F1 st a).2)), .val (.int (Int32.ofNat (own_F2 st a b).2))] [(.int (Int32.ofNat (own_F1 st a).2)), (.ref sa), (.int (Int32.ofNat (own_F1 st a).2)), (.ref sa)])) (fun t k => XT.dup2 X50.here hx rfl (hb hby d4_74) rfl rfl rfl k) ?_
      have f51 := (f25.other W45 (Ne.symm nps))
      refine own_ldI X50 hx hZ e50 (hb hby d4_75) f51 (by omega) (by omega) ?_
      rw [own_qx ha4]
      show own_Go p e below _ T50 (mkF m 76 #[.val (.ref d), .val (.int (Int32.ofNat a)), .val (.int (Int32.ofNat b)), .val (.int (Int32.ofNat (own_F1 st a).2)), .val (.int (Int32.ofNat (own_F2 st a b).2)), .val (.int (Int32.ofNat (own_F1 st a).2)), .val (.int (Int32.ofNat (own_F2 st a b).2))] [(.int (Int32.ofNat (List.getD st.2.1 (own_F1 st a).2 0))), (.int (Int32.ofNat (own_F1 st a).2)), (.ref sa)])
      refine own_by (T' := T50) (f' := (mkF m 77 #[.val (.ref d), .val (.int (Int32.ofNat a)), .val (.int (Int32.ofNat b)), .val (.int (Int32.ofNat (own_F1 st a).2)), .val (.int (Int32.ofNat (own_F2 st a b).2)), .val (.int (Int32.ofNat (own_F1 st a).2)), .val (.int (Int32.ofNat (own_F2 st a b).2))] [(.ref d), (.int (Int32.ofNat (List.getD st.2.1 (own_F1 st a).2 0))), (.int (Int32.ofNat (own_F1 st a).2)), (.ref sa)])) (fun t k => XS.aloadN X50.here hx rfl (hb hby d4_76) rfl rfl k) ?_
      refine own_getF (host := "") X50 hx hZ hown e50 (hb hby d4_77) (Or.inl (hw _ (List.mem_of_getElem? (i := 12) rfl))) Via.refl f49 ?_
      intro T52 X52 e52
      show own_Go p e below _ T52 (mkF m 80 #[.val (.ref d), .val (.int (Int32.ofNat a)), .val (.int (Int32.ofNat b)), .val (.int (Int32.ofNat (own_F1 st a).2)), .val (.int (Int32.ofNat (own_F2 st a b).2)), .val (.int (Int32.ofNat (own_F1 st a).2)), .val (.int (Int32.ofNat (own_F2 st a b).2))] [(.ref sa), (.int (Int32.ofNat (List.getD st.2.1 (own_F1 st a).2 0))), (.int (Int32.ofNat (own_F1 st a).2)), (.ref sa)])
      refine own_by (T' := T52) (f' := (mkF m 82 #[.val (.ref d), .val (.int (Int32.ofNat a)), .val (.int (Int32.ofNat b)), .val (.int (Int32.ofNat (own_F1 st a).2)), .val (.int (Int32.ofNat (own_F2 st a b).2)), .val (.int (Int32.ofNat (own_F1 st a).2)), .val (.int (Int32.ofNat (own_F2 st a b).2))] [(.int (Int32.ofNat (own_F2 st a b).2)), (.ref sa), (.int (Int32.ofNat (List.getD st.2.1 (own_F1 st a).2 0))), (.int (Int32.ofNat (own_F1 st a).2)), (.ref sa)])) (fun t k => XS.iload X52.here hx rfl (hb hby d4_80) rfl k) ?_
      refine own_ldI X52 hx hZ e52 (hb hby d4_82) f51 (by omega) (by omega) ?_
      rw [own_qx hb4]
      show own_Go p e below _ T52 (mkF m 83 #[.val (.ref d), .val (.int (Int32.ofNat a)), .val (.int (Int32.ofNat b)), .val (.int (Int32.ofNat (own_F1 st a).2)), .val (.int (Int32.ofNat (own_F2 st a b).2)), .val (.int (Int32.ofNat (own_F1 st a).2)), .val (.int (Int32.ofNat (own_F2 st a b).2))] [(.int (Int32.ofNat (List.getD st.2.1 (own_F2 st a b).2 0))), (.int (Int32.ofNat (List.getD st.2.1 (own_F1 st a).2 0))), (.int (Int32.ofNat (own_F1 st a).2)), (.ref sa)])
      refine own_by (T' := T52) (f' := (mkF m 84 #[.val (.ref d), .val (.int (Int32.ofNat a)), .val (.int (Int32.ofNat b)), .val (.int (Int32.ofNat (own_F1 st a).2)), .val (.int (Int32.ofNat (own_F2 st a b).2)), .val (.int (Int32.ofNat (own_F1 st a).2)), .val (.int (Int32.ofNat (own_F2 st a b).2))] [(.int ((Int32.ofNat (List.getD st.2.1 (own_F1 st a).2 0)) + (Int32.ofNat (List.getD st.2.1 (own_F2 st a b).2 0)))), (.int (Int32.ofNat (own_F1 st a).2)), (.ref sa)])) (fun t k => XS.iadd X52.here hx rfl (hb hby d4_83) rfl k) ?_
      rw [own_oa (show List.getD st.2.1 (own_F1 st a).2 0 + List.getD st.2.1 (own_F2 st a b).2 0 < 1000 by omega)]
      show own_Go p e below _ T52 (mkF m 84 #[.val (.ref d), .val (.int (Int32.ofNat a)), .val (.int (Int32.ofNat b)), .val (.int (Int32.ofNat (own_F1 st a).2)), .val (.int (Int32.ofNat (own_F2 st a b).2)), .val (.int (Int32.ofNat (own_F1 st a).2)), .val (.int (Int32.ofNat (own_F2 st a b).2))] [(.int (Int32.ofNat (List.getD st.2.1 (own_F1 st a).2 0 + List.getD st.2.1 (own_F2 st a b).2 0))), (.int (Int32.ofNat (own_F1 st a).2)), (.ref sa)])
      refine own_stI X52 hx hZ e52 (hb hby d4_84) f51 (by omega) (by omega) ?_
      intro T53 h53 X53 e53 W53 A53
      show own_Go p e below _ T53 (mkF m 85 #[.val (.ref d), .val (.int (Int32.ofNat a)), .val (.int (Int32.ofNat b)), .val (.int (Int32.ofNat (own_F1 st a).2)), .val (.int (Int32.ofNat (own_F2 st a b).2)), .val (.int (Int32.ofNat (own_F1 st a).2)), .val (.int (Int32.ofNat (own_F2 st a b).2))] [])
      have sz54 : n0 ≤ h53.size := by rw [W53.size]; exact sz46
      have K55 := K47.wr W53 (Or.inl (List.mem_of_getElem? (i := 1) rfl))
      have N53 := Fr.snoc X53 N45 gs
      have A56 : own_A Z h53 sa .int 4 (own_q (List.set st.2.1 (own_F1 st a).2 (List.getD st.2.1 (own_F1 st a).2 0 + List.getD st.2.1 (own_F2 st a b).2 0))) := A53.congr (fun i hi => by exact own_qset ha4 hls hi)
      refine own_by (T' := T53) (f' := (mkF m 86 #[.val (.ref d), .val (.int (Int32.ofNat a)), .val (.int (Int32.ofNat b)), .val (.int (Int32.ofNat (own_F1 st a).2)), .val (.int (Int32.ofNat (own_F2 st a b).2)), .val (.int (Int32.ofNat (own_F1 st a).2)), .val (.int (Int32.ofNat (own_F2 st a b).2))] [(.int (1 : Int32))])) (fun t k => XS.iconst X53.here hx rfl (hb hby d4_85) k) ?_
      have hU : own_U st a b = (List.set (own_F2 st a b).1 (own_F2 st a b).2 (own_F1 st a).2, List.set st.2.1 (own_F1 st a).2 (List.getD st.2.1 (own_F1 st a).2 0 + List.getD st.2.1 (own_F2 st a b).2 0), 1) := by unfold own_U own_u3; rw [if_neg (fun q => hc16_21 ((own_oe (by omega) (by omega)).mpr q)), if_neg (fun q => hc34_27 ((own_ol (by omega) (by omega)).mpr q))]
      have f57 := (A48.other W53 nps)
      refine own_retZ X53 hx hret hlk (hb hby d4_86) (Or.inr rfl) (by decide) (by decide) ?_
      try rw [e53]
      exact ⟨by rw [hU]; rfl, N53, K55, by rw [hU]; exact f57, by rw [hU]; exact A56⟩
theorem ef_rmR (m : MethodId) (x0 : Addr) (x1 : Int32) (x2 : Int32) : entryFrame m #[(.ref x0), (.int x1), (.int x2)] 3 = mkF m 0 #[.val (.ref x0), .val (.int x1), .val (.int x2)] [] := by first | (simp [entryFrame, mkF, argsToLocals, Value.category]; done) | rfl
set_option maxRecDepth 65536 in
set_option maxHeartbeats 40000000 in
theorem rmR (l : Launch) (Z : State) (a0 : Array Value) (hw : ∀ d ∈ tables_1, d.before a0 Z = true) (ws : List Jvm.Cond) (la : Addr) (Lb : List Nat) (fr to : Nat) (h0 : Heap) (n0 : Nat) (Z0 : n0 ≤ h0.size) (gl : n0 ≤ la) (AL : own_A Z h0 la .int 4 (own_q Lb)) (hfr : fr < 1000) (hlb : ∀ i, i < 4 → List.getD Lb i 0 < 1000) :
    own_Ct l Z (⟨"com/example/tollgraph/tollgraph/graph/DisjointSetsFindPinLaw", "relabel", "([III)V"⟩ : MethodName) method_2_code 3 none ws ({ frames := 0, cells := 0, slots := 0, locals := 0 } : Room) #[(.ref la), (.int (Int32.ofNat fr)), (.int (Int32.ofNat to))] h0 (fun v h L => v = none ∧ Fr n0 L ∧ Keep h0 h [la] ∧ own_A Z h la .int 4 (own_q (own_rl Lb fr to))) := by
  refine own_of (plainFor_of_name pn_com_example_tollgraph_tollgraph_graph_DisjointSetsFindPinLaw) ?_
  intro p e s m below meth c s₁ hx hby hml hown hnm hret hlk hZ X0 e0
  have N0 := Fr.nil n0
  have K0 := Keep.refl h0 [la]
  rw [ef_rmR]
  refine own_by (T' := s₁) (f' := (mkF m 1 #[.val (.ref la), .val (.int (Int32.ofNat fr)), .val (.int (Int32.ofNat to))] [(.ref la)])) (fun t k => XS.aloadN X0.here hx rfl (hb hby d6_0) rfl rfl k) ?_
  refine own_by (T' := s₁) (f' := (mkF m 2 #[.val (.ref la), .val (.int (Int32.ofNat fr)), .val (.int (Int32.ofNat to))] [(.int (0 : Int32)), (.ref la)])) (fun t k => XS.iconst X0.here hx rfl (hb hby d6_1) k) ?_
  have _ : (0 : Int32).toInt = 0 := by decide
  refine own_ldI X0 hx hZ e0 (hb hby d6_2) AL (by first | decide | omega) (by first | decide | omega) ?_
  show own_Go p e below _ s₁ (mkF m 3 #[.val (.ref la), .val (.int (Int32.ofNat fr)), .val (.int (Int32.ofNat to))] [(.int (Int32.ofNat (List.getD Lb 0 0)))])
  refine own_by (T' := s₁) (f' := (mkF m 4 #[.val (.ref la), .val (.int (Int32.ofNat fr)), .val (.int (Int32.ofNat to))] [(.int (Int32.ofNat fr)), (.int (Int32.ofNat (List.getD Lb 0 0)))])) (fun t k => XS.iloadN X0.here hx rfl (hb hby d6_3) rfl k) ?_
  by_cases hc4_11 : (Int32.ofNat (List.getD Lb 0 0)) = (Int32.ofNat fr)
  · have _ := X0
    refine own_by (T' := s₁) (f' := (mkF m 7 #[.val (.ref la), .val (.int (Int32.ofNat fr)), .val (.int (Int32.ofNat to))] [])) (fun t k => XS.icmpNo X0.here hx rfl (hb hby d6_4) rfl (teq hc4_11).2 k) ?_
    refine own_by (T' := s₁) (f' := (mkF m 8 #[.val (.ref la), .val (.int (Int32.ofNat fr)), .val (.int (Int32.ofNat to))] [(.ref la)])) (fun t k => XS.aloadN X0.here hx rfl (hb hby d6_7) rfl rfl k) ?_
    refine own_by (T' := s₁) (f' := (mkF m 9 #[.val (.ref la), .val (.int (Int32.ofNat fr)), .val (.int (Int32.ofNat to))] [(.int (0 : Int32)), (.ref la)])) (fun t k => XS.iconst X0.here hx rfl (hb hby d6_8) k) ?_
    refine own_by (T' := s₁) (f' := (mkF m 10 #[.val (.ref la), .val (.int (Int32.ofNat fr)), .val (.int (Int32.ofNat to))] [(.int (Int32.ofNat to)), (.int (0 : Int32)), (.ref la)])) (fun t k => XS.iloadN X0.here hx rfl (hb hby d6_9) rfl k) ?_
    have _ : (0 : Int32).toInt = 0 := by decide
    refine own_stI X0 hx hZ e0 (hb hby d6_10) AL (by first | decide | omega) (by first | decide | omega) ?_
    intro T12 h12 X12 e12 W12 A12
    show own_Go p e below _ T12 (mkF m 11 #[.val (.ref la), .val (.int (Int32.ofNat fr)), .val (.int (Int32.ofNat to))] [])
    have sz13 : n0 ≤ h12.size := by rw [W12.size]; exact Z0
    have K14 := K0.wr W12 (Or.inl (List.mem_of_getElem? (i := 0) rfl))
    have N12 := Fr.snoc X12 N0 gl
    refine own_by (T' := T12) (f' := (mkF m 12 #[.val (.ref la), .val (.int (Int32.ofNat fr)), .val (.int (Int32.ofNat to))] [(.ref la)])) (fun t k => XS.aloadN X12.here hx rfl (hb hby d6_11) rfl rfl k) ?_
    refine own_by (T' := T12) (f' := (mkF m 13 #[.val (.ref la), .val (.int (Int32.ofNat fr)), .val (.int (Int32.ofNat to))] [(.int (1 : Int32)), (.ref la)])) (fun t k => XS.iconst X12.here hx rfl (hb hby d6_12) k) ?_
    have _ : (1 : Int32).toInt = 1 := by decide
    refine own_ldI X12 hx hZ e12 (hb hby d6_13) A12 (by first | decide | omega) (by first | decide | omega) ?_
    show own_Go p e below _ T12 (mkF m 14 #[.val (.ref la), .val (.int (Int32.ofNat fr)), .val (.int (Int32.ofNat to))] [(.int (Int32.ofNat (List.getD Lb 1 0)))])
    refine own_by (T' := T12) (f' := (mkF m 15 #[.val (.ref la), .val (.int (Int32.ofNat fr)), .val (.int (Int32.ofNat to))] [(.int (Int32.ofNat fr)), (.int (Int32.ofNat (List.getD Lb 1 0)))])) (fun t k => XS.iloadN X12.here hx rfl (hb hby d6_14) rfl k) ?_
    by_cases hc15_15 : (Int32.ofNat (List.getD Lb 1 0)) = (Int32.ofNat fr)
    · have _ := X12
      refine own_by (T' := T12) (f' := (mkF m 18 #[.val (.ref la), .val (.int (Int32.ofNat fr)), .val (.int (Int32.ofNat to))] [])) (fun t k => XS.icmpNo X12.here hx rfl (hb hby d6_15) rfl (teq hc15_15).2 k) ?_
      refine own_by (T' := T12) (f' := (mkF m 19 #[.val (.ref la), .val (.int (Int32.ofNat fr)), .val (.int (Int32.ofNat to))] [(.ref la)])) (fun t k => XS.aloadN X12.here hx rfl (hb hby d6_18) rfl rfl k) ?_
      refine own_by (T' := T12) (f' := (mkF m 20 #[.val (.ref la), .val (.int (Int32.ofNat fr)), .val (.int (Int32.ofNat to))] [(.int (1 : Int32)), (.ref la)])) (fun t k => XS.iconst X12.here hx rfl (hb hby d6_19) k) ?_
      refine own_by (T' := T12) (f' := (mkF m 21 #[.val (.ref la), .val (.int (Int32.ofNat fr)), .val (.int (Int32.ofNat to))] [(.int (Int32.ofNat to)), (.int (1 : Int32)), (.ref la)])) (fun t k => XS.iloadN X12.here hx rfl (hb hby d6_20) rfl k) ?_
      have _ : (1 : Int32).toInt = 1 := by decide
      refine own_stI X12 hx hZ e12 (hb hby d6_21) A12 (by first | decide | omega) (by first | decide | omega) ?_
      intro T16 h16 X16 e16 W16 A16
      show own_Go p e below _ T16 (mkF m 22 #[.val (.ref la), .val (.int (Int32.ofNat fr)), .val (.int (Int32.ofNat to))] [])
      have sz17 : n0 ≤ h16.size := by rw [W16.size]; exact sz13
      have K18 := K14.wr W16 (Or.inl (List.mem_of_getElem? (i := 0) rfl))
      have N16 := Fr.snoc X16 N12 gl
      refine own_by (T' := T16) (f' := (mkF m 23 #[.val (.ref la), .val (.int (Int32.ofNat fr)), .val (.int (Int32.ofNat to))] [(.ref la)])) (fun t k => XS.aloadN X16.here hx rfl (hb hby d6_22) rfl rfl k) ?_
      refine own_by (T' := T16) (f' := (mkF m 24 #[.val (.ref la), .val (.int (Int32.ofNat fr)), .val (.int (Int32.ofNat to))] [(.int (2 : Int32)), (.ref la)])) (fun t k => XS.iconst X16.here hx rfl (hb hby d6_23) k) ?_
      have _ : (2 : Int32).toInt = 2 := by decide
      refine own_ldI X16 hx hZ e16 (hb hby d6_24) A16 (by first | decide | omega) (by first | decide | omega) ?_
      show own_Go p e below _ T16 (mkF m 25 #[.val (.ref la), .val (.int (Int32.ofNat fr)), .val (.int (Int32.ofNat to))] [(.int (Int32.ofNat (List.getD Lb 2 0)))])
      refine own_by (T' := T16) (f' := (mkF m 26 #[.val (.ref la), .val (.int (Int32.ofNat fr)), .val (.int (Int32.ofNat to))] [(.int (Int32.ofNat fr)), (.int (Int32.ofNat (List.getD Lb 2 0)))])) (fun t k => XS.iloadN X16.here hx rfl (hb hby d6_25) rfl k) ?_
      by_cases hc26_19 : (Int32.ofNat (List.getD Lb 2 0)) = (Int32.ofNat fr)
      · have _ := X16
        refine own_by (T' := T16) (f' := (mkF m 29 #[.val (.ref la), .val (.int (Int32.ofNat fr)), .val (.int (Int32.ofNat to))] [])) (fun t k => XS.icmpNo X16.here hx rfl (hb hby d6_26) rfl (teq hc26_19).2 k) ?_
        refine own_by (T' := T16) (f' := (mkF m 30 #[.val (.ref la), .val (.int (Int32.ofNat fr)), .val (.int (Int32.ofNat to))] [(.ref la)])) (fun t k => XS.aloadN X16.here hx rfl (hb hby d6_29) rfl rfl k) ?_
        refine own_by (T' := T16) (f' := (mkF m 31 #[.val (.ref la), .val (.int (Int32.ofNat fr)), .val (.int (Int32.ofNat to))] [(.int (2 : Int32)), (.ref la)])) (fun t k => XS.iconst X16.here hx rfl (hb hby d6_30) k) ?_
        refine own_by (T' := T16) (f' := (mkF m 32 #[.val (.ref la), .val (.int (Int32.ofNat fr)), .val (.int (Int32.ofNat to))] [(.int (Int32.ofNat to)), (.int (2 : Int32)), (.ref la)])) (fun t k => XS.iloadN X16.here hx rfl (hb hby d6_31) rfl k) ?_
        have _ : (2 : Int32).toInt = 2 := by decide
        refine own_stI X16 hx hZ e16 (hb hby d6_32) A16 (by first | decide | omega) (by first | decide | omega) ?_
        intro T20 h20 X20 e20 W20 A20
        show own_Go p e below _ T20 (mkF m 33 #[.val (.ref la), .val (.int (Int32.ofNat fr)), .val (.int (Int32.ofNat to))] [])
        have sz21 : n0 ≤ h20.size := by rw [W20.size]; exact sz17
        have K22 := K18.wr W20 (Or.inl (List.mem_of_getElem? (i := 0) rfl))
        have N20 := Fr.snoc X20 N16 gl
        refine own_by (T' := T20) (f' := (mkF m 34 #[.val (.ref la), .val (.int (Int32.ofNat fr)), .val (.int (Int32.ofNat to))] [(.ref la)])) (fun t k => XS.aloadN X20.here hx rfl (hb hby d6_33) rfl rfl k) ?_
        refine own_by (T' := T20) (f' := (mkF m 35 #[.val (.ref la), .val (.int (Int32.ofNat fr)), .val (.int (Int32.ofNat to))] [(.int (3 : Int32)), (.ref la)])) (fun t k => XS.iconst X20.here hx rfl (hb hby d6_34) k) ?_
        have _ : (3 : Int32).toInt = 3 := by decide
        refine own_ldI X20 hx hZ e20 (hb hby d6_35) A20 (by first | decide | omega) (by first | decide | omega) ?_
        show own_Go p e below _ T20 (mkF m 36 #[.val (.ref la), .val (.int (Int32.ofNat fr)), .val (.int (Int32.ofNat to))] [(.int (Int32.ofNat (List.getD Lb 3 0)))])
        refine own_by (T' := T20) (f' := (mkF m 37 #[.val (.ref la), .val (.int (Int32.ofNat fr)), .val (.int (Int32.ofNat to))] [(.int (Int32.ofNat fr)), (.int (Int32.ofNat (List.getD Lb 3 0)))])) (fun t k => XS.iloadN X20.here hx rfl (hb hby d6_36) rfl k) ?_
        by_cases hc37_23 : (Int32.ofNat (List.getD Lb 3 0)) = (Int32.ofNat fr)
        · have _ := X20
          refine own_by (T' := T20) (f' := (mkF m 40 #[.val (.ref la), .val (.int (Int32.ofNat fr)), .val (.int (Int32.ofNat to))] [])) (fun t k => XS.icmpNo X20.here hx rfl (hb hby d6_37) rfl (teq hc37_23).2 k) ?_
          refine own_by (T' := T20) (f' := (mkF m 41 #[.val (.ref la), .val (.int (Int32.ofNat fr)), .val (.int (Int32.ofNat to))] [(.ref la)])) (fun t k => XS.aloadN X20.here hx rfl (hb hby d6_40) rfl rfl k) ?_
          refine own_by (T' := T20) (f' := (mkF m 42 #[.val (.ref la), .val (.int (Int32.ofNat fr)), .val (.int (Int32.ofNat to))] [(.int (3 : Int32)), (.ref la)])) (fun t k => XS.iconst X20.here hx rfl (hb hby d6_41) k) ?_
          refine own_by (T' := T20) (f' := (mkF m 43 #[.val (.ref la), .val (.int (Int32.ofNat fr)), .val (.int (Int32.ofNat to))] [(.int (Int32.ofNat to)), (.int (3 : Int32)), (.ref la)])) (fun t k => XS.iloadN X20.here hx rfl (hb hby d6_42) rfl k) ?_
          have _ : (3 : Int32).toInt = 3 := by decide
          refine own_stI X20 hx hZ e20 (hb hby d6_43) A20 (by first | decide | omega) (by first | decide | omega) ?_
          intro T24 h24 X24 e24 W24 A24
          show own_Go p e below _ T24 (mkF m 44 #[.val (.ref la), .val (.int (Int32.ofNat fr)), .val (.int (Int32.ofNat to))] [])
          have sz25 : n0 ≤ h24.size := by rw [W24.size]; exact sz21
          have K26 := K22.wr W24 (Or.inl (List.mem_of_getElem? (i := 0) rfl))
          have N24 := Fr.snoc X24 N20 gl
          have A27 : own_A Z h24 la .int 4 (own_q (own_rl Lb fr to)) := A24.congr (fun i hi => by match i, hi with | 0, _ => show Int32.ofNat to = Int32.ofNat (if (List.getD Lb 0 0) = fr then to else (List.getD Lb 0 0)); rw [if_pos ((own_oe (hlb 0 (by decide)) hfr).mp hc4_11)] | 1, _ => show Int32.ofNat to = Int32.ofNat (if (List.getD Lb 1 0) = fr then to else (List.getD Lb 1 0)); rw [if_pos ((own_oe (hlb 1 (by decide)) hfr).mp hc15_15)] | 2, _ => show Int32.ofNat to = Int32.ofNat (if (List.getD Lb 2 0) = fr then to else (List.getD Lb 2 0)); rw [if_pos ((own_oe (hlb 2 (by decide)) hfr).mp hc26_19)] | 3, _ => show Int32.ofNat to = Int32.ofNat (if (List.getD Lb 3 0) = fr then to else (List.getD Lb 3 0)); rw [if_pos ((own_oe (hlb 3 (by decide)) hfr).mp hc37_23)] | (q + 4), h => exact absurd h (by omega))
          refine own_retV X24 hx hret hlk (hb hby d6_44) (by decide) (by decide) ?_
          try rw [e24]
          exact ⟨rfl, N24, K26, A27⟩
        · have _ := X20
          refine own_by (T' := T20) (f' := (mkF m 44 #[.val (.ref la), .val (.int (Int32.ofNat fr)), .val (.int (Int32.ofNat to))] [])) (fun t k => XS.icmpYes X20.here hx rfl (pc0 := 37) (pc' := 44) rfl (hb hby d6_37) rfl (feq hc37_23).2 (by decide) (by decide) k) ?_
          have A28 : own_A Z h20 la .int 4 (own_q (own_rl Lb fr to)) := A20.congr (fun i hi => by match i, hi with | 0, _ => show Int32.ofNat to = Int32.ofNat (if (List.getD Lb 0 0) = fr then to else (List.getD Lb 0 0)); rw [if_pos ((own_oe (hlb 0 (by decide)) hfr).mp hc4_11)] | 1, _ => show Int32.ofNat to = Int32.ofNat (if (List.getD Lb 1 0) = fr then to else (List.getD Lb 1 0)); rw [if_pos ((own_oe (hlb 1 (by decide)) hfr).mp hc15_15)] | 2, _ => show Int32.ofNat to = Int32.ofNat (if (List.getD Lb 2 0) = fr then to else (List.getD Lb 2 0)); rw [if_pos ((own_oe (hlb 2 (by decide)) hfr).mp hc26_19)] | 3, _ => show Int32.ofNat (List.getD Lb 3 0) = Int32.ofNat (if (List.getD Lb 3 0) = fr then to else (List.getD Lb 3 0)); rw [if_neg (fun q => hc37_23 ((own_oe (hlb 3 (by decide)) hfr).mpr q))] | (q + 4), h => exact absurd h (by omega))
          refine own_retV X20 hx hret hlk (hb hby d6_44) (by decide) (by decide) ?_
          try rw [e20]
          exact ⟨rfl, N20, K22, A28⟩
      · have _ := X16
        refine own_by (T' := T16) (f' := (mkF m 33 #[.val (.ref la), .val (.int (Int32.ofNat fr)), .val (.int (Int32.ofNat to))] [])) (fun t k => XS.icmpYes X16.here hx rfl (pc0 := 26) (pc' := 33) rfl (hb hby d6_26) rfl (feq hc26_19).2 (by decide) (by decide) k) ?_
        refine own_by (T' := T16) (f' := (mkF m 34 #[.val (.ref la), .val (.int (Int32.ofNat fr)), .val (.int (Int32.ofNat to))] [(.ref la)])) (fun t k => XS.aloadN X16.here hx rfl (hb hby d6_33) rfl rfl k) ?_
        refine own_by (T' := T16) (f' := (mkF m 35 #[.val (.ref la), .val (.int (Int32.ofNat fr)), .val (.int (Int32.ofNat to))] [(.int (3 : Int32)), (.ref la)])) (fun t k => XS.iconst X16.here hx rfl (hb hby d6_34) k) ?_
        have _ : (3 : Int32).toInt = 3 := by decide
        refine own_ldI X16 hx hZ e16 (hb hby d6_35) A16 (by first | decide | omega) (by first | decide | omega) ?_
        show own_Go p e below _ T16 (mkF m 36 #[.val (.ref la), .val (.int (Int32.ofNat fr)), .val (.int (Int32.ofNat to))] [(.int (Int32.ofNat (List.getD Lb 3 0)))])
        refine own_by (T' := T16) (f' := (mkF m 37 #[.val (.ref la), .val (.int (Int32.ofNat fr)), .val (.int (Int32.ofNat to))] [(.int (Int32.ofNat fr)), (.int (Int32.ofNat (List.getD Lb 3 0)))])) (fun t k => XS.iloadN X16.here hx rfl (hb hby d6_36) rfl k) ?_
        by_cases hc37_29 : (Int32.ofNat (List.getD Lb 3 0)) = (Int32.ofNat fr)
        · have _ := X16
          refine own_by (T' := T16) (f' := (mkF m 40 #[.val (.ref la), .val (.int (Int32.ofNat fr)), .val (.int (Int32.ofNat to))] [])) (fun t k => XS.icmpNo X16.here hx rfl (hb hby d6_37) rfl (teq hc37_29).2 k) ?_
          refine own_by (T' := T16) (f' := (mkF m 41 #[.val (.ref la), .val (.int (Int32.ofNat fr)), .val (.int (Int32.ofNat to))] [(.ref la)])) (fun t k => XS.aloadN X16.here hx rfl (hb hby d6_40) rfl rfl k) ?_
          refine own_by (T' := T16) (f' := (mkF m 42 #[.val (.ref la), .val (.int (Int32.ofNat fr)), .val (.int (Int32.ofNat to))] [(.int (3 : Int32)), (.ref la)])) (fun t k => XS.iconst X16.here hx rfl (hb hby d6_41) k) ?_
          refine own_by (T' := T16) (f' := (mkF m 43 #[.val (.ref la), .val (.int (Int32.ofNat fr)), .val (.int (Int32.ofNat to))] [(.int (Int32.ofNat to)), (.int (3 : Int32)), (.ref la)])) (fun t k => XS.iloadN X16.here hx rfl (hb hby d6_42) rfl k) ?_
          have _ : (3 : Int32).toInt = 3 := by decide
          refine own_stI X16 hx hZ e16 (hb hby d6_43) A16 (by first | decide | omega) (by first | decide | omega) ?_
          intro T30 h30 X30 e30 W30 A30
          show own_Go p e below _ T30 (mkF m 44 #[.val (.ref la), .val (.int (Int32.ofNat fr)), .val (.int (Int32.ofNat to))] [])
          have sz31 : n0 ≤ h30.size := by rw [W30.size]; exact sz17
          have K32 := K18.wr W30 (Or.inl (List.mem_of_getElem? (i := 0) rfl))
          have N30 := Fr.snoc X30 N16 gl
          have A33 : own_A Z h30 la .int 4 (own_q (own_rl Lb fr to)) := A30.congr (fun i hi => by match i, hi with | 0, _ => show Int32.ofNat to = Int32.ofNat (if (List.getD Lb 0 0) = fr then to else (List.getD Lb 0 0)); rw [if_pos ((own_oe (hlb 0 (by decide)) hfr).mp hc4_11)] | 1, _ => show Int32.ofNat to = Int32.ofNat (if (List.getD Lb 1 0) = fr then to else (List.getD Lb 1 0)); rw [if_pos ((own_oe (hlb 1 (by decide)) hfr).mp hc15_15)] | 2, _ => show Int32.ofNat (List.getD Lb 2 0) = Int32.ofNat (if (List.getD Lb 2 0) = fr then to else (List.getD Lb 2 0)); rw [if_neg (fun q => hc26_19 ((own_oe (hlb 2 (by decide)) hfr).mpr q))] | 3, _ => show Int32.ofNat to = Int32.ofNat (if (List.getD Lb 3 0) = fr then to else (List.getD Lb 3 0)); rw [if_pos ((own_oe (hlb 3 (by decide)) hfr).mp hc37_29)] | (q + 4), h => exact absurd h (by omega))
          refine own_retV X30 hx hret hlk (hb hby d6_44) (by decide) (by decide) ?_
          try rw [e30]
          exact ⟨rfl, N30, K32, A33⟩
        · have _ := X16
          refine own_by (T' := T16) (f' := (mkF m 44 #[.val (.ref la), .val (.int (Int32.ofNat fr)), .val (.int (Int32.ofNat to))] [])) (fun t k => XS.icmpYes X16.here hx rfl (pc0 := 37) (pc' := 44) rfl (hb hby d6_37) rfl (feq hc37_29).2 (by decide) (by decide) k) ?_
          have A34 : own_A Z h16 la .int 4 (own_q (own_rl Lb fr to)) := A16.congr (fun i hi => by match i, hi with | 0, _ => show Int32.ofNat to = Int32.ofNat (if (List.getD Lb 0 0) = fr then to else (List.getD Lb 0 0)); rw [if_pos ((own_oe (hlb 0 (by decide)) hfr).mp hc4_11)] | 1, _ => show Int32.ofNat to = Int32.ofNat (if (List.getD Lb 1 0) = fr then to else (List.getD Lb 1 0)); rw [if_pos ((own_oe (hlb 1 (by decide)) hfr).mp hc15_15)] | 2, _ => show Int32.ofNat (List.getD Lb 2 0) = Int32.ofNat (if (List.getD Lb 2 0) = fr then to else (List.getD Lb 2 0)); rw [if_neg (fun q => hc26_19 ((own_oe (hlb 2 (by decide)) hfr).mpr q))] | 3, _ => show Int32.ofNat (List.getD Lb 3 0) = Int32.ofNat (if (List.getD Lb 3 0) = fr then to else (List.getD Lb 3 0)); rw [if_neg (fun q => hc37_29 ((own_oe (hlb 3 (by decide)) hfr).mpr q))] | (q + 4), h => exact absurd h (by omega))
          refine own_retV X16 hx hret hlk (hb hby d6_44) (by decide) (by decide) ?_
          try rw [e16]
          exact ⟨rfl, N16, K18, A34⟩
    · have _ := X12
      refine own_by (T' := T12) (f' := (mkF m 22 #[.val (.ref la), .val (.int (Int32.ofNat fr)), .val (.int (Int32.ofNat to))] [])) (fun t k => XS.icmpYes X12.here hx rfl (pc0 := 15) (pc' := 22) rfl (hb hby d6_15) rfl (feq hc15_15).2 (by decide) (by decide) k) ?_
      refine own_by (T' := T12) (f' := (mkF m 23 #[.val (.ref la), .val (.int (Int32.ofNat fr)), .val (.int (Int32.ofNat to))] [(.ref la)])) (fun t k => XS.aloadN X12.here hx rfl (hb hby d6_22) rfl rfl k) ?_
      refine own_by (T' := T12) (f' := (mkF m 24 #[.val (.ref la), .val (.int (Int32.ofNat fr)), .val (.int (Int32.ofNat to))] [(.int (2 : Int32)), (.ref la)])) (fun t k => XS.iconst X12.here hx rfl (hb hby d6_23) k) ?_
      have _ : (2 : Int32).toInt = 2 := by decide
      refine own_ldI X12 hx hZ e12 (hb hby d6_24) A12 (by first | decide | omega) (by first | decide | omega) ?_
      show own_Go p e below _ T12 (mkF m 25 #[.val (.ref la), .val (.int (Int32.ofNat fr)), .val (.int (Int32.ofNat to))] [(.int (Int32.ofNat (List.getD Lb 2 0)))])
      refine own_by (T' := T12) (f' := (mkF m 26 #[.val (.ref la), .val (.int (Int32.ofNat fr)), .val (.int (Int32.ofNat to))] [(.int (Int32.ofNat fr)), (.int (Int32.ofNat (List.getD Lb 2 0)))])) (fun t k => XS.iloadN X12.here hx rfl (hb hby d6_25) rfl k) ?_
      by_cases hc26_35 : (Int32.ofNat (List.getD Lb 2 0)) = (Int32.ofNat fr)
      · have _ := X12
        refine own_by (T' := T12) (f' := (mkF m 29 #[.val (.ref la), .val (.int (Int32.ofNat fr)), .val (.int (Int32.ofNat to))] [])) (fun t k => XS.icmpNo X12.here hx rfl (hb hby d6_26) rfl (teq hc26_35).2 k) ?_
        refine own_by (T' := T12) (f' := (mkF m 30 #[.val (.ref la), .val (.int (Int32.ofNat fr)), .val (.int (Int32.ofNat to))] [(.ref la)])) (fun t k => XS.aloadN X12.here hx rfl (hb hby d6_29) rfl rfl k) ?_
        refine own_by (T' := T12) (f' := (mkF m 31 #[.val (.ref la), .val (.int (Int32.ofNat fr)), .val (.int (Int32.ofNat to))] [(.int (2 : Int32)), (.ref la)])) (fun t k => XS.iconst X12.here hx rfl (hb hby d6_30) k) ?_
        refine own_by (T' := T12) (f' := (mkF m 32 #[.val (.ref la), .val (.int (Int32.ofNat fr)), .val (.int (Int32.ofNat to))] [(.int (Int32.ofNat to)), (.int (2 : Int32)), (.ref la)])) (fun t k => XS.iloadN X12.here hx rfl (hb hby d6_31) rfl k) ?_
        have _ : (2 : Int32).toInt = 2 := by decide
        refine own_stI X12 hx hZ e12 (hb hby d6_32) A12 (by first | decide | omega) (by first | decide | omega) ?_
        intro T36 h36 X36 e36 W36 A36
        show own_Go p e below _ T36 (mkF m 33 #[.val (.ref la), .val (.int (Int32.ofNat fr)), .val (.int (Int32.ofNat to))] [])
        have sz37 : n0 ≤ h36.size := by rw [W36.size]; exact sz13
        have K38 := K14.wr W36 (Or.inl (List.mem_of_getElem? (i := 0) rfl))
        have N36 := Fr.snoc X36 N12 gl
        refine own_by (T' := T36) (f' := (mkF m 34 #[.val (.ref la), .val (.int (Int32.ofNat fr)), .val (.int (Int32.ofNat to))] [(.ref la)])) (fun t k => XS.aloadN X36.here hx rfl (hb hby d6_33) rfl rfl k) ?_
        refine own_by (T' := T36) (f' := (mkF m 35 #[.val (.ref la), .val (.int (Int32.ofNat fr)), .val (.int (Int32.ofNat to))] [(.int (3 : Int32)), (.ref la)])) (fun t k => XS.iconst X36.here hx rfl (hb hby d6_34) k) ?_
        have _ : (3 : Int32).toInt = 3 := by decide
        refine own_ldI X36 hx hZ e36 (hb hby d6_35) A36 (by first | decide | omega) (by first | decide | omega) ?_
        show own_Go p e below _ T36 (mkF m 36 #[.val (.ref la), .val (.int (Int32.ofNat fr)), .val (.int (Int32.ofNat to))] [(.int (Int32.ofNat (List.getD Lb 3 0)))])
        refine own_by (T' := T36) (f' := (mkF m 37 #[.val (.ref la), .val (.int (Int32.ofNat fr)), .val (.int (Int32.ofNat to))] [(.int (Int32.ofNat fr)), (.int (Int32.ofNat (List.getD Lb 3 0)))])) (fun t k => XS.iloadN X36.here hx rfl (hb hby d6_36) rfl k) ?_
        by_cases hc37_39 : (Int32.ofNat (List.getD Lb 3 0)) = (Int32.ofNat fr)
        · have _ := X36
          refine own_by (T' := T36) (f' := (mkF m 40 #[.val (.ref la), .val (.int (Int32.ofNat fr)), .val (.int (Int32.ofNat to))] [])) (fun t k => XS.icmpNo X36.here hx rfl (hb hby d6_37) rfl (teq hc37_39).2 k) ?_
          refine own_by (T' := T36) (f' := (mkF m 41 #[.val (.ref la), .val (.int (Int32.ofNat fr)), .val (.int (Int32.ofNat to))] [(.ref la)])) (fun t k => XS.aloadN X36.here hx rfl (hb hby d6_40) rfl rfl k) ?_
          refine own_by (T' := T36) (f' := (mkF m 42 #[.val (.ref la), .val (.int (Int32.ofNat fr)), .val (.int (Int32.ofNat to))] [(.int (3 : Int32)), (.ref la)])) (fun t k => XS.iconst X36.here hx rfl (hb hby d6_41) k) ?_
          refine own_by (T' := T36) (f' := (mkF m 43 #[.val (.ref la), .val (.int (Int32.ofNat fr)), .val (.int (Int32.ofNat to))] [(.int (Int32.ofNat to)), (.int (3 : Int32)), (.ref la)])) (fun t k => XS.iloadN X36.here hx rfl (hb hby d6_42) rfl k) ?_
          have _ : (3 : Int32).toInt = 3 := by decide
          refine own_stI X36 hx hZ e36 (hb hby d6_43) A36 (by first | decide | omega) (by first | decide | omega) ?_
          intro T40 h40 X40 e40 W40 A40
          show own_Go p e below _ T40 (mkF m 44 #[.val (.ref la), .val (.int (Int32.ofNat fr)), .val (.int (Int32.ofNat to))] [])
          have sz41 : n0 ≤ h40.size := by rw [W40.size]; exact sz37
          have K42 := K38.wr W40 (Or.inl (List.mem_of_getElem? (i := 0) rfl))
          have N40 := Fr.snoc X40 N36 gl
          have A43 : own_A Z h40 la .int 4 (own_q (own_rl Lb fr to)) := A40.congr (fun i hi => by match i, hi with | 0, _ => show Int32.ofNat to = Int32.ofNat (if (List.getD Lb 0 0) = fr then to else (List.getD Lb 0 0)); rw [if_pos ((own_oe (hlb 0 (by decide)) hfr).mp hc4_11)] | 1, _ => show Int32.ofNat (List.getD Lb 1 0) = Int32.ofNat (if (List.getD Lb 1 0) = fr then to else (List.getD Lb 1 0)); rw [if_neg (fun q => hc15_15 ((own_oe (hlb 1 (by decide)) hfr).mpr q))] | 2, _ => show Int32.ofNat to = Int32.ofNat (if (List.getD Lb 2 0) = fr then to else (List.getD Lb 2 0)); rw [if_pos ((own_oe (hlb 2 (by decide)) hfr).mp hc26_35)] | 3, _ => show Int32.ofNat to = Int32.ofNat (if (List.getD Lb 3 0) = fr then to else (List.getD Lb 3 0)); rw [if_pos ((own_oe (hlb 3 (by decide)) hfr).mp hc37_39)] | (q + 4), h => exact absurd h (by omega))
          refine own_retV X40 hx hret hlk (hb hby d6_44) (by decide) (by decide) ?_
          try rw [e40]
          exact ⟨rfl, N40, K42, A43⟩
        · have _ := X36
          refine own_by (T' := T36) (f' := (mkF m 44 #[.val (.ref la), .val (.int (Int32.ofNat fr)), .val (.int (Int32.ofNat to))] [])) (fun t k => XS.icmpYes X36.here hx rfl (pc0 := 37) (pc' := 44) rfl (hb hby d6_37) rfl (feq hc37_39).2 (by decide) (by decide) k) ?_
          have A44 : own_A Z h36 la .int 4 (own_q (own_rl Lb fr to)) := A36.congr (fun i hi => by match i, hi with | 0, _ => show Int32.ofNat to = Int32.ofNat (if (List.getD Lb 0 0) = fr then to else (List.getD Lb 0 0)); rw [if_pos ((own_oe (hlb 0 (by decide)) hfr).mp hc4_11)] | 1, _ => show Int32.ofNat (List.getD Lb 1 0) = Int32.ofNat (if (List.getD Lb 1 0) = fr then to else (List.getD Lb 1 0)); rw [if_neg (fun q => hc15_15 ((own_oe (hlb 1 (by decide)) hfr).mpr q))] | 2, _ => show Int32.ofNat to = Int32.ofNat (if (List.getD Lb 2 0) = fr then to else (List.getD Lb 2 0)); rw [if_pos ((own_oe (hlb 2 (by decide)) hfr).mp hc26_35)] | 3, _ => show Int32.ofNat (List.getD Lb 3 0) = Int32.ofNat (if (List.getD Lb 3 0) = fr then to else (List.getD Lb 3 0)); rw [if_neg (fun q => hc37_39 ((own_oe (hlb 3 (by decide)) hfr).mpr q))] | (q + 4), h => exact absurd h (by omega))
          refine own_retV X36 hx hret hlk (hb hby d6_44) (by decide) (by decide) ?_
          try rw [e36]
          exact ⟨rfl, N36, K38, A44⟩
      · have _ := X12
        refine own_by (T' := T12) (f' := (mkF m 33 #[.val (.ref la), .val (.int (Int32.ofNat fr)), .val (.int (Int32.ofNat to))] [])) (fun t k => XS.icmpYes X12.here hx rfl (pc0 := 26) (pc' := 33) rfl (hb hby d6_26) rfl (feq hc26_35).2 (by decide) (by decide) k) ?_
        refine own_by (T' := T12) (f' := (mkF m 34 #[.val (.ref la), .val (.int (Int32.ofNat fr)), .val (.int (Int32.ofNat to))] [(.ref la)])) (fun t k => XS.aloadN X12.here hx rfl (hb hby d6_33) rfl rfl k) ?_
        refine own_by (T' := T12) (f' := (mkF m 35 #[.val (.ref la), .val (.int (Int32.ofNat fr)), .val (.int (Int32.ofNat to))] [(.int (3 : Int32)), (.ref la)])) (fun t k => XS.iconst X12.here hx rfl (hb hby d6_34) k) ?_
        have _ : (3 : Int32).toInt = 3 := by decide
        refine own_ldI X12 hx hZ e12 (hb hby d6_35) A12 (by first | decide | omega) (by first | decide | omega) ?_
        show own_Go p e below _ T12 (mkF m 36 #[.val (.ref la), .val (.int (Int32.ofNat fr)), .val (.int (Int32.ofNat to))] [(.int (Int32.ofNat (List.getD Lb 3 0)))])
        refine own_by (T' := T12) (f' := (mkF m 37 #[.val (.ref la), .val (.int (Int32.ofNat fr)), .val (.int (Int32.ofNat to))] [(.int (Int32.ofNat fr)), (.int (Int32.ofNat (List.getD Lb 3 0)))])) (fun t k => XS.iloadN X12.here hx rfl (hb hby d6_36) rfl k) ?_
        by_cases hc37_45 : (Int32.ofNat (List.getD Lb 3 0)) = (Int32.ofNat fr)
        · have _ := X12
          refine own_by (T' := T12) (f' := (mkF m 40 #[.val (.ref la), .val (.int (Int32.ofNat fr)), .val (.int (Int32.ofNat to))] [])) (fun t k => XS.icmpNo X12.here hx rfl (hb hby d6_37) rfl (teq hc37_45).2 k) ?_
          refine own_by (T' := T12) (f' := (mkF m 41 #[.val (.ref la), .val (.int (Int32.ofNat fr)), .val (.int (Int32.ofNat to))] [(.ref la)])) (fun t k => XS.aloadN X12.here hx rfl (hb hby d6_40) rfl rfl k) ?_
          refine own_by (T' := T12) (f' := (mkF m 42 #[.val (.ref la), .val (.int (Int32.ofNat fr)), .val (.int (Int32.ofNat to))] [(.int (3 : Int32)), (.ref la)])) (fun t k => XS.iconst X12.here hx rfl (hb hby d6_41) k) ?_
          refine own_by (T' := T12) (f' := (mkF m 43 #[.val (.ref la), .val (.int (Int32.ofNat fr)), .val (.int (Int32.ofNat to))] [(.int (Int32.ofNat to)), (.int (3 : Int32)), (.ref la)])) (fun t k => XS.iloadN X12.here hx rfl (hb hby d6_42) rfl k) ?_
          have _ : (3 : Int32).toInt = 3 := by decide
          refine own_stI X12 hx hZ e12 (hb hby d6_43) A12 (by first | decide | omega) (by first | decide | omega) ?_
          intro T46 h46 X46 e46 W46 A46
          show own_Go p e below _ T46 (mkF m 44 #[.val (.ref la), .val (.int (Int32.ofNat fr)), .val (.int (Int32.ofNat to))] [])
          have sz47 : n0 ≤ h46.size := by rw [W46.size]; exact sz13
          have K48 := K14.wr W46 (Or.inl (List.mem_of_getElem? (i := 0) rfl))
          have N46 := Fr.snoc X46 N12 gl
          have A49 : own_A Z h46 la .int 4 (own_q (own_rl Lb fr to)) := A46.congr (fun i hi => by match i, hi with | 0, _ => show Int32.ofNat to = Int32.ofNat (if (List.getD Lb 0 0) = fr then to else (List.getD Lb 0 0)); rw [if_pos ((own_oe (hlb 0 (by decide)) hfr).mp hc4_11)] | 1, _ => show Int32.ofNat (List.getD Lb 1 0) = Int32.ofNat (if (List.getD Lb 1 0) = fr then to else (List.getD Lb 1 0)); rw [if_neg (fun q => hc15_15 ((own_oe (hlb 1 (by decide)) hfr).mpr q))] | 2, _ => show Int32.ofNat (List.getD Lb 2 0) = Int32.ofNat (if (List.getD Lb 2 0) = fr then to else (List.getD Lb 2 0)); rw [if_neg (fun q => hc26_35 ((own_oe (hlb 2 (by decide)) hfr).mpr q))] | 3, _ => show Int32.ofNat to = Int32.ofNat (if (List.getD Lb 3 0) = fr then to else (List.getD Lb 3 0)); rw [if_pos ((own_oe (hlb 3 (by decide)) hfr).mp hc37_45)] | (q + 4), h => exact absurd h (by omega))
          refine own_retV X46 hx hret hlk (hb hby d6_44) (by decide) (by decide) ?_
          try rw [e46]
          exact ⟨rfl, N46, K48, A49⟩
        · have _ := X12
          refine own_by (T' := T12) (f' := (mkF m 44 #[.val (.ref la), .val (.int (Int32.ofNat fr)), .val (.int (Int32.ofNat to))] [])) (fun t k => XS.icmpYes X12.here hx rfl (pc0 := 37) (pc' := 44) rfl (hb hby d6_37) rfl (feq hc37_45).2 (by decide) (by decide) k) ?_
          have A50 : own_A Z h12 la .int 4 (own_q (own_rl Lb fr to)) := A12.congr (fun i hi => by match i, hi with | 0, _ => show Int32.ofNat to = Int32.ofNat (if (List.getD Lb 0 0) = fr then to else (List.getD Lb 0 0)); rw [if_pos ((own_oe (hlb 0 (by decide)) hfr).mp hc4_11)] | 1, _ => show Int32.ofNat (List.getD Lb 1 0) = Int32.ofNat (if (List.getD Lb 1 0) = fr then to else (List.getD Lb 1 0)); rw [if_neg (fun q => hc15_15 ((own_oe (hlb 1 (by decide)) hfr).mpr q))] | 2, _ => show Int32.ofNat (List.getD Lb 2 0) = Int32.ofNat (if (List.getD Lb 2 0) = fr then to else (List.getD Lb 2 0)); rw [if_neg (fun q => hc26_35 ((own_oe (hlb 2 (by decide)) hfr).mpr q))] | 3, _ => show Int32.ofNat (List.getD Lb 3 0) = Int32.ofNat (if (List.getD Lb 3 0) = fr then to else (List.getD Lb 3 0)); rw [if_neg (fun q => hc37_45 ((own_oe (hlb 3 (by decide)) hfr).mpr q))] | (q + 4), h => exact absurd h (by omega))
          refine own_retV X12 hx hret hlk (hb hby d6_44) (by decide) (by decide) ?_
          try rw [e12]
          exact ⟨rfl, N12, K14, A50⟩
  · have _ := X0
    refine own_by (T' := s₁) (f' := (mkF m 11 #[.val (.ref la), .val (.int (Int32.ofNat fr)), .val (.int (Int32.ofNat to))] [])) (fun t k => XS.icmpYes X0.here hx rfl (pc0 := 4) (pc' := 11) rfl (hb hby d6_4) rfl (feq hc4_11).2 (by decide) (by decide) k) ?_
    refine own_by (T' := s₁) (f' := (mkF m 12 #[.val (.ref la), .val (.int (Int32.ofNat fr)), .val (.int (Int32.ofNat to))] [(.ref la)])) (fun t k => XS.aloadN X0.here hx rfl (hb hby d6_11) rfl rfl k) ?_
    refine own_by (T' := s₁) (f' := (mkF m 13 #[.val (.ref la), .val (.int (Int32.ofNat fr)), .val (.int (Int32.ofNat to))] [(.int (1 : Int32)), (.ref la)])) (fun t k => XS.iconst X0.here hx rfl (hb hby d6_12) k) ?_
    have _ : (1 : Int32).toInt = 1 := by decide
    refine own_ldI X0 hx hZ e0 (hb hby d6_13) AL (by first | decide | omega) (by first | decide | omega) ?_
    show own_Go p e below _ s₁ (mkF m 14 #[.val (.ref la), .val (.int (Int32.ofNat fr)), .val (.int (Int32.ofNat to))] [(.int (Int32.ofNat (List.getD Lb 1 0)))])
    refine own_by (T' := s₁) (f' := (mkF m 15 #[.val (.ref la), .val (.int (Int32.ofNat fr)), .val (.int (Int32.ofNat to))] [(.int (Int32.ofNat fr)), (.int (Int32.ofNat (List.getD Lb 1 0)))])) (fun t k => XS.iloadN X0.here hx rfl (hb hby d6_14) rfl k) ?_
    by_cases hc15_51 : (Int32.ofNat (List.getD Lb 1 0)) = (Int32.ofNat fr)
    · have _ := X0
      refine own_by (T' := s₁) (f' := (mkF m 18 #[.val (.ref la), .val (.int (Int32.ofNat fr)), .val (.int (Int32.ofNat to))] [])) (fun t k => XS.icmpNo X0.here hx rfl (hb hby d6_15) rfl (teq hc15_51).2 k) ?_
      refine own_by (T' := s₁) (f' := (mkF m 19 #[.val (.ref la), .val (.int (Int32.ofNat fr)), .val (.int (Int32.ofNat to))] [(.ref la)])) (fun t k => XS.aloadN X0.here hx rfl (hb hby d6_18) rfl rfl k) ?_
      refine own_by (T' := s₁) (f' := (mkF m 20 #[.val (.ref la), .val (.int (Int32.ofNat fr)), .val (.int (Int32.ofNat to))] [(.int (1 : Int32)), (.ref la)])) (fun t k => XS.iconst X0.here hx rfl (hb hby d6_19) k) ?_
      refine own_by (T' := s₁) (f' := (mkF m 21 #[.val (.ref la), .val (.int (Int32.ofNat fr)), .val (.int (Int32.ofNat to))] [(.int (Int32.ofNat to)), (.int (1 : Int32)), (.ref la)])) (fun t k => XS.iloadN X0.here hx rfl (hb hby d6_20) rfl k) ?_
      have _ : (1 : Int32).toInt = 1 := by decide
      refine own_stI X0 hx hZ e0 (hb hby d6_21) AL (by first | decide | omega) (by first | decide | omega) ?_
      intro T52 h52 X52 e52 W52 A52
      show own_Go p e below _ T52 (mkF m 22 #[.val (.ref la), .val (.int (Int32.ofNat fr)), .val (.int (Int32.ofNat to))] [])
      have sz53 : n0 ≤ h52.size := by rw [W52.size]; exact Z0
      have K54 := K0.wr W52 (Or.inl (List.mem_of_getElem? (i := 0) rfl))
      have N52 := Fr.snoc X52 N0 gl
      refine own_by (T' := T52) (f' := (mkF m 23 #[.val (.ref la), .val (.int (Int32.ofNat fr)), .val (.int (Int32.ofNat to))] [(.ref la)])) (fun t k => XS.aloadN X52.here hx rfl (hb hby d6_22) rfl rfl k) ?_
      refine own_by (T' := T52) (f' := (mkF m 24 #[.val (.ref la), .val (.int (Int32.ofNat fr)), .val (.int (Int32.ofNat to))] [(.int (2 : Int32)), (.ref la)])) (fun t k => XS.iconst X52.here hx rfl (hb hby d6_23) k) ?_
      have _ : (2 : Int32).toInt = 2 := by decide
      refine own_ldI X52 hx hZ e52 (hb hby d6_24) A52 (by first | decide | omega) (by first | decide | omega) ?_
      show own_Go p e below _ T52 (mkF m 25 #[.val (.ref la), .val (.int (Int32.ofNat fr)), .val (.int (Int32.ofNat to))] [(.int (Int32.ofNat (List.getD Lb 2 0)))])
      refine own_by (T' := T52) (f' := (mkF m 26 #[.val (.ref la), .val (.int (Int32.ofNat fr)), .val (.int (Int32.ofNat to))] [(.int (Int32.ofNat fr)), (.int (Int32.ofNat (List.getD Lb 2 0)))])) (fun t k => XS.iloadN X52.here hx rfl (hb hby d6_25) rfl k) ?_
      by_cases hc26_55 : (Int32.ofNat (List.getD Lb 2 0)) = (Int32.ofNat fr)
      · have _ := X52
        refine own_by (T' := T52) (f' := (mkF m 29 #[.val (.ref la), .val (.int (Int32.ofNat fr)), .val (.int (Int32.ofNat to))] [])) (fun t k => XS.icmpNo X52.here hx rfl (hb hby d6_26) rfl (teq hc26_55).2 k) ?_
        refine own_by (T' := T52) (f' := (mkF m 30 #[.val (.ref la), .val (.int (Int32.ofNat fr)), .val (.int (Int32.ofNat to))] [(.ref la)])) (fun t k => XS.aloadN X52.here hx rfl (hb hby d6_29) rfl rfl k) ?_
        refine own_by (T' := T52) (f' := (mkF m 31 #[.val (.ref la), .val (.int (Int32.ofNat fr)), .val (.int (Int32.ofNat to))] [(.int (2 : Int32)), (.ref la)])) (fun t k => XS.iconst X52.here hx rfl (hb hby d6_30) k) ?_
        refine own_by (T' := T52) (f' := (mkF m 32 #[.val (.ref la), .val (.int (Int32.ofNat fr)), .val (.int (Int32.ofNat to))] [(.int (Int32.ofNat to)), (.int (2 : Int32)), (.ref la)])) (fun t k => XS.iloadN X52.here hx rfl (hb hby d6_31) rfl k) ?_
        have _ : (2 : Int32).toInt = 2 := by decide
        refine own_stI X52 hx hZ e52 (hb hby d6_32) A52 (by first | decide | omega) (by first | decide | omega) ?_
        intro T56 h56 X56 e56 W56 A56
        show own_Go p e below _ T56 (mkF m 33 #[.val (.ref la), .val (.int (Int32.ofNat fr)), .val (.int (Int32.ofNat to))] [])
        have sz57 : n0 ≤ h56.size := by rw [W56.size]; exact sz53
        have K58 := K54.wr W56 (Or.inl (List.mem_of_getElem? (i := 0) rfl))
        have N56 := Fr.snoc X56 N52 gl
        refine own_by (T' := T56) (f' := (mkF m 34 #[.val (.ref la), .val (.int (Int32.ofNat fr)), .val (.int (Int32.ofNat to))] [(.ref la)])) (fun t k => XS.aloadN X56.here hx rfl (hb hby d6_33) rfl rfl k) ?_
        refine own_by (T' := T56) (f' := (mkF m 35 #[.val (.ref la), .val (.int (Int32.ofNat fr)), .val (.int (Int32.ofNat to))] [(.int (3 : Int32)), (.ref la)])) (fun t k => XS.iconst X56.here hx rfl (hb hby d6_34) k) ?_
        have _ : (3 : Int32).toInt = 3 := by decide
        refine own_ldI X56 hx hZ e56 (hb hby d6_35) A56 (by first | decide | omega) (by first | decide | omega) ?_
        show own_Go p e below _ T56 (mkF m 36 #[.val (.ref la), .val (.int (Int32.ofNat fr)), .val (.int (Int32.ofNat to))] [(.int (Int32.ofNat (List.getD Lb 3 0)))])
        refine own_by (T' := T56) (f' := (mkF m 37 #[.val (.ref la), .val (.int (Int32.ofNat fr)), .val (.int (Int32.ofNat to))] [(.int (Int32.ofNat fr)), (.int (Int32.ofNat (List.getD Lb 3 0)))])) (fun t k => XS.iloadN X56.here hx rfl (hb hby d6_36) rfl k) ?_
        by_cases hc37_59 : (Int32.ofNat (List.getD Lb 3 0)) = (Int32.ofNat fr)
        · have _ := X56
          refine own_by (T' := T56) (f' := (mkF m 40 #[.val (.ref la), .val (.int (Int32.ofNat fr)), .val (.int (Int32.ofNat to))] [])) (fun t k => XS.icmpNo X56.here hx rfl (hb hby d6_37) rfl (teq hc37_59).2 k) ?_
          refine own_by (T' := T56) (f' := (mkF m 41 #[.val (.ref la), .val (.int (Int32.ofNat fr)), .val (.int (Int32.ofNat to))] [(.ref la)])) (fun t k => XS.aloadN X56.here hx rfl (hb hby d6_40) rfl rfl k) ?_
          refine own_by (T' := T56) (f' := (mkF m 42 #[.val (.ref la), .val (.int (Int32.ofNat fr)), .val (.int (Int32.ofNat to))] [(.int (3 : Int32)), (.ref la)])) (fun t k => XS.iconst X56.here hx rfl (hb hby d6_41) k) ?_
          refine own_by (T' := T56) (f' := (mkF m 43 #[.val (.ref la), .val (.int (Int32.ofNat fr)), .val (.int (Int32.ofNat to))] [(.int (Int32.ofNat to)), (.int (3 : Int32)), (.ref la)])) (fun t k => XS.iloadN X56.here hx rfl (hb hby d6_42) rfl k) ?_
          have _ : (3 : Int32).toInt = 3 := by decide
          refine own_stI X56 hx hZ e56 (hb hby d6_43) A56 (by first | decide | omega) (by first | decide | omega) ?_
          intro T60 h60 X60 e60 W60 A60
          show own_Go p e below _ T60 (mkF m 44 #[.val (.ref la), .val (.int (Int32.ofNat fr)), .val (.int (Int32.ofNat to))] [])
          have sz61 : n0 ≤ h60.size := by rw [W60.size]; exact sz57
          have K62 := K58.wr W60 (Or.inl (List.mem_of_getElem? (i := 0) rfl))
          have N60 := Fr.snoc X60 N56 gl
          have A63 : own_A Z h60 la .int 4 (own_q (own_rl Lb fr to)) := A60.congr (fun i hi => by match i, hi with | 0, _ => show Int32.ofNat (List.getD Lb 0 0) = Int32.ofNat (if (List.getD Lb 0 0) = fr then to else (List.getD Lb 0 0)); rw [if_neg (fun q => hc4_11 ((own_oe (hlb 0 (by decide)) hfr).mpr q))] | 1, _ => show Int32.ofNat to = Int32.ofNat (if (List.getD Lb 1 0) = fr then to else (List.getD Lb 1 0)); rw [if_pos ((own_oe (hlb 1 (by decide)) hfr).mp hc15_51)] | 2, _ => show Int32.ofNat to = Int32.ofNat (if (List.getD Lb 2 0) = fr then to else (List.getD Lb 2 0)); rw [if_pos ((own_oe (hlb 2 (by decide)) hfr).mp hc26_55)] | 3, _ => show Int32.ofNat to = Int32.ofNat (if (List.getD Lb 3 0) = fr then to else (List.getD Lb 3 0)); rw [if_pos ((own_oe (hlb 3 (by decide)) hfr).mp hc37_59)] | (q + 4), h => exact absurd h (by omega))
          refine own_retV X60 hx hret hlk (hb hby d6_44) (by decide) (by decide) ?_
          try rw [e60]
          exact ⟨rfl, N60, K62, A63⟩
        · have _ := X56
          refine own_by (T' := T56) (f' := (mkF m 44 #[.val (.ref la), .val (.int (Int32.ofNat fr)), .val (.int (Int32.ofNat to))] [])) (fun t k => XS.icmpYes X56.here hx rfl (pc0 := 37) (pc' := 44) rfl (hb hby d6_37) rfl (feq hc37_59).2 (by decide) (by decide) k) ?_
          have A64 : own_A Z h56 la .int 4 (own_q (own_rl Lb fr to)) := A56.congr (fun i hi => by match i, hi with | 0, _ => show Int32.ofNat (List.getD Lb 0 0) = Int32.ofNat (if (List.getD Lb 0 0) = fr then to else (List.getD Lb 0 0)); rw [if_neg (fun q => hc4_11 ((own_oe (hlb 0 (by decide)) hfr).mpr q))] | 1, _ => show Int32.ofNat to = Int32.ofNat (if (List.getD Lb 1 0) = fr then to else (List.getD Lb 1 0)); rw [if_pos ((own_oe (hlb 1 (by decide)) hfr).mp hc15_51)] | 2, _ => show Int32.ofNat to = Int32.ofNat (if (List.getD Lb 2 0) = fr then to else (List.getD Lb 2 0)); rw [if_pos ((own_oe (hlb 2 (by decide)) hfr).mp hc26_55)] | 3, _ => show Int32.ofNat (List.getD Lb 3 0) = Int32.ofNat (if (List.getD Lb 3 0) = fr then to else (List.getD Lb 3 0)); rw [if_neg (fun q => hc37_59 ((own_oe (hlb 3 (by decide)) hfr).mpr q))] | (q + 4), h => exact absurd h (by omega))
          refine own_retV X56 hx hret hlk (hb hby d6_44) (by decide) (by decide) ?_
          try rw [e56]
          exact ⟨rfl, N56, K58, A64⟩
      · have _ := X52
        refine own_by (T' := T52) (f' := (mkF m 33 #[.val (.ref la), .val (.int (Int32.ofNat fr)), .val (.int (Int32.ofNat to))] [])) (fun t k => XS.icmpYes X52.here hx rfl (pc0 := 26) (pc' := 33) rfl (hb hby d6_26) rfl (feq hc26_55).2 (by decide) (by decide) k) ?_
        refine own_by (T' := T52) (f' := (mkF m 34 #[.val (.ref la), .val (.int (Int32.ofNat fr)), .val (.int (Int32.ofNat to))] [(.ref la)])) (fun t k => XS.aloadN X52.here hx rfl (hb hby d6_33) rfl rfl k) ?_
        refine own_by (T' := T52) (f' := (mkF m 35 #[.val (.ref la), .val (.int (Int32.ofNat fr)), .val (.int (Int32.ofNat to))] [(.int (3 : Int32)), (.ref la)])) (fun t k => XS.iconst X52.here hx rfl (hb hby d6_34) k) ?_
        have _ : (3 : Int32).toInt = 3 := by decide
        refine own_ldI X52 hx hZ e52 (hb hby d6_35) A52 (by first | decide | omega) (by first | decide | omega) ?_
        show own_Go p e below _ T52 (mkF m 36 #[.val (.ref la), .val (.int (Int32.ofNat fr)), .val (.int (Int32.ofNat to))] [(.int (Int32.ofNat (List.getD Lb 3 0)))])
        refine own_by (T' := T52) (f' := (mkF m 37 #[.val (.ref la), .val (.int (Int32.ofNat fr)), .val (.int (Int32.ofNat to))] [(.int (Int32.ofNat fr)), (.int (Int32.ofNat (List.getD Lb 3 0)))])) (fun t k => XS.iloadN X52.here hx rfl (hb hby d6_36) rfl k) ?_
        by_cases hc37_65 : (Int32.ofNat (List.getD Lb 3 0)) = (Int32.ofNat fr)
        · have _ := X52
          refine own_by (T' := T52) (f' := (mkF m 40 #[.val (.ref la), .val (.int (Int32.ofNat fr)), .val (.int (Int32.ofNat to))] [])) (fun t k => XS.icmpNo X52.here hx rfl (hb hby d6_37) rfl (teq hc37_65).2 k) ?_
          refine own_by (T' := T52) (f' := (mkF m 41 #[.val (.ref la), .val (.int (Int32.ofNat fr)), .val (.int (Int32.ofNat to))] [(.ref la)])) (fun t k => XS.aloadN X52.here hx rfl (hb hby d6_40) rfl rfl k) ?_
          refine own_by (T' := T52) (f' := (mkF m 42 #[.val (.ref la), .val (.int (Int32.ofNat fr)), .val (.int (Int32.ofNat to))] [(.int (3 : Int32)), (.ref la)])) (fun t k => XS.iconst X52.here hx rfl (hb hby d6_41) k) ?_
          refine own_by (T' := T52) (f' := (mkF m 43 #[.val (.ref la), .val (.int (Int32.ofNat fr)), .val (.int (Int32.ofNat to))] [(.int (Int32.ofNat to)), (.int (3 : Int32)), (.ref la)])) (fun t k => XS.iloadN X52.here hx rfl (hb hby d6_42) rfl k) ?_
          have _ : (3 : Int32).toInt = 3 := by decide
          refine own_stI X52 hx hZ e52 (hb hby d6_43) A52 (by first | decide | omega) (by first | decide | omega) ?_
          intro T66 h66 X66 e66 W66 A66
          show own_Go p e below _ T66 (mkF m 44 #[.val (.ref la), .val (.int (Int32.ofNat fr)), .val (.int (Int32.ofNat to))] [])
          have sz67 : n0 ≤ h66.size := by rw [W66.size]; exact sz53
          have K68 := K54.wr W66 (Or.inl (List.mem_of_getElem? (i := 0) rfl))
          have N66 := Fr.snoc X66 N52 gl
          have A69 : own_A Z h66 la .int 4 (own_q (own_rl Lb fr to)) := A66.congr (fun i hi => by match i, hi with | 0, _ => show Int32.ofNat (List.getD Lb 0 0) = Int32.ofNat (if (List.getD Lb 0 0) = fr then to else (List.getD Lb 0 0)); rw [if_neg (fun q => hc4_11 ((own_oe (hlb 0 (by decide)) hfr).mpr q))] | 1, _ => show Int32.ofNat to = Int32.ofNat (if (List.getD Lb 1 0) = fr then to else (List.getD Lb 1 0)); rw [if_pos ((own_oe (hlb 1 (by decide)) hfr).mp hc15_51)] | 2, _ => show Int32.ofNat (List.getD Lb 2 0) = Int32.ofNat (if (List.getD Lb 2 0) = fr then to else (List.getD Lb 2 0)); rw [if_neg (fun q => hc26_55 ((own_oe (hlb 2 (by decide)) hfr).mpr q))] | 3, _ => show Int32.ofNat to = Int32.ofNat (if (List.getD Lb 3 0) = fr then to else (List.getD Lb 3 0)); rw [if_pos ((own_oe (hlb 3 (by decide)) hfr).mp hc37_65)] | (q + 4), h => exact absurd h (by omega))
          refine own_retV X66 hx hret hlk (hb hby d6_44) (by decide) (by decide) ?_
          try rw [e66]
          exact ⟨rfl, N66, K68, A69⟩
        · have _ := X52
          refine own_by (T' := T52) (f' := (mkF m 44 #[.val (.ref la), .val (.int (Int32.ofNat fr)), .val (.int (Int32.ofNat to))] [])) (fun t k => XS.icmpYes X52.here hx rfl (pc0 := 37) (pc' := 44) rfl (hb hby d6_37) rfl (feq hc37_65).2 (by decide) (by decide) k) ?_
          have A70 : own_A Z h52 la .int 4 (own_q (own_rl Lb fr to)) := A52.congr (fun i hi => by match i, hi with | 0, _ => show Int32.ofNat (List.getD Lb 0 0) = Int32.ofNat (if (List.getD Lb 0 0) = fr then to else (List.getD Lb 0 0)); rw [if_neg (fun q => hc4_11 ((own_oe (hlb 0 (by decide)) hfr).mpr q))] | 1, _ => show Int32.ofNat to = Int32.ofNat (if (List.getD Lb 1 0) = fr then to else (List.getD Lb 1 0)); rw [if_pos ((own_oe (hlb 1 (by decide)) hfr).mp hc15_51)] | 2, _ => show Int32.ofNat (List.getD Lb 2 0) = Int32.ofNat (if (List.getD Lb 2 0) = fr then to else (List.getD Lb 2 0)); rw [if_neg (fun q => hc26_55 ((own_oe (hlb 2 (by decide)) hfr).mpr q))] | 3, _ => show Int32.ofNat (List.getD Lb 3 0) = Int32.ofNat (if (List.getD Lb 3 0) = fr then to else (List.getD Lb 3 0)); rw [if_neg (fun q => hc37_65 ((own_oe (hlb 3 (by decide)) hfr).mpr q))] | (q + 4), h => exact absurd h (by omega))
          refine own_retV X52 hx hret hlk (hb hby d6_44) (by decide) (by decide) ?_
          try rw [e52]
          exact ⟨rfl, N52, K54, A70⟩
    · have _ := X0
      refine own_by (T' := s₁) (f' := (mkF m 22 #[.val (.ref la), .val (.int (Int32.ofNat fr)), .val (.int (Int32.ofNat to))] [])) (fun t k => XS.icmpYes X0.here hx rfl (pc0 := 15) (pc' := 22) rfl (hb hby d6_15) rfl (feq hc15_51).2 (by decide) (by decide) k) ?_
      refine own_by (T' := s₁) (f' := (mkF m 23 #[.val (.ref la), .val (.int (Int32.ofNat fr)), .val (.int (Int32.ofNat to))] [(.ref la)])) (fun t k => XS.aloadN X0.here hx rfl (hb hby d6_22) rfl rfl k) ?_
      refine own_by (T' := s₁) (f' := (mkF m 24 #[.val (.ref la), .val (.int (Int32.ofNat fr)), .val (.int (Int32.ofNat to))] [(.int (2 : Int32)), (.ref la)])) (fun t k => XS.iconst X0.here hx rfl (hb hby d6_23) k) ?_
      have _ : (2 : Int32).toInt = 2 := by decide
      refine own_ldI X0 hx hZ e0 (hb hby d6_24) AL (by first | decide | omega) (by first | decide | omega) ?_
      show own_Go p e below _ s₁ (mkF m 25 #[.val (.ref la), .val (.int (Int32.ofNat fr)), .val (.int (Int32.ofNat to))] [(.int (Int32.ofNat (List.getD Lb 2 0)))])
      refine own_by (T' := s₁) (f' := (mkF m 26 #[.val (.ref la), .val (.int (Int32.ofNat fr)), .val (.int (Int32.ofNat to))] [(.int (Int32.ofNat fr)), (.int (Int32.ofNat (List.getD Lb 2 0)))])) (fun t k => XS.iloadN X0.here hx rfl (hb hby d6_25) rfl k) ?_
      by_cases hc26_71 : (Int32.ofNat (List.getD Lb 2 0)) = (Int32.ofNat fr)
      · have _ := X0
        refine own_by (T' := s₁) (f' := (mkF m 29 #[.val (.ref la), .val (.int (Int32.ofNat fr)), .val (.int (Int32.ofNat to))] [])) (fun t k => XS.icmpNo X0.here hx rfl (hb hby d6_26) rfl (teq hc26_71).2 k) ?_
        refine own_by (T' := s₁) (f' := (mkF m 30 #[.val (.ref la), .val (.int (Int32.ofNat fr)), .val (.int (Int32.ofNat to))] [(.ref la)])) (fun t k => XS.aloadN X0.here hx rfl (hb hby d6_29) rfl rfl k) ?_
        refine own_by (T' := s₁) (f' := (mkF m 31 #[.val (.ref la), .val (.int (Int32.ofNat fr)), .val (.int (Int32.ofNat to))] [(.int (2 : Int32)), (.ref la)])) (fun t k => XS.iconst X0.here hx rfl (hb hby d6_30) k) ?_
        refine own_by (T' := s₁) (f' := (mkF m 32 #[.val (.ref la), .val (.int (Int32.ofNat fr)), .val (.int (Int32.ofNat to))] [(.int (Int32.ofNat to)), (.int (2 : Int32)), (.ref la)])) (fun t k => XS.iloadN X0.here hx rfl (hb hby d6_31) rfl k) ?_
        have _ : (2 : Int32).toInt = 2 := by decide
        refine own_stI X0 hx hZ e0 (hb hby d6_32) AL (by first | decide | omega) (by first | decide | omega) ?_
        intro T72 h72 X72 e72 W72 A72
        show own_Go p e below _ T72 (mkF m 33 #[.val (.ref la), .val (.int (Int32.ofNat fr)), .val (.int (Int32.ofNat to))] [])
        have sz73 : n0 ≤ h72.size := by rw [W72.size]; exact Z0
        have K74 := K0.wr W72 (Or.inl (List.mem_of_getElem? (i := 0) rfl))
        have N72 := Fr.snoc X72 N0 gl
        refine own_by (T' := T72) (f' := (mkF m 34 #[.val (.ref la), .val (.int (Int32.ofNat fr)), .val (.int (Int32.ofNat to))] [(.ref la)])) (fun t k => XS.aloadN X72.here hx rfl (hb hby d6_33) rfl rfl k) ?_
        refine own_by (T' := T72) (f' := (mkF m 35 #[.val (.ref la), .val (.int (Int32.ofNat fr)), .val (.int (Int32.ofNat to))] [(.int (3 : Int32)), (.ref la)])) (fun t k => XS.iconst X72.here hx rfl (hb hby d6_34) k) ?_
        have _ : (3 : Int32).toInt = 3 := by decide
        refine own_ldI X72 hx hZ e72 (hb hby d6_35) A72 (by first | decide | omega) (by first | decide | omega) ?_
        show own_Go p e below _ T72 (mkF m 36 #[.val (.ref la), .val (.int (Int32.ofNat fr)), .val (.int (Int32.ofNat to))] [(.int (Int32.ofNat (List.getD Lb 3 0)))])
        refine own_by (T' := T72) (f' := (mkF m 37 #[.val (.ref la), .val (.int (Int32.ofNat fr)), .val (.int (Int32.ofNat to))] [(.int (Int32.ofNat fr)), (.int (Int32.ofNat (List.getD Lb 3 0)))])) (fun t k => XS.iloadN X72.here hx rfl (hb hby d6_36) rfl k) ?_
        by_cases hc37_75 : (Int32.ofNat (List.getD Lb 3 0)) = (Int32.ofNat fr)
        · have _ := X72
          refine own_by (T' := T72) (f' := (mkF m 40 #[.val (.ref la), .val (.int (Int32.ofNat fr)), .val (.int (Int32.ofNat to))] [])) (fun t k => XS.icmpNo X72.here hx rfl (hb hby d6_37) rfl (teq hc37_75).2 k) ?_
          refine own_by (T' := T72) (f' := (mkF m 41 #[.val (.ref la), .val (.int (Int32.ofNat fr)), .val (.int (Int32.ofNat to))] [(.ref la)])) (fun t k => XS.aloadN X72.here hx rfl (hb hby d6_40) rfl rfl k) ?_
          refine own_by (T' := T72) (f' := (mkF m 42 #[.val (.ref la), .val (.int (Int32.ofNat fr)), .val (.int (Int32.ofNat to))] [(.int (3 : Int32)), (.ref la)])) (fun t k => XS.iconst X72.here hx rfl (hb hby d6_41) k) ?_
          refine own_by (T' := T72) (f' := (mkF m 43 #[.val (.ref la), .val (.int (Int32.ofNat fr)), .val (.int (Int32.ofNat to))] [(.int (Int32.ofNat to)), (.int (3 : Int32)), (.ref la)])) (fun t k => XS.iloadN X72.here hx rfl (hb hby d6_42) rfl k) ?_
          have _ : (3 : Int32).toInt = 3 := by decide
          refine own_stI X72 hx hZ e72 (hb hby d6_43) A72 (by first | decide | omega) (by first | decide | omega) ?_
          intro T76 h76 X76 e76 W76 A76
          show own_Go p e below _ T76 (mkF m 44 #[.val (.ref la), .val (.int (Int32.ofNat fr)), .val (.int (Int32.ofNat to))] [])
          have sz77 : n0 ≤ h76.size := by rw [W76.size]; exact sz73
          have K78 := K74.wr W76 (Or.inl (List.mem_of_getElem? (i := 0) rfl))
          have N76 := Fr.snoc X76 N72 gl
          have A79 : own_A Z h76 la .int 4 (own_q (own_rl Lb fr to)) := A76.congr (fun i hi => by match i, hi with | 0, _ => show Int32.ofNat (List.getD Lb 0 0) = Int32.ofNat (if (List.getD Lb 0 0) = fr then to else (List.getD Lb 0 0)); rw [if_neg (fun q => hc4_11 ((own_oe (hlb 0 (by decide)) hfr).mpr q))] | 1, _ => show Int32.ofNat (List.getD Lb 1 0) = Int32.ofNat (if (List.getD Lb 1 0) = fr then to else (List.getD Lb 1 0)); rw [if_neg (fun q => hc15_51 ((own_oe (hlb 1 (by decide)) hfr).mpr q))] | 2, _ => show Int32.ofNat to = Int32.ofNat (if (List.getD Lb 2 0) = fr then to else (List.getD Lb 2 0)); rw [if_pos ((own_oe (hlb 2 (by decide)) hfr).mp hc26_71)] | 3, _ => show Int32.ofNat to = Int32.ofNat (if (List.getD Lb 3 0) = fr then to else (List.getD Lb 3 0)); rw [if_pos ((own_oe (hlb 3 (by decide)) hfr).mp hc37_75)] | (q + 4), h => exact absurd h (by omega))
          refine own_retV X76 hx hret hlk (hb hby d6_44) (by decide) (by decide) ?_
          try rw [e76]
          exact ⟨rfl, N76, K78, A79⟩
        · have _ := X72
          refine own_by (T' := T72) (f' := (mkF m 44 #[.val (.ref la), .val (.int (Int32.ofNat fr)), .val (.int (Int32.ofNat to))] [])) (fun t k => XS.icmpYes X72.here hx rfl (pc0 := 37) (pc' := 44) rfl (hb hby d6_37) rfl (feq hc37_75).2 (by decide) (by decide) k) ?_
          have A80 : own_A Z h72 la .int 4 (own_q (own_rl Lb fr to)) := A72.congr (fun i hi => by match i, hi with | 0, _ => show Int32.ofNat (List.getD Lb 0 0) = Int32.ofNat (if (List.getD Lb 0 0) = fr then to else (List.getD Lb 0 0)); rw [if_neg (fun q => hc4_11 ((own_oe (hlb 0 (by decide)) hfr).mpr q))] | 1, _ => show Int32.ofNat (List.getD Lb 1 0) = Int32.ofNat (if (List.getD Lb 1 0) = fr then to else (List.getD Lb 1 0)); rw [if_neg (fun q => hc15_51 ((own_oe (hlb 1 (by decide)) hfr).mpr q))] | 2, _ => show Int32.ofNat to = Int32.ofNat (if (List.getD Lb 2 0) = fr then to else (List.getD Lb 2 0)); rw [if_pos ((own_oe (hlb 2 (by decide)) hfr).mp hc26_71)] | 3, _ => show Int32.ofNat (List.getD Lb 3 0) = Int32.ofNat (if (List.getD Lb 3 0) = fr then to else (List.getD Lb 3 0)); rw [if_neg (fun q => hc37_75 ((own_oe (hlb 3 (by decide)) hfr).mpr q))] | (q + 4), h => exact absurd h (by omega))
          refine own_retV X72 hx hret hlk (hb hby d6_44) (by decide) (by decide) ?_
          try rw [e72]
          exact ⟨rfl, N72, K74, A80⟩
      · have _ := X0
        refine own_by (T' := s₁) (f' := (mkF m 33 #[.val (.ref la), .val (.int (Int32.ofNat fr)), .val (.int (Int32.ofNat to))] [])) (fun t k => XS.icmpYes X0.here hx rfl (pc0 := 26) (pc' := 33) rfl (hb hby d6_26) rfl (feq hc26_71).2 (by decide) (by decide) k) ?_
        refine own_by (T' := s₁) (f' := (mkF m 34 #[.val (.ref la), .val (.int (Int32.ofNat fr)), .val (.int (Int32.ofNat to))] [(.ref la)])) (fun t k => XS.aloadN X0.here hx rfl (hb hby d6_33) rfl rfl k) ?_
        refine own_by (T' := s₁) (f' := (mkF m 35 #[.val (.ref la), .val (.int (Int32.ofNat fr)), .val (.int (Int32.ofNat to))] [(.int (3 : Int32)), (.ref la)])) (fun t k => XS.iconst X0.here hx rfl (hb hby d6_34) k) ?_
        have _ : (3 : Int32).toInt = 3 := by decide
        refine own_ldI X0 hx hZ e0 (hb hby d6_35) AL (by first | decide | omega) (by first | decide | omega) ?_
        show own_Go p e below _ s₁ (mkF m 36 #[.val (.ref la), .val (.int (Int32.ofNat fr)), .val (.int (Int32.ofNat to))] [(.int (Int32.ofNat (List.getD Lb 3 0)))])
        refine own_by (T' := s₁) (f' := (mkF m 37 #[.val (.ref la), .val (.int (Int32.ofNat fr)), .val (.int (Int32.ofNat to))] [(.int (Int32.ofNat fr)), (.int (Int32.ofNat (List.getD Lb 3 0)))])) (fun t k => XS.iloadN X0.here hx rfl (hb hby d6_36) rfl k) ?_
        by_cases hc37_81 : (Int32.ofNat (List.getD Lb 3 0)) = (Int32.ofNat fr)
        · have _ := X0
          refine own_by (T' := s₁) (f' := (mkF m 40 #[.val (.ref la), .val (.int (Int32.ofNat fr)), .val (.int (Int32.ofNat to))] [])) (fun t k => XS.icmpNo X0.here hx rfl (hb hby d6_37) rfl (teq hc37_81).2 k) ?_
          refine own_by (T' := s₁) (f' := (mkF m 41 #[.val (.ref la), .val (.int (Int32.ofNat fr)), .val (.int (Int32.ofNat to))] [(.ref la)])) (fun t k => XS.aloadN X0.here hx rfl (hb hby d6_40) rfl rfl k) ?_
          refine own_by (T' := s₁) (f' := (mkF m 42 #[.val (.ref la), .val (.int (Int32.ofNat fr)), .val (.int (Int32.ofNat to))] [(.int (3 : Int32)), (.ref la)])) (fun t k => XS.iconst X0.here hx rfl (hb hby d6_41) k) ?_
          refine own_by (T' := s₁) (f' := (mkF m 43 #[.val (.ref la), .val (.int (Int32.ofNat fr)), .val (.int (Int32.ofNat to))] [(.int (Int32.ofNat to)), (.int (3 : Int32)), (.ref la)])) (fun t k => XS.iloadN X0.here hx rfl (hb hby d6_42) rfl k) ?_
          have _ : (3 : Int32).toInt = 3 := by decide
          refine own_stI X0 hx hZ e0 (hb hby d6_43) AL (by first | decide | omega) (by first | decide | omega) ?_
          intro T82 h82 X82 e82 W82 A82
          show own_Go p e below _ T82 (mkF m 44 #[.val (.ref la), .val (.int (Int32.ofNat fr)), .val (.int (Int32.ofNat to))] [])
          have sz83 : n0 ≤ h82.size := by rw [W82.size]; exact Z0
          have K84 := K0.wr W82 (Or.inl (List.mem_of_getElem? (i := 0) rfl))
          have N82 := Fr.snoc X82 N0 gl
          have A85 : own_A Z h82 la .int 4 (own_q (own_rl Lb fr to)) := A82.congr (fun i hi => by match i, hi with | 0, _ => show Int32.ofNat (List.getD Lb 0 0) = Int32.ofNat (if (List.getD Lb 0 0) = fr then to else (List.getD Lb 0 0)); rw [if_neg (fun q => hc4_11 ((own_oe (hlb 0 (by decide)) hfr).mpr q))] | 1, _ => show Int32.ofNat (List.getD Lb 1 0) = Int32.ofNat (if (List.getD Lb 1 0) = fr then to else (List.getD Lb 1 0)); rw [if_neg (fun q => hc15_51 ((own_oe (hlb 1 (by decide)) hfr).mpr q))] | 2, _ => show Int32.ofNat (List.getD Lb 2 0) = Int32.ofNat (if (List.getD Lb 2 0) = fr then to else (List.getD Lb 2 0)); rw [if_neg (fun q => hc26_71 ((own_oe (hlb 2 (by decide)) hfr).mpr q))] | 3, _ => show Int32.ofNat to = Int32.ofNat (if (List.getD Lb 3 0) = fr then to else (List.getD Lb 3 0)); rw [if_pos ((own_oe (hlb 3 (by decide)) hfr).mp hc37_81)] | (q + 4), h => exact absurd h (by omega))
          refine own_retV X82 hx hret hlk (hb hby d6_44) (by decide) (by decide) ?_
          try rw [e82]
          exact ⟨rfl, N82, K84, A85⟩
        · have _ := X0
          refine own_by (T' := s₁) (f' := (mkF m 44 #[.val (.ref la), .val (.int (Int32.ofNat fr)), .val (.int (Int32.ofNat to))] [])) (fun t k => XS.icmpYes X0.here hx rfl (pc0 := 37) (pc' := 44) rfl (hb hby d6_37) rfl (feq hc37_81).2 (by decide) (by decide) k) ?_
          have A86 : own_A Z h0 la .int 4 (own_q (own_rl Lb fr to)) := AL.congr (fun i hi => by match i, hi with | 0, _ => show Int32.ofNat (List.getD Lb 0 0) = Int32.ofNat (if (List.getD Lb 0 0) = fr then to else (List.getD Lb 0 0)); rw [if_neg (fun q => hc4_11 ((own_oe (hlb 0 (by decide)) hfr).mpr q))] | 1, _ => show Int32.ofNat (List.getD Lb 1 0) = Int32.ofNat (if (List.getD Lb 1 0) = fr then to else (List.getD Lb 1 0)); rw [if_neg (fun q => hc15_51 ((own_oe (hlb 1 (by decide)) hfr).mpr q))] | 2, _ => show Int32.ofNat (List.getD Lb 2 0) = Int32.ofNat (if (List.getD Lb 2 0) = fr then to else (List.getD Lb 2 0)); rw [if_neg (fun q => hc26_71 ((own_oe (hlb 2 (by decide)) hfr).mpr q))] | 3, _ => show Int32.ofNat (List.getD Lb 3 0) = Int32.ofNat (if (List.getD Lb 3 0) = fr then to else (List.getD Lb 3 0)); rw [if_neg (fun q => hc37_81 ((own_oe (hlb 3 (by decide)) hfr).mpr q))] | (q + 4), h => exact absurd h (by omega))
          refine own_retV X0 hx hret hlk (hb hby d6_44) (by decide) (by decide) ?_
          try rw [e0]
          exact ⟨rfl, N0, K0, A86⟩
theorem ef_rmS (m : MethodId) (x0 : Addr) (x1 : Addr) (x2 : Int32) (x3 : Int32) : entryFrame m #[(.ref x0), (.ref x1), (.int x2), (.int x3)] 8 = mkF m 0 #[.val (.ref x0), .val (.ref x1), .val (.int x2), .val (.int x3), .unset, .unset, .unset, .unset] [] := by first | (simp [entryFrame, mkF, argsToLocals, Value.category]; done) | rfl
set_option maxRecDepth 65536 in
set_option maxHeartbeats 40000000 in
theorem rmS (l : Launch) (Z : State) (a0 : Array Value) (hw : ∀ d ∈ tables_1, d.before a0 Z = true) (ws : List Jvm.Cond) (d pa sa la : Addr) (st : own_DS) (a b : Nat) (h0 : Heap) (n0 : Nat) (Z0 : n0 ≤ h0.size) (gp : n0 ≤ pa) (gs : n0 ≤ sa) (ndp : d ≠ pa) (nds : d ≠ sa) (gl : n0 ≤ la) (ndl : d ≠ la) (npl : pa ≠ la) (nsl : sa ≠ la) (nps : pa ≠ sa) (Ed : Exa Z h0 d "com/example/tollgraph/tollgraph/graph/DisjointSets") (Fp : Fld Z h0 d "com/example/tollgraph/tollgraph/graph/DisjointSets" "parent" "[I" (.ref pa)) (Fs : Fld Z h0 d "com/example/tollgraph/tollgraph/graph/DisjointSets" "size" "[I" (.ref sa)) (AP : own_A Z h0 pa .int 4 (own_q st.1)) (AS : own_A Z h0 sa .int 4 (own_q st.2.1)) (hg : own_gd st a b) (AL : own_A Z h0 la .int 4 (own_q st.2.2)) (hab : a < 4 ∧ b < 4) :
    own_Ct l Z (⟨"com/example/tollgraph/tollgraph/graph/DisjointSetsFindPinLaw", "step", "(Lcom/example/tollgraph/tollgraph/graph/DisjointSets;[III)Z"⟩ : MethodName) method_3_code 8 (some .boolean) ws ({ frames := 2, cells := 0, slots := 0, locals := 32 } : Room) #[(.ref d), (.ref la), (.int (Int32.ofNat a)), (.int (Int32.ofNat b))] h0 (fun v h L => v = some (.int 1) ∧ Fr n0 L ∧ Keep h0 h [pa, sa, la] ∧ own_A Z h pa .int 4 (own_q (own_nx st a b).1) ∧ own_A Z h sa .int 4 (own_q (own_nx st a b).2.1) ∧ own_A Z h la .int 4 (own_q (own_nx st a b).2.2)) := by
  refine own_of (plainFor_of_name pn_com_example_tollgraph_tollgraph_graph_DisjointSetsFindPinLaw) ?_
  intro p e s m below meth c s₁ hx hby hml hown hnm hret hlk hZ X0 e0
  have N0 := Fr.nil n0
  have K0 := Keep.refl h0 [pa, sa, la]
  have ia : (Int32.ofNat a).toInt = (a : Int) := own_oi (by omega)
  have ib : (Int32.ofNat b).toInt = (b : Int) := own_oi (by omega)
  have hlb := hg.2.2.2.2.2.2.2.2.2.1
  have hgot := hg.2.2.2.2.2.2.2.2.2.2
  have hA : (List.getD st.2.2 a 0) < 1000 := Nat.lt_trans (hlb ⟨a, hab.1⟩) (by decide)
  have hB : (List.getD st.2.2 b 0) < 1000 := Nat.lt_trans (hlb ⟨b, hab.2⟩) (by decide)
  rw [ef_rmS]
  refine own_by (T' := s₁) (f' := (mkF m 1 #[.val (.ref d), .val (.ref la), .val (.int (Int32.ofNat a)), .val (.int (Int32.ofNat b)), .unset, .unset, .unset, .unset] [(.ref la)])) (fun t k => XS.aloadN X0.here hx rfl (hb hby d3_0) rfl rfl k) ?_
  refine own_by (T' := s₁) (f' := (mkF m 2 #[.val (.ref d), .val (.ref la), .val (.int (Int32.ofNat a)), .val (.int (Int32.ofNat b)), .unset, .unset, .unset, .unset] [(.int (Int32.ofNat a)), (.ref la)])) (fun t k => XS.iloadN X0.here hx rfl (hb hby d3_1) rfl k) ?_
  refine own_ldI X0 hx hZ e0 (hb hby d3_2) AL (by omega) (by omega) ?_
  rw [own_qx hab.1]
  show own_Go p e below _ s₁ (mkF m 3 #[.val (.ref d), .val (.ref la), .val (.int (Int32.ofNat a)), .val (.int (Int32.ofNat b)), .unset, .unset, .unset, .unset] [(.int (Int32.ofNat (List.getD st.2.2 a 0)))])
  refine own_by (T' := s₁) (f' := (mkF m 5 #[.val (.ref d), .val (.ref la), .val (.int (Int32.ofNat a)), .val (.int (Int32.ofNat b)), .val (.int (Int32.ofNat (List.getD st.2.2 a 0))), .unset, .unset, .unset] [])) (fun t k => XS.istore X0.here hx rfl (hb hby d3_3) rfl (l' := #[.val (.ref d), .val (.ref la), .val (.int (Int32.ofNat a)), .val (.int (Int32.ofNat b)), .val (.int (Int32.ofNat (List.getD st.2.2 a 0))), .unset, .unset, .unset]) rfl k) ?_
  refine own_by (T' := s₁) (f' := (mkF m 6 #[.val (.ref d), .val (.ref la), .val (.int (Int32.ofNat a)), .val (.int (Int32.ofNat b)), .val (.int (Int32.ofNat (List.getD st.2.2 a 0))), .unset, .unset, .unset] [(.ref la)])) (fun t k => XS.aloadN X0.here hx rfl (hb hby d3_5) rfl rfl k) ?_
  refine own_by (T' := s₁) (f' := (mkF m 7 #[.val (.ref d), .val (.ref la), .val (.int (Int32.ofNat a)), .val (.int (Int32.ofNat b)), .val (.int (Int32.ofNat (List.getD st.2.2 a 0))), .unset, .unset, .unset] [(.int (Int32.ofNat b)), (.ref la)])) (fun t k => XS.iloadN X0.here hx rfl (hb hby d3_6) rfl k) ?_
  refine own_ldI X0 hx hZ e0 (hb hby d3_7) AL (by omega) (by omega) ?_
  rw [own_qx hab.2]
  show own_Go p e below _ s₁ (mkF m 8 #[.val (.ref d), .val (.ref la), .val (.int (Int32.ofNat a)), .val (.int (Int32.ofNat b)), .val (.int (Int32.ofNat (List.getD st.2.2 a 0))), .unset, .unset, .unset] [(.int (Int32.ofNat (List.getD st.2.2 b 0)))])
  refine own_by (T' := s₁) (f' := (mkF m 10 #[.val (.ref d), .val (.ref la), .val (.int (Int32.ofNat a)), .val (.int (Int32.ofNat b)), .val (.int (Int32.ofNat (List.getD st.2.2 a 0))), .val (.int (Int32.ofNat (List.getD st.2.2 b 0))), .unset, .unset] [])) (fun t k => XS.istore X0.here hx rfl (hb hby d3_8) rfl (l' := #[.val (.ref d), .val (.ref la), .val (.int (Int32.ofNat a)), .val (.int (Int32.ofNat b)), .val (.int (Int32.ofNat (List.getD st.2.2 a 0))), .val (.int (Int32.ofNat (List.getD st.2.2 b 0))), .unset, .unset]) rfl k) ?_
  refine own_by (T' := s₁) (f' := (mkF m 12 #[.val (.ref d), .val (.ref la), .val (.int (Int32.ofNat a)), .val (.int (Int32.ofNat b)), .val (.int (Int32.ofNat (List.getD st.2.2 a 0))), .val (.int (Int32.ofNat (List.getD st.2.2 b 0))), .unset, .unset] [(.int (Int32.ofNat (List.getD st.2.2 a 0)))])) (fun t k => XS.iload X0.here hx rfl (hb hby d3_10) rfl k) ?_
  refine own_by (T' := s₁) (f' := (mkF m 14 #[.val (.ref d), .val (.ref la), .val (.int (Int32.ofNat a)), .val (.int (Int32.ofNat b)), .val (.int (Int32.ofNat (List.getD st.2.2 a 0))), .val (.int (Int32.ofNat (List.getD st.2.2 b 0))), .unset, .unset] [(.int (Int32.ofNat (List.getD st.2.2 b 0))), (.int (Int32.ofNat (List.getD st.2.2 a 0)))])) (fun t k => XS.iload X0.here hx rfl (hb hby d3_12) rfl k) ?_
  by_cases hc14_11 : (Int32.ofNat (List.getD st.2.2 a 0)) = (Int32.ofNat (List.getD st.2.2 b 0))
  · have _ := X0
    refine own_by (T' := s₁) (f' := (mkF m 21 #[.val (.ref d), .val (.ref la), .val (.int (Int32.ofNat a)), .val (.int (Int32.ofNat b)), .val (.int (Int32.ofNat (List.getD st.2.2 a 0))), .val (.int (Int32.ofNat (List.getD st.2.2 b 0))), .unset, .unset] [])) (fun t k => XS.icmpYes X0.here hx rfl (pc0 := 14) (pc' := 21) rfl (hb hby d3_14) rfl (teq hc14_11).1 (by decide) (by decide) k) ?_
    refine own_by (T' := s₁) (f' := (mkF m 22 #[.val (.ref d), .val (.ref la), .val (.int (Int32.ofNat a)), .val (.int (Int32.ofNat b)), .val (.int (Int32.ofNat (List.getD st.2.2 a 0))), .val (.int (Int32.ofNat (List.getD st.2.2 b 0))), .unset, .unset] [(.int (0 : Int32))])) (fun t k => XS.iconst X0.here hx rfl (hb hby d3_21) k) ?_
    refine own_by (T' := s₁) (f' := (mkF m 24 #[.val (.ref d), .val (.ref la), .val (.int (Int32.ofNat a)), .val (.int (Int32.ofNat b)), .val (.int (Int32.ofNat (List.getD st.2.2 a 0))), .val (.int (Int32.ofNat (List.getD st.2.2 b 0))), .val (.int (0 : Int32)), .unset] [])) (fun t k => XS.istore X0.here hx rfl (hb hby d3_22) rfl (l' := #[.val (.ref d), .val (.ref la), .val (.int (Int32.ofNat a)), .val (.int (Int32.ofNat b)), .val (.int (Int32.ofNat (List.getD st.2.2 a 0))), .val (.int (Int32.ofNat (List.getD st.2.2 b 0))), .val (.int (0 : Int32)), .unset]) rfl k) ?_
    refine own_by (T' := s₁) (f' := (mkF m 25 #[.val (.ref d), .val (.ref la), .val (.int (Int32.ofNat a)), .val (.int (Int32.ofNat b)), .val (.int (Int32.ofNat (List.getD st.2.2 a 0))), .val (.int (Int32.ofNat (List.getD st.2.2 b 0))), .val (.int (0 : Int32)), .unset] [(.ref d)])) (fun t k => XS.aloadN X0.here hx rfl (hb hby d3_24) rfl rfl k) ?_
    refine own_by (T' := s₁) (f' := (mkF m 26 #[.val (.ref d), .val (.ref la), .val (.int (Int32.ofNat a)), .val (.int (Int32.ofNat b)), .val (.int (Int32.ofNat (List.getD st.2.2 a 0))), .val (.int (Int32.ofNat (List.getD st.2.2 b 0))), .val (.int (0 : Int32)), .unset] [(.int (Int32.ofNat a)), (.ref d)])) (fun t k => XS.iloadN X0.here hx rfl (hb hby d3_25) rfl k) ?_
    refine own_by (T' := s₁) (f' := (mkF m 27 #[.val (.ref d), .val (.ref la), .val (.int (Int32.ofNat a)), .val (.int (Int32.ofNat b)), .val (.int (Int32.ofNat (List.getD st.2.2 a 0))), .val (.int (Int32.ofNat (List.getD st.2.2 b 0))), .val (.int (0 : Int32)), .unset] [(.int (Int32.ofNat b)), (.int (Int32.ofNat a)), (.ref d)])) (fun t k => XS.iloadN X0.here hx rfl (hb hby d3_26) rfl k) ?_
    have q12 : ∀ x ∈ [pa, sa], ∃ c : Cell, h0[x]? = some c ∧ c.vm.isStatics = false := (allS (own_nsA AP) (allS (own_nsA AS) all0))
    refine own_callV X0 hx hZ hown e0 (hb hby d3_27) [(.int (Int32.ofNat a)), (.int (Int32.ofNat b))] [] 0 (rmU l Z a0 hw [] d pa sa st a b h0 n0 Z0 gp gs ndp nds nps Ed Fp Fs AP AS hg) Ed (hw _ (List.mem_of_getElem? (i := 18) rfl)) (hw _ (List.mem_of_getElem? (i := 19) rfl)) (notFace_of_selects (args := #[]) (mvT hZ (hw _ (List.mem_of_getElem? (i := 21) rfl)))) (hw _ (List.mem_of_getElem? (i := 21) rfl)) (hw _ (List.mem_of_getElem? (i := 20) rfl)) (hw _ (List.mem_of_getElem? (i := 2) rfl)) (hw _ (List.mem_of_getElem? (i := 22) rfl)) (by decide) pd__II_Z (by rw [hml]; rfl) rfl rfl (Nat.le_of_eq rfl) (by decide) (by decide) (by decide) (by decide) ?_
    rintro T13 _ L13 X13 ⟨rfl, N13q, K13, A13, B13⟩
    show own_Go p e below _ T13 (mkF m 30 #[.val (.ref d), .val (.ref la), .val (.int (Int32.ofNat a)), .val (.int (Int32.ofNat b)), .val (.int (Int32.ofNat (List.getD st.2.2 a 0))), .val (.int (Int32.ofNat (List.getD st.2.2 b 0))), .val (.int (0 : Int32)), .unset] [(.int (Int32.ofNat (own_U st a b).2.2))])
    have N13 := Fr.app N0 N13q
    have sz14 : n0 ≤ T13.heap.size := Nat.le_trans Z0 K13.1
    have K15 := K0.trans K13 (allS (Or.inl (List.mem_of_getElem? (i := 0) rfl)) (allS (Or.inl (List.mem_of_getElem? (i := 1) rfl)) all0))
    have hne : (List.getD st.2.2 a 0) = (List.getD st.2.2 b 0) := (own_oe hA hB).mp hc14_11
    rw [show Int32.ofNat (own_U st a b).2.2 = (0 : Int32) from by rw [hgot, if_pos hne]; rfl]
    show own_Go p e below _ T13 (mkF m 30 #[.val (.ref d), .val (.ref la), .val (.int (Int32.ofNat a)), .val (.int (Int32.ofNat b)), .val (.int (Int32.ofNat (List.getD st.2.2 a 0))), .val (.int (Int32.ofNat (List.getD st.2.2 b 0))), .val (.int (0 : Int32)), .unset] [(.int (0 : Int32))])
    refine own_by (T' := T13) (f' := (mkF m 32 #[.val (.ref d), .val (.ref la), .val (.int (Int32.ofNat a)), .val (.int (Int32.ofNat b)), .val (.int (Int32.ofNat (List.getD st.2.2 a 0))), .val (.int (Int32.ofNat (List.getD st.2.2 b 0))), .val (.int (0 : Int32)), .val (.int (0 : Int32))] [])) (fun t k => XS.istore X13.here hx rfl (hb hby d3_30) rfl (l' := #[.val (.ref d), .val (.ref la), .val (.int (Int32.ofNat a)), .val (.int (Int32.ofNat b)), .val (.int (Int32.ofNat (List.getD st.2.2 a 0))), .val (.int (Int32.ofNat (List.getD st.2.2 b 0))), .val (.int (0 : Int32)), .val (.int (0 : Int32))]) rfl k) ?_
    refine own_by (T' := T13) (f' := (mkF m 34 #[.val (.ref d), .val (.ref la), .val (.int (Int32.ofNat a)), .val (.int (Int32.ofNat b)), .val (.int (Int32.ofNat (List.getD st.2.2 a 0))), .val (.int (Int32.ofNat (List.getD st.2.2 b 0))), .val (.int (0 : Int32)), .val (.int (0 : Int32))] [(.int (0 : Int32))])) (fun t k => XS.iload X13.here hx rfl (hb hby d3_32) rfl k) ?_
    refine own_by (T' := T13) (f' := (mkF m 45 #[.val (.ref d), .val (.ref la), .val (.int (Int32.ofNat a)), .val (.int (Int32.ofNat b)), .val (.int (Int32.ofNat (List.getD st.2.2 a 0))), .val (.int (Int32.ofNat (List.getD st.2.2 b 0))), .val (.int (0 : Int32)), .val (.int (0 : Int32))] [])) (fun t k => XS.ifYes X13.here hx rfl (pc0 := 34) (pc' := 45) rfl (hb hby d3_34) rfl ((if0 _ _).trans (teq rfl).1) (by decide) (by decide) k) ?_
    refine own_by (T' := T13) (f' := (mkF m 47 #[.val (.ref d), .val (.ref la), .val (.int (Int32.ofNat a)), .val (.int (Int32.ofNat b)), .val (.int (Int32.ofNat (List.getD st.2.2 a 0))), .val (.int (Int32.ofNat (List.getD st.2.2 b 0))), .val (.int (0 : Int32)), .val (.int (0 : Int32))] [(.int (0 : Int32))])) (fun t k => XS.iload X13.here hx rfl (hb hby d3_45) rfl k) ?_
    refine own_by (T' := T13) (f' := (mkF m 49 #[.val (.ref d), .val (.ref la), .val (.int (Int32.ofNat a)), .val (.int (Int32.ofNat b)), .val (.int (Int32.ofNat (List.getD st.2.2 a 0))), .val (.int (Int32.ofNat (List.getD st.2.2 b 0))), .val (.int (0 : Int32)), .val (.int (0 : Int32))] [(.int (0 : Int32)), (.int (0 : Int32))])) (fun t k => XS.iload X13.here hx rfl (hb hby d3_47) rfl k) ?_
    refine own_by (T' := T13) (f' := (mkF m 52 #[.val (.ref d), .val (.ref la), .val (.int (Int32.ofNat a)), .val (.int (Int32.ofNat b)), .val (.int (Int32.ofNat (List.getD st.2.2 a 0))), .val (.int (Int32.ofNat (List.getD st.2.2 b 0))), .val (.int (0 : Int32)), .val (.int (0 : Int32))] [])) (fun t k => XS.icmpNo X13.here hx rfl (hb hby d3_49) rfl (teq rfl).2 k) ?_
    refine own_by (T' := T13) (f' := (mkF m 53 #[.val (.ref d), .val (.ref la), .val (.int (Int32.ofNat a)), .val (.int (Int32.ofNat b)), .val (.int (Int32.ofNat (List.getD st.2.2 a 0))), .val (.int (Int32.ofNat (List.getD st.2.2 b 0))), .val (.int (0 : Int32)), .val (.int (0 : Int32))] [(.int (1 : Int32))])) (fun t k => XS.iconst X13.here hx rfl (hb hby d3_52) k) ?_
    refine own_by (T' := T13) (f' := (mkF m 57 #[.val (.ref d), .val (.ref la), .val (.int (Int32.ofNat a)), .val (.int (Int32.ofNat b)), .val (.int (Int32.ofNat (List.getD st.2.2 a 0))), .val (.int (Int32.ofNat (List.getD st.2.2 b 0))), .val (.int (0 : Int32)), .val (.int (0 : Int32))] [(.int (1 : Int32))])) (fun t k => XS.goto X13.here hx rfl (pc0 := 53) (pc' := 57) rfl (hb hby d3_53) (by decide) (by decide) k) ?_
    have hnl : (own_nx st a b).2.2 = st.2.2 := if_pos hne
    have f16 := (AL.keep K13 (ninS (Ne.symm npl) (ninS (Ne.symm nsl) nin0)))
    refine own_retZ X13 hx hret hlk (hb hby d3_57) (Or.inr rfl) (by decide) (by decide) ?_
    exact ⟨rfl, N13, K15, A13, B13, by rw [hnl]; exact f16⟩
  · have _ := X0
    refine own_by (T' := s₁) (f' := (mkF m 17 #[.val (.ref d), .val (.ref la), .val (.int (Int32.ofNat a)), .val (.int (Int32.ofNat b)), .val (.int (Int32.ofNat (List.getD st.2.2 a 0))), .val (.int (Int32.ofNat (List.getD st.2.2 b 0))), .unset, .unset] [])) (fun t k => XS.icmpNo X0.here hx rfl (hb hby d3_14) rfl (feq hc14_11).1 k) ?_
    refine own_by (T' := s₁) (f' := (mkF m 18 #[.val (.ref d), .val (.ref la), .val (.int (Int32.ofNat a)), .val (.int (Int32.ofNat b)), .val (.int (Int32.ofNat (List.getD st.2.2 a 0))), .val (.int (Int32.ofNat (List.getD st.2.2 b 0))), .unset, .unset] [(.int (1 : Int32))])) (fun t k => XS.iconst X0.here hx rfl (hb hby d3_17) k) ?_
    refine own_by (T' := s₁) (f' := (mkF m 22 #[.val (.ref d), .val (.ref la), .val (.int (Int32.ofNat a)), .val (.int (Int32.ofNat b)), .val (.int (Int32.ofNat (List.getD st.2.2 a 0))), .val (.int (Int32.ofNat (List.getD st.2.2 b 0))), .unset, .unset] [(.int (1 : Int32))])) (fun t k => XS.goto X0.here hx rfl (pc0 := 18) (pc' := 22) rfl (hb hby d3_18) (by decide) (by decide) k) ?_
    refine own_by (T' := s₁) (f' := (mkF m 24 #[.val (.ref d), .val (.ref la), .val (.int (Int32.ofNat a)), .val (.int (Int32.ofNat b)), .val (.int (Int32.ofNat (List.getD st.2.2 a 0))), .val (.int (Int32.ofNat (List.getD st.2.2 b 0))), .val (.int (1 : Int32)), .unset] [])) (fun t k => XS.istore X0.here hx rfl (hb hby d3_22) rfl (l' := #[.val (.ref d), .val (.ref la), .val (.int (Int32.ofNat a)), .val (.int (Int32.ofNat b)), .val (.int (Int32.ofNat (List.getD st.2.2 a 0))), .val (.int (Int32.ofNat (List.getD st.2.2 b 0))), .val (.int (1 : Int32)), .unset]) rfl k) ?_
    refine own_by (T' := s₁) (f' := (mkF m 25 #[.val (.ref d), .val (.ref la), .val (.int (Int32.ofNat a)), .val (.int (Int32.ofNat b)), .val (.int (Int32.ofNat (List.getD st.2.2 a 0))), .val (.int (Int32.ofNat (List.getD st.2.2 b 0))), .val (.int (1 : Int32)), .unset] [(.ref d)])) (fun t k => XS.aloadN X0.here hx rfl (hb hby d3_24) rfl rfl k) ?_
    refine own_by (T' := s₁) (f' := (mkF m 26 #[.val (.ref d), .val (.ref la), .val (.int (Int32.ofNat a)), .val (.int (Int32.ofNat b)), .val (.int (Int32.ofNat (List.getD st.2.2 a 0))), .val (.int (Int32.ofNat (List.getD st.2.2 b 0))), .val (.int (1 : Int32)), .unset] [(.int (Int32.ofNat a)), (.ref d)])) (fun t k => XS.iloadN X0.here hx rfl (hb hby d3_25) rfl k) ?_
    refine own_by (T' := s₁) (f' := (mkF m 27 #[.val (.ref d), .val (.ref la), .val (.int (Int32.ofNat a)), .val (.int (Int32.ofNat b)), .val (.int (Int32.ofNat (List.getD st.2.2 a 0))), .val (.int (Int32.ofNat (List.getD st.2.2 b 0))), .val (.int (1 : Int32)), .unset] [(.int (Int32.ofNat b)), (.int (Int32.ofNat a)), (.ref d)])) (fun t k => XS.iloadN X0.here hx rfl (hb hby d3_26) rfl k) ?_
    have q17 : ∀ x ∈ [pa, sa], ∃ c : Cell, h0[x]? = some c ∧ c.vm.isStatics = false := (allS (own_nsA AP) (allS (own_nsA AS) all0))
    refine own_callV X0 hx hZ hown e0 (hb hby d3_27) [(.int (Int32.ofNat a)), (.int (Int32.ofNat b))] [] 0 (rmU l Z a0 hw [] d pa sa st a b h0 n0 Z0 gp gs ndp nds nps Ed Fp Fs AP AS hg) Ed (hw _ (List.mem_of_getElem? (i := 18) rfl)) (hw _ (List.mem_of_getElem? (i := 19) rfl)) (notFace_of_selects (args := #[]) (mvT hZ (hw _ (List.mem_of_getElem? (i := 21) rfl)))) (hw _ (List.mem_of_getElem? (i := 21) rfl)) (hw _ (List.mem_of_getElem? (i := 20) rfl)) (hw _ (List.mem_of_getElem? (i := 2) rfl)) (hw _ (List.mem_of_getElem? (i := 22) rfl)) (by decide) pd__II_Z (by rw [hml]; rfl) rfl rfl (Nat.le_of_eq rfl) (by decide) (by decide) (by decide) (by decide) ?_
    rintro T18 _ L18 X18 ⟨rfl, N18q, K18, A18, B18⟩
    show own_Go p e below _ T18 (mkF m 30 #[.val (.ref d), .val (.ref la), .val (.int (Int32.ofNat a)), .val (.int (Int32.ofNat b)), .val (.int (Int32.ofNat (List.getD st.2.2 a 0))), .val (.int (Int32.ofNat (List.getD st.2.2 b 0))), .val (.int (1 : Int32)), .unset] [(.int (Int32.ofNat (own_U st a b).2.2))])
    have N18 := Fr.app N0 N18q
    have sz19 : n0 ≤ T18.heap.size := Nat.le_trans Z0 K18.1
    have K20 := K0.trans K18 (allS (Or.inl (List.mem_of_getElem? (i := 0) rfl)) (allS (Or.inl (List.mem_of_getElem? (i := 1) rfl)) all0))
    have hne : ¬ ((List.getD st.2.2 a 0) = (List.getD st.2.2 b 0)) := fun q => hc14_11 ((own_oe hA hB).mpr q)
    rw [show Int32.ofNat (own_U st a b).2.2 = (1 : Int32) from by rw [hgot, if_neg hne]; rfl]
    show own_Go p e below _ T18 (mkF m 30 #[.val (.ref d), .val (.ref la), .val (.int (Int32.ofNat a)), .val (.int (Int32.ofNat b)), .val (.int (Int32.ofNat (List.getD st.2.2 a 0))), .val (.int (Int32.ofNat (List.getD st.2.2 b 0))), .val (.int (1 : Int32)), .unset] [(.int (1 : Int32))])
    refine own_by (T' := T18) (f' := (mkF m 32 #[.val (.ref d), .val (.ref la), .val (.int (Int32.ofNat a)), .val (.int (Int32.ofNat b)), .val (.int (Int32.ofNat (List.getD st.2.2 a 0))), .val (.int (Int32.ofNat (List.getD st.2.2 b 0))), .val (.int (1 : Int32)), .val (.int (1 : Int32))] [])) (fun t k => XS.istore X18.here hx rfl (hb hby d3_30) rfl (l' := #[.val (.ref d), .val (.ref la), .val (.int (Int32.ofNat a)), .val (.int (Int32.ofNat b)), .val (.int (Int32.ofNat (List.getD st.2.2 a 0))), .val (.int (Int32.ofNat (List.getD st.2.2 b 0))), .val (.int (1 : Int32)), .val (.int (1 : Int32))]) rfl k) ?_
    refine own_by (T' := T18) (f' := (mkF m 34 #[.val (.ref d), .val (.ref la), .val (.int (Int32.ofNat a)), .val (.int (Int32.ofNat b)), .val (.int (Int32.ofNat (List.getD st.2.2 a 0))), .val (.int (Int32.ofNat (List.getD st.2.2 b 0))), .val (.int (1 : Int32)), .val (.int (1 : Int32))] [(.int (1 : Int32))])) (fun t k => XS.iload X18.here hx rfl (hb hby d3_32) rfl k) ?_
    refine own_by (T' := T18) (f' := (mkF m 37 #[.val (.ref d), .val (.ref la), .val (.int (Int32.ofNat a)), .val (.int (Int32.ofNat b)), .val (.int (Int32.ofNat (List.getD st.2.2 a 0))), .val (.int (Int32.ofNat (List.getD st.2.2 b 0))), .val (.int (1 : Int32)), .val (.int (1 : Int32))] [])) (fun t k => XS.ifNo X18.here hx rfl (hb hby d3_34) rfl ((if0 _ _).trans (feq (by decide)).1) k) ?_
    refine own_by (T' := T18) (f' := (mkF m 38 #[.val (.ref d), .val (.ref la), .val (.int (Int32.ofNat a)), .val (.int (Int32.ofNat b)), .val (.int (Int32.ofNat (List.getD st.2.2 a 0))), .val (.int (Int32.ofNat (List.getD st.2.2 b 0))), .val (.int (1 : Int32)), .val (.int (1 : Int32))] [(.ref la)])) (fun t k => XS.aloadN X18.here hx rfl (hb hby d3_37) rfl rfl k) ?_
    refine own_by (T' := T18) (f' := (mkF m 40 #[.val (.ref d), .val (.ref la), .val (.int (Int32.ofNat a)), .val (.int (Int32.ofNat b)), .val (.int (Int32.ofNat (List.getD st.2.2 a 0))), .val (.int (Int32.ofNat (List.getD st.2.2 b 0))), .val (.int (1 : Int32)), .val (.int (1 : Int32))] [(.int (Int32.ofNat (List.getD st.2.2 b 0))), (.ref la)])) (fun t k => XS.iload X18.here hx rfl (hb hby d3_38) rfl k) ?_
    refine own_by (T' := T18) (f' := (mkF m 42 #[.val (.ref d), .val (.ref la), .val (.int (Int32.ofNat a)), .val (.int (Int32.ofNat b)), .val (.int (Int32.ofNat (List.getD st.2.2 a 0))), .val (.int (Int32.ofNat (List.getD st.2.2 b 0))), .val (.int (1 : Int32)), .val (.int (1 : Int32))] [(.int (Int32.ofNat (List.getD st.2.2 a 0))), (.int (Int32.ofNat (List.getD st.2.2 b 0))), (.ref la)])) (fun t k => XS.iload X18.here hx rfl (hb hby d3_40) rfl k) ?_
    have f21 := (AL.keep K18 (ninS (Ne.symm npl) (ninS (Ne.symm nsl) nin0)))
    have q22 : ∀ x ∈ [la], ∃ c : Cell, T18.heap[x]? = some c ∧ c.vm.isStatics = false := (allS (own_nsA f21) all0)
    refine own_callS X18 hx hZ hown rfl (hb hby d3_42) [(.ref la), (.int (Int32.ofNat (List.getD st.2.2 b 0))), (.int (Int32.ofNat (List.getD st.2.2 a 0)))] [] 0 (rmR l Z a0 hw [] la st.2.2 (List.getD st.2.2 b 0) (List.getD st.2.2 a 0) T18.heap n0 sz19 gl f21 hB (fun i hi => Nat.lt_trans (hlb ⟨i, hi⟩) (by decide))) (hw _ (List.mem_of_getElem? (i := 28) rfl)) (hw _ (List.mem_of_getElem? (i := 29) rfl)) (hw _ (List.mem_of_getElem? (i := 16) rfl)) (hw _ (List.mem_of_getElem? (i := 30) rfl)) (by decide) pd___III_V (by rw [hml]; rfl) rfl rfl (Nat.le_of_eq rfl) (by decide) (by decide) (by decide) (by decide) ?_
    rintro T23 _ L23 X23 ⟨rfl, N23q, K23, A23⟩
    show own_Go p e below _ T23 (mkF m 45 #[.val (.ref d), .val (.ref la), .val (.int (Int32.ofNat a)), .val (.int (Int32.ofNat b)), .val (.int (Int32.ofNat (List.getD st.2.2 a 0))), .val (.int (Int32.ofNat (List.getD st.2.2 b 0))), .val (.int (1 : Int32)), .val (.int (1 : Int32))] [])
    have N23 := Fr.app N18 N23q
    have sz24 : n0 ≤ T23.heap.size := Nat.le_trans sz19 K23.1
    have K25 := K20.trans K23 (allS (Or.inl (List.mem_of_getElem? (i := 2) rfl)) all0)
    refine own_by (T' := T23) (f' := (mkF m 47 #[.val (.ref d), .val (.ref la), .val (.int (Int32.ofNat a)), .val (.int (Int32.ofNat b)), .val (.int (Int32.ofNat (List.getD st.2.2 a 0))), .val (.int (Int32.ofNat (List.getD st.2.2 b 0))), .val (.int (1 : Int32)), .val (.int (1 : Int32))] [(.int (1 : Int32))])) (fun t k => XS.iload X23.here hx rfl (hb hby d3_45) rfl k) ?_
    refine own_by (T' := T23) (f' := (mkF m 49 #[.val (.ref d), .val (.ref la), .val (.int (Int32.ofNat a)), .val (.int (Int32.ofNat b)), .val (.int (Int32.ofNat (List.getD st.2.2 a 0))), .val (.int (Int32.ofNat (List.getD st.2.2 b 0))), .val (.int (1 : Int32)), .val (.int (1 : Int32))] [(.int (1 : Int32)), (.int (1 : Int32))])) (fun t k => XS.iload X23.here hx rfl (hb hby d3_47) rfl k) ?_
    refine own_by (T' := T23) (f' := (mkF m 52 #[.val (.ref d), .val (.ref la), .val (.int (Int32.ofNat a)), .val (.int (Int32.ofNat b)), .val (.int (Int32.ofNat (List.getD st.2.2 a 0))), .val (.int (Int32.ofNat (List.getD st.2.2 b 0))), .val (.int (1 : Int32)), .val (.int (1 : Int32))] [])) (fun t k => XS.icmpNo X23.here hx rfl (hb hby d3_49) rfl (teq rfl).2 k) ?_
    refine own_by (T' := T23) (f' := (mkF m 53 #[.val (.ref d), .val (.ref la), .val (.int (Int32.ofNat a)), .val (.int (Int32.ofNat b)), .val (.int (Int32.ofNat (List.getD st.2.2 a 0))), .val (.int (Int32.ofNat (List.getD st.2.2 b 0))), .val (.int (1 : Int32)), .val (.int (1 : Int32))] [(.int (1 : Int32))])) (fun t k => XS.iconst X23.here hx rfl (hb hby d3_52) k) ?_
    refine own_by (T' := T23) (f' := (mkF m 57 #[.val (.ref d), .val (.ref la), .val (.int (Int32.ofNat a)), .val (.int (Int32.ofNat b)), .val (.int (Int32.ofNat (List.getD st.2.2 a 0))), .val (.int (Int32.ofNat (List.getD st.2.2 b 0))), .val (.int (1 : Int32)), .val (.int (1 : Int32))] [(.int (1 : Int32))])) (fun t k => XS.goto X23.here hx rfl (pc0 := 53) (pc' := 57) rfl (hb hby d3_53) (by decide) (by decide) k) ?_
    have hnl : (own_nx st a b).2.2 = own_rl st.2.2 (List.getD st.2.2 b 0) (List.getD st.2.2 a 0) := if_neg hne
    have f26 := (A18.keep K23 (ninS npl nin0))
    have f27 := (B18.keep K23 (ninS nsl nin0))
    refine own_retZ X23 hx hret hlk (hb hby d3_57) (Or.inr rfl) (by decide) (by decide) ?_
    exact ⟨rfl, N23, K25, f26, f27, by rw [hnl]; exact A23⟩
theorem ef_rm0 (m : MethodId) (x0 : Int32) (x1 : Int32) (x2 : Int32) (x3 : Int32) : entryFrame m #[(.int x0), (.int x1), (.int x2), (.int x3)] maxLocals = mkF m 0 #[.val (.int x0), .val (.int x1), .val (.int x2), .val (.int x3), .unset, .unset, .unset, .unset, .unset, .unset, .unset, .unset, .unset] [] := by first | (simp [entryFrame, mkF, argsToLocals, Value.category, maxLocals]; done) | rfl
set_option maxRecDepth 65536 in
set_option maxHeartbeats 40000000 in
theorem rm0 (l : Launch) (Z : State) (a0 : Array Value) (hw : ∀ d ∈ tables_1, d.before a0 Z = true) (ws : List Jvm.Cond) (i0 i1 i2 i3 : Int32) (h0 : Heap) (n0 : Nat) (Z0 : n0 ≤ h0.size) :
    own_Ct l Z x code maxLocals ret ws room_1 #[(.int i0), (.int i1), (.int i2), (.int i3)] h0 (fun v h L => v = some (.int 1) ∧ Fr n0 L) := by
  refine own_of (plainFor_of_name pn_com_example_tollgraph_tollgraph_graph_DisjointSetsFindPinLaw) ?_
  intro p e s m below meth c s₁ hx hby hml hown hnm hret hlk hZ X0 e0
  have N0 := Fr.nil n0
  rw [ef_rm0]
  refine own_new X0 hx hZ hown e0 (hb hby at_0) (hw _ (List.mem_of_getElem? (i := 0) rfl)) (hw _ (List.mem_of_getElem? (i := 1) rfl)) (hw _ (List.mem_of_getElem? (i := 2) rfl)) (by decide) (by decide) ?_
  intro T11 h11 b11 X11 e11 g11 E11 A11 D11
  have gn11 : n0 ≤ b11 := by rw [g11]; exact Z0
  show own_Go p e below _ T11 (mkF m 3 #[.val (.int i0), .val (.int i1), .val (.int i2), .val (.int i3), .unset, .unset, .unset, .unset, .unset, .unset, .unset, .unset, .unset] [(.ref b11)])
  have F11_parent : Fld Z h11 b11 "com/example/tollgraph/tollgraph/graph/DisjointSets" "parent" "[I" .null := D11 (Or.inr (hw _ (List.mem_of_getElem? (i := 11) rfl))) (ty := (.array .int)) (by decide)
  have F11_size : Fld Z h11 b11 "com/example/tollgraph/tollgraph/graph/DisjointSets" "size" "[I" .null := D11 (Or.inr (hw _ (List.mem_of_getElem? (i := 13) rfl))) (ty := (.array .int)) (by decide)
  have sz12 : n0 ≤ h11.size := Nat.le_trans Z0 E11.1
  refine own_by (T' := T11) (f' := (mkF m 4 #[.val (.int i0), .val (.int i1), .val (.int i2), .val (.int i3), .unset, .unset, .unset, .unset, .unset, .unset, .unset, .unset, .unset] [(.ref b11), (.ref b11)])) (fun t k => XS.dup X11.here hx rfl (hb hby at_3) rfl rfl k) ?_
  refine own_by (T' := T11) (f' := (mkF m 5 #[.val (.int i0), .val (.int i1), .val (.int i2), .val (.int i3), .unset, .unset, .unset, .unset, .unset, .unset, .unset, .unset, .unset] [(.int (4 : Int32)), (.ref b11), (.ref b11)])) (fun t k => XS.iconst X11.here hx rfl (hb hby at_4) k) ?_
  have q13 : ∀ x ∈ [b11], ∃ c : Cell, h11[x]? = some c ∧ c.vm.isStatics = false := (allS (own_ns A11) all0)
  refine own_callN X11 hx hZ hown e11 (hb hby at_5) [(.int (4 : Int32))] [(.ref b11)] 1 (rmI l Z a0 hw [] b11 _ _ h11 n0 sz12 gn11 A11 F11_parent F11_size) (hw _ (List.mem_of_getElem? (i := 3) rfl)) (hw _ (List.mem_of_getElem? (i := 4) rfl)) (hw _ (List.mem_of_getElem? (i := 2) rfl)) (hw _ (List.mem_of_getElem? (i := 5) rfl)) rfl (by decide) pd__I_V (by rw [hml]; rfl) rfl rfl (Nat.le_of_eq rfl) (by decide) (by decide) (by decide) (by decide) ?_
  rintro T14 _ L14 X14 ⟨pa, sa, rfl, N14q, K14, gpa, gsa, nps, Ed, Fp, Fs, AP, AS⟩
  show own_Go p e below _ T14 (mkF m 8 #[.val (.int i0), .val (.int i1), .val (.int i2), .val (.int i3), .unset, .unset, .unset, .unset, .unset, .unset, .unset, .unset, .unset] [(.ref b11)])
  have N14 := Fr.app N0 N14q
  have gn_pa : n0 ≤ pa := Nat.le_trans sz12 gpa
  have nd_pa : b11 ≠ pa := Nat.ne_of_lt (Nat.lt_of_lt_of_le A11.lt gpa)
  have gn_sa : n0 ≤ sa := Nat.le_trans sz12 gsa
  have nd_sa : b11 ≠ sa := Nat.ne_of_lt (Nat.lt_of_lt_of_le A11.lt gsa)
  have sz15 : n0 ≤ T14.heap.size := Nat.le_trans sz12 K14.1
  refine own_by (T' := T14) (f' := (mkF m 10 #[.val (.int i0), .val (.int i1), .val (.int i2), .val (.int i3), .val (.ref b11), .unset, .unset, .unset, .unset, .unset, .unset, .unset, .unset] [])) (fun t k => XS.astore X14.here hx rfl (hb hby at_8) rfl rfl (l' := #[.val (.int i0), .val (.int i1), .val (.int i2), .val (.int i3), .val (.ref b11), .unset, .unset, .unset, .unset, .unset, .unset, .unset, .unset]) rfl k) ?_
  refine own_by (T' := T14) (f' := (mkF m 11 #[.val (.int i0), .val (.int i1), .val (.int i2), .val (.int i3), .val (.ref b11), .unset, .unset, .unset, .unset, .unset, .unset, .unset, .unset] [(.int (4 : Int32))])) (fun t k => XS.iconst X14.here hx rfl (hb hby at_10) k) ?_
  refine own_mkA X14 hx hZ rfl (hb hby at_11) (hw _ (List.mem_of_getElem? (i := 9) rfl)) (v := 0) rfl (by decide) 4 (by decide) (by decide) (by decide) (by decide) ?_
  intro T16 h16 b16 X16 e16 g16 E16 A16r
  have ne16_b11 : b11 ≠ b16 := Nat.ne_of_lt (by rw [g16]; exact Ed.lt)
  have ne16_pa : pa ≠ b16 := Nat.ne_of_lt (by rw [g16]; exact AP.lt)
  have ne16_sa : sa ≠ b16 := Nat.ne_of_lt (by rw [g16]; exact AS.lt)
  have gn16 : n0 ≤ b16 := by rw [g16]; exact sz15
  show own_Go p e below _ T16 (mkF m 13 #[.val (.int i0), .val (.int i1), .val (.int i2), .val (.int i3), .val (.ref b11), .unset, .unset, .unset, .unset, .unset, .unset, .unset, .unset] [(.ref b16)])
  have A16 : own_A Z h16 b16 .int 4 (fun _ => 0) := A16r
  have sz17 : n0 ≤ h16.size := Nat.le_trans sz15 E16.1
  refine own_by (T' := T16) (f' := (mkF m 14 #[.val (.int i0), .val (.int i1), .val (.int i2), .val (.int i3), .val (.ref b11), .unset, .unset, .unset, .unset, .unset, .unset, .unset, .unset] [(.ref b16), (.ref b16)])) (fun t k => XS.dup X16.here hx rfl (hb hby at_13) rfl rfl k) ?_
  refine own_by (T' := T16) (f' := (mkF m 15 #[.val (.int i0), .val (.int i1), .val (.int i2), .val (.int i3), .val (.ref b11), .unset, .unset, .unset, .unset, .unset, .unset, .unset, .unset] [(.int (0 : Int32)), (.ref b16), (.ref b16)])) (fun t k => XS.iconst X16.here hx rfl (hb hby at_14) k) ?_
  refine own_by (T' := T16) (f' := (mkF m 16 #[.val (.int i0), .val (.int i1), .val (.int i2), .val (.int i3), .val (.ref b11), .unset, .unset, .unset, .unset, .unset, .unset, .unset, .unset] [(.int (0 : Int32)), (.int (0 : Int32)), (.ref b16), (.ref b16)])) (fun t k => XS.iconst X16.here hx rfl (hb hby at_15) k) ?_
  have _ : (0 : Int32).toInt = 0 := by decide
  refine own_stI X16 hx hZ e16 (hb hby at_16) A16 (by first | decide | omega) (by first | decide | omega) ?_
  intro T18 h18 X18 e18 W18 A18
  show own_Go p e below _ T18 (mkF m 17 #[.val (.int i0), .val (.int i1), .val (.int i2), .val (.int i3), .val (.ref b11), .unset, .unset, .unset, .unset, .unset, .unset, .unset, .unset] [(.ref b16)])
  have sz19 : n0 ≤ h18.size := by rw [W18.size]; exact sz17
  have N18 := Fr.snoc X18 N14 gn16
  refine own_by (T' := T18) (f' := (mkF m 18 #[.val (.int i0), .val (.int i1), .val (.int i2), .val (.int i3), .val (.ref b11), .unset, .unset, .unset, .unset, .unset, .unset, .unset, .unset] [(.ref b16), (.ref b16)])) (fun t k => XS.dup X18.here hx rfl (hb hby at_17) rfl rfl k) ?_
  refine own_by (T' := T18) (f' := (mkF m 19 #[.val (.int i0), .val (.int i1), .val (.int i2), .val (.int i3), .val (.ref b11), .unset, .unset, .unset, .unset, .unset, .unset, .unset, .unset] [(.int (1 : Int32)), (.ref b16), (.ref b16)])) (fun t k => XS.iconst X18.here hx rfl (hb hby at_18) k) ?_
  refine own_by (T' := T18) (f' := (mkF m 20 #[.val (.int i0), .val (.int i1), .val (.int i2), .val (.int i3), .val (.ref b11), .unset, .unset, .unset, .unset, .unset, .unset, .unset, .unset] [(.int (1 : Int32)), (.int (1 : Int32)), (.ref b16), (.ref b16)])) (fun t k => XS.iconst X18.here hx rfl (hb hby at_19) k) ?_
  have _ : (1 : Int32).toInt = 1 := by decide
  refine own_stI X18 hx hZ e18 (hb hby at_20) A18 (by first | decide | omega) (by first | decide | omega) ?_
  intro T20 h20 X20 e20 W20 A20
  show own_Go p e below _ T20 (mkF m 21 #[.val (.int i0), .val (.int i1), .val (.int i2), .val (.int i3), .val (.ref b11), .unset, .unset, .unset, .unset, .unset, .unset, .unset, .unset] [(.ref b16)])
  have sz21 : n0 ≤ h20.size := by rw [W20.size]; exact sz19
  have N20 := Fr.snoc X20 N18 gn16
  refine own_by (T' := T20) (f' := (mkF m 22 #[.val (.int i0), .val (.int i1), .val (.int i2), .val (.int i3), .val (.ref b11), .unset, .unset, .unset, .unset, .unset, .unset, .unset, .unset] [(.ref b16), (.ref b16)])) (fun t k => XS.dup X20.here hx rfl (hb hby at_21) rfl rfl k) ?_
  refine own_by (T' := T20) (f' := (mkF m 23 #[.val (.int i0), .val (.int i1), .val (.int i2), .val (.int i3), .val (.ref b11), .unset, .unset, .unset, .unset, .unset, .unset, .unset, .unset] [(.int (2 : Int32)), (.ref b16), (.ref b16)])) (fun t k => XS.iconst X20.here hx rfl (hb hby at_22) k) ?_
  refine own_by (T' := T20) (f' := (mkF m 24 #[.val (.int i0), .val (.int i1), .val (.int i2), .val (.int i3), .val (.ref b11), .unset, .unset, .unset, .unset, .unset, .unset, .unset, .unset] [(.int (2 : Int32)), (.int (2 : Int32)), (.ref b16), (.ref b16)])) (fun t k => XS.iconst X20.here hx rfl (hb hby at_23) k) ?_
  have _ : (2 : Int32).toInt = 2 := by decide
  refine own_stI X20 hx hZ e20 (hb hby at_24) A20 (by first | decide | omega) (by first | decide | omega) ?_
  intro T22 h22 X22 e22 W22 A22
  show own_Go p e below _ T22 (mkF m 25 #[.val (.int i0), .val (.int i1), .val (.int i2), .val (.int i3), .val (.ref b11), .unset, .unset, .unset, .unset, .unset, .unset, .unset, .unset] [(.ref b16)])
  have sz23 : n0 ≤ h22.size := by rw [W22.size]; exact sz21
  have N22 := Fr.snoc X22 N20 gn16
  refine own_by (T' := T22) (f' := (mkF m 26 #[.val (.int i0), .val (.int i1), .val (.int i2), .val (.int i3), .val (.ref b11), .unset, .unset, .unset, .unset, .unset, .unset, .unset, .unset] [(.ref b16), (.ref b16)])) (fun t k => XS.dup X22.here hx rfl (hb hby at_25) rfl rfl k) ?_
  refine own_by (T' := T22) (f' := (mkF m 27 #[.val (.int i0), .val (.int i1), .val (.int i2), .val (.int i3), .val (.ref b11), .unset, .unset, .unset, .unset, .unset, .unset, .unset, .unset] [(.int (3 : Int32)), (.ref b16), (.ref b16)])) (fun t k => XS.iconst X22.here hx rfl (hb hby at_26) k) ?_
  refine own_by (T' := T22) (f' := (mkF m 28 #[.val (.int i0), .val (.int i1), .val (.int i2), .val (.int i3), .val (.ref b11), .unset, .unset, .unset, .unset, .unset, .unset, .unset, .unset] [(.int (3 : Int32)), (.int (3 : Int32)), (.ref b16), (.ref b16)])) (fun t k => XS.iconst X22.here hx rfl (hb hby at_27) k) ?_
  have _ : (3 : Int32).toInt = 3 := by decide
  refine own_stI X22 hx hZ e22 (hb hby at_28) A22 (by first | decide | omega) (by first | decide | omega) ?_
  intro T24 h24 X24 e24 W24 A24
  show own_Go p e below _ T24 (mkF m 29 #[.val (.int i0), .val (.int i1), .val (.int i2), .val (.int i3), .val (.ref b11), .unset, .unset, .unset, .unset, .unset, .unset, .unset, .unset] [(.ref b16)])
  have sz25 : n0 ≤ h24.size := by rw [W24.size]; exact sz23
  have N24 := Fr.snoc X24 N22 gn16
  have A26 : own_A Z h24 b16 .int 4 (own_q [0, 1, 2, 3]) := A24.congr (fun i hi => by match i, hi with | 0, _ => rfl | 1, _ => rfl | 2, _ => rfl | 3, _ => rfl | (q + 4), h => exact absurd h (by omega))
  obtain ⟨st, hst, est⟩ : ∃ st : own_DS, st ∈ own_R ∧ st = ([0, 1, 2, 3], [1, 1, 1, 1], [0, 1, 2, 3]) := ⟨_, own_R0, rfl⟩
  have f27 := (((((AP.ext E16).other W18 ne16_pa).other W20 ne16_pa).other W22 ne16_pa).other W24 ne16_pa)
  have APs : own_A Z h24 pa .int 4 (own_q st.1) := by rw [est]; exact f27
  have f28 := (((((AS.ext E16).other W18 ne16_sa).other W20 ne16_sa).other W22 ne16_sa).other W24 ne16_sa)
  have ASs : own_A Z h24 sa .int 4 (own_q st.2.1) := by rw [est]; exact f28
  have ALs : own_A Z h24 b16 .int 4 (own_q st.2.2) := by rw [est]; exact A26
  refine own_by (T' := T24) (f' := (mkF m 31 #[.val (.int i0), .val (.int i1), .val (.int i2), .val (.int i3), .val (.ref b11), .val (.ref b16), .unset, .unset, .unset, .unset, .unset, .unset, .unset] [])) (fun t k => XS.astore X24.here hx rfl (hb hby at_29) rfl rfl (l' := #[.val (.int i0), .val (.int i1), .val (.int i2), .val (.int i3), .val (.ref b11), .val (.ref b16), .unset, .unset, .unset, .unset, .unset, .unset, .unset]) rfl k) ?_
  refine own_by (T' := T24) (f' := (mkF m 32 #[.val (.int i0), .val (.int i1), .val (.int i2), .val (.int i3), .val (.ref b11), .val (.ref b16), .unset, .unset, .unset, .unset, .unset, .unset, .unset] [(.int (1 : Int32))])) (fun t k => XS.iconst X24.here hx rfl (hb hby at_31) k) ?_
  refine own_by (T' := T24) (f' := (mkF m 34 #[.val (.int i0), .val (.int i1), .val (.int i2), .val (.int i3), .val (.ref b11), .val (.ref b16), .val (.int (1 : Int32)), .unset, .unset, .unset, .unset, .unset, .unset] [])) (fun t k => XS.istore X24.here hx rfl (hb hby at_32) rfl (l' := #[.val (.int i0), .val (.int i1), .val (.int i2), .val (.int i3), .val (.ref b11), .val (.ref b16), .val (.int (1 : Int32)), .unset, .unset, .unset, .unset, .unset, .unset]) rfl k) ?_
  refine own_by (T' := T24) (f' := (mkF m 36 #[.val (.int i0), .val (.int i1), .val (.int i2), .val (.int i3), .val (.ref b11), .val (.ref b16), .val (.int (1 : Int32)), .unset, .unset, .unset, .unset, .unset, .unset] [(.ref b11)])) (fun t k => XS.aload X24.here hx rfl (hb hby at_34) rfl rfl k) ?_
  refine own_by (T' := T24) (f' := (mkF m 38 #[.val (.int i0), .val (.int i1), .val (.int i2), .val (.int i3), .val (.ref b11), .val (.ref b16), .val (.int (1 : Int32)), .unset, .unset, .unset, .unset, .unset, .unset] [(.ref b16), (.ref b11)])) (fun t k => XS.aload X24.here hx rfl (hb hby at_36) rfl rfl k) ?_
  refine own_by (T' := T24) (f' := (mkF m 39 #[.val (.int i0), .val (.int i1), .val (.int i2), .val (.int i3), .val (.ref b11), .val (.ref b16), .val (.int (1 : Int32)), .unset, .unset, .unset, .unset, .unset, .unset] [(.int i0), (.ref b16), (.ref b11)])) (fun t k => XS.iloadN X24.here hx rfl (hb hby at_38) rfl k) ?_
  refine own_by (T' := T24) (f' := (mkF m 40 #[.val (.int i0), .val (.int i1), .val (.int i2), .val (.int i3), .val (.ref b11), .val (.ref b16), .val (.int (1 : Int32)), .unset, .unset, .unset, .unset, .unset, .unset] [(.int (3 : Int32)), (.int i0), (.ref b16), (.ref b11)])) (fun t k => XS.iconst X24.here hx rfl (hb hby at_39) k) ?_
  refine own_by (T' := T24) (f' := (mkF m 41 #[.val (.int i0), .val (.int i1), .val (.int i2), .val (.int i3), .val (.ref b11), .val (.ref b16), .val (.int (1 : Int32)), .unset, .unset, .unset, .unset, .unset, .unset] [(.int (i0 &&& (3 : Int32))), (.ref b16), (.ref b11)])) (fun t k => XS.iand X24.here hx rfl (hb hby at_40) rfl k) ?_
  refine own_by (T' := T24) (f' := (mkF m 42 #[.val (.int i0), .val (.int i1), .val (.int i2), .val (.int i3), .val (.ref b11), .val (.ref b16), .val (.int (1 : Int32)), .unset, .unset, .unset, .unset, .unset, .unset] [(.int i0), (.int (i0 &&& (3 : Int32))), (.ref b16), (.ref b11)])) (fun t k => XS.iloadN X24.here hx rfl (hb hby at_41) rfl k) ?_
  refine own_by (T' := T24) (f' := (mkF m 43 #[.val (.int i0), .val (.int i1), .val (.int i2), .val (.int i3), .val (.ref b11), .val (.ref b16), .val (.int (1 : Int32)), .unset, .unset, .unset, .unset, .unset, .unset] [(.int (2 : Int32)), (.int i0), (.int (i0 &&& (3 : Int32))), (.ref b16), (.ref b11)])) (fun t k => XS.iconst X24.here hx rfl (hb hby at_42) k) ?_
  refine own_by (T' := T24) (f' := (mkF m 44 #[.val (.int i0), .val (.int i1), .val (.int i2), .val (.int i3), .val (.ref b11), .val (.ref b16), .val (.int (1 : Int32)), .unset, .unset, .unset, .unset, .unset, .unset] [(.int ((i0.toUInt32 >>> ((2 : Int32) &&& 31).toUInt32).toInt32)), (.int (i0 &&& (3 : Int32))), (.ref b16), (.ref b11)])) (fun t k => XS.iushr X24.here hx rfl (hb hby at_43) rfl k) ?_
  refine own_by (T' := T24) (f' := (mkF m 45 #[.val (.int i0), .val (.int i1), .val (.int i2), .val (.int i3), .val (.ref b11), .val (.ref b16), .val (.int (1 : Int32)), .unset, .unset, .unset, .unset, .unset, .unset] [(.int (3 : Int32)), (.int ((i0.toUInt32 >>> ((2 : Int32) &&& 31).toUInt32).toInt32)), (.int (i0 &&& (3 : Int32))), (.ref b16), (.ref b11)])) (fun t k => XS.iconst X24.here hx rfl (hb hby at_44) k) ?_
  refine own_by (T' := T24) (f' := (mkF m 46 #[.val (.int i0), .val (.int i1), .val (.int i2), .val (.int i3), .val (.ref b11), .val (.ref b16), .val (.int (1 : Int32)), .unset, .unset, .unset, .unset, .unset, .unset] [(.int (((i0.toUInt32 >>> ((2 : Int32) &&& 31).toUInt32).toInt32) &&& (3 : Int32))), (.int (i0 &&& (3 : Int32))), (.ref b16), (.ref b11)])) (fun t k => XS.iand X24.here hx rfl (hb hby at_45) rfl k) ?_
  obtain ⟨va0, hva0, eva0⟩ := own_m3 i0
  rw [eva0]
  show own_Go p e below _ T24 (mkF m 46 #[.val (.int i0), .val (.int i1), .val (.int i2), .val (.int i3), .val (.ref b11), .val (.ref b16), .val (.int (1 : Int32)), .unset, .unset, .unset, .unset, .unset, .unset] [(.int (((i0.toUInt32 >>> ((2 : Int32) &&& 31).toUInt32).toInt32) &&& (3 : Int32))), (.int (Int32.ofNat va0)), (.ref b16), (.ref b11)])
  obtain ⟨vb0, hvb0, evb0⟩ := own_m3 ((i0.toUInt32 >>> ((2 : Int32) &&& 31).toUInt32).toInt32)
  rw [evb0]
  show own_Go p e below _ T24 (mkF m 46 #[.val (.int i0), .val (.int i1), .val (.int i2), .val (.int i3), .val (.ref b11), .val (.ref b16), .val (.int (1 : Int32)), .unset, .unset, .unset, .unset, .unset, .unset] [(.int (Int32.ofNat vb0)), (.int (Int32.ofNat va0)), (.ref b16), (.ref b11)])
  have R29 : own_gd st va0 vb0 ∧ own_nx st va0 vb0 ∈ own_R := own_Rs st hst ⟨va0, hva0⟩ ⟨vb0, hvb0⟩
  have q30 : ∀ x ∈ [pa, sa, b16], ∃ c : Cell, h24[x]? = some c ∧ c.vm.isStatics = false := (allS (own_nsA APs) (allS (own_nsA ASs) (allS (own_nsA ALs) all0)))
  have f31 := (((((Ed.ext E16).wr W18).wr W20).wr W22).wr W24)
  have f32 := (((((Fp.ext E16).other W18 (Or.inl ne16_b11)).other W20 (Or.inl ne16_b11)).other W22 (Or.inl ne16_b11)).other W24 (Or.inl ne16_b11))
  have f33 := (((((Fs.ext E16).other W18 (Or.inl ne16_b11)).other W20 (Or.inl ne16_b11)).other W22 (Or.inl ne16_b11)).other W24 (Or.inl ne16_b11))
  refine own_callS X24 hx hZ hown e24 (hb hby at_46) [(.ref b11), (.ref b16), (.int (Int32.ofNat va0)), (.int (Int32.ofNat vb0))] [] 0 (rmS l Z a0 hw [] b11 pa sa b16 st va0 vb0 h24 n0 sz25 gn_pa gn_sa nd_pa nd_sa gn16 ne16_b11 ne16_pa ne16_sa nps f31 f32 f33 APs ASs R29.1 ALs ⟨hva0, hvb0⟩) (hw _ (List.mem_of_getElem? (i := 14) rfl)) (hw _ (List.mem_of_getElem? (i := 15) rfl)) (hw _ (List.mem_of_getElem? (i := 16) rfl)) (hw _ (List.mem_of_getElem? (i := 17) rfl)) (by decide) pd__Lcom_example_tollgraph_tollgraph_graph_DisjointSets__III_Z (by rw [hml]; rfl) rfl rfl (Nat.le_of_eq rfl) (by decide) (by decide) (by decide) (by decide) ?_
  rintro T34 _ L34 X34 ⟨rfl, N34q, K34, A34, B34, D34⟩
  show own_Go p e below _ T34 (mkF m 49 #[.val (.int i0), .val (.int i1), .val (.int i2), .val (.int i3), .val (.ref b11), .val (.ref b16), .val (.int (1 : Int32)), .unset, .unset, .unset, .unset, .unset, .unset] [(.int (1 : Int32))])
  have N34 := Fr.app N24 N34q
  have sz35 : n0 ≤ T34.heap.size := Nat.le_trans sz25 K34.1
  obtain ⟨st1, est1⟩ : ∃ z, z = own_nx st va0 vb0 := ⟨_, rfl⟩
  have hst1 : st1 ∈ own_R := by rw [est1]; exact R29.2
  rw [← est1] at A34 B34 D34
  refine own_by (T' := T34) (f' := (mkF m 55 #[.val (.int i0), .val (.int i1), .val (.int i2), .val (.int i3), .val (.ref b11), .val (.ref b16), .val (.int (1 : Int32)), .unset, .unset, .unset, .unset, .unset, .unset] [])) (fun t k => XS.ifYes X34.here hx rfl (pc0 := 49) (pc' := 55) rfl (hb hby at_49) rfl ((if0 _ _).trans (feq (by decide)).2) (by decide) (by decide) k) ?_
  refine own_by (T' := T34) (f' := (mkF m 57 #[.val (.int i0), .val (.int i1), .val (.int i2), .val (.int i3), .val (.ref b11), .val (.ref b16), .val (.int (1 : Int32)), .unset, .unset, .unset, .unset, .unset, .unset] [(.ref b11)])) (fun t k => XS.aload X34.here hx rfl (hb hby at_55) rfl rfl k) ?_
  refine own_by (T' := T34) (f' := (mkF m 59 #[.val (.int i0), .val (.int i1), .val (.int i2), .val (.int i3), .val (.ref b11), .val (.ref b16), .val (.int (1 : Int32)), .unset, .unset, .unset, .unset, .unset, .unset] [(.ref b16), (.ref b11)])) (fun t k => XS.aload X34.here hx rfl (hb hby at_57) rfl rfl k) ?_
  refine own_by (T' := T34) (f' := (mkF m 60 #[.val (.int i0), .val (.int i1), .val (.int i2), .val (.int i3), .val (.ref b11), .val (.ref b16), .val (.int (1 : Int32)), .unset, .unset, .unset, .unset, .unset, .unset] [(.int i1), (.ref b16), (.ref b11)])) (fun t k => XS.iloadN X34.here hx rfl (hb hby at_59) rfl k) ?_
  refine own_by (T' := T34) (f' := (mkF m 61 #[.val (.int i0), .val (.int i1), .val (.int i2), .val (.int i3), .val (.ref b11), .val (.ref b16), .val (.int (1 : Int32)), .unset, .unset, .unset, .unset, .unset, .unset] [(.int (3 : Int32)), (.int i1), (.ref b16), (.ref b11)])) (fun t k => XS.iconst X34.here hx rfl (hb hby at_60) k) ?_
  refine own_by (T' := T34) (f' := (mkF m 62 #[.val (.int i0), .val (.int i1), .val (.int i2), .val (.int i3), .val (.ref b11), .val (.ref b16), .val (.int (1 : Int32)), .unset, .unset, .unset, .unset, .unset, .unset] [(.int (i1 &&& (3 : Int32))), (.ref b16), (.ref b11)])) (fun t k => XS.iand X34.here hx rfl (hb hby at_61) rfl k) ?_
  refine own_by (T' := T34) (f' := (mkF m 63 #[.val (.int i0), .val (.int i1), .val (.int i2), .val (.int i3), .val (.ref b11), .val (.ref b16), .val (.int (1 : Int32)), .unset, .unset, .unset, .unset, .unset, .unset] [(.int i1), (.int (i1 &&& (3 : Int32))), (.ref b16), (.ref b11)])) (fun t k => XS.iloadN X34.here hx rfl (hb hby at_62) rfl k) ?_
  refine own_by (T' := T34) (f' := (mkF m 64 #[.val (.int i0), .val (.int i1), .val (.int i2), .val (.int i3), .val (.ref b11), .val (.ref b16), .val (.int (1 : Int32)), .unset, .unset, .unset, .unset, .unset, .unset] [(.int (2 : Int32)), (.int i1), (.int (i1 &&& (3 : Int32))), (.ref b16), (.ref b11)])) (fun t k => XS.iconst X34.here hx rfl (hb hby at_63) k) ?_
  refine own_by (T' := T34) (f' := (mkF m 65 #[.val (.int i0), .val (.int i1), .val (.int i2), .val (.int i3), .val (.ref b11), .val (.ref b16), .val (.int (1 : Int32)), .unset, .unset, .unset, .unset, .unset, .unset] [(.int ((i1.toUInt32 >>> ((2 : Int32) &&& 31).toUInt32).toInt32)), (.int (i1 &&& (3 : Int32))), (.ref b16), (.ref b11)])) (fun t k => XS.iushr X34.here hx rfl (hb hby at_64) rfl k) ?_
  refine own_by (T' := T34) (f' := (mkF m 66 #[.val (.int i0), .val (.int i1), .val (.int i2), .val (.int i3), .val (.ref b11), .val (.ref b16), .val (.int (1 : Int32)), .unset, .unset, .unset, .unset, .unset, .unset] [(.int (3 : Int32)), (.int ((i1.toUInt32 >>> ((2 : Int32) &&& 31).toUInt32).toInt32)), (.int (i1 &&& (3 : Int32))), (.ref b16), (.ref b11)])) (fun t k => XS.iconst X34.here hx rfl (hb hby at_65) k) ?_
  refine own_by (T' := T34) (f' := (mkF m 67 #[.val (.int i0), .val (.int i1), .val (.int i2), .val (.int i3), .val (.ref b11), .val (.ref b16), .val (.int (1 : Int32)), .unset, .unset, .unset, .unset, .unset, .unset] [(.int (((i1.toUInt32 >>> ((2 : Int32) &&& 31).toUInt32).toInt32) &&& (3 : Int32))), (.int (i1 &&& (3 : Int32))), (.ref b16), (.ref b11)])) (fun t k => XS.iand X34.here hx rfl (hb hby at_66) rfl k) ?_
  obtain ⟨va1, hva1, eva1⟩ := own_m3 i1
  rw [eva1]
  show own_Go p e below _ T34 (mkF m 67 #[.val (.int i0), .val (.int i1), .val (.int i2), .val (.int i3), .val (.ref b11), .val (.ref b16), .val (.int (1 : Int32)), .unset, .unset, .unset, .unset, .unset, .unset] [(.int (((i1.toUInt32 >>> ((2 : Int32) &&& 31).toUInt32).toInt32) &&& (3 : Int32))), (.int (Int32.ofNat va1)), (.ref b16), (.ref b11)])
  obtain ⟨vb1, hvb1, evb1⟩ := own_m3 ((i1.toUInt32 >>> ((2 : Int32) &&& 31).toUInt32).toInt32)
  rw [evb1]
  show own_Go p e below _ T34 (mkF m 67 #[.val (.int i0), .val (.int i1), .val (.int i2), .val (.int i3), .val (.ref b11), .val (.ref b16), .val (.int (1 : Int32)), .unset, .unset, .unset, .unset, .unset, .unset] [(.int (Int32.ofNat vb1)), (.int (Int32.ofNat va1)), (.ref b16), (.ref b11)])
  have R36 : own_gd st1 va1 vb1 ∧ own_nx st1 va1 vb1 ∈ own_R := own_Rs st1 hst1 ⟨va1, hva1⟩ ⟨vb1, hvb1⟩
  have q37 : ∀ x ∈ [pa, sa, b16], ∃ c : Cell, T34.heap[x]? = some c ∧ c.vm.isStatics = false := (allS (own_nsA A34) (allS (own_nsA B34) (allS (own_nsA D34) all0)))
  have f38 := (f31.keep K34)
  have f39 := (f32.keep K34 (ninS nd_pa (ninS nd_sa (ninS ne16_b11 nin0))))
  have f40 := (f33.keep K34 (ninS nd_pa (ninS nd_sa (ninS ne16_b11 nin0))))
  refine own_callS X34 hx hZ hown rfl (hb hby at_67) [(.ref b11), (.ref b16), (.int (Int32.ofNat va1)), (.int (Int32.ofNat vb1))] [] 0 (rmS l Z a0 hw [] b11 pa sa b16 st1 va1 vb1 T34.heap n0 sz35 gn_pa gn_sa nd_pa nd_sa gn16 ne16_b11 ne16_pa ne16_sa nps f38 f39 f40 A34 B34 R36.1 D34 ⟨hva1, hvb1⟩) (hw _ (List.mem_of_getElem? (i := 14) rfl)) (hw _ (List.mem_of_getElem? (i := 15) rfl)) (hw _ (List.mem_of_getElem? (i := 16) rfl)) (hw _ (List.mem_of_getElem? (i := 17) rfl)) (by decide) pd__Lcom_example_tollgraph_tollgraph_graph_DisjointSets__III_Z (by rw [hml]; rfl) rfl rfl (Nat.le_of_eq rfl) (by decide) (by decide) (by decide) (by decide) ?_
  rintro T41 _ L41 X41 ⟨rfl, N41q, K41, A41, B41, D41⟩
  show own_Go p e below _ T41 (mkF m 70 #[.val (.int i0), .val (.int i1), .val (.int i2), .val (.int i3), .val (.ref b11), .val (.ref b16), .val (.int (1 : Int32)), .unset, .unset, .unset, .unset, .unset, .unset] [(.int (1 : Int32))])
  have N41 := Fr.app N34 N41q
  have sz42 : n0 ≤ T41.heap.size := Nat.le_trans sz35 K41.1
  obtain ⟨st2, est2⟩ : ∃ z, z = own_nx st1 va1 vb1 := ⟨_, rfl⟩
  have hst2 : st2 ∈ own_R := by rw [est2]; exact R36.2
  rw [← est2] at A41 B41 D41
  refine own_by (T' := T41) (f' := (mkF m 76 #[.val (.int i0), .val (.int i1), .val (.int i2), .val (.int i3), .val (.ref b11), .val (.ref b16), .val (.int (1 : Int32)), .unset, .unset, .unset, .unset, .unset, .unset] [])) (fun t k => XS.ifYes X41.here hx rfl (pc0 := 70) (pc' := 76) rfl (hb hby at_70) rfl ((if0 _ _).trans (feq (by decide)).2) (by decide) (by decide) k) ?_
  refine own_by (T' := T41) (f' := (mkF m 78 #[.val (.int i0), .val (.int i1), .val (.int i2), .val (.int i3), .val (.ref b11), .val (.ref b16), .val (.int (1 : Int32)), .unset, .unset, .unset, .unset, .unset, .unset] [(.ref b11)])) (fun t k => XS.aload X41.here hx rfl (hb hby at_76) rfl rfl k) ?_
  refine own_by (T' := T41) (f' := (mkF m 80 #[.val (.int i0), .val (.int i1), .val (.int i2), .val (.int i3), .val (.ref b11), .val (.ref b16), .val (.int (1 : Int32)), .unset, .unset, .unset, .unset, .unset, .unset] [(.ref b16), (.ref b11)])) (fun t k => XS.aload X41.here hx rfl (hb hby at_78) rfl rfl k) ?_
  refine own_by (T' := T41) (f' := (mkF m 81 #[.val (.int i0), .val (.int i1), .val (.int i2), .val (.int i3), .val (.ref b11), .val (.ref b16), .val (.int (1 : Int32)), .unset, .unset, .unset, .unset, .unset, .unset] [(.int i2), (.ref b16), (.ref b11)])) (fun t k => XS.iloadN X41.here hx rfl (hb hby at_80) rfl k) ?_
  refine own_by (T' := T41) (f' := (mkF m 82 #[.val (.int i0), .val (.int i1), .val (.int i2), .val (.int i3), .val (.ref b11), .val (.ref b16), .val (.int (1 : Int32)), .unset, .unset, .unset, .unset, .unset, .unset] [(.int (3 : Int32)), (.int i2), (.ref b16), (.ref b11)])) (fun t k => XS.iconst X41.here hx rfl (hb hby at_81) k) ?_
  refine own_by (T' := T41) (f' := (mkF m 83 #[.val (.int i0), .val (.int i1), .val (.int i2), .val (.int i3), .val (.ref b11), .val (.ref b16), .val (.int (1 : Int32)), .unset, .unset, .unset, .unset, .unset, .unset] [(.int (i2 &&& (3 : Int32))), (.ref b16), (.ref b11)])) (fun t k => XS.iand X41.here hx rfl (hb hby at_82) rfl k) ?_
  refine own_by (T' := T41) (f' := (mkF m 84 #[.val (.int i0), .val (.int i1), .val (.int i2), .val (.int i3), .val (.ref b11), .val (.ref b16), .val (.int (1 : Int32)), .unset, .unset, .unset, .unset, .unset, .unset] [(.int i2), (.int (i2 &&& (3 : Int32))), (.ref b16), (.ref b11)])) (fun t k => XS.iloadN X41.here hx rfl (hb hby at_83) rfl k) ?_
  refine own_by (T' := T41) (f' := (mkF m 85 #[.val (.int i0), .val (.int i1), .val (.int i2), .val (.int i3), .val (.ref b11), .val (.ref b16), .val (.int (1 : Int32)), .unset, .unset, .unset, .unset, .unset, .unset] [(.int (2 : Int32)), (.int i2), (.int (i2 &&& (3 : Int32))), (.ref b16), (.ref b11)])) (fun t k => XS.iconst X41.here hx rfl (hb hby at_84) k) ?_
  refine own_by (T' := T41) (f' := (mkF m 86 #[.val (.int i0), .val (.int i1), .val (.int i2), .val (.int i3), .val (.ref b11), .val (.ref b16), .val (.int (1 : Int32)), .unset, .unset, .unset, .unset, .unset, .unset] [(.int ((i2.toUInt32 >>> ((2 : Int32) &&& 31).toUInt32).toInt32)), (.int (i2 &&& (3 : Int32))), (.ref b16), (.ref b11)])) (fun t k => XS.iushr X41.here hx rfl (hb hby at_85) rfl k) ?_
  refine own_by (T' := T41) (f' := (mkF m 87 #[.val (.int i0), .val (.int i1), .val (.int i2), .val (.int i3), .val (.ref b11), .val (.ref b16), .val (.int (1 : Int32)), .unset, .unset, .unset, .unset, .unset, .unset] [(.int (3 : Int32)), (.int ((i2.toUInt32 >>> ((2 : Int32) &&& 31).toUInt32).toInt32)), (.int (i2 &&& (3 : Int32))), (.ref b16), (.ref b11)])) (fun t k => XS.iconst X41.here hx rfl (hb hby at_86) k) ?_
  refine own_by (T' := T41) (f' := (mkF m 88 #[.val (.int i0), .val (.int i1), .val (.int i2), .val (.int i3), .val (.ref b11), .val (.ref b16), .val (.int (1 : Int32)), .unset, .unset, .unset, .unset, .unset, .unset] [(.int (((i2.toUInt32 >>> ((2 : Int32) &&& 31).toUInt32).toInt32) &&& (3 : Int32))), (.int (i2 &&& (3 : Int32))), (.ref b16), (.ref b11)])) (fun t k => XS.iand X41.here hx rfl (hb hby at_87) rfl k) ?_
  obtain ⟨va2, hva2, eva2⟩ := own_m3 i2
  rw [eva2]
  show own_Go p e below _ T41 (mkF m 88 #[.val (.int i0), .val (.int i1), .val (.int i2), .val (.int i3), .val (.ref b11), .val (.ref b16), .val (.int (1 : Int32)), .unset, .unset, .unset, .unset, .unset, .unset] [(.int (((i2.toUInt32 >>> ((2 : Int32) &&& 31).toUInt32).toInt32) &&& (3 : Int32))), (.int (Int32.ofNat va2)), (.ref b16), (.ref b11)])
  obtain ⟨vb2, hvb2, evb2⟩ := own_m3 ((i2.toUInt32 >>> ((2 : Int32) &&& 31).toUInt32).toInt32)
  rw [evb2]
  show own_Go p e below _ T41 (mkF m 88 #[.val (.int i0), .val (.int i1), .val (.int i2), .val (.int i3), .val (.ref b11), .val (.ref b16), .val (.int (1 : Int32)), .unset, .unset, .unset, .unset, .unset, .unset] [(.int (Int32.ofNat vb2)), (.int (Int32.ofNat va2)), (.ref b16), (.ref b11)])
  have R43 : own_gd st2 va2 vb2 ∧ own_nx st2 va2 vb2 ∈ own_R := own_Rs st2 hst2 ⟨va2, hva2⟩ ⟨vb2, hvb2⟩
  have q44 : ∀ x ∈ [pa, sa, b16], ∃ c : Cell, T41.heap[x]? = some c ∧ c.vm.isStatics = false := (allS (own_nsA A41) (allS (own_nsA B41) (allS (own_nsA D41) all0)))
  have f45 := (f38.keep K41)
  have f46 := (f39.keep K41 (ninS nd_pa (ninS nd_sa (ninS ne16_b11 nin0))))
  have f47 := (f40.keep K41 (ninS nd_pa (ninS nd_sa (ninS ne16_b11 nin0))))
  refine own_callS X41 hx hZ hown rfl (hb hby at_88) [(.ref b11), (.ref b16), (.int (Int32.ofNat va2)), (.int (Int32.ofNat vb2))] [] 0 (rmS l Z a0 hw [] b11 pa sa b16 st2 va2 vb2 T41.heap n0 sz42 gn_pa gn_sa nd_pa nd_sa gn16 ne16_b11 ne16_pa ne16_sa nps f45 f46 f47 A41 B41 R43.1 D41 ⟨hva2, hvb2⟩) (hw _ (List.mem_of_getElem? (i := 14) rfl)) (hw _ (List.mem_of_getElem? (i := 15) rfl)) (hw _ (List.mem_of_getElem? (i := 16) rfl)) (hw _ (List.mem_of_getElem? (i := 17) rfl)) (by decide) pd__Lcom_example_tollgraph_tollgraph_graph_DisjointSets__III_Z (by rw [hml]; rfl) rfl rfl (Nat.le_of_eq rfl) (by decide) (by decide) (by decide) (by decide) ?_
  rintro T48 _ L48 X48 ⟨rfl, N48q, K48, A48, B48, D48⟩
  show own_Go p e below _ T48 (mkF m 91 #[.val (.int i0), .val (.int i1), .val (.int i2), .val (.int i3), .val (.ref b11), .val (.ref b16), .val (.int (1 : Int32)), .unset, .unset, .unset, .unset, .unset, .unset] [(.int (1 : Int32))])
  have N48 := Fr.app N41 N48q
  have sz49 : n0 ≤ T48.heap.size := Nat.le_trans sz42 K48.1
  obtain ⟨st3, est3⟩ : ∃ z, z = own_nx st2 va2 vb2 := ⟨_, rfl⟩
  have hst3 : st3 ∈ own_R := by rw [est3]; exact R43.2
  rw [← est3] at A48 B48 D48
  refine own_by (T' := T48) (f' := (mkF m 97 #[.val (.int i0), .val (.int i1), .val (.int i2), .val (.int i3), .val (.ref b11), .val (.ref b16), .val (.int (1 : Int32)), .unset, .unset, .unset, .unset, .unset, .unset] [])) (fun t k => XS.ifYes X48.here hx rfl (pc0 := 91) (pc' := 97) rfl (hb hby at_91) rfl ((if0 _ _).trans (feq (by decide)).2) (by decide) (by decide) k) ?_
  refine own_by (T' := T48) (f' := (mkF m 98 #[.val (.int i0), .val (.int i1), .val (.int i2), .val (.int i3), .val (.ref b11), .val (.ref b16), .val (.int (1 : Int32)), .unset, .unset, .unset, .unset, .unset, .unset] [(.int i3)])) (fun t k => XS.iloadN X48.here hx rfl (hb hby at_97) rfl k) ?_
  refine own_by (T' := T48) (f' := (mkF m 99 #[.val (.int i0), .val (.int i1), .val (.int i2), .val (.int i3), .val (.ref b11), .val (.ref b16), .val (.int (1 : Int32)), .unset, .unset, .unset, .unset, .unset, .unset] [(.int (3 : Int32)), (.int i3)])) (fun t k => XS.iconst X48.here hx rfl (hb hby at_98) k) ?_
  refine own_by (T' := T48) (f' := (mkF m 100 #[.val (.int i0), .val (.int i1), .val (.int i2), .val (.int i3), .val (.ref b11), .val (.ref b16), .val (.int (1 : Int32)), .unset, .unset, .unset, .unset, .unset, .unset] [(.int (i3 &&& (3 : Int32)))])) (fun t k => XS.iand X48.here hx rfl (hb hby at_99) rfl k) ?_
  obtain ⟨vx, hvx, evx⟩ := own_m3 i3
  rw [evx]
  show own_Go p e below _ T48 (mkF m 100 #[.val (.int i0), .val (.int i1), .val (.int i2), .val (.int i3), .val (.ref b11), .val (.ref b16), .val (.int (1 : Int32)), .unset, .unset, .unset, .unset, .unset, .unset] [(.int (Int32.ofNat vx))])
  refine own_by (T' := T48) (f' := (mkF m 102 #[.val (.int i0), .val (.int i1), .val (.int i2), .val (.int i3), .val (.ref b11), .val (.ref b16), .val (.int (1 : Int32)), .val (.int (Int32.ofNat vx)), .unset, .unset, .unset, .unset, .unset] [])) (fun t k => XS.istore X48.here hx rfl (hb hby at_100) rfl (l' := #[.val (.int i0), .val (.int i1), .val (.int i2), .val (.int i3), .val (.ref b11), .val (.ref b16), .val (.int (1 : Int32)), .val (.int (Int32.ofNat vx)), .unset, .unset, .unset, .unset, .unset]) rfl k) ?_
  refine own_by (T' := T48) (f' := (mkF m 103 #[.val (.int i0), .val (.int i1), .val (.int i2), .val (.int i3), .val (.ref b11), .val (.ref b16), .val (.int (1 : Int32)), .val (.int (Int32.ofNat vx)), .unset, .unset, .unset, .unset, .unset] [(.int i3)])) (fun t k => XS.iloadN X48.here hx rfl (hb hby at_102) rfl k) ?_
  refine own_by (T' := T48) (f' := (mkF m 104 #[.val (.int i0), .val (.int i1), .val (.int i2), .val (.int i3), .val (.ref b11), .val (.ref b16), .val (.int (1 : Int32)), .val (.int (Int32.ofNat vx)), .unset, .unset, .unset, .unset, .unset] [(.int (2 : Int32)), (.int i3)])) (fun t k => XS.iconst X48.here hx rfl (hb hby at_103) k) ?_
  refine own_by (T' := T48) (f' := (mkF m 105 #[.val (.int i0), .val (.int i1), .val (.int i2), .val (.int i3), .val (.ref b11), .val (.ref b16), .val (.int (1 : Int32)), .val (.int (Int32.ofNat vx)), .unset, .unset, .unset, .unset, .unset] [(.int ((i3.toUInt32 >>> ((2 : Int32) &&& 31).toUInt32).toInt32))])) (fun t k => XS.iushr X48.here hx rfl (hb hby at_104) rfl k) ?_
  refine own_by (T' := T48) (f' := (mkF m 106 #[.val (.int i0), .val (.int i1), .val (.int i2), .val (.int i3), .val (.ref b11), .val (.ref b16), .val (.int (1 : Int32)), .val (.int (Int32.ofNat vx)), .unset, .unset, .unset, .unset, .unset] [(.int (3 : Int32)), (.int ((i3.toUInt32 >>> ((2 : Int32) &&& 31).toUInt32).toInt32))])) (fun t k => XS.iconst X48.here hx rfl (hb hby at_105) k) ?_
  refine own_by (T' := T48) (f' := (mkF m 107 #[.val (.int i0), .val (.int i1), .val (.int i2), .val (.int i3), .val (.ref b11), .val (.ref b16), .val (.int (1 : Int32)), .val (.int (Int32.ofNat vx)), .unset, .unset, .unset, .unset, .unset] [(.int (((i3.toUInt32 >>> ((2 : Int32) &&& 31).toUInt32).toInt32) &&& (3 : Int32)))])) (fun t k => XS.iand X48.here hx rfl (hb hby at_106) rfl k) ?_
  obtain ⟨vy, hvy, evy⟩ := own_m3 ((i3.toUInt32 >>> ((2 : Int32) &&& 31).toUInt32).toInt32)
  rw [evy]
  show own_Go p e below _ T48 (mkF m 107 #[.val (.int i0), .val (.int i1), .val (.int i2), .val (.int i3), .val (.ref b11), .val (.ref b16), .val (.int (1 : Int32)), .val (.int (Int32.ofNat vx)), .unset, .unset, .unset, .unset, .unset] [(.int (Int32.ofNat vy))])
  have hRf : own_fin st3 vx vy := own_Rf st3 hst3 ⟨vx, hvx⟩ ⟨vy, hvy⟩
  obtain ⟨f1, f2, f3, f4, f5, f6, f7, f8, f9, f10, f11, f12⟩ := hRf
  have _ : (Int32.ofNat vx).toInt = ((vx : Nat) : Int) := own_oi (by omega)
  have _ : (Int32.ofNat vy).toInt = ((vy : Nat) : Int) := own_oi (by omega)
  have _ : (Int32.ofNat (own_F1 st3 vx).2).toInt = (((own_F1 st3 vx).2 : Nat) : Int) := own_oi (by omega)
  have _ : (Int32.ofNat (own_F2 st3 vx vy).2).toInt = (((own_F2 st3 vx vy).2 : Nat) : Int) := own_oi (by omega)
  have hL0 : List.getD st3.2.2 vx 0 < 1000 := Nat.lt_trans (f9 ⟨vx, by omega⟩) (by decide)
  have hL1 : List.getD st3.2.2 vy 0 < 1000 := Nat.lt_trans (f9 ⟨vy, by omega⟩) (by decide)
  have hL2 : List.getD st3.2.2 (own_F1 st3 vx).2 0 < 1000 := Nat.lt_trans (f9 ⟨(own_F1 st3 vx).2, by omega⟩) (by decide)
  have hL3 : List.getD st3.2.2 (own_F2 st3 vx vy).2 0 < 1000 := Nat.lt_trans (f9 ⟨(own_F2 st3 vx vy).2, by omega⟩) (by decide)
  refine own_by (T' := T48) (f' := (mkF m 109 #[.val (.int i0), .val (.int i1), .val (.int i2), .val (.int i3), .val (.ref b11), .val (.ref b16), .val (.int (1 : Int32)), .val (.int (Int32.ofNat vx)), .val (.int (Int32.ofNat vy)), .unset, .unset, .unset, .unset] [])) (fun t k => XS.istore X48.here hx rfl (hb hby at_107) rfl (l' := #[.val (.int i0), .val (.int i1), .val (.int i2), .val (.int i3), .val (.ref b11), .val (.ref b16), .val (.int (1 : Int32)), .val (.int (Int32.ofNat vx)), .val (.int (Int32.ofNat vy)), .unset, .unset, .unset, .unset]) rfl k) ?_
  refine own_by (T' := T48) (f' := (mkF m 111 #[.val (.int i0), .val (.int i1), .val (.int i2), .val (.int i3), .val (.ref b11), .val (.ref b16), .val (.int (1 : Int32)), .val (.int (Int32.ofNat vx)), .val (.int (Int32.ofNat vy)), .unset, .unset, .unset, .unset] [(.ref b11)])) (fun t k => XS.aload X48.here hx rfl (hb hby at_109) rfl rfl k) ?_
  refine own_by (T' := T48) (f' := (mkF m 113 #[.val (.int i0), .val (.int i1), .val (.int i2), .val (.int i3), .val (.ref b11), .val (.ref b16), .val (.int (1 : Int32)), .val (.int (Int32.ofNat vx)), .val (.int (Int32.ofNat vy)), .unset, .unset, .unset, .unset] [(.int (Int32.ofNat vx)), (.ref b11)])) (fun t k => XS.iload X48.here hx rfl (hb hby at_111) rfl k) ?_
  have q50 : ∀ x ∈ [pa], ∃ c : Cell, T48.heap[x]? = some c ∧ c.vm.isStatics = false := (allS (own_nsA A48) all0)
  have f51 := (f45.keep K48)
  have f52 := (f46.keep K48 (ninS nd_pa (ninS nd_sa (ninS ne16_b11 nin0))))
  refine own_callV X48 hx hZ hown rfl (hb hby at_113) [(.int (Int32.ofNat vx))] [] 0 (rmF l Z a0 hw [] b11 pa st3.1 vx T48.heap n0 sz49 gn_pa nd_pa f51 f52 A48 f1) f51 (hw _ (List.mem_of_getElem? (i := 31) rfl)) (hw _ (List.mem_of_getElem? (i := 24) rfl)) (notFace_of_selects (args := #[]) (mvT hZ (hw _ (List.mem_of_getElem? (i := 26) rfl)))) (hw _ (List.mem_of_getElem? (i := 26) rfl)) (hw _ (List.mem_of_getElem? (i := 25) rfl)) (hw _ (List.mem_of_getElem? (i := 2) rfl)) (hw _ (List.mem_of_getElem? (i := 27) rfl)) (by decide) pd__I_I (by rw [hml]; rfl) rfl rfl (Nat.le_of_eq rfl) (by decide) (by decide) (by decide) (by decide) ?_
  rintro T53 _ L53 X53 ⟨rfl, N53q, K53, A53⟩
  show own_Go p e below _ T53 (mkF m 116 #[.val (.int i0), .val (.int i1), .val (.int i2), .val (.int i3), .val (.ref b11), .val (.ref b16), .val (.int (1 : Int32)), .val (.int (Int32.ofNat vx)), .val (.int (Int32.ofNat vy)), .unset, .unset, .unset, .unset] [(.int (Int32.ofNat (own_F1 st3 vx).2))])
  have N53 := Fr.app N48 N53q
  have sz54 : n0 ≤ T53.heap.size := Nat.le_trans sz49 K53.1
  refine own_by (T' := T53) (f' := (mkF m 118 #[.val (.int i0), .val (.int i1), .val (.int i2), .val (.int i3), .val (.ref b11), .val (.ref b16), .val (.int (1 : Int32)), .val (.int (Int32.ofNat vx)), .val (.int (Int32.ofNat vy)), .val (.int (Int32.ofNat (own_F1 st3 vx).2)), .unset, .unset, .unset] [])) (fun t k => XS.istore X53.here hx rfl (hb hby at_116) rfl (l' := #[.val (.int i0), .val (.int i1), .val (.int i2), .val (.int i3), .val (.ref b11), .val (.ref b16), .val (.int (1 : Int32)), .val (.int (Int32.ofNat vx)), .val (.int (Int32.ofNat vy)), .val (.int (Int32.ofNat (own_F1 st3 vx).2)), .unset, .unset, .unset]) rfl k) ?_
  refine own_by (T' := T53) (f' := (mkF m 120 #[.val (.int i0), .val (.int i1), .val (.int i2), .val (.int i3), .val (.ref b11), .val (.ref b16), .val (.int (1 : Int32)), .val (.int (Int32.ofNat vx)), .val (.int (Int32.ofNat vy)), .val (.int (Int32.ofNat (own_F1 st3 vx).2)), .unset, .unset, .unset] [(.ref b11)])) (fun t k => XS.aload X53.here hx rfl (hb hby at_118) rfl rfl k) ?_
  refine own_by (T' := T53) (f' := (mkF m 122 #[.val (.int i0), .val (.int i1), .val (.int i2), .val (.int i3), .val (.ref b11), .val (.ref b16), .val (.int (1 : Int32)), .val (.int (Int32.ofNat vx)), .val (.int (Int32.ofNat vy)), .val (.int (Int32.ofNat (own_F1 st3 vx).2)), .unset, .unset, .unset] [(.int (Int32.ofNat vy)), (.ref b11)])) (fun t k => XS.iload X53.here hx rfl (hb hby at_120) rfl k) ?_
  have q55 : ∀ x ∈ [pa], ∃ c : Cell, T53.heap[x]? = some c ∧ c.vm.isStatics = false := (allS (own_nsA A53) all0)
  have f56 := (f51.keep K53)
  have f57 := (f52.keep K53 (ninS nd_pa nin0))
  refine own_callV X53 hx hZ hown rfl (hb hby at_122) [(.int (Int32.ofNat vy))] [] 0 (rmF l Z a0 hw [] b11 pa (own_F1 st3 vx).1 vy T53.heap n0 sz54 gn_pa nd_pa f56 f57 A53 f2) f56 (hw _ (List.mem_of_getElem? (i := 31) rfl)) (hw _ (List.mem_of_getElem? (i := 24) rfl)) (notFace_of_selects (args := #[]) (mvT hZ (hw _ (List.mem_of_getElem? (i := 26) rfl)))) (hw _ (List.mem_of_getElem? (i := 26) rfl)) (hw _ (List.mem_of_getElem? (i := 25) rfl)) (hw _ (List.mem_of_getElem? (i := 2) rfl)) (hw _ (List.mem_of_getElem? (i := 27) rfl)) (by decide) pd__I_I (by rw [hml]; rfl) rfl rfl (Nat.le_of_eq rfl) (by decide) (by decide) (by decide) (by decide) ?_
  rintro T58 _ L58 X58 ⟨rfl, N58q, K58, A58⟩
  show own_Go p e below _ T58 (mkF m 125 #[.val (.int i0), .val (.int i1), .val (.int i2), .val (.int i3), .val (.ref b11), .val (.ref b16), .val (.int (1 : Int32)), .val (.int (Int32.ofNat vx)), .val (.int (Int32.ofNat vy)), .val (.int (Int32.ofNat (own_F1 st3 vx).2)), .unset, .unset, .unset] [(.int (Int32.ofNat (own_F2 st3 vx vy).2))])
  have N58 := Fr.app N53 N58q
  have sz59 : n0 ≤ T58.heap.size := Nat.le_trans sz54 K58.1
  refine own_by (T' := T58) (f' := (mkF m 127 #[.val (.int i0), .val (.int i1), .val (.int i2), .val (.int i3), .val (.ref b11), .val (.ref b16), .val (.int (1 : Int32)), .val (.int (Int32.ofNat vx)), .val (.int (Int32.ofNat vy)), .val (.int (Int32.ofNat (own_F1 st3 vx).2)), .val (.int (Int32.ofNat (own_F2 st3 vx vy).2)), .unset, .unset] [])) (fun t k => XS.istore X58.here hx rfl (hb hby at_125) rfl (l' := #[.val (.int i0), .val (.int i1), .val (.int i2), .val (.int i3), .val (.ref b11), .val (.ref b16), .val (.int (1 : Int32)), .val (.int (Int32.ofNat vx)), .val (.int (Int32.ofNat vy)), .val (.int (Int32.ofNat (own_F1 st3 vx).2)), .val (.int (Int32.ofNat (own_F2 st3 vx vy).2)), .unset, .unset]) rfl k) ?_
  refine own_by (T' := T58) (f' := (mkF m 129 #[.val (.int i0), .val (.int i1), .val (.int i2), .val (.int i3), .val (.ref b11), .val (.ref b16), .val (.int (1 : Int32)), .val (.int (Int32.ofNat vx)), .val (.int (Int32.ofNat vy)), .val (.int (Int32.ofNat (own_F1 st3 vx).2)), .val (.int (Int32.ofNat (own_F2 st3 vx vy).2)), .unset, .unset] [(.int (Int32.ofNat (own_F1 st3 vx).2))])) (fun t k => XS.iload X58.here hx rfl (hb hby at_127) rfl k) ?_
  have hc129_60 : ¬ ((Int32.ofNat (own_F1 st3 vx).2) < (0 : Int32)) := (by rw [Int32.lt_iff_toInt_lt]; have _ : (0 : Int32).toInt = 0 := (by decide); have _ : (3 : Int32).toInt = 3 := (by decide); omega)
  refine own_by (T' := T58) (f' := (mkF m 132 #[.val (.int i0), .val (.int i1), .val (.int i2), .val (.int i3), .val (.ref b11), .val (.ref b16), .val (.int (1 : Int32)), .val (.int (Int32.ofNat vx)), .val (.int (Int32.ofNat vy)), .val (.int (Int32.ofNat (own_F1 st3 vx).2)), .val (.int (Int32.ofNat (own_F2 st3 vx vy).2)), .unset, .unset] [])) (fun t k => XS.ifNo X58.here hx rfl (hb hby at_129) rfl ((if0 _ _).trans (flt hc129_60).1) k) ?_
  refine own_by (T' := T58) (f' := (mkF m 134 #[.val (.int i0), .val (.int i1), .val (.int i2), .val (.int i3), .val (.ref b11), .val (.ref b16), .val (.int (1 : Int32)), .val (.int (Int32.ofNat vx)), .val (.int (Int32.ofNat vy)), .val (.int (Int32.ofNat (own_F1 st3 vx).2)), .val (.int (Int32.ofNat (own_F2 st3 vx vy).2)), .unset, .unset] [(.int (Int32.ofNat (own_F1 st3 vx).2))])) (fun t k => XS.iload X58.here hx rfl (hb hby at_132) rfl k) ?_
  refine own_by (T' := T58) (f' := (mkF m 135 #[.val (.int i0), .val (.int i1), .val (.int i2), .val (.int i3), .val (.ref b11), .val (.ref b16), .val (.int (1 : Int32)), .val (.int (Int32.ofNat vx)), .val (.int (Int32.ofNat vy)), .val (.int (Int32.ofNat (own_F1 st3 vx).2)), .val (.int (Int32.ofNat (own_F2 st3 vx vy).2)), .unset, .unset] [(.int (3 : Int32)), (.int (Int32.ofNat (own_F1 st3 vx).2))])) (fun t k => XS.iconst X58.here hx rfl (hb hby at_134) k) ?_
  have hc135_61 : ¬ ((3 : Int32) < (Int32.ofNat (own_F1 st3 vx).2)) := (by rw [Int32.lt_iff_toInt_lt]; have _ : (0 : Int32).toInt = 0 := (by decide); have _ : (3 : Int32).toInt = 3 := (by decide); omega)
  refine own_by (T' := T58) (f' := (mkF m 138 #[.val (.int i0), .val (.int i1), .val (.int i2), .val (.int i3), .val (.ref b11), .val (.ref b16), .val (.int (1 : Int32)), .val (.int (Int32.ofNat vx)), .val (.int (Int32.ofNat vy)), .val (.int (Int32.ofNat (own_F1 st3 vx).2)), .val (.int (Int32.ofNat (own_F2 st3 vx vy).2)), .unset, .unset] [])) (fun t k => XS.icmpNo X58.here hx rfl (hb hby at_135) rfl (flt hc135_61).2.2.1 k) ?_
  refine own_by (T' := T58) (f' := (mkF m 140 #[.val (.int i0), .val (.int i1), .val (.int i2), .val (.int i3), .val (.ref b11), .val (.ref b16), .val (.int (1 : Int32)), .val (.int (Int32.ofNat vx)), .val (.int (Int32.ofNat vy)), .val (.int (Int32.ofNat (own_F1 st3 vx).2)), .val (.int (Int32.ofNat (own_F2 st3 vx vy).2)), .unset, .unset] [(.int (Int32.ofNat (own_F2 st3 vx vy).2))])) (fun t k => XS.iload X58.here hx rfl (hb hby at_138) rfl k) ?_
  have hc140_62 : ¬ ((Int32.ofNat (own_F2 st3 vx vy).2) < (0 : Int32)) := (by rw [Int32.lt_iff_toInt_lt]; have _ : (0 : Int32).toInt = 0 := (by decide); have _ : (3 : Int32).toInt = 3 := (by decide); omega)
  refine own_by (T' := T58) (f' := (mkF m 143 #[.val (.int i0), .val (.int i1), .val (.int i2), .val (.int i3), .val (.ref b11), .val (.ref b16), .val (.int (1 : Int32)), .val (.int (Int32.ofNat vx)), .val (.int (Int32.ofNat vy)), .val (.int (Int32.ofNat (own_F1 st3 vx).2)), .val (.int (Int32.ofNat (own_F2 st3 vx vy).2)), .unset, .unset] [])) (fun t k => XS.ifNo X58.here hx rfl (hb hby at_140) rfl ((if0 _ _).trans (flt hc140_62).1) k) ?_
  refine own_by (T' := T58) (f' := (mkF m 145 #[.val (.int i0), .val (.int i1), .val (.int i2), .val (.int i3), .val (.ref b11), .val (.ref b16), .val (.int (1 : Int32)), .val (.int (Int32.ofNat vx)), .val (.int (Int32.ofNat vy)), .val (.int (Int32.ofNat (own_F1 st3 vx).2)), .val (.int (Int32.ofNat (own_F2 st3 vx vy).2)), .unset, .unset] [(.int (Int32.ofNat (own_F2 st3 vx vy).2))])) (fun t k => XS.iload X58.here hx rfl (hb hby at_143) rfl k) ?_
  refine own_by (T' := T58) (f' := (mkF m 146 #[.val (.int i0), .val (.int i1), .val (.int i2), .val (.int i3), .val (.ref b11), .val (.ref b16), .val (.int (1 : Int32)), .val (.int (Int32.ofNat vx)), .val (.int (Int32.ofNat vy)), .val (.int (Int32.ofNat (own_F1 st3 vx).2)), .val (.int (Int32.ofNat (own_F2 st3 vx vy).2)), .unset, .unset] [(.int (3 : Int32)), (.int (Int32.ofNat (own_F2 st3 vx vy).2))])) (fun t k => XS.iconst X58.here hx rfl (hb hby at_145) k) ?_
  have hc146_63 : ¬ ((3 : Int32) < (Int32.ofNat (own_F2 st3 vx vy).2)) := (by rw [Int32.lt_iff_toInt_lt]; have _ : (0 : Int32).toInt = 0 := (by decide); have _ : (3 : Int32).toInt = 3 := (by decide); omega)
  refine own_by (T' := T58) (f' := (mkF m 151 #[.val (.int i0), .val (.int i1), .val (.int i2), .val (.int i3), .val (.ref b11), .val (.ref b16), .val (.int (1 : Int32)), .val (.int (Int32.ofNat vx)), .val (.int (Int32.ofNat vy)), .val (.int (Int32.ofNat (own_F1 st3 vx).2)), .val (.int (Int32.ofNat (own_F2 st3 vx vy).2)), .unset, .unset] [])) (fun t k => XS.icmpYes X58.here hx rfl (pc0 := 146) (pc' := 151) rfl (hb hby at_146) rfl (flt hc146_63).2.2.2 (by decide) (by decide) k) ?_
  refine own_by (T' := T58) (f' := (mkF m 153 #[.val (.int i0), .val (.int i1), .val (.int i2), .val (.int i3), .val (.ref b11), .val (.ref b16), .val (.int (1 : Int32)), .val (.int (Int32.ofNat vx)), .val (.int (Int32.ofNat vy)), .val (.int (Int32.ofNat (own_F1 st3 vx).2)), .val (.int (Int32.ofNat (own_F2 st3 vx vy).2)), .unset, .unset] [(.ref b11)])) (fun t k => XS.aload X58.here hx rfl (hb hby at_151) rfl rfl k) ?_
  refine own_by (T' := T58) (f' := (mkF m 155 #[.val (.int i0), .val (.int i1), .val (.int i2), .val (.int i3), .val (.ref b11), .val (.ref b16), .val (.int (1 : Int32)), .val (.int (Int32.ofNat vx)), .val (.int (Int32.ofNat vy)), .val (.int (Int32.ofNat (own_F1 st3 vx).2)), .val (.int (Int32.ofNat (own_F2 st3 vx vy).2)), .unset, .unset] [(.int (Int32.ofNat (own_F1 st3 vx).2)), (.ref b11)])) (fun t k => XS.iload X58.here hx rfl (hb hby at_153) rfl k) ?_
  have q64 : ∀ x ∈ [pa], ∃ c : Cell, T58.heap[x]? = some c ∧ c.vm.isStatics = false := (allS (own_nsA A58) all0)
  have f65 := (f56.keep K58)
  have f66 := (f57.keep K58 (ninS nd_pa nin0))
  refine own_callV X58 hx hZ hown rfl (hb hby at_155) [(.int (Int32.ofNat (own_F1 st3 vx).2))] [] 0 (rmF l Z a0 hw [] b11 pa (own_F2 st3 vx vy).1 (own_F1 st3 vx).2 T58.heap n0 sz59 gn_pa nd_pa f65 f66 A58 f3) f65 (hw _ (List.mem_of_getElem? (i := 31) rfl)) (hw _ (List.mem_of_getElem? (i := 24) rfl)) (notFace_of_selects (args := #[]) (mvT hZ (hw _ (List.mem_of_getElem? (i := 26) rfl)))) (hw _ (List.mem_of_getElem? (i := 26) rfl)) (hw _ (List.mem_of_getElem? (i := 25) rfl)) (hw _ (List.mem_of_getElem? (i := 2) rfl)) (hw _ (List.mem_of_getElem? (i := 27) rfl)) (by decide) pd__I_I (by rw [hml]; rfl) rfl rfl (Nat.le_of_eq rfl) (by decide) (by decide) (by decide) (by decide) ?_
  rintro T67 _ L67 X67 ⟨rfl, N67q, K67, A67⟩
  show own_Go p e below _ T67 (mkF m 158 #[.val (.int i0), .val (.int i1), .val (.int i2), .val (.int i3), .val (.ref b11), .val (.ref b16), .val (.int (1 : Int32)), .val (.int (Int32.ofNat vx)), .val (.int (Int32.ofNat vy)), .val (.int (Int32.ofNat (own_F1 st3 vx).2)), .val (.int (Int32.ofNat (own_F2 st3 vx vy).2)), .unset, .unset] [(.int (Int32.ofNat (own_F3 st3 vx vy).2))])
  have N67 := Fr.app N58 N67q
  have sz68 : n0 ≤ T67.heap.size := Nat.le_trans sz59 K67.1
  rw [show Int32.ofNat (own_F3 st3 vx vy).2 = Int32.ofNat (own_F1 st3 vx).2 from congrArg _ f7]
  show own_Go p e below _ T67 (mkF m 158 #[.val (.int i0), .val (.int i1), .val (.int i2), .val (.int i3), .val (.ref b11), .val (.ref b16), .val (.int (1 : Int32)), .val (.int (Int32.ofNat vx)), .val (.int (Int32.ofNat vy)), .val (.int (Int32.ofNat (own_F1 st3 vx).2)), .val (.int (Int32.ofNat (own_F2 st3 vx vy).2)), .unset, .unset] [(.int (Int32.ofNat (own_F1 st3 vx).2))])
  refine own_by (T' := T67) (f' := (mkF m 160 #[.val (.int i0), .val (.int i1), .val (.int i2), .val (.int i3), .val (.ref b11), .val (.ref b16), .val (.int (1 : Int32)), .val (.int (Int32.ofNat vx)), .val (.int (Int32.ofNat vy)), .val (.int (Int32.ofNat (own_F1 st3 vx).2)), .val (.int (Int32.ofNat (own_F2 st3 vx vy).2)), .val (.int (Int32.ofNat (own_F1 st3 vx).2)), .unset] [])) (fun t k => XS.istore X67.here hx rfl (hb hby at_158) rfl (l' := #[.val (.int i0), .val (.int i1), .val (.int i2), .val (.int i3), .val (.ref b11), .val (.ref b16), .val (.int (1 : Int32)), .val (.int (Int32.ofNat vx)), .val (.int (Int32.ofNat vy)), .val (.int (Int32.ofNat (own_F1 st3 vx).2)), .val (.int (Int32.ofNat (own_F2 st3 vx vy).2)), .val (.int (Int32.ofNat (own_F1 st3 vx).2)), .unset]) rfl k) ?_
  refine own_by (T' := T67) (f' := (mkF m 162 #[.val (.int i0), .val (.int i1), .val (.int i2), .val (.int i3), .val (.ref b11), .val (.ref b16), .val (.int (1 : Int32)), .val (.int (Int32.ofNat vx)), .val (.int (Int32.ofNat vy)), .val (.int (Int32.ofNat (own_F1 st3 vx).2)), .val (.int (Int32.ofNat (own_F2 st3 vx vy).2)), .val (.int (Int32.ofNat (own_F1 st3 vx).2)), .unset] [(.ref b11)])) (fun t k => XS.aload X67.here hx rfl (hb hby at_160) rfl rfl k) ?_
  refine own_by (T' := T67) (f' := (mkF m 164 #[.val (.int i0), .val (.int i1), .val (.int i2), .val (.int i3), .val (.ref b11), .val (.ref b16), .val (.int (1 : Int32)), .val (.int (Int32.ofNat vx)), .val (.int (Int32.ofNat vy)), .val (.int (Int32.ofNat (own_F1 st3 vx).2)), .val (.int (Int32.ofNat (own_F2 st3 vx vy).2)), .val (.int (Int32.ofNat (own_F1 st3 vx).2)), .unset] [(.int (Int32.ofNat vx)), (.ref b11)])) (fun t k => XS.iload X67.here hx rfl (hb hby at_162) rfl k) ?_
  have q69 : ∀ x ∈ [pa], ∃ c : Cell, T67.heap[x]? = some c ∧ c.vm.isStatics = false := (allS (own_nsA A67) all0)
  have f70 := (f65.keep K67)
  have f71 := (f66.keep K67 (ninS nd_pa nin0))
  refine own_callV X67 hx hZ hown rfl (hb hby at_164) [(.int (Int32.ofNat vx))] [] 0 (rmF l Z a0 hw [] b11 pa (own_F3 st3 vx vy).1 vx T67.heap n0 sz68 gn_pa nd_pa f70 f71 A67 f4) f70 (hw _ (List.mem_of_getElem? (i := 31) rfl)) (hw _ (List.mem_of_getElem? (i := 24) rfl)) (notFace_of_selects (args := #[]) (mvT hZ (hw _ (List.mem_of_getElem? (i := 26) rfl)))) (hw _ (List.mem_of_getElem? (i := 26) rfl)) (hw _ (List.mem_of_getElem? (i := 25) rfl)) (hw _ (List.mem_of_getElem? (i := 2) rfl)) (hw _ (List.mem_of_getElem? (i := 27) rfl)) (by decide) pd__I_I (by rw [hml]; rfl) rfl rfl (Nat.le_of_eq rfl) (by decide) (by decide) (by decide) (by decide) ?_
  rintro T72 _ L72 X72 ⟨rfl, N72q, K72, A72⟩
  show own_Go p e below _ T72 (mkF m 167 #[.val (.int i0), .val (.int i1), .val (.int i2), .val (.int i3), .val (.ref b11), .val (.ref b16), .val (.int (1 : Int32)), .val (.int (Int32.ofNat vx)), .val (.int (Int32.ofNat vy)), .val (.int (Int32.ofNat (own_F1 st3 vx).2)), .val (.int (Int32.ofNat (own_F2 st3 vx vy).2)), .val (.int (Int32.ofNat (own_F1 st3 vx).2)), .unset] [(.int (Int32.ofNat (own_F4 st3 vx vy).2))])
  have N72 := Fr.app N67 N72q
  have sz73 : n0 ≤ T72.heap.size := Nat.le_trans sz68 K72.1
  rw [show Int32.ofNat (own_F4 st3 vx vy).2 = Int32.ofNat (own_F1 st3 vx).2 from congrArg _ f8]
  show own_Go p e below _ T72 (mkF m 167 #[.val (.int i0), .val (.int i1), .val (.int i2), .val (.int i3), .val (.ref b11), .val (.ref b16), .val (.int (1 : Int32)), .val (.int (Int32.ofNat vx)), .val (.int (Int32.ofNat vy)), .val (.int (Int32.ofNat (own_F1 st3 vx).2)), .val (.int (Int32.ofNat (own_F2 st3 vx vy).2)), .val (.int (Int32.ofNat (own_F1 st3 vx).2)), .unset] [(.int (Int32.ofNat (own_F1 st3 vx).2))])
  refine own_by (T' := T72) (f' := (mkF m 169 #[.val (.int i0), .val (.int i1), .val (.int i2), .val (.int i3), .val (.ref b11), .val (.ref b16), .val (.int (1 : Int32)), .val (.int (Int32.ofNat vx)), .val (.int (Int32.ofNat vy)), .val (.int (Int32.ofNat (own_F1 st3 vx).2)), .val (.int (Int32.ofNat (own_F2 st3 vx vy).2)), .val (.int (Int32.ofNat (own_F1 st3 vx).2)), .val (.int (Int32.ofNat (own_F1 st3 vx).2))] [])) (fun t k => XS.istore X72.here hx rfl (hb hby at_167) rfl (l' := #[.val (.int i0), .val (.int i1), .val (.int i2), .val (.int i3), .val (.ref b11), .val (.ref b16), .val (.int (1 : Int32)), .val (.int (Int32.ofNat vx)), .val (.int (Int32.ofNat vy)), .val (.int (Int32.ofNat (own_F1 st3 vx).2)), .val (.int (Int32.ofNat (own_F2 st3 vx vy).2)), .val (.int (Int32.ofNat (own_F1 st3 vx).2)), .val (.int (Int32.ofNat (own_F1 st3 vx).2))]) rfl k) ?_
  refine own_by (T' := T72) (f' := (mkF m 171 #[.val (.int i0), .val (.int i1), .val (.int i2), .val (.int i3), .val (.ref b11), .val (.ref b16), .val (.int (1 : Int32)), .val (.int (Int32.ofNat vx)), .val (.int (Int32.ofNat vy)), .val (.int (Int32.ofNat (own_F1 st3 vx).2)), .val (.int (Int32.ofNat (own_F2 st3 vx vy).2)), .val (.int (Int32.ofNat (own_F1 st3 vx).2)), .val (.int (Int32.ofNat (own_F1 st3 vx).2))] [(.int (Int32.ofNat (own_F1 st3 vx).2))])) (fun t k => XS.iload X72.here hx rfl (hb hby at_169) rfl k) ?_
  refine own_by (T' := T72) (f' := (mkF m 173 #[.val (.int i0), .val (.int i1), .val (.int i2), .val (.int i3), .val (.ref b11), .val (.ref b16), .val (.int (1 : Int32)), .val (.int (Int32.ofNat vx)), .val (.int (Int32.ofNat vy)), .val (.int (Int32.ofNat (own_F1 st3 vx).2)), .val (.int (Int32.ofNat (own_F2 st3 vx vy).2)), .val (.int (Int32.ofNat (own_F1 st3 vx).2)), .val (.int (Int32.ofNat (own_F1 st3 vx).2))] [(.int (Int32.ofNat (own_F1 st3 vx).2)), (.int (Int32.ofNat (own_F1 st3 vx).2))])) (fun t k => XS.iload X72.here hx rfl (hb hby at_171) rfl k) ?_
  refine own_by (T' := T72) (f' := (mkF m 179 #[.val (.int i0), .val (.int i1), .val (.int i2), .val (.int i3), .val (.ref b11), .val (.ref b16), .val (.int (1 : Int32)), .val (.int (Int32.ofNat vx)), .val (.int (Int32.ofNat vy)), .val (.int (Int32.ofNat (own_F1 st3 vx).2)), .val (.int (Int32.ofNat (own_F2 st3 vx vy).2)), .val (.int (Int32.ofNat (own_F1 st3 vx).2)), .val (.int (Int32.ofNat (own_F1 st3 vx).2))] [])) (fun t k => XS.icmpYes X72.here hx rfl (pc0 := 173) (pc' := 179) rfl (hb hby at_173) rfl (teq rfl).1 (by decide) (by decide) k) ?_
  refine own_by (T' := T72) (f' := (mkF m 181 #[.val (.int i0), .val (.int i1), .val (.int i2), .val (.int i3), .val (.ref b11), .val (.ref b16), .val (.int (1 : Int32)), .val (.int (Int32.ofNat vx)), .val (.int (Int32.ofNat vy)), .val (.int (Int32.ofNat (own_F1 st3 vx).2)), .val (.int (Int32.ofNat (own_F2 st3 vx vy).2)), .val (.int (Int32.ofNat (own_F1 st3 vx).2)), .val (.int (Int32.ofNat (own_F1 st3 vx).2))] [(.int (Int32.ofNat (own_F1 st3 vx).2))])) (fun t k => XS.iload X72.here hx rfl (hb hby at_179) rfl k) ?_
  refine own_by (T' := T72) (f' := (mkF m 183 #[.val (.int i0), .val (.int i1), .val (.int i2), .val (.int i3), .val (.ref b11), .val (.ref b16), .val (.int (1 : Int32)), .val (.int (Int32.ofNat vx)), .val (.int (Int32.ofNat vy)), .val (.int (Int32.ofNat (own_F1 st3 vx).2)), .val (.int (Int32.ofNat (own_F2 st3 vx vy).2)), .val (.int (Int32.ofNat (own_F1 st3 vx).2)), .val (.int (Int32.ofNat (own_F1 st3 vx).2))] [(.int (Int32.ofNat (own_F1 st3 vx).2)), (.int (Int32.ofNat (own_F1 st3 vx).2))])) (fun t k => XS.iload X72.here hx rfl (hb hby at_181) rfl k) ?_
  refine own_by (T' := T72) (f' := (mkF m 189 #[.val (.int i0), .val (.int i1), .val (.int i2), .val (.int i3), .val (.ref b11), .val (.ref b16), .val (.int (1 : Int32)), .val (.int (Int32.ofNat vx)), .val (.int (Int32.ofNat vy)), .val (.int (Int32.ofNat (own_F1 st3 vx).2)), .val (.int (Int32.ofNat (own_F2 st3 vx vy).2)), .val (.int (Int32.ofNat (own_F1 st3 vx).2)), .val (.int (Int32.ofNat (own_F1 st3 vx).2))] [])) (fun t k => XS.icmpYes X72.here hx rfl (pc0 := 183) (pc' := 189) rfl (hb hby at_183) rfl (teq rfl).1 (by decide) (by decide) k) ?_
  refine own_by (T' := T72) (f' := (mkF m 191 #[.val (.int i0), .val (.int i1), .val (.int i2), .val (.int i3), .val (.ref b11), .val (.ref b16), .val (.int (1 : Int32)), .val (.int (Int32.ofNat vx)), .val (.int (Int32.ofNat vy)), .val (.int (Int32.ofNat (own_F1 st3 vx).2)), .val (.int (Int32.ofNat (own_F2 st3 vx vy).2)), .val (.int (Int32.ofNat (own_F1 st3 vx).2)), .val (.int (Int32.ofNat (own_F1 st3 vx).2))] [(.ref b16)])) (fun t k => XS.aload X72.here hx rfl (hb hby at_189) rfl rfl k) ?_
  refine own_by (T' := T72) (f' := (mkF m 193 #[.val (.int i0), .val (.int i1), .val (.int i2), .val (.int i3), .val (.ref b11), .val (.ref b16), .val (.int (1 : Int32)), .val (.int (Int32.ofNat vx)), .val (.int (Int32.ofNat vy)), .val (.int (Int32.ofNat (own_F1 st3 vx).2)), .val (.int (Int32.ofNat (own_F2 st3 vx vy).2)), .val (.int (Int32.ofNat (own_F1 st3 vx).2)), .val (.int (Int32.ofNat (own_F1 st3 vx).2))] [(.int (Int32.ofNat (own_F1 st3 vx).2)), (.ref b16)])) (fun t k => XS.iload X72.here hx rfl (hb hby at_191) rfl k) ?_
  have f74 := ((((D48.keep K53 (ninS (Ne.symm ne16_pa) nin0)).keep K58 (ninS (Ne.symm ne16_pa) nin0)).keep K67 (ninS (Ne.symm ne16_pa) nin0)).keep K72 (ninS (Ne.symm ne16_pa) nin0))
  refine own_ldI X72 hx hZ rfl (hb hby at_193) f74 (by omega) (by omega) ?_
  rw [own_qx f5]
  show own_Go p e below _ T72 (mkF m 194 #[.val (.int i0), .val (.int i1), .val (.int i2), .val (.int i3), .val (.ref b11), .val (.ref b16), .val (.int (1 : Int32)), .val (.int (Int32.ofNat vx)), .val (.int (Int32.ofNat vy)), .val (.int (Int32.ofNat (own_F1 st3 vx).2)), .val (.int (Int32.ofNat (own_F2 st3 vx vy).2)), .val (.int (Int32.ofNat (own_F1 st3 vx).2)), .val (.int (Int32.ofNat (own_F1 st3 vx).2))] [(.int (Int32.ofNat (List.getD st3.2.2 (own_F1 st3 vx).2 0)))])
  refine own_by (T' := T72) (f' := (mkF m 196 #[.val (.int i0), .val (.int i1), .val (.int i2), .val (.int i3), .val (.ref b11), .val (.ref b16), .val (.int (1 : Int32)), .val (.int (Int32.ofNat vx)), .val (.int (Int32.ofNat vy)), .val (.int (Int32.ofNat (own_F1 st3 vx).2)), .val (.int (Int32.ofNat (own_F2 st3 vx vy).2)), .val (.int (Int32.ofNat (own_F1 st3 vx).2)), .val (.int (Int32.ofNat (own_F1 st3 vx).2))] [(.ref b16), (.int (Int32.ofNat (List.getD st3.2.2 (own_F1 st3 vx).2 0)))])) (fun t k => XS.aload X72.here hx rfl (hb hby at_194) rfl rfl k) ?_
  refine own_by (T' := T72) (f' := (mkF m 198 #[.val (.int i0), .val (.int i1), .val (.int i2), .val (.int i3), .val (.ref b11), .val (.ref b16), .val (.int (1 : Int32)), .val (.int (Int32.ofNat vx)), .val (.int (Int32.ofNat vy)), .val (.int (Int32.ofNat (own_F1 st3 vx).2)), .val (.int (Int32.ofNat (own_F2 st3 vx vy).2)), .val (.int (Int32.ofNat (own_F1 st3 vx).2)), .val (.int (Int32.ofNat (own_F1 st3 vx).2))] [(.int (Int32.ofNat vx)), (.ref b16), (.int (Int32.ofNat (List.getD st3.2.2 (own_F1 st3 vx).2 0)))])) (fun t k => XS.iload X72.here hx rfl (hb hby at_196) rfl k) ?_
  refine own_ldI X72 hx hZ rfl (hb hby at_198) f74 (by omega) (by omega) ?_
  rw [own_qx hvx]
  show own_Go p e below _ T72 (mkF m 199 #[.val (.int i0), .val (.int i1), .val (.int i2), .val (.int i3), .val (.ref b11), .val (.ref b16), .val (.int (1 : Int32)), .val (.int (Int32.ofNat vx)), .val (.int (Int32.ofNat vy)), .val (.int (Int32.ofNat (own_F1 st3 vx).2)), .val (.int (Int32.ofNat (own_F2 st3 vx vy).2)), .val (.int (Int32.ofNat (own_F1 st3 vx).2)), .val (.int (Int32.ofNat (own_F1 st3 vx).2))] [(.int (Int32.ofNat (List.getD st3.2.2 vx 0))), (.int (Int32.ofNat (List.getD st3.2.2 (own_F1 st3 vx).2 0)))])
  have hc199_75 : (Int32.ofNat (List.getD st3.2.2 (own_F1 st3 vx).2 0)) = (Int32.ofNat (List.getD st3.2.2 vx 0)) := congrArg Int32.ofNat f10
  refine own_by (T' := T72) (f' := (mkF m 205 #[.val (.int i0), .val (.int i1), .val (.int i2), .val (.int i3), .val (.ref b11), .val (.ref b16), .val (.int (1 : Int32)), .val (.int (Int32.ofNat vx)), .val (.int (Int32.ofNat vy)), .val (.int (Int32.ofNat (own_F1 st3 vx).2)), .val (.int (Int32.ofNat (own_F2 st3 vx vy).2)), .val (.int (Int32.ofNat (own_F1 st3 vx).2)), .val (.int (Int32.ofNat (own_F1 st3 vx).2))] [])) (fun t k => XS.icmpYes X72.here hx rfl (pc0 := 199) (pc' := 205) rfl (hb hby at_199) rfl (teq hc199_75).1 (by decide) (by decide) k) ?_
  refine own_by (T' := T72) (f' := (mkF m 207 #[.val (.int i0), .val (.int i1), .val (.int i2), .val (.int i3), .val (.ref b11), .val (.ref b16), .val (.int (1 : Int32)), .val (.int (Int32.ofNat vx)), .val (.int (Int32.ofNat vy)), .val (.int (Int32.ofNat (own_F1 st3 vx).2)), .val (.int (Int32.ofNat (own_F2 st3 vx vy).2)), .val (.int (Int32.ofNat (own_F1 st3 vx).2)), .val (.int (Int32.ofNat (own_F1 st3 vx).2))] [(.ref b16)])) (fun t k => XS.aload X72.here hx rfl (hb hby at_205) rfl rfl k) ?_
  refine own_by (T' := T72) (f' := (mkF m 209 #[.val (.int i0), .val (.int i1), .val (.int i2), .val (.int i3), .val (.ref b11), .val (.ref b16), .val (.int (1 : Int32)), .val (.int (Int32.ofNat vx)), .val (.int (Int32.ofNat vy)), .val (.int (Int32.ofNat (own_F1 st3 vx).2)), .val (.int (Int32.ofNat (own_F2 st3 vx vy).2)), .val (.int (Int32.ofNat (own_F1 st3 vx).2)), .val (.int (Int32.ofNat (own_F1 st3 vx).2))] [(.int (Int32.ofNat (own_F2 st3 vx vy).2)), (.ref b16)])) (fun t k => XS.iload X72.here hx rfl (hb hby at_207) rfl k) ?_
  refine own_ldI X72 hx hZ rfl (hb hby at_209) f74 (by omega) (by omega) ?_
  rw [own_qx f6]
  show own_Go p e below _ T72 (mkF m 210 #[.val (.int i0), .val (.int i1), .val (.int i2), .val (.int i3), .val (.ref b11), .val (.ref b16), .val (.int (1 : Int32)), .val (.int (Int32.ofNat vx)), .val (.int (Int32.ofNat vy)), .val (.int (Int32.ofNat (own_F1 st3 vx).2)), .val (.int (Int32.ofNat (own_F2 st3 vx vy).2)), .val (.int (Int32.ofNat (own_F1 st3 vx).2)), .val (.int (Int32.ofNat (own_F1 st3 vx).2))] [(.int (Int32.ofNat (List.getD st3.2.2 (own_F2 st3 vx vy).2 0)))])
  refine own_by (T' := T72) (f' := (mkF m 212 #[.val (.int i0), .val (.int i1), .val (.int i2), .val (.int i3), .val (.ref b11), .val (.ref b16), .val (.int (1 : Int32)), .val (.int (Int32.ofNat vx)), .val (.int (Int32.ofNat vy)), .val (.int (Int32.ofNat (own_F1 st3 vx).2)), .val (.int (Int32.ofNat (own_F2 st3 vx vy).2)), .val (.int (Int32.ofNat (own_F1 st3 vx).2)), .val (.int (Int32.ofNat (own_F1 st3 vx).2))] [(.ref b16), (.int (Int32.ofNat (List.getD st3.2.2 (own_F2 st3 vx vy).2 0)))])) (fun t k => XS.aload X72.here hx rfl (hb hby at_210) rfl rfl k) ?_
  refine own_by (T' := T72) (f' := (mkF m 214 #[.val (.int i0), .val (.int i1), .val (.int i2), .val (.int i3), .val (.ref b11), .val (.ref b16), .val (.int (1 : Int32)), .val (.int (Int32.ofNat vx)), .val (.int (Int32.ofNat vy)), .val (.int (Int32.ofNat (own_F1 st3 vx).2)), .val (.int (Int32.ofNat (own_F2 st3 vx vy).2)), .val (.int (Int32.ofNat (own_F1 st3 vx).2)), .val (.int (Int32.ofNat (own_F1 st3 vx).2))] [(.int (Int32.ofNat vy)), (.ref b16), (.int (Int32.ofNat (List.getD st3.2.2 (own_F2 st3 vx vy).2 0)))])) (fun t k => XS.iload X72.here hx rfl (hb hby at_212) rfl k) ?_
  refine own_ldI X72 hx hZ rfl (hb hby at_214) f74 (by omega) (by omega) ?_
  rw [own_qx hvy]
  show own_Go p e below _ T72 (mkF m 215 #[.val (.int i0), .val (.int i1), .val (.int i2), .val (.int i3), .val (.ref b11), .val (.ref b16), .val (.int (1 : Int32)), .val (.int (Int32.ofNat vx)), .val (.int (Int32.ofNat vy)), .val (.int (Int32.ofNat (own_F1 st3 vx).2)), .val (.int (Int32.ofNat (own_F2 st3 vx vy).2)), .val (.int (Int32.ofNat (own_F1 st3 vx).2)), .val (.int (Int32.ofNat (own_F1 st3 vx).2))] [(.int (Int32.ofNat (List.getD st3.2.2 vy 0))), (.int (Int32.ofNat (List.getD st3.2.2 (own_F2 st3 vx vy).2 0)))])
  have hc215_76 : (Int32.ofNat (List.getD st3.2.2 (own_F2 st3 vx vy).2 0)) = (Int32.ofNat (List.getD st3.2.2 vy 0)) := congrArg Int32.ofNat f11
  refine own_by (T' := T72) (f' := (mkF m 221 #[.val (.int i0), .val (.int i1), .val (.int i2), .val (.int i3), .val (.ref b11), .val (.ref b16), .val (.int (1 : Int32)), .val (.int (Int32.ofNat vx)), .val (.int (Int32.ofNat vy)), .val (.int (Int32.ofNat (own_F1 st3 vx).2)), .val (.int (Int32.ofNat (own_F2 st3 vx vy).2)), .val (.int (Int32.ofNat (own_F1 st3 vx).2)), .val (.int (Int32.ofNat (own_F1 st3 vx).2))] [])) (fun t k => XS.icmpYes X72.here hx rfl (pc0 := 215) (pc' := 221) rfl (hb hby at_215) rfl (teq hc215_76).1 (by decide) (by decide) k) ?_
  refine own_by (T' := T72) (f' := (mkF m 223 #[.val (.int i0), .val (.int i1), .val (.int i2), .val (.int i3), .val (.ref b11), .val (.ref b16), .val (.int (1 : Int32)), .val (.int (Int32.ofNat vx)), .val (.int (Int32.ofNat vy)), .val (.int (Int32.ofNat (own_F1 st3 vx).2)), .val (.int (Int32.ofNat (own_F2 st3 vx vy).2)), .val (.int (Int32.ofNat (own_F1 st3 vx).2)), .val (.int (Int32.ofNat (own_F1 st3 vx).2))] [(.int (Int32.ofNat (own_F1 st3 vx).2))])) (fun t k => XS.iload X72.here hx rfl (hb hby at_221) rfl k) ?_
  refine own_by (T' := T72) (f' := (mkF m 225 #[.val (.int i0), .val (.int i1), .val (.int i2), .val (.int i3), .val (.ref b11), .val (.ref b16), .val (.int (1 : Int32)), .val (.int (Int32.ofNat vx)), .val (.int (Int32.ofNat vy)), .val (.int (Int32.ofNat (own_F1 st3 vx).2)), .val (.int (Int32.ofNat (own_F2 st3 vx vy).2)), .val (.int (Int32.ofNat (own_F1 st3 vx).2)), .val (.int (Int32.ofNat (own_F1 st3 vx).2))] [(.int (Int32.ofNat (own_F2 st3 vx vy).2)), (.int (Int32.ofNat (own_F1 st3 vx).2))])) (fun t k => XS.iload X72.here hx rfl (hb hby at_223) rfl k) ?_
  by_cases hc225_77 : (Int32.ofNat (own_F1 st3 vx).2) = (Int32.ofNat (own_F2 st3 vx vy).2)
  · have _ := X72
    refine own_by (T' := T72) (f' := (mkF m 228 #[.val (.int i0), .val (.int i1), .val (.int i2), .val (.int i3), .val (.ref b11), .val (.ref b16), .val (.int (1 : Int32)), .val (.int (Int32.ofNat vx)), .val (.int (Int32.ofNat vy)), .val (.int (Int32.ofNat (own_F1 st3 vx).2)), .val (.int (Int32.ofNat (own_F2 st3 vx vy).2)), .val (.int (Int32.ofNat (own_F1 st3 vx).2)), .val (.int (Int32.ofNat (own_F1 st3 vx).2))] [])) (fun t k => XS.icmpNo X72.here hx rfl (hb hby at_225) rfl (teq hc225_77).2 k) ?_
    refine own_by (T' := T72) (f' := (mkF m 229 #[.val (.int i0), .val (.int i1), .val (.int i2), .val (.int i3), .val (.ref b11), .val (.ref b16), .val (.int (1 : Int32)), .val (.int (Int32.ofNat vx)), .val (.int (Int32.ofNat vy)), .val (.int (Int32.ofNat (own_F1 st3 vx).2)), .val (.int (Int32.ofNat (own_F2 st3 vx vy).2)), .val (.int (Int32.ofNat (own_F1 st3 vx).2)), .val (.int (Int32.ofNat (own_F1 st3 vx).2))] [(.int (1 : Int32))])) (fun t k => XS.iconst X72.here hx rfl (hb hby at_228) k) ?_
    refine own_by (T' := T72) (f' := (mkF m 233 #[.val (.int i0), .val (.int i1), .val (.int i2), .val (.int i3), .val (.ref b11), .val (.ref b16), .val (.int (1 : Int32)), .val (.int (Int32.ofNat vx)), .val (.int (Int32.ofNat vy)), .val (.int (Int32.ofNat (own_F1 st3 vx).2)), .val (.int (Int32.ofNat (own_F2 st3 vx vy).2)), .val (.int (Int32.ofNat (own_F1 st3 vx).2)), .val (.int (Int32.ofNat (own_F1 st3 vx).2))] [(.int (1 : Int32))])) (fun t k => XS.goto X72.here hx rfl (pc0 := 229) (pc' := 233) rfl (hb hby at_229) (by decide) (by decide) k) ?_
    refine own_by (T' := T72) (f' := (mkF m 235 #[.val (.int i0), .val (.int i1), .val (.int i2), .val (.int i3), .val (.ref b11), .val (.ref b16), .val (.int (1 : Int32)), .val (.int (Int32.ofNat vx)), .val (.int (Int32.ofNat vy)), .val (.int (Int32.ofNat (own_F1 st3 vx).2)), .val (.int (Int32.ofNat (own_F2 st3 vx vy).2)), .val (.int (Int32.ofNat (own_F1 st3 vx).2)), .val (.int (Int32.ofNat (own_F1 st3 vx).2))] [(.ref b16), (.int (1 : Int32))])) (fun t k => XS.aload X72.here hx rfl (hb hby at_233) rfl rfl k) ?_
    refine own_by (T' := T72) (f' := (mkF m 237 #[.val (.int i0), .val (.int i1), .val (.int i2), .val (.int i3), .val (.ref b11), .val (.ref b16), .val (.int (1 : Int32)), .val (.int (Int32.ofNat vx)), .val (.int (Int32.ofNat vy)), .val (.int (Int32.ofNat (own_F1 st3 vx).2)), .val (.int (Int32.ofNat (own_F2 st3 vx vy).2)), .val (.int (Int32.ofNat (own_F1 st3 vx).2)), .val (.int (Int32.ofNat (own_F1 st3 vx).2))] [(.int (Int32.ofNat vx)), (.ref b16), (.int (1 : Int32))])) (fun t k => XS.iload X72.here hx rfl (hb hby at_235) rfl k) ?_
    refine own_ldI X72 hx hZ rfl (hb hby at_237) f74 (by omega) (by omega) ?_
    rw [own_qx hvx]
    show own_Go p e below _ T72 (mkF m 238 #[.val (.int i0), .val (.int i1), .val (.int i2), .val (.int i3), .val (.ref b11), .val (.ref b16), .val (.int (1 : Int32)), .val (.int (Int32.ofNat vx)), .val (.int (Int32.ofNat vy)), .val (.int (Int32.ofNat (own_F1 st3 vx).2)), .val (.int (Int32.ofNat (own_F2 st3 vx vy).2)), .val (.int (Int32.ofNat (own_F1 st3 vx).2)), .val (.int (Int32.ofNat (own_F1 st3 vx).2))] [(.int (Int32.ofNat (List.getD st3.2.2 vx 0))), (.int (1 : Int32))])
    refine own_by (T' := T72) (f' := (mkF m 240 #[.val (.int i0), .val (.int i1), .val (.int i2), .val (.int i3), .val (.ref b11), .val (.ref b16), .val (.int (1 : Int32)), .val (.int (Int32.ofNat vx)), .val (.int (Int32.ofNat vy)), .val (.int (Int32.ofNat (own_F1 st3 vx).2)), .val (.int (Int32.ofNat (own_F2 st3 vx vy).2)), .val (.int (Int32.ofNat (own_F1 st3 vx).2)), .val (.int (Int32.ofNat (own_F1 st3 vx).2))] [(.ref b16), (.int (Int32.ofNat (List.getD st3.2.2 vx 0))), (.int (1 : Int32))])) (fun t k => XS.aload X72.here hx rfl (hb hby at_238) rfl rfl k) ?_
    refine own_by (T' := T72) (f' := (mkF m 242 #[.val (.int i0), .val (.int i1), .val (.int i2), .val (.int i3), .val (.ref b11), .val (.ref b16), .val (.int (1 : Int32)), .val (.int (Int32.ofNat vx)), .val (.int (Int32.ofNat vy)), .val (.int (Int32.ofNat (own_F1 st3 vx).2)), .val (.int (Int32.ofNat (own_F2 st3 vx vy).2)), .val (.int (Int32.ofNat (own_F1 st3 vx).2)), .val (.int (Int32.ofNat (own_F1 st3 vx).2))] [(.int (Int32.ofNat vy)), (.ref b16), (.int (Int32.ofNat (List.getD st3.2.2 vx 0))), (.int (1 : Int32))])) (fun t k => XS.iload X72.here hx rfl (hb hby at_240) rfl k) ?_
    refine own_ldI X72 hx hZ rfl (hb hby at_242) f74 (by omega) (by omega) ?_
    rw [own_qx hvy]
    show own_Go p e below _ T72 (mkF m 243 #[.val (.int i0), .val (.int i1), .val (.int i2), .val (.int i3), .val (.ref b11), .val (.ref b16), .val (.int (1 : Int32)), .val (.int (Int32.ofNat vx)), .val (.int (Int32.ofNat vy)), .val (.int (Int32.ofNat (own_F1 st3 vx).2)), .val (.int (Int32.ofNat (own_F2 st3 vx vy).2)), .val (.int (Int32.ofNat (own_F1 st3 vx).2)), .val (.int (Int32.ofNat (own_F1 st3 vx).2))] [(.int (Int32.ofNat (List.getD st3.2.2 vy 0))), (.int (Int32.ofNat (List.getD st3.2.2 vx 0))), (.int (1 : Int32))])
    refine own_by (T' := T72) (f' := (mkF m 246 #[.val (.int i0), .val (.int i1), .val (.int i2), .val (.int i3), .val (.ref b11), .val (.ref b16), .val (.int (1 : Int32)), .val (.int (Int32.ofNat vx)), .val (.int (Int32.ofNat vy)), .val (.int (Int32.ofNat (own_F1 st3 vx).2)), .val (.int (Int32.ofNat (own_F2 st3 vx vy).2)), .val (.int (Int32.ofNat (own_F1 st3 vx).2)), .val (.int (Int32.ofNat (own_F1 st3 vx).2))] [(.int (1 : Int32))])) (fun t k => XS.icmpNo X72.here hx rfl (hb hby at_243) rfl (teq (congrArg Int32.ofNat (f12.mp ((own_oe (by omega) (by omega)).mp hc225_77)))).2 k) ?_
    refine own_by (T' := T72) (f' := (mkF m 247 #[.val (.int i0), .val (.int i1), .val (.int i2), .val (.int i3), .val (.ref b11), .val (.ref b16), .val (.int (1 : Int32)), .val (.int (Int32.ofNat vx)), .val (.int (Int32.ofNat vy)), .val (.int (Int32.ofNat (own_F1 st3 vx).2)), .val (.int (Int32.ofNat (own_F2 st3 vx vy).2)), .val (.int (Int32.ofNat (own_F1 st3 vx).2)), .val (.int (Int32.ofNat (own_F1 st3 vx).2))] [(.int (1 : Int32)), (.int (1 : Int32))])) (fun t k => XS.iconst X72.here hx rfl (hb hby at_246) k) ?_
    refine own_by (T' := T72) (f' := (mkF m 251 #[.val (.int i0), .val (.int i1), .val (.int i2), .val (.int i3), .val (.ref b11), .val (.ref b16), .val (.int (1 : Int32)), .val (.int (Int32.ofNat vx)), .val (.int (Int32.ofNat vy)), .val (.int (Int32.ofNat (own_F1 st3 vx).2)), .val (.int (Int32.ofNat (own_F2 st3 vx vy).2)), .val (.int (Int32.ofNat (own_F1 st3 vx).2)), .val (.int (Int32.ofNat (own_F1 st3 vx).2))] [(.int (1 : Int32)), (.int (1 : Int32))])) (fun t k => XS.goto X72.here hx rfl (pc0 := 247) (pc' := 251) rfl (hb hby at_247) (by decide) (by decide) k) ?_
    refine own_by (T' := T72) (f' := (mkF m 257 #[.val (.int i0), .val (.int i1), .val (.int i2), .val (.int i3), .val (.ref b11), .val (.ref b16), .val (.int (1 : Int32)), .val (.int (Int32.ofNat vx)), .val (.int (Int32.ofNat vy)), .val (.int (Int32.ofNat (own_F1 st3 vx).2)), .val (.int (Int32.ofNat (own_F2 st3 vx vy).2)), .val (.int (Int32.ofNat (own_F1 st3 vx).2)), .val (.int (Int32.ofNat (own_F1 st3 vx).2))] [])) (fun t k => XS.icmpYes X72.here hx rfl (pc0 := 251) (pc' := 257) rfl (hb hby at_251) rfl (teq rfl).1 (by decide) (by decide) k) ?_
    refine own_by (T' := T72) (f' := (mkF m 259 #[.val (.int i0), .val (.int i1), .val (.int i2), .val (.int i3), .val (.ref b11), .val (.ref b16), .val (.int (1 : Int32)), .val (.int (Int32.ofNat vx)), .val (.int (Int32.ofNat vy)), .val (.int (Int32.ofNat (own_F1 st3 vx).2)), .val (.int (Int32.ofNat (own_F2 st3 vx vy).2)), .val (.int (Int32.ofNat (own_F1 st3 vx).2)), .val (.int (Int32.ofNat (own_F1 st3 vx).2))] [(.int (1 : Int32))])) (fun t k => XS.iload X72.here hx rfl (hb hby at_257) rfl k) ?_
    refine own_retZ X72 hx hret hlk (hb hby at_259) (Or.inr rfl) (by decide) (by decide) ?_
    exact ⟨rfl, N72⟩
  · have _ := X72
    refine own_by (T' := T72) (f' := (mkF m 232 #[.val (.int i0), .val (.int i1), .val (.int i2), .val (.int i3), .val (.ref b11), .val (.ref b16), .val (.int (1 : Int32)), .val (.int (Int32.ofNat vx)), .val (.int (Int32.ofNat vy)), .val (.int (Int32.ofNat (own_F1 st3 vx).2)), .val (.int (Int32.ofNat (own_F2 st3 vx vy).2)), .val (.int (Int32.ofNat (own_F1 st3 vx).2)), .val (.int (Int32.ofNat (own_F1 st3 vx).2))] [])) (fun t k => XS.icmpYes X72.here hx rfl (pc0 := 225) (pc' := 232) rfl (hb hby at_225) rfl (feq hc225_77).2 (by decide) (by decide) k) ?_
    refine own_by (T' := T72) (f' := (mkF m 233 #[.val (.int i0), .val (.int i1), .val (.int i2), .val (.int i3), .val (.ref b11), .val (.ref b16), .val (.int (1 : Int32)), .val (.int (Int32.ofNat vx)), .val (.int (Int32.ofNat vy)), .val (.int (Int32.ofNat (own_F1 st3 vx).2)), .val (.int (Int32.ofNat (own_F2 st3 vx vy).2)), .val (.int (Int32.ofNat (own_F1 st3 vx).2)), .val (.int (Int32.ofNat (own_F1 st3 vx).2))] [(.int (0 : Int32))])) (fun t k => XS.iconst X72.here hx rfl (hb hby at_232) k) ?_
    refine own_by (T' := T72) (f' := (mkF m 235 #[.val (.int i0), .val (.int i1), .val (.int i2), .val (.int i3), .val (.ref b11), .val (.ref b16), .val (.int (1 : Int32)), .val (.int (Int32.ofNat vx)), .val (.int (Int32.ofNat vy)), .val (.int (Int32.ofNat (own_F1 st3 vx).2)), .val (.int (Int32.ofNat (own_F2 st3 vx vy).2)), .val (.int (Int32.ofNat (own_F1 st3 vx).2)), .val (.int (Int32.ofNat (own_F1 st3 vx).2))] [(.ref b16), (.int (0 : Int32))])) (fun t k => XS.aload X72.here hx rfl (hb hby at_233) rfl rfl k) ?_
    refine own_by (T' := T72) (f' := (mkF m 237 #[.val (.int i0), .val (.int i1), .val (.int i2), .val (.int i3), .val (.ref b11), .val (.ref b16), .val (.int (1 : Int32)), .val (.int (Int32.ofNat vx)), .val (.int (Int32.ofNat vy)), .val (.int (Int32.ofNat (own_F1 st3 vx).2)), .val (.int (Int32.ofNat (own_F2 st3 vx vy).2)), .val (.int (Int32.ofNat (own_F1 st3 vx).2)), .val (.int (Int32.ofNat (own_F1 st3 vx).2))] [(.int (Int32.ofNat vx)), (.ref b16), (.int (0 : Int32))])) (fun t k => XS.iload X72.here hx rfl (hb hby at_235) rfl k) ?_
    refine own_ldI X72 hx hZ rfl (hb hby at_237) f74 (by omega) (by omega) ?_
    rw [own_qx hvx]
    show own_Go p e below _ T72 (mkF m 238 #[.val (.int i0), .val (.int i1), .val (.int i2), .val (.int i3), .val (.ref b11), .val (.ref b16), .val (.int (1 : Int32)), .val (.int (Int32.ofNat vx)), .val (.int (Int32.ofNat vy)), .val (.int (Int32.ofNat (own_F1 st3 vx).2)), .val (.int (Int32.ofNat (own_F2 st3 vx vy).2)), .val (.int (Int32.ofNat (own_F1 st3 vx).2)), .val (.int (Int32.ofNat (own_F1 st3 vx).2))] [(.int (Int32.ofNat (List.getD st3.2.2 vx 0))), (.int (0 : Int32))])
    refine own_by (T' := T72) (f' := (mkF m 240 #[.val (.int i0), .val (.int i1), .val (.int i2), .val (.int i3), .val (.ref b11), .val (.ref b16), .val (.int (1 : Int32)), .val (.int (Int32.ofNat vx)), .val (.int (Int32.ofNat vy)), .val (.int (Int32.ofNat (own_F1 st3 vx).2)), .val (.int (Int32.ofNat (own_F2 st3 vx vy).2)), .val (.int (Int32.ofNat (own_F1 st3 vx).2)), .val (.int (Int32.ofNat (own_F1 st3 vx).2))] [(.ref b16), (.int (Int32.ofNat (List.getD st3.2.2 vx 0))), (.int (0 : Int32))])) (fun t k => XS.aload X72.here hx rfl (hb hby at_238) rfl rfl k) ?_
    refine own_by (T' := T72) (f' := (mkF m 242 #[.val (.int i0), .val (.int i1), .val (.int i2), .val (.int i3), .val (.ref b11), .val (.ref b16), .val (.int (1 : Int32)), .val (.int (Int32.ofNat vx)), .val (.int (Int32.ofNat vy)), .val (.int (Int32.ofNat (own_F1 st3 vx).2)), .val (.int (Int32.ofNat (own_F2 st3 vx vy).2)), .val (.int (Int32.ofNat (own_F1 st3 vx).2)), .val (.int (Int32.ofNat (own_F1 st3 vx).2))] [(.int (Int32.ofNat vy)), (.ref b16), (.int (Int32.ofNat (List.getD st3.2.2 vx 0))), (.int (0 : Int32))])) (fun t k => XS.iload X72.here hx rfl (hb hby at_240) rfl k) ?_
    refine own_ldI X72 hx hZ rfl (hb hby at_242) f74 (by omega) (by omega) ?_
    rw [own_qx hvy]
    show own_Go p e below _ T72 (mkF m 243 #[.val (.int i0), .val (.int i1), .val (.int i2), .val (.int i3), .val (.ref b11), .val (.ref b16), .val (.int (1 : Int32)), .val (.int (Int32.ofNat vx)), .val (.int (Int32.ofNat vy)), .val (.int (Int32.ofNat (own_F1 st3 vx).2)), .val (.int (Int32.ofNat (own_F2 st3 vx vy).2)), .val (.int (Int32.ofNat (own_F1 st3 vx).2)), .val (.int (Int32.ofNat (own_F1 st3 vx).2))] [(.int (Int32.ofNat (List.getD st3.2.2 vy 0))), (.int (Int32.ofNat (List.getD st3.2.2 vx 0))), (.int (0 : Int32))])
    refine own_by (T' := T72) (f' := (mkF m 250 #[.val (.int i0), .val (.int i1), .val (.int i2), .val (.int i3), .val (.ref b11), .val (.ref b16), .val (.int (1 : Int32)), .val (.int (Int32.ofNat vx)), .val (.int (Int32.ofNat vy)), .val (.int (Int32.ofNat (own_F1 st3 vx).2)), .val (.int (Int32.ofNat (own_F2 st3 vx vy).2)), .val (.int (Int32.ofNat (own_F1 st3 vx).2)), .val (.int (Int32.ofNat (own_F1 st3 vx).2))] [(.int (0 : Int32))])) (fun t k => XS.icmpYes X72.here hx rfl (pc0 := 243) (pc' := 250) rfl (hb hby at_243) rfl (feq (fun q => hc225_77 (congrArg Int32.ofNat (f12.mpr ((own_oe hL0 hL1).mp q))))).2 (by decide) (by decide) k) ?_
    refine own_by (T' := T72) (f' := (mkF m 251 #[.val (.int i0), .val (.int i1), .val (.int i2), .val (.int i3), .val (.ref b11), .val (.ref b16), .val (.int (1 : Int32)), .val (.int (Int32.ofNat vx)), .val (.int (Int32.ofNat vy)), .val (.int (Int32.ofNat (own_F1 st3 vx).2)), .val (.int (Int32.ofNat (own_F2 st3 vx vy).2)), .val (.int (Int32.ofNat (own_F1 st3 vx).2)), .val (.int (Int32.ofNat (own_F1 st3 vx).2))] [(.int (0 : Int32)), (.int (0 : Int32))])) (fun t k => XS.iconst X72.here hx rfl (hb hby at_250) k) ?_
    refine own_by (T' := T72) (f' := (mkF m 257 #[.val (.int i0), .val (.int i1), .val (.int i2), .val (.int i3), .val (.ref b11), .val (.ref b16), .val (.int (1 : Int32)), .val (.int (Int32.ofNat vx)), .val (.int (Int32.ofNat vy)), .val (.int (Int32.ofNat (own_F1 st3 vx).2)), .val (.int (Int32.ofNat (own_F2 st3 vx vy).2)), .val (.int (Int32.ofNat (own_F1 st3 vx).2)), .val (.int (Int32.ofNat (own_F1 st3 vx).2))] [])) (fun t k => XS.icmpYes X72.here hx rfl (pc0 := 251) (pc' := 257) rfl (hb hby at_251) rfl (teq rfl).1 (by decide) (by decide) k) ?_
    refine own_by (T' := T72) (f' := (mkF m 259 #[.val (.int i0), .val (.int i1), .val (.int i2), .val (.int i3), .val (.ref b11), .val (.ref b16), .val (.int (1 : Int32)), .val (.int (Int32.ofNat vx)), .val (.int (Int32.ofNat vy)), .val (.int (Int32.ofNat (own_F1 st3 vx).2)), .val (.int (Int32.ofNat (own_F2 st3 vx vy).2)), .val (.int (Int32.ofNat (own_F1 st3 vx).2)), .val (.int (Int32.ofNat (own_F1 st3 vx).2))] [(.int (1 : Int32))])) (fun t k => XS.iload X72.here hx rfl (hb hby at_257) rfl k) ?_
    refine own_retZ X72 hx hret hlk (hb hby at_259) (Or.inr rfl) (by decide) (by decide) ?_
    exact ⟨rfl, N72⟩
set_option maxRecDepth 65536 in
set_option maxHeartbeats 40000000 in
theorem comes_1 {Post : Tables → Env → Array Value → State → Outcome → State → Prop} (hpost : ∀ tb e args s v u, (limb_1_1.after args s (.returned v) u = true ∧ limb_1_2.after args s (.returned v) u = true ∧ True) → FrameEnd s (.returned v) u (Jvm.fieldLocs frame_1_writes args s ++ Jvm.arrayLocs frame_1_arrays args s ++ Jvm.staticLocs frame_1_statics s) 16 128 → Post tb e args s (.returned v) u) :
    ArmFor flags0 classFile x code maxLocals ret World_1 tables_1 room_1 Calls_1 rest_1 Pre_1 Post := by
  intro l hfl _ _ p e ha hc hk s m args below hf hA hF happ hP
  obtain ⟨hcalls, hrest, hpre⟩ := hP
  obtain ⟨-, -, -, hnamed, -, -, -, hat⟩ := (Spec.applies_iff hf).mp happ
  obtain ⟨hg, hn⟩ := and_e (Cond.before_iff.mp (show (Jvm.Cond.and given_1 narrow_1).before args s = true from hpre))
  obtain ⟨gc, gr0⟩ := and_e hg
  obtain ⟨ga0, gr1⟩ := and_e gr0
  obtain ⟨ga1, gr2⟩ := and_e gr1
  obtain ⟨ga2, gr3⟩ := and_e gr2
  obtain ⟨w0, w1, w2, w3, rfl⟩ : ∃ w0 w1 w2 w3 : Value, args = #[w0, w1, w2, w3] := by
    have hs : args.size = 4 := by simpa [Cond.value, given_1] using gc
    obtain ⟨L⟩ := args
    match L, hs with
    | [w0, w1, w2, w3], _ => exact ⟨w0, w1, w2, w3, rfl⟩
  have hw := fun d (hd : d ∈ tables_1) => atoms_spec (ws := Jvm.Cond.code x code maxLocals ret :: tables_1) hat d (List.mem_cons_of_mem _ hd)
  have hfit : Fit s := fun {y c} hc i hi => by
    obtain ⟨ha, rfl⟩ := Array.getElem?_eq_some_iff.mp hc
    have q := List.all_eq_true.mp ((Array.all_eq_true_iff_forall_mem.mp hF) _ (Array.getElem_mem ha)) i (List.mem_range.mpr hi)
    simpa [Array.getElem?_eq_getElem hi] using q
  obtain ⟨i0, ei0⟩ := is_v ga0
  obtain rfl : w0 = (.int i0) := Option.some.inj ei0
  obtain ⟨i1, ei1⟩ := is_v ga1
  obtain rfl : w1 = (.int i1) := Option.some.inj ei1
  obtain ⟨i2, ei2⟩ := is_v ga2
  obtain rfl : w2 = (.int i2) := Option.some.inj ei2
  obtain ⟨i3, ei3⟩ := is_v gr3
  obtain rfl : w3 = (.int i3) := Option.some.inj ei3
  obtain ⟨n, o, h1, h2, h3, _, L, rfl, ⟨rfl, N⟩, hq⟩ := rm0 l s _ hw tables_1 i0 i1 i2 i3 s.heap s.heap.size (Nat.le_refl _) p e ha hc hk s m _ below hf ((Spec.applies_iff_loose hf).mp happ).1 ⟨rfl, State.Warmed39.refl s, rfl⟩ trivial
  refine ⟨n, _, h1, h2, h3, hpost _ _ _ _ _ _ ⟨Cond.after_iff.mpr rfl, Cond.after_iff.mpr (eq_i res_at (Term.int_eval (1)) rfl), trivial⟩ ⟨hq.1, hq.2.1, (hq.2.2.sift fun y hy => Or.inr (N y hy)).mono (by decide) (by decide)⟩⟩
theorem main_1_1 : Claimed_1_1 := comes_1 fun _ _ _ _ _ _ h hF => ⟨h.1, hF⟩
theorem main_1_2 : Claimed_1_2 := comes_1 fun _ _ _ _ _ _ h hF => ⟨h.2.1, hF⟩
end Jvm.Pilot.@@N@@
namespace Jvm.Pilot.@@N@@
open Jvm Jvm.ClassFile Sem Op Lib Jvm.Free Jvm.Stand Jvm.Pilot.@@N@@.Jvm.D
/-! MADE BY PROGRAM (witnessworld.py) out of the Statement's table words and the real class files: 9 classes; the members and pool entries that the words name. The judged class is class 1, her method 3. -/
namespace start1
open Jvm.ClassFile
def u (s : String) : CpInfo := .utf8 (stringToUtf16 s)
/-- a pool by its gaps: so many unusable entries, then the entry; so many at the end -/
def gap : Nat → List CpInfo → List CpInfo
  | 0, r => r
  | n + 1, r => .unusable :: gap n r
def poolList (es : List (Nat × CpInfo)) (last : Nat) : List CpInfo := es.foldr (fun e r => gap e.1 (e.2 :: r)) (gap last [])
def pool (es : List (Nat × CpInfo)) (last : Nat) : Array CpInfo := ⟨poolList es last⟩
def fileOf (pool : Array CpInfo) (this : Nat) (attrs : Array Attribute := #[]) (ms : Array MethodInfo := #[]) (fl : Nat := 33) (sup : Nat := 0) (ifs : Array Nat := #[]) (fds : Array FieldInfo := #[]) : ClassFile where
  minorVersion := 0
  majorVersion := 65
  constantPool := pool
  accessFlags := fl
  thisClass := this
  superClass := sup
  interfaces := ifs
  fields := fds
  methods := ms
  attributes := attrs
def plain (name : String) (sup : Option ClassId) : Class where
  name := name
  kind := .ordinary
  loader := none
  accessFlags := 33
  super := sup
  interfaces := #[]
  cf := none
  fields := #[]
  methods := #[]
  instanceTypes := #[]
  staticTypes := #[]
  resolved := #[]
  callSites := []
  init := .initialized
  statics := none
  mirror := none

def pool0 : Array CpInfo := pool [(5, u "<init>"), (0, u "()V"), (1, .class_ 10), (1, u "java/lang/Object")] 113

def k0c0 : Code := { maxStack := 0, maxLocals := 1, code := object_method_1_code, exceptionTable := #[], attributes := #[] }
def k0m0 : Method := { name := "<init>", desc := "()V", sig := { parameters := [], returnType := none }, accessFlags := 1, code := some k0c0 }
/-- java/lang/Object -/
def k0 : Class := { plain "java/lang/Object" none with
  accessFlags := 33
  interfaces := #[]
  cf := some (fileOf pool0 8 #[] #[{ accessFlags := 1, nameIndex := 5, descriptorIndex := 6, attributes := #[] }] 33 0 #[] #[])
  fields := #[]
  methods := #[k0m0]
  instanceTypes := #[]
  staticTypes := #[]
  resolved := Array.replicate 124 none
  statics := none }

def pool1 : Array CpInfo := pool [(2, .class_ 4), (1, u "java/lang/Object"), (0, u "<init>"), (0, u "()V"), (0, .methodref 8 9), (0, .class_ 10), (0, .nameAndType 11 12), (0, u "com/example/tollgraph/tollgraph/graph/DisjointSets"), (0, u "union"), (0, u "(II)Z"), (0, .methodref 14 15), (0, .class_ 16), (0, .nameAndType 17 18), (0, u "com/example/tollgraph/tollgraph/graph/DisjointSetsFindPinLaw"), (0, u "relabel"), (0, u "([III)V"), (0, .methodref 8 20), (0, .nameAndType 5 21), (0, u "(I)V"), (0, .methodref 14 23), (0, .nameAndType 24 25), (0, u "step"), (0, u "(Lcom/example/tollgraph/tollgraph/graph/DisjointSets;[III)Z"), (0, .methodref 8 27), (0, .nameAndType 28 29), (0, u "find"), (0, u "(I)I"), (3, u "law"), (0, u "(IIII)Z")] 4

def k1m0 : Method := { name := "<init>", desc := "()V", sig := { parameters := [], returnType := none }, accessFlags := 1, code := none }
def k1c1 : Code := { maxStack := 3, maxLocals := 3, code := method_2_code, exceptionTable := #[], attributes := #[] }
def k1m1 : Method := { name := "relabel", desc := "([III)V", sig := { parameters := [(.array .int), .int, .int], returnType := none }, accessFlags := 10, code := some k1c1 }
def k1c2 : Code := { maxStack := 3, maxLocals := 8, code := method_3_code, exceptionTable := #[], attributes := #[] }
def k1m2 : Method := { name := "step", desc := "(Lcom/example/tollgraph/tollgraph/graph/DisjointSets;[III)Z", sig := { parameters := [(.object "com/example/tollgraph/tollgraph/graph/DisjointSets"), (.array .int), .int, .int], returnType := some .boolean }, accessFlags := 10, code := some k1c2 }
def k1c3 : Code := { maxStack := 5, maxLocals := 13, code := code, exceptionTable := #[], attributes := #[] }
def k1m3 : Method := { name := "law", desc := "(IIII)Z", sig := { parameters := [.int, .int, .int, .int], returnType := some .boolean }, accessFlags := 9, code := some k1c3 }
/-- com/example/tollgraph/tollgraph/graph/DisjointSetsFindPinLaw -/
def k1 : Class := { plain "com/example/tollgraph/tollgraph/graph/DisjointSetsFindPinLaw" (some 0) with
  accessFlags := 49
  interfaces := #[]
  cf := some (fileOf pool1 14 #[] #[{ accessFlags := 1, nameIndex := 5, descriptorIndex := 6, attributes := #[] }, { accessFlags := 10, nameIndex := 17, descriptorIndex := 18, attributes := #[] }, { accessFlags := 10, nameIndex := 24, descriptorIndex := 25, attributes := #[] }, { accessFlags := 9, nameIndex := 33, descriptorIndex := 34, attributes := #[] }] 49 2 #[] #[])
  fields := #[]
  methods := #[k1m0, k1m1, k1m2, k1m3]
  instanceTypes := #[]
  staticTypes := #[]
  resolved := Array.replicate 39 none
  statics := none }

def pool2 : Array CpInfo := pool [(1, .methodref 2 3), (0, .class_ 4), (0, .nameAndType 5 6), (0, u "java/lang/Object"), (0, u "<init>"), (0, u "()V"), (0, .fieldref 8 9), (0, .class_ 10), (0, .nameAndType 11 12), (0, u "com/example/tollgraph/tollgraph/graph/DisjointSets"), (0, u "parent"), (0, u "[I"), (0, .fieldref 8 14), (0, .nameAndType 15 12), (0, u "size"), (0, .methodref 8 17), (0, .nameAndType 18 19), (0, u "find"), (0, u "(I)I"), (0, u "(I)V"), (3, u "union"), (0, u "(II)Z")] 2

def k2c0 : Code := { maxStack := 3, maxLocals := 3, code := prog_20_method_1_code, exceptionTable := #[], attributes := #[] }
def k2m0 : Method := { name := "<init>", desc := "(I)V", sig := { parameters := [.int], returnType := none }, accessFlags := 1, code := some k2c0 }
def k2c1 : Code := { maxStack := 5, maxLocals := 3, code := prog_20_method_2_code, exceptionTable := #[], attributes := #[] }
def k2m1 : Method := { name := "find", desc := "(I)I", sig := { parameters := [.int], returnType := some .int }, accessFlags := 1, code := some k2c1 }
def k2c2 : Code := { maxStack := 5, maxLocals := 7, code := prog_20_method_3_code, exceptionTable := #[], attributes := #[] }
def k2m2 : Method := { name := "union", desc := "(II)Z", sig := { parameters := [.int, .int], returnType := some .boolean }, accessFlags := 1, code := some k2c2 }
/-- com/example/tollgraph/tollgraph/graph/DisjointSets -/
def k2 : Class := { plain "com/example/tollgraph/tollgraph/graph/DisjointSets" (some 0) with
  accessFlags := 49
  interfaces := #[]
  cf := some (fileOf pool2 8 #[] #[{ accessFlags := 1, nameIndex := 5, descriptorIndex := 20, attributes := #[] }, { accessFlags := 1, nameIndex := 18, descriptorIndex := 19, attributes := #[] }, { accessFlags := 1, nameIndex := 24, descriptorIndex := 25, attributes := #[] }] 49 2 #[] #[{ accessFlags := 18, nameIndex := 11, descriptorIndex := 12, attributes := #[] }, { accessFlags := 18, nameIndex := 15, descriptorIndex := 12, attributes := #[] }])
  fields := #[{ name := "parent", type := (.array .int), accessFlags := 18, slot := 0, constantValue := 0 }, { name := "size", type := (.array .int), accessFlags := 18, slot := 1, constantValue := 0 }]
  methods := #[k2m0, k2m1, k2m2]
  instanceTypes := #[(.array .int), (.array .int)]
  staticTypes := #[]
  resolved := Array.replicate 28 none
  statics := none }

def pool3 : Array CpInfo := pool [(1, u "java/lang/Cloneable"), (0, .class_ 1), (0, u "java/lang/Object"), (0, .class_ 3)] 3

/-- java/lang/Cloneable -/
def k3 : Class := { plain "java/lang/Cloneable" (some 0) with
  accessFlags := 1537
  interfaces := #[]
  cf := some (fileOf pool3 2 #[] #[] 1537 4 #[] #[])
  fields := #[]
  methods := #[]
  instanceTypes := #[]
  staticTypes := #[]
  resolved := Array.replicate 8 none
  statics := none }

def pool4 : Array CpInfo := pool [(1, u "java/io/Serializable"), (0, .class_ 1), (0, u "java/lang/Object"), (0, .class_ 3)] 3

/-- java/io/Serializable -/
def k4 : Class := { plain "java/io/Serializable" (some 0) with
  accessFlags := 1537
  interfaces := #[]
  cf := some (fileOf pool4 2 #[] #[] 1537 4 #[] #[])
  fields := #[]
  methods := #[]
  instanceTypes := #[]
  staticTypes := #[]
  resolved := Array.replicate 8 none
  statics := none }

/-- the primitive byte -/
def k5 : Class := { plain "byte" none with kind := .primitive 'B', accessFlags := 0x411 }
/-- [B -/
def k6 : Class := { plain "[B" (some 0) with kind := .array 5 .byte, interfaces := #[3, 4], accessFlags := 1041 }

/-- the primitive int -/
def k7 : Class := { plain "int" none with kind := .primitive 'I', accessFlags := 0x411 }
/-- [I -/
def k8 : Class := { plain "[I" (some 0) with kind := .array 7 .int, interfaces := #[3, 4], accessFlags := 1041 }

def heap : Heap := #[]
def classes : Array Class := #[k0, k1, k2, k3, k4, k5, k6, k7, k8]
def interned : List (Array UInt16 × Addr) := []
def slotsUsed : Nat := 0
def theMethod : MethodId := ⟨1, 3⟩
def args0 : Array Value := #[.int 5, .int 5, .int 5, .int 5]
def aboutOver (below : List Frame) : State where
  vm := { classes := classes, interned := interned.toArray }
  heap := heap
  slotsUsed := slotsUsed
  threads := #[{ frames := .invoking theMethod args0 :: below }]
def below0 : List Frame := [.native { method := ⟨0, 0⟩, args := #[] }]
def about1 : State := aboutOver below0
def p0 : Program := .bare "" "" ""
def e0 : Env := launch0.env 0 0 0
theorem w_frames : about1.frames = Frame.invoking theMethod args0 :: below0 := rfl
set_option maxRecDepth 65536 in
theorem w_args : argsFit about1.vm theMethod args0 = true := by decide +kernel
set_option maxRecDepth 65536 in
theorem w_heap : heapFits about1 = true := by decide +kernel
set_option maxRecDepth 65536 in
theorem w_runnable : about1.curStatus? = some .runnable := by decide +kernel
set_option maxRecDepth 65536 in
theorem w_alone : about1.alone = true := by decide +kernel
set_option maxRecDepth 65536 in
theorem w_named : about1.methodNamed? x = some theMethod := by decide +kernel
set_option maxRecDepth 65536 in
theorem w_hears : about1.hears theMethod below0 = true := by decide +kernel
set_option maxRecDepth 65536 in
theorem w_ripe : about1.ripe theMethod args0 below0 = true := by decide +kernel
theorem w_running : about1.status = .running := rfl
set_option maxRecDepth 65536 in
theorem w_room : about1.hasRoom e0.platform room_1 = true :=
  launch0.hasRoom_least _ room_1 (by decide +kernel) (by decide +kernel) (by decide +kernel) (by decide +kernel) (by decide +kernel) (by decide +kernel)
theorem allAtoms_all (ts : List Jvm.Cond) (a : Array Jvm.Value) (st : Jvm.State) : (allAtoms ts).before a st = ts.all (fun c => c.before a st) := by
  induction ts with
  | nil => rfl
  | cons c t ih =>
    show (Jvm.Cond.and c (allAtoms t)).before a st = _
    rw [Jvm.Cond.before_and, ih, List.all_cons]
def words1 : List Jvm.Cond := Jvm.Cond.code x code maxLocals ret :: tables_1
/-- a 'code' word, met by the world's own term for the bytes: nothing is compared byte by byte -/
theorem code_word {y : MethodName} {bytes : ByteArray} {mx : Nat} {rt : Option FieldType} {a : Array Value} {s : State} {m : MethodId} {meth : Method} {c : Code} (h1 : s.methodNamed? y = some m) (h2 : s.vm.method? m = some meth) (h3 : meth.code = some c) (h4 : c.code = bytes)
    (h5 : (c.maxLocals == mx && c.exceptionTable.isEmpty && decide (c.maxStack ≤ mostOperands) && decide (meth.sig.returnType = rt) && !meth.locks && decide (parseMethodDescriptor y.desc = some meth.sig)) = true) : (Jvm.Cond.code y bytes mx rt).before a s = true := by
  simp only [Bool.and_eq_true, beq_iff_eq, Bool.not_eq_true', decide_eq_true_eq] at h5
  obtain ⟨⟨⟨⟨⟨g1, g2⟩, g3⟩, g4⟩, g5⟩, g6⟩ := h5
  simp [Cond.before, Cond.holds, Cond.value, h1, h2, h3, h4, g1, g2, g3, g4, g5, g6]
def isCode : Jvm.Cond → Bool
  | .code _ _ _ _ => true
  | _ => false
theorem all_split {L : List Jvm.Cond} {P : Jvm.Cond → Bool} (h1 : L.all (fun c => isCode c || P c) = true) (h2 : ∀ c ∈ L.filter isCode, P c = true) : L.all P = true := by
  refine List.all_eq_true.mpr fun c hc => ?_
  have h := List.all_eq_true.mp h1 c hc
  rcases Bool.eq_false_or_eq_true (isCode c) with hi | hi
  · exact h2 c (List.mem_filter.mpr ⟨hc, hi⟩)
  · simpa [hi] using h
set_option maxRecDepth 65536 in
theorem w_c0 : (Jvm.Cond.code x code maxLocals ret).before args0 about1 = true := code_word (m := ⟨1, 3⟩) (meth := k1m3) (c := k1c3) (by decide +kernel) rfl rfl rfl (by decide +kernel)
set_option maxRecDepth 65536 in
theorem w_c1 : (Jvm.Cond.code ({ cls := "com/example/tollgraph/tollgraph/graph/DisjointSets", name := "<init>", desc := "(I)V" } : Jvm.MethodName) prog_20_method_1_code (3 : Nat) (Option.none : Option Jvm.ClassFile.FieldType)).before args0 about1 = true := code_word (m := ⟨2, 0⟩) (meth := k2m0) (c := k2c0) (by decide +kernel) rfl rfl rfl (by decide +kernel)
set_option maxRecDepth 65536 in
theorem w_c2 : (Jvm.Cond.code ({ cls := "java/lang/Object", name := "<init>", desc := "()V" } : Jvm.MethodName) object_method_1_code (1 : Nat) (Option.none : Option Jvm.ClassFile.FieldType)).before args0 about1 = true := code_word (m := ⟨0, 0⟩) (meth := k0m0) (c := k0c0) (by decide +kernel) rfl rfl rfl (by decide +kernel)
set_option maxRecDepth 65536 in
theorem w_c3 : (Jvm.Cond.code ({ cls := "com/example/tollgraph/tollgraph/graph/DisjointSetsFindPinLaw", name := "step", desc := "(Lcom/example/tollgraph/tollgraph/graph/DisjointSets;[III)Z" } : Jvm.MethodName) method_3_code (8 : Nat) (Option.some Jvm.ClassFile.FieldType.boolean)).before args0 about1 = true := code_word (m := ⟨1, 2⟩) (meth := k1m2) (c := k1c2) (by decide +kernel) rfl rfl rfl (by decide +kernel)
set_option maxRecDepth 65536 in
theorem w_c4 : (Jvm.Cond.code ({ cls := "com/example/tollgraph/tollgraph/graph/DisjointSets", name := "union", desc := "(II)Z" } : Jvm.MethodName) prog_20_method_3_code (7 : Nat) (Option.some Jvm.ClassFile.FieldType.boolean)).before args0 about1 = true := code_word (m := ⟨2, 2⟩) (meth := k2m2) (c := k2c2) (by decide +kernel) rfl rfl rfl (by decide +kernel)
set_option maxRecDepth 65536 in
theorem w_c5 : (Jvm.Cond.code ({ cls := "com/example/tollgraph/tollgraph/graph/DisjointSets", name := "find", desc := "(I)I" } : Jvm.MethodName) prog_20_method_2_code (3 : Nat) (Option.some Jvm.ClassFile.FieldType.int)).before args0 about1 = true := code_word (m := ⟨2, 1⟩) (meth := k2m1) (c := k2c1) (by decide +kernel) rfl rfl rfl (by decide +kernel)
set_option maxRecDepth 65536 in
theorem w_c6 : (Jvm.Cond.code ({ cls := "com/example/tollgraph/tollgraph/graph/DisjointSetsFindPinLaw", name := "relabel", desc := "([III)V" } : Jvm.MethodName) method_2_code (3 : Nat) (Option.none : Option Jvm.ClassFile.FieldType)).before args0 about1 = true := code_word (m := ⟨1, 1⟩) (meth := k1m1) (c := k1c1) (by decide +kernel) rfl rfl rfl (by decide +kernel)
def codes1 : List Jvm.Cond := [Jvm.Cond.code x code maxLocals ret, Jvm.Cond.code ({ cls := "com/example/tollgraph/tollgraph/graph/DisjointSets", name := "<init>", desc := "(I)V" } : Jvm.MethodName) prog_20_method_1_code (3 : Nat) (Option.none : Option Jvm.ClassFile.FieldType), Jvm.Cond.code ({ cls := "java/lang/Object", name := "<init>", desc := "()V" } : Jvm.MethodName) object_method_1_code (1 : Nat) (Option.none : Option Jvm.ClassFile.FieldType), Jvm.Cond.code ({ cls := "com/example/tollgraph/tollgraph/graph/DisjointSetsFindPinLaw", name := "step", desc := "(Lcom/example/tollgraph/tollgraph/graph/DisjointSets;[III)Z" } : Jvm.MethodName) method_3_code (8 : Nat) (Option.some Jvm.ClassFile.FieldType.boolean), Jvm.Cond.code ({ cls := "com/example/tollgraph/tollgraph/graph/DisjointSets", name := "union", desc := "(II)Z" } : Jvm.MethodName) prog_20_method_3_code (7 : Nat) (Option.some Jvm.ClassFile.FieldType.boolean), Jvm.Cond.code ({ cls := "com/example/tollgraph/tollgraph/graph/DisjointSets", name := "find", desc := "(I)I" } : Jvm.MethodName) prog_20_method_2_code (3 : Nat) (Option.some Jvm.ClassFile.FieldType.int), Jvm.Cond.code ({ cls := "com/example/tollgraph/tollgraph/graph/DisjointSetsFindPinLaw", name := "relabel", desc := "([III)V" } : Jvm.MethodName) method_2_code (3 : Nat) (Option.none : Option Jvm.ClassFile.FieldType)]
set_option maxRecDepth 65536 in
theorem codes_eq : words1.filter isCode = codes1 := rfl
theorem w_codes : ∀ c ∈ words1.filter isCode, c.before args0 about1 = true := by
  rw [codes_eq]
  intro c hc
  simp only [codes1, List.mem_cons, List.not_mem_nil, or_false] at hc
  rcases hc with rfl | rfl | rfl | rfl | rfl | rfl | rfl
  · exact w_c0
  · exact w_c1
  · exact w_c2
  · exact w_c3
  · exact w_c4
  · exact w_c5
  · exact w_c6
set_option maxRecDepth 65536 in
theorem w_t1 : (words1.take 24).all (fun c => isCode c || c.before args0 about1) = true := by decide +kernel
set_option maxRecDepth 65536 in
theorem w_t2 : (words1.drop 24).all (fun c => isCode c || c.before args0 about1) = true := by decide +kernel
theorem w_tables : (allAtoms (Jvm.Cond.code x code maxLocals ret :: tables_1)).before args0 about1 = true := by
  rw [allAtoms_all]
  show words1.all (fun c => c.before args0 about1) = true
  refine all_split ?_ w_codes
  rw [← List.take_append_drop 24 words1, List.all_append, w_t1, w_t2]
  rfl
set_option maxRecDepth 65536 in
theorem w_case : (Jvm.Cond.and given_1 narrow_1).before args0 about1 = true := by decide +kernel
theorem w_applies : (headSpec (Jvm.Cond.code x code maxLocals ret :: tables_1) room_1).applies x e0.platform about1 = true :=
  (Spec.applies_iff w_frames).mpr ⟨w_running, w_runnable, w_alone, w_named, w_hears, w_ripe, w_room, w_tables⟩
theorem atStart : AtStart classFile x code maxLocals ret World_1 tables_1 room_1 Calls_1 rest_1 Pre_1 launch0 p0 e0 about1 theMethod args0 below0 :=
  ⟨lists_1, trivial, launch0.admits_env _ _ _, launch0.least_env, fairChoices_fair.cas, fairChoices_fair.clock, w_frames, w_args, w_heap, w_applies, trivial, trivial, w_case⟩
end start1
theorem witness_1 : WitnessClaimed_1 := ⟨start1.p0, start1.e0, start1.about1, start1.theMethod, start1.args0, start1.below0, start1.atStart⟩
end Jvm.Pilot.@@N@@
