import JvmDerived
import JvmDerived.Pilot.@@N@@Statement
import JvmDerived.Pilot.@@N@@Code
set_option linter.unusedVariables false
set_option linter.unusedSimpArgs false
namespace Jvm.Pilot.@@N@@
open Jvm Jvm.ClassFile Sem Op Lib Jvm.Free Jvm.Stand Jvm.LawKit Jvm.RoadKit Bundle Jvm.Pilot.@@N@@.Jvm.D
section Own
variable {p : Program} {l : Launch} {e : Env} {R : Room} {s : State} {m : MethodId} {args : Array Value} {below : List Frame} {meth : Method} {c : Code} {T : State} {locs : List Loc} {cells slots : Nat} {Z : State} {a0 : Array Value} {h : Heap} {P : State → Outcome → Prop} {pc : Nat} {Ls : Array Slot} {rest st : List Value}
/-- from T, with f on top, the run comes to an end of which P holds -/
def own_Go (p : Program) (e : Env) (below : List Frame) (P : State → Outcome → Prop) (T : State) (f : JFrame) : Prop :=
  ∃ t o, Steps p.tables e below (T.setTop f) t ∧ t.status = .running ∧ Ended t below o ∧ P t o
theorem own_by {T' : State} {f f' : JFrame} (st : ∀ t, Steps p.tables e below (T'.setTop f') t → Steps p.tables e below (T.setTop f) t) (k : own_Go p e below P T' f') : own_Go p e below P T f := by
  obtain ⟨t, o, h1, h2⟩ := k
  exact ⟨t, o, st _ h1, h2⟩
/-- a method's end: what it returns, the heap, what it wrote -/
def own_Ends (s : State) (rm : Room) (Q : Option Value → Heap → List Loc → Prop) (t : State) (o : Outcome) : Prop := ∃ v L, o = .returned v ∧ Q v t.heap L ∧ FrameEnd s o t L rm.cells rm.slots
/-- a body's contract, at one list of arguments and one heap -/
def own_Ct (l : Launch) (Z : State) (y : MethodName) (bytes : ByteArray) (mx : Nat) (rt : Option FieldType) (ws : List Jvm.Cond) (rm : Room) (as' : Array Value) (h0 : Heap) (Q : Option Value → Heap → List Loc → Prop) : Prop :=
  MetFree l y (head1 (Jvm.Cond.code y bytes mx rt :: ws) rm) (fun a U => a = as' ∧ Z.Warmed39 U.vm ∧ U.heap = h0) (fun _ _ _ _ _ => True) (fun _ U o U' => own_Ends U rm Q U' o)
theorem own_of {y : MethodName} {bytes : ByteArray} {mx : Nat} {rt : Option FieldType} {ws : List Jvm.Cond} {rm : Room} {as' : Array Value} {h0 : Heap} {Q : Option Value → Heap → List Loc → Prop} (hpl : plainName y.cls = true)
    (body : ∀ (p : Program) (e : Env) (s : State) (m : MethodId) (below : List Frame) (meth : Method) (c : Code) (s₁ : State), p.tables.exec = Jvm.exec → c.code = bytes → c.maxLocals = mx → s.vm.findClass y.cls = some m.cls → meth.name = y.name → meth.sig.returnType = rt → meth.locks = false → Z.Warmed39 s.vm →
      Stand p l e rm s m as' below meth c s₁ [] 0 0 → s₁.heap = h0 → own_Go p e below (own_Ends s rm Q) s₁ (entryFrame m as' mx)) : own_Ct l Z y bytes mx rt ws rm as' h0 Q := by
  refine MetFree.of_bodySF (plainFor_of_name hpl) hisR ?_
  intro p e s m args below meth c s₁ Bd hml hP hK
  obtain ⟨rfl, hZ, hh⟩ := hP
  exact body p e s m below meth c s₁ Bd.exec Bd.bytes hml (findClass_of_methodNamed Bd.named) (name_of_methodNamed Bd.named Bd.method).1 Bd.returns Bd.notSynchronized hZ (Stand.of_body Bd) (by rw [← hh, Bd.state]; rfl)
theorem own_ret {rm : Room} {Q : Option Value → Heap → List Loc → Prop} {t : FieldType} {w : Value} {i : Instr} (X : Stand p l e R s m args below meth c T locs cells slots) (hx : p.tables.exec = Jvm.exec) (hret : meth.sig.returnType = some t) (hlk : meth.locks = false) (hd : decode c.code pc = .ok (i, 1)) (hn : narrow t w = w)
    (hi : (i = .ireturn ∧ (t = .int ∨ t = .boolean ∨ t = .byte ∨ t = .char ∨ t = .short) ∧ ∃ z, w = .int z) ∨ (i = .lreturn ∧ t = .long ∧ ∃ z, w = .long z) ∨ (i = .dreturn ∧ t = .double ∧ ∃ z, w = .double z) ∨ (i = .freturn ∧ t = .float ∧ ∃ z, w = .float z) ∨ (i = .areturn ∧ t.isReference = true ∧ w.isRef = true))
    (hc : cells ≤ rm.cells) (hs : slots ≤ rm.slots) (hq : Q (some w) T.heap locs) : own_Go p e below (own_Ends s rm Q) T (mkF m pc Ls (w :: rest)) := by
  obtain ⟨fs, hr, hrun, hended, hW, hsame⟩ := X.leave (v := some w) (fun h => by rw [hret] at h; cases h) hlk
  exact ⟨_, _, retOut X hx hret hn hi hd hr, hrun, hended, _, _, rfl, hq, ⟨_, rfl⟩, hW, hsame.mono hc hs⟩
theorem own_retI {rm : Room} {Q : Option Value → Heap → List Loc → Prop} {w : Int32} (X : Stand p l e R s m args below meth c T locs cells slots) (hx : p.tables.exec = Jvm.exec) (hret : meth.sig.returnType = some .int) (hlk : meth.locks = false) (hd : decode c.code pc = .ok (.ireturn, 1)) 
    (hc : cells ≤ rm.cells) (hs : slots ≤ rm.slots) (hq : Q (some (.int w)) T.heap locs) : own_Go p e below (own_Ends s rm Q) T (mkF m pc Ls (.int w :: rest)) :=
  own_ret X hx hret hlk hd rfl (Or.inl ⟨rfl, Or.inl rfl, _, rfl⟩) hc hs hq
theorem own_retZ {rm : Room} {Q : Option Value → Heap → List Loc → Prop} {w : Int32} (X : Stand p l e R s m args below meth c T locs cells slots) (hx : p.tables.exec = Jvm.exec) (hret : meth.sig.returnType = some .boolean) (hlk : meth.locks = false) (hd : decode c.code pc = .ok (.ireturn, 1)) (hw : w = 0 ∨ w = 1)
    (hc : cells ≤ rm.cells) (hs : slots ≤ rm.slots) (hq : Q (some (.int w)) T.heap locs) : own_Go p e below (own_Ends s rm Q) T (mkF m pc Ls (.int w :: rest)) :=
  own_ret X hx hret hlk hd (by rcases hw with rfl | rfl <;> rfl) (Or.inl ⟨rfl, Or.inr (Or.inl rfl), _, rfl⟩) hc hs hq
theorem own_retJ {rm : Room} {Q : Option Value → Heap → List Loc → Prop} {w : Int64} (X : Stand p l e R s m args below meth c T locs cells slots) (hx : p.tables.exec = Jvm.exec) (hret : meth.sig.returnType = some .long) (hlk : meth.locks = false) (hd : decode c.code pc = .ok (.lreturn, 1)) 
    (hc : cells ≤ rm.cells) (hs : slots ≤ rm.slots) (hq : Q (some (.long w)) T.heap locs) : own_Go p e below (own_Ends s rm Q) T (mkF m pc Ls (.long w :: rest)) :=
  own_ret X hx hret hlk hd rfl (Or.inr (Or.inl ⟨rfl, rfl, _, rfl⟩)) hc hs hq
theorem own_retA {rm : Room} {Q : Option Value → Heap → List Loc → Prop} {w : Value} {t : FieldType} (X : Stand p l e R s m args below meth c T locs cells slots) (hx : p.tables.exec = Jvm.exec) (hret : meth.sig.returnType = some t) (hlk : meth.locks = false) (hd : decode c.code pc = .ok (.areturn, 1)) (ht : t.isReference = true) (hn : narrow t w = w) (hw : w.isRef = true)
    (hc : cells ≤ rm.cells) (hs : slots ≤ rm.slots) (hq : Q (some w) T.heap locs) : own_Go p e below (own_Ends s rm Q) T (mkF m pc Ls (w :: rest)) :=
  own_ret X hx hret hlk hd hn (Or.inr (Or.inr (Or.inr (Or.inr ⟨rfl, ht, hw⟩)))) hc hs hq
theorem own_retV {rm : Room} {Q : Option Value → Heap → List Loc → Prop} (X : Stand p l e R s m args below meth c T locs cells slots) (hx : p.tables.exec = Jvm.exec) (hret : meth.sig.returnType = none) (hlk : meth.locks = false) (hd : decode c.code pc = .ok (.return_, 1))
    (hc : cells ≤ rm.cells) (hs : slots ≤ rm.slots) (hq : Q none T.heap locs) : own_Go p e below (own_Ends s rm Q) T (mkF m pc Ls []) := by
  obtain ⟨fs, hr, hrun, hended, hW, hsame⟩ := X.leave (v := none) (fun _ => rfl) hlk
  exact ⟨_, _, X.returnOut hx hret hd hr, hrun, hended, _, _, rfl, hq, ⟨_, rfl⟩, hW, hsame.mono hc hs⟩
abbrev own_K (p : Program) (l : Launch) (e : Env) (R : Room) (s : State) (m : MethodId) (args : Array Value) (below : List Frame) (meth : Method) (c : Code) (P : State → Outcome → Prop) (locs : List Loc) (cells slots : Nat) (rm : Room) (Q : Option Value → Heap → List Loc → Prop) (pc : Nat) (Ls : Array Slot) (rest : List Value) : Prop :=
  ∀ (T' : State) (v : Option Value) (L : List Loc), Stand p l e R s m args below meth c T' (locs ++ L) (cells + rm.cells) (slots + rm.slots) → Q v T'.heap L → own_Go p e below P T' (mkF m pc Ls (v.toList ++ rest))
theorem own_callS {own : String} {index : Nat} {y : MethodName} {bytes : ByteArray} {maxL : Nat} {ret : Option FieldType} {rm : Room} {Q : Option Value → Heap → List Loc → Prop} {ps : List FieldType} {r : Option FieldType} (X : Stand p l e R s m args below meth c T locs cells slots) (hx : p.tables.exec = Jvm.exec) (hZ : Z.Warmed39 s.vm) (hown : s.vm.findClass own = some m.cls) (eT : T.heap = h) (hd : decode c.code pc = .ok (.invokestatic index, 3))
    (argsL rest : List Value) (W : Nat) (C : own_Ct l Z y bytes maxL ret [] rm argsL.toArray h Q) (w1 : (Cond.methodLink own index y).before a0 Z = true) (w2 : (Cond.static y).before a0 Z = true) (w3 : (Cond.initialized y.cls).before a0 Z = true) (w4 : (Cond.code y bytes maxL ret).before a0 Z = true)
    (hy : y.cls ≠ "java/lang/invoke/MethodHandle" ∧ y.cls ≠ "java/lang/invoke/VarHandle") (hpd : parseMethodDescriptor y.desc = some ⟨ps, r⟩) (hsize : Ls.size = c.maxLocals) (hlen : argsL.length = ps.length) (hst : st = argsL.reverse ++ rest)
    (hW : (rest.map fun v => v.category).sum ≤ W) (hf : rm.frames + 1 ≤ R.frames) (hl : W + (maxL + 11) + rm.locals ≤ R.locals) (hc : cells + rm.cells ≤ R.cells) (hs : slots + rm.slots ≤ R.slots)
    (k : own_K p l e R s m args below meth c P locs cells slots rm Q (pc + 3) Ls rest) : own_Go p e below P T (mkF m pc Ls st) := by
  obtain ⟨v, _, ⟨T', L', k', n'⟩, -, X', ⟨Lc, hQ, l', y', z'⟩, stp⟩ := Jvm.LawKit.callS X hx (y := y) hown (mvT hZ w1) (mvT hZ w2) (mvT hZ w3) (mvT hZ w4) hy (backOf (W := W) (Q := Q) C hZ w4 w3 hf hl) (g := mkF m pc Ls st) rfl hsize (argsL := argsL) (rest := rest) (lenOf hpd hlen) hst (by show 2 * 0 + _ ≤ _; omega) hd (fun _ _ => ⟨rfl, eT, hc, hs⟩)
  dsimp only [Pt.U, Pt.locs, Pt.cells, Pt.slots] at X' l' y' z' stp hQ
  subst l' y' z'
  exact own_by stp (k T' v Lc X' hQ)
theorem own_callN {own : String} {index : Nat} {y : MethodName} {bytes : ByteArray} {maxL : Nat} {rm : Room} {Q : Option Value → Heap → List Loc → Prop} {ps : List FieldType} {r : Option FieldType} {a : Addr} (X : Stand p l e R s m args below meth c T locs cells slots) (hx : p.tables.exec = Jvm.exec) (hZ : Z.Warmed39 s.vm) (hown : s.vm.findClass own = some m.cls) (eT : T.heap = h) (hd : decode c.code pc = .ok (.invokespecial index, 3))
    (argsL rest : List Value) (W : Nat) (C : own_Ct l Z y bytes maxL none [] rm (.ref a :: argsL).toArray h Q) (w1 : (Cond.methodLink own index y).before a0 Z = true) (w2 : (Cond.instanceMethod y).before a0 Z = true) (w3 : (Cond.initialized y.cls).before a0 Z = true) (w4 : (Cond.code y bytes maxL none).before a0 Z = true)
    (hyi : y.name = "<init>") (hy : y.cls ≠ "java/lang/invoke/MethodHandle" ∧ y.cls ≠ "java/lang/invoke/VarHandle") (hpd : parseMethodDescriptor y.desc = some ⟨ps, r⟩) (hsize : Ls.size = c.maxLocals) (hlen : argsL.length = ps.length) (hst : st = argsL.reverse ++ .ref a :: rest)
    (hW : (rest.map fun v => v.category).sum ≤ W) (hf : rm.frames + 1 ≤ R.frames) (hl : W + (maxL + 11) + rm.locals ≤ R.locals) (hc : cells + rm.cells ≤ R.cells) (hs : slots + rm.slots ≤ R.slots)
    (k : own_K p l e R s m args below meth c P locs cells slots rm Q (pc + 3) Ls rest) : own_Go p e below P T (mkF m pc Ls st) := by
  obtain ⟨v, _, ⟨T', L', k', n'⟩, -, X', ⟨Lc, hQ, l', y', z'⟩, stp⟩ := X.specialBack hx (y := y) hyi hown (mvT hZ w1) (mvT hZ w2) (mvT hZ w4) hy (backOf (W := W) (Q := Q) C hZ w4 w3 hf hl) (g := mkF m pc Ls st) rfl hsize (Steps.refl _) (a := a) (argsL := argsL) (rest := rest) (lenOf hpd hlen) hst (by show 2 * 0 + _ ≤ _; omega) hd (fun _ _ => ⟨rfl, eT, hc, hs⟩)
  dsimp only [Pt.U, Pt.locs, Pt.cells, Pt.slots] at X' l' y' z' stp hQ
  subst l' y' z'
  exact own_by (fun _ k => stp.trans k) (k T' v Lc X' hQ)
theorem own_callV {own : String} {index : Nat} {C0 : String} {y z : MethodName} {bytes : ByteArray} {maxL : Nat} {ret : Option FieldType} {rm : Room} {Q : Option Value → Heap → List Loc → Prop} {ps : List FieldType} {r : Option FieldType} {a : Addr} (X : Stand p l e R s m args below meth c T locs cells slots) (hx : p.tables.exec = Jvm.exec) (hZ : Z.Warmed39 s.vm) (hown : s.vm.findClass own = some m.cls) (eT : T.heap = h) (hd : decode c.code pc = .ok (.invokevirtual index, 3))
    (argsL rest : List Value) (W : Nat) (C : own_Ct l Z z bytes maxL ret [] rm (.ref a :: argsL).toArray h Q) (E : Exa Z h a C0) (w1 : (Cond.methodLink own index y).before a0 Z = true) (w0 : (Cond.declares y).before a0 Z = true) (nf : NotFace s y) (ws : (Cond.selects C0 y z).before a0 Z = true) (w2 : (Cond.instanceMethod z).before a0 Z = true) (w3 : (Cond.initialized z.cls).before a0 Z = true) (w4 : (Cond.code z bytes maxL ret).before a0 Z = true)
    (hy : y.cls ≠ "java/lang/invoke/MethodHandle" ∧ y.cls ≠ "java/lang/invoke/VarHandle") (hpd : parseMethodDescriptor y.desc = some ⟨ps, r⟩) (hsize : Ls.size = c.maxLocals) (hlen : argsL.length = ps.length) (hst : st = argsL.reverse ++ .ref a :: rest)
    (hW : (rest.map fun v => v.category).sum ≤ W) (hf : rm.frames + 1 ≤ R.frames) (hl : W + (maxL + 11) + rm.locals ≤ R.locals) (hc : cells + rm.cells ≤ R.cells) (hs : slots + rm.slots ≤ R.slots)
    (k : own_K p l e R s m args below meth c P locs cells slots rm Q (pc + 3) Ls rest) : own_Go p e below P T (mkF m pc Ls st) := by
  obtain ⟨cq, kq, qa, qb, qc⟩ := isOf hZ eT E
  obtain ⟨v, _, ⟨T', L', k', n'⟩, -, X', ⟨Lc, hQ, l', y', z'⟩, stp⟩ := X.virtualBack hx (y := y) (z := z) hown (mvT hZ w1) (mvT hZ w0) nf (mvT hZ ws) (mvT hZ w2) hy (backOf (W := W) (Q := Q) C hZ w4 w3 hf hl) qa qc (g := mkF m pc Ls st) rfl hsize (Steps.refl _) (argsL := argsL) (rest := rest) (lenOf hpd hlen) hst (by show 2 * 0 + _ ≤ _; omega) hd (fun _ _ => ⟨rfl, eT, hc, hs⟩)
  dsimp only [Pt.U, Pt.locs, Pt.cells, Pt.slots] at X' l' y' z' stp hQ
  subst l' y' z'
  exact own_by (fun _ k => stp.trans k) (k T' v Lc X' hQ)
theorem own_callP {own : String} {index : Nat} {C0 : String} {y : MethodName} {bytes : ByteArray} {maxL : Nat} {ret : Option FieldType} {rm : Room} {Q : Option Value → Heap → List Loc → Prop} {ps : List FieldType} {r : Option FieldType} {a : Addr} (X : Stand p l e R s m args below meth c T locs cells slots) (hx : p.tables.exec = Jvm.exec) (hZ : Z.Warmed39 s.vm) (hown : s.vm.findClass own = some m.cls) (eT : T.heap = h) (hd : decode c.code pc = .ok (.invokevirtual index, 3))
    (argsL rest : List Value) (W : Nat) (C : own_Ct l Z y bytes maxL ret [] rm (.ref a :: argsL).toArray h Q) (E : Exa Z h a C0) (w1 : (Cond.methodLink own index y).before a0 Z = true) (w2 : (Cond.instanceMethod y).before a0 Z = true) (ws : (Cond.selects y.cls y y).before a0 Z = true) (wp : (Cond.privateMethod y).before a0 Z = true) (w3 : (Cond.initialized y.cls).before a0 Z = true) (w4 : (Cond.code y bytes maxL ret).before a0 Z = true)
    (hy : y.cls ≠ "java/lang/invoke/MethodHandle" ∧ y.cls ≠ "java/lang/invoke/VarHandle") (hpd : parseMethodDescriptor y.desc = some ⟨ps, r⟩) (hsize : Ls.size = c.maxLocals) (hlen : argsL.length = ps.length) (hst : st = argsL.reverse ++ .ref a :: rest)
    (hW : (rest.map fun v => v.category).sum ≤ W) (hf : rm.frames + 1 ≤ R.frames) (hl : W + (maxL + 11) + rm.locals ≤ R.locals) (hc : cells + rm.cells ≤ R.cells) (hs : slots + rm.slots ≤ R.slots)
    (k : own_K p l e R s m args below meth c P locs cells slots rm Q (pc + 3) Ls rest) : own_Go p e below P T (mkF m pc Ls st) := by
  obtain ⟨cq, q1, q2⟩ := E.cell
  obtain ⟨v, _, ⟨T', L', k', n'⟩, -, X', ⟨Lc, hQ, l', y', z'⟩, stp⟩ := X.privateBack hx (y := y) hown (mvT hZ w1) (mvT hZ w2) (mvT hZ ws) (Cond.privateMethod_at (mvP hZ wp (args := #[]))) (mvT hZ w4) hy (backOf (W := W) (Q := Q) C hZ w4 w3 hf hl) (g := mkF m pc Ls st) rfl hsize (Steps.refl _) (a := a) (by rw [eT]; exact q1) q2 (argsL := argsL) (rest := rest) (lenOf hpd hlen) hst (by show 2 * 0 + _ ≤ _; omega) hd (fun _ _ => ⟨rfl, eT, hc, hs⟩)
  dsimp only [Pt.U, Pt.locs, Pt.cells, Pt.slots] at X' l' y' z' stp hQ
  subst l' y' z'
  exact own_by (fun _ k => stp.trans k) (k T' v Lc X' hQ)
abbrev own_K0 (p : Program) (l : Launch) (e : Env) (R : Room) (s : State) (m : MethodId) (args : Array Value) (below : List Frame) (meth : Method) (c : Code) (P : State → Outcome → Prop) (locs : List Loc) (cells slots : Nat) (h : Heap) (pc : Nat) (Ls : Array Slot) (st : List Value) : Prop :=
  ∀ (T' : State), Stand p l e R s m args below meth c T' locs cells slots → T'.heap = h → own_Go p e below P T' (mkF m pc Ls st)
theorem own_init {own : String} {index : Nat} {a : Addr} (X : Stand p l e R s m args below meth c T locs cells slots) (hx : p.tables.exec = Jvm.exec) (hZ : Z.Warmed39 s.vm) (hown : s.vm.findClass own = some m.cls) (eT : T.heap = h) (hd : decode c.code pc = .ok (.invokespecial index, 3)) (W : Nat)
    (w1 : (Cond.methodLink own index Lib.objectInit).before a0 Z = true) (w2 : (Cond.instanceMethod Lib.objectInit).before a0 Z = true) (w3 : (Cond.code Lib.objectInit ⟨#[0xb1]⟩ 1 none).before a0 Z = true) (hsize : Ls.size = c.maxLocals) (hW : (rest.map fun v => v.category).sum ≤ W) (hf : 1 ≤ R.frames) (hl : W + 12 ≤ R.locals)
    (k : own_K0 p l e R s m args below meth c P locs cells slots h (pc + 3) Ls rest) : own_Go p e below P T (mkF m pc Ls (.ref a :: rest)) := by
  obtain ⟨T', X', e', st⟩ := initO X hx hZ hown w1 w2 w3 eT (g := mkF m pc Ls (.ref a :: rest)) rfl hsize rfl hd hf (W := W) (by show 2 * 0 + _ ≤ _; omega) hl
  exact own_by st (k T' X' e')
theorem own_getF {own R0 O n d host : String} {index : Nat} {a : Addr} {v : Value} (X : Stand p l e R s m args below meth c T locs cells slots) (hx : p.tables.exec = Jvm.exec) (hZ : Z.Warmed39 s.vm) (hown : s.vm.findClass own = some m.cls) (eT : T.heap = h) (hd : decode c.code pc = .ok (.getfield index, 3))
    (w : (Cond.fieldLink own index R0 n d).before a0 Z = true ∨ (Cond.fieldLinkNest own index R0 n d host).before a0 Z = true) (via : Via Z R0 O n d) (F : Fld Z h a O n d v)
    (k : own_K0 p l e R s m args below meth c P locs cells slots h (pc + 3) Ls (v :: rest)) : own_Go p e below P T (mkF m pc Ls (.ref a :: rest)) := by
  obtain ⟨T', X', e', st⟩ := getF X hx hZ hown w via eT F (g := mkF m pc Ls (.ref a :: rest)) rfl rfl hd
  exact own_by st (k T' X' e')
theorem own_getS {own R0 O n d host : String} {index : Nat} {v : Value} (X : Stand p l e R s m args below meth c T locs cells slots) (hx : p.tables.exec = Jvm.exec) (hZ : Z.Warmed39 s.vm) (hown : s.vm.findClass own = some m.cls) (eT : T.heap = h) (hd : decode c.code pc = .ok (.getstatic index, 3))
    (w : (Cond.fieldLink own index R0 n d).before a0 Z = true ∨ (Cond.fieldLinkNest own index R0 n d host).before a0 Z = true) (via : Via Z R0 O n d) (F : Sta Z h O n d v)
    (k : own_K0 p l e R s m args below meth c P locs cells slots h (pc + 3) Ls (v :: st)) : own_Go p e below P T (mkF m pc Ls st) := by
  obtain ⟨T', X', e', stp⟩ := getS2 X hx hZ hown w via eT F (g := mkF m pc Ls st) rfl hd
  exact own_by stp (k T' X' e')
theorem own_new {own C : String} {index n : Nat} (X : Stand p l e R s m args below meth c T locs cells slots) (hx : p.tables.exec = Jvm.exec) (hZ : Z.Warmed39 s.vm) (hown : s.vm.findClass own = some m.cls) (eT : T.heap = h) (hd : decode c.code pc = .ok (.new index, 3))
    (w : (Cond.classLink own index C).before a0 Z = true) (wi : (Cond.instantiable C n).before a0 Z = true) (wz : (Cond.initialized C).before a0 Z = true) (hc : cells + 1 ≤ R.cells) (hl : slots + n ≤ R.slots)
    (k : ∀ (T' : State) (h' : Heap) (b : Addr), Stand p l e R s m args below meth c T' locs (cells + 1) (slots + n) → T'.heap = h' → b = h.size → Ext h h' → Exa Z h' b C → (∀ {O nm d : String} {ty : FieldType}, Laid Z a0 C O nm d → parseFieldDescriptor d = some ty → Fld Z h' b O nm d (defaultValue ty)) → own_Go p e below P T' (mkF m (pc + 3) Ls (.ref b :: st))) :
    own_Go p e below P T (mkF m pc Ls st) := by
  obtain ⟨T', h', X', e', E, A, D, -, stp⟩ := newO X hx hZ hown w wi wz eT (g := mkF m pc Ls st) rfl hd hc hl
  exact own_by stp (k T' h' _ X' e' rfl E A D)
theorem own_putF {own R0 O n d host C : String} {index kk : Nat} {ty : FieldType} {a : Addr} {v old : Value} (X : Stand p l e R s m args below meth c T locs cells slots) (hx : p.tables.exec = Jvm.exec) (hZ : Z.Warmed39 s.vm) (hown : s.vm.findClass own = some m.cls) (eT : T.heap = h) (hd : decode c.code pc = .ok (.putfield index, 3))
    (w : (Cond.fieldLink own index R0 n d).before a0 Z = true ∨ (Cond.fieldLinkNest own index R0 n d host).before a0 Z = true) (via : Via Z R0 O n d) (F : Fld Z h a O n d old) (E : Exa Z h a C) (L : (Cond.lays C O n d).before a0 Z = true ∨ ((Cond.laysFinal C O n d).before a0 Z = true ∧ own = O ∧ meth.name = "<init>")) (wi : (Cond.instantiable C kk).before a0 Z = true)
    (hty : parseFieldDescriptor d = some ty) (hn : narrow ty v = v) (hf : fits ty v = true)
    (k : ∀ (T' : State) (h' : Heap), Stand p l e R s m args below meth c T' (locs ++ [⟨a, Jvm.RoadKit.slotOf Z O n d⟩]) cells slots → T'.heap = h' → Wr h h' a (Jvm.RoadKit.slotOf Z O n d) v → own_Go p e below P T' (mkF m (pc + 3) Ls rest)) :
    own_Go p e below P T (mkF m pc Ls (v :: .ref a :: rest)) := by
  obtain ⟨T', h', X', e', W, st⟩ := putF X hx hZ hown w via eT F E L wi hty hn hf (g := mkF m pc Ls (v :: .ref a :: rest)) rfl rfl hd
  exact own_by st (k T' h' X' e' W)
theorem own_newA {aty : ArrayType} {n : Int32} (X : Stand p l e R s m args below meth c T locs cells slots) (hx : p.tables.exec = Jvm.exec) (hZ : Z.Warmed39 s.vm) (eT : T.heap = h) (hd : decode c.code pc = .ok (.newarray aty, 2))
    (w : (Cond.arrayClass (newarray.typeOf aty)).before a0 Z = true) (hn : ¬ n < 0) (cap : Nat) (hcap : n.toNatClampNeg ≤ cap) (hb : cap * 8 ≤ 536870912) (hc : cells + 1 ≤ R.cells) (hl : slots + cap ≤ R.slots)
    (k : ∀ (T' : State) (h' : Heap) (b : Addr) (cA : ClassId), Stand p l e R s m args below meth c T' locs (cells + 1) (slots + cap) → T'.heap = h' → b = h.size → Ext h h' → Arv Z h' b cA (newarray.typeOf aty) n [] (defaultValue (newarray.typeOf aty)) → own_Go p e below P T' (mkF m (pc + 2) Ls (.ref b :: rest))) :
    own_Go p e below P T (mkF m pc Ls (.int n :: rest)) := by
  obtain ⟨T', h', cA, X', e', E, A, stp⟩ := newP X hx hZ w eT (g := mkF m pc Ls (.int n :: rest)) rfl hd rfl hn hcap hb hc hl
  exact own_by stp (k T' h' _ cA X' e' rfl E (Arv.new A hn))
theorem own_ldcI {own : String} {index : Nat} {i : Int32} (X : Stand p l e R s m args below meth c T locs cells slots) (hx : p.tables.exec = Jvm.exec) (hZ : Z.Warmed39 s.vm) (hown : s.vm.findClass own = some m.cls) (hd : decode c.code pc = .ok (.ldc index, 2)) (w : (Cond.constant own index i).before a0 Z = true)
    (k : own_Go p e below P T (mkF m (pc + 2) Ls (.int i :: st))) : own_Go p e below P T (mkF m pc Ls st) :=
  own_by (fun t k => X.ldcInt hx hown (mvT hZ w) (g := mkF m pc Ls st) rfl hd t k) k
theorem own_ldcJ {own : String} {index : Nat} {i : Int64} (X : Stand p l e R s m args below meth c T locs cells slots) (hx : p.tables.exec = Jvm.exec) (hZ : Z.Warmed39 s.vm) (hown : s.vm.findClass own = some m.cls) (hd : decode c.code pc = .ok (.ldc2_w index, 3)) (w : (Cond.constantLong own index i).before a0 Z = true)
    (k : own_Go p e below P T (mkF m (pc + 3) Ls (.long i :: st))) : own_Go p e below P T (mkF m pc Ls st) :=
  own_by (fun t k => X.ldc2Long hx hown (mvT hZ w) (g := mkF m pc Ls st) rfl hd t k) k
end Own
theorem d1_0 : decode prog_145_method_2_code 0 = .ok (.iload_n 0, 1) := by decide +kernel
theorem d1_1 : decode prog_145_method_2_code 1 = .ok (.bipush 32, 2) := by decide +kernel
theorem d1_3 : decode prog_145_method_2_code 3 = .ok (.if_icmp .eq 21, 3) := by decide +kernel
theorem d1_24 : decode prog_145_method_2_code 24 = .ok (.iconst 1, 1) := by decide +kernel
theorem d1_25 : decode prog_145_method_2_code 25 = .ok (.goto 4, 3) := by decide +kernel
theorem d1_29 : decode prog_145_method_2_code 29 = .ok (.ireturn, 1) := by decide +kernel
theorem d1_6 : decode prog_145_method_2_code 6 = .ok (.iload_n 0, 1) := by decide +kernel
theorem d1_7 : decode prog_145_method_2_code 7 = .ok (.bipush 9, 2) := by decide +kernel
theorem d1_9 : decode prog_145_method_2_code 9 = .ok (.if_icmp .eq 15, 3) := by decide +kernel
theorem d1_12 : decode prog_145_method_2_code 12 = .ok (.iload_n 0, 1) := by decide +kernel
theorem d1_13 : decode prog_145_method_2_code 13 = .ok (.bipush 10, 2) := by decide +kernel
theorem d1_15 : decode prog_145_method_2_code 15 = .ok (.if_icmp .eq 9, 3) := by decide +kernel
theorem d1_18 : decode prog_145_method_2_code 18 = .ok (.iload_n 0, 1) := by decide +kernel
theorem d1_19 : decode prog_145_method_2_code 19 = .ok (.bipush 13, 2) := by decide +kernel
theorem d1_21 : decode prog_145_method_2_code 21 = .ok (.if_icmp .ne 7, 3) := by decide +kernel
theorem d1_28 : decode prog_145_method_2_code 28 = .ok (.iconst 0, 1) := by decide +kernel
theorem pn_com_example_tally_of_atoms_tallyofatoms_XmlCharacters : plainName "com/example/tally_of_atoms/tallyofatoms/XmlCharacters" = true := by first | (simp [plainName, overriddenIn]; done) | decide +kernel
theorem pd__C_Z : parseMethodDescriptor "(C)Z" = some ⟨[.char], some .boolean⟩ := by decide +kernel
theorem pn_com_example_tally_of_atoms_tallyofatoms_XmlCharactersIsSpacePinLaw : plainName "com/example/tally_of_atoms/tallyofatoms/XmlCharactersIsSpacePinLaw" = true := by first | (simp [plainName, overriddenIn]; done) | decide +kernel
def own_sp (c : Int32) : Int32 := if c = 32 then 1 else if c = 9 then 1 else if c = 10 then 1 else if c = 13 then 1 else 0
theorem own_i64 (z : Int32) (h0 : 0 ≤ z.toInt) (h1 : z.toInt < 64) : ∃ k : Fin 64, z = Int32.ofNat k.1 := by
  refine ⟨⟨z.toInt.toNat, by omega⟩, Int32.toInt_inj.mp ?_⟩
  rw [Int32.toInt_ofNat_of_lt (by simp only; omega)]
  simp only; omega
theorem own_tab : ∀ k : Fin 64, (if (((4294977024 : Int64).toUInt64 >>> ((Int32.ofNat k.1) &&& 0x3f).toInt64.toUInt64).toInt64 &&& (1 : Int64)) = (0 : Int64) then (0 : Int32) else 1) = own_sp (Int32.ofNat k.1) := by decide +kernel
theorem own_big (z : Int32) (h : ¬ z < 64) : own_sp z = 0 := by
  have e : ∀ q : Int32, q < 64 → ¬ z = q := fun q hq e => h (e ▸ hq)
  simp [own_sp, e 32 (by decide), e 9 (by decide), e 10 (by decide), e 13 (by decide)]
theorem own_same (z : Int32) (h0 : 0 ≤ z.toInt) : own_sp z = (if z < (64 : Int32) then (if (((4294977024 : Int64).toUInt64 >>> (z &&& 0x3f).toInt64.toUInt64).toInt64 &&& (1 : Int64)) = (0 : Int64) then (0 : Int32) else (1 : Int32)) else (0 : Int32)) := by
  by_cases h : z < (64 : Int32)
  · rw [if_pos h]
    have h1 : z.toInt < 64 := Int32.lt_iff_toInt_lt.mp h
    obtain ⟨k, rfl⟩ := own_i64 z h0 h1
    exact (own_tab k).symm
  · rw [if_neg h]; exact own_big z h
theorem ef_rmS (m : MethodId) (x0 : Int32) : entryFrame m #[(.int x0)] 1 = mkF m 0 #[.val (.int x0)] [] := by first | (simp [entryFrame, mkF, argsToLocals, Value.category]; done) | rfl
set_option maxRecDepth 65536 in
set_option maxHeartbeats 40000000 in
theorem rmS (l : Launch) (Z : State) (a0 : Array Value) (hw : ∀ d ∈ tables_1, d.before a0 Z = true) (ws : List Jvm.Cond) (p1 : Int32) (h0 : Heap)  :
    own_Ct l Z (⟨"com/example/tally_of_atoms/tallyofatoms/XmlCharacters", "isSpace", "(C)Z"⟩ : MethodName) prog_145_method_2_code 1 (some .boolean) ws ({ frames := 0, cells := 0, slots := 0, locals := 0 } : Room) #[(.int p1)] h0 (fun v h L => v = some (.int (own_sp p1)) ∧ L = [] ∧ h = h0) := by
  refine own_of pn_com_example_tally_of_atoms_tallyofatoms_XmlCharacters ?_
  intro p e s m below meth c s₁ hx hby hml hown hnm hret hlk hZ X0 e0
  rw [ef_rmS]
  refine own_by (T' := s₁) (f' := (mkF m 1 #[.val (.int p1)] [(.int p1)])) (fun t k => XS.iloadN X0.here hx rfl (hb hby d1_0) rfl k) ?_
  refine own_by (T' := s₁) (f' := (mkF m 3 #[.val (.int p1)] [(.int (32 : Int32)), (.int p1)])) (fun t k => XS.bipush X0.here hx rfl (hb hby d1_1) k) ?_
  by_cases hc3_1 : p1 = (32 : Int32)
  · have _ := X0
    refine own_by (T' := s₁) (f' := (mkF m 24 #[.val (.int p1)] [])) (fun t k => XS.icmpYes X0.here hx rfl (pc0 := 3) (pc' := 24) rfl (hb hby d1_3) rfl (teq hc3_1).1 (by decide) (by decide) k) ?_
    refine own_by (T' := s₁) (f' := (mkF m 25 #[.val (.int p1)] [(.int (1 : Int32))])) (fun t k => XS.iconst X0.here hx rfl (hb hby d1_24) k) ?_
    refine own_by (T' := s₁) (f' := (mkF m 29 #[.val (.int p1)] [(.int (1 : Int32))])) (fun t k => XS.goto X0.here hx rfl (pc0 := 25) (pc' := 29) rfl (hb hby d1_25) (by decide) (by decide) k) ?_
    refine own_retZ X0 hx hret hlk (hb hby d1_29) (Or.inr rfl) (by decide) (by decide) ?_
    try rw [e0]
    exact ⟨by simp [own_sp, hc3_1], rfl, rfl⟩
  · have _ := X0
    refine own_by (T' := s₁) (f' := (mkF m 6 #[.val (.int p1)] [])) (fun t k => XS.icmpNo X0.here hx rfl (hb hby d1_3) rfl (feq hc3_1).1 k) ?_
    refine own_by (T' := s₁) (f' := (mkF m 7 #[.val (.int p1)] [(.int p1)])) (fun t k => XS.iloadN X0.here hx rfl (hb hby d1_6) rfl k) ?_
    refine own_by (T' := s₁) (f' := (mkF m 9 #[.val (.int p1)] [(.int (9 : Int32)), (.int p1)])) (fun t k => XS.bipush X0.here hx rfl (hb hby d1_7) k) ?_
    by_cases hc9_2 : p1 = (9 : Int32)
    · have _ := X0
      refine own_by (T' := s₁) (f' := (mkF m 24 #[.val (.int p1)] [])) (fun t k => XS.icmpYes X0.here hx rfl (pc0 := 9) (pc' := 24) rfl (hb hby d1_9) rfl (teq hc9_2).1 (by decide) (by decide) k) ?_
      refine own_by (T' := s₁) (f' := (mkF m 25 #[.val (.int p1)] [(.int (1 : Int32))])) (fun t k => XS.iconst X0.here hx rfl (hb hby d1_24) k) ?_
      refine own_by (T' := s₁) (f' := (mkF m 29 #[.val (.int p1)] [(.int (1 : Int32))])) (fun t k => XS.goto X0.here hx rfl (pc0 := 25) (pc' := 29) rfl (hb hby d1_25) (by decide) (by decide) k) ?_
      refine own_retZ X0 hx hret hlk (hb hby d1_29) (Or.inr rfl) (by decide) (by decide) ?_
      try rw [e0]
      exact ⟨by simp [own_sp, hc3_1, hc9_2], rfl, rfl⟩
    · have _ := X0
      refine own_by (T' := s₁) (f' := (mkF m 12 #[.val (.int p1)] [])) (fun t k => XS.icmpNo X0.here hx rfl (hb hby d1_9) rfl (feq hc9_2).1 k) ?_
      refine own_by (T' := s₁) (f' := (mkF m 13 #[.val (.int p1)] [(.int p1)])) (fun t k => XS.iloadN X0.here hx rfl (hb hby d1_12) rfl k) ?_
      refine own_by (T' := s₁) (f' := (mkF m 15 #[.val (.int p1)] [(.int (10 : Int32)), (.int p1)])) (fun t k => XS.bipush X0.here hx rfl (hb hby d1_13) k) ?_
      by_cases hc15_3 : p1 = (10 : Int32)
      · have _ := X0
        refine own_by (T' := s₁) (f' := (mkF m 24 #[.val (.int p1)] [])) (fun t k => XS.icmpYes X0.here hx rfl (pc0 := 15) (pc' := 24) rfl (hb hby d1_15) rfl (teq hc15_3).1 (by decide) (by decide) k) ?_
        refine own_by (T' := s₁) (f' := (mkF m 25 #[.val (.int p1)] [(.int (1 : Int32))])) (fun t k => XS.iconst X0.here hx rfl (hb hby d1_24) k) ?_
        refine own_by (T' := s₁) (f' := (mkF m 29 #[.val (.int p1)] [(.int (1 : Int32))])) (fun t k => XS.goto X0.here hx rfl (pc0 := 25) (pc' := 29) rfl (hb hby d1_25) (by decide) (by decide) k) ?_
        refine own_retZ X0 hx hret hlk (hb hby d1_29) (Or.inr rfl) (by decide) (by decide) ?_
        try rw [e0]
        exact ⟨by simp [own_sp, hc3_1, hc9_2, hc15_3], rfl, rfl⟩
      · have _ := X0
        refine own_by (T' := s₁) (f' := (mkF m 18 #[.val (.int p1)] [])) (fun t k => XS.icmpNo X0.here hx rfl (hb hby d1_15) rfl (feq hc15_3).1 k) ?_
        refine own_by (T' := s₁) (f' := (mkF m 19 #[.val (.int p1)] [(.int p1)])) (fun t k => XS.iloadN X0.here hx rfl (hb hby d1_18) rfl k) ?_
        refine own_by (T' := s₁) (f' := (mkF m 21 #[.val (.int p1)] [(.int (13 : Int32)), (.int p1)])) (fun t k => XS.bipush X0.here hx rfl (hb hby d1_19) k) ?_
        by_cases hc21_4 : p1 = (13 : Int32)
        · have _ := X0
          refine own_by (T' := s₁) (f' := (mkF m 24 #[.val (.int p1)] [])) (fun t k => XS.icmpNo X0.here hx rfl (hb hby d1_21) rfl (teq hc21_4).2 k) ?_
          refine own_by (T' := s₁) (f' := (mkF m 25 #[.val (.int p1)] [(.int (1 : Int32))])) (fun t k => XS.iconst X0.here hx rfl (hb hby d1_24) k) ?_
          refine own_by (T' := s₁) (f' := (mkF m 29 #[.val (.int p1)] [(.int (1 : Int32))])) (fun t k => XS.goto X0.here hx rfl (pc0 := 25) (pc' := 29) rfl (hb hby d1_25) (by decide) (by decide) k) ?_
          refine own_retZ X0 hx hret hlk (hb hby d1_29) (Or.inr rfl) (by decide) (by decide) ?_
          try rw [e0]
          exact ⟨by simp [own_sp, hc3_1, hc9_2, hc15_3, hc21_4], rfl, rfl⟩
        · have _ := X0
          refine own_by (T' := s₁) (f' := (mkF m 28 #[.val (.int p1)] [])) (fun t k => XS.icmpYes X0.here hx rfl (pc0 := 21) (pc' := 28) rfl (hb hby d1_21) rfl (feq hc21_4).2 (by decide) (by decide) k) ?_
          refine own_by (T' := s₁) (f' := (mkF m 29 #[.val (.int p1)] [(.int (0 : Int32))])) (fun t k => XS.iconst X0.here hx rfl (hb hby d1_28) k) ?_
          refine own_retZ X0 hx hret hlk (hb hby d1_29) (Or.inl rfl) (by decide) (by decide) ?_
          try rw [e0]
          exact ⟨by simp [own_sp, hc3_1, hc9_2, hc15_3, hc21_4], rfl, rfl⟩
theorem ef_rm0 (m : MethodId) (x0 : Int32) (x1 : Int32) : entryFrame m #[(.int x0), (.int x1)] maxLocals = mkF m 0 #[.val (.int x0), .val (.int x1), .unset, .unset, .unset, .unset, .unset] [] := by first | (simp [entryFrame, mkF, argsToLocals, Value.category, maxLocals]; done) | rfl
set_option maxRecDepth 65536 in
set_option maxHeartbeats 40000000 in
theorem rm0 (l : Launch) (Z : State) (a0 : Array Value) (hw : ∀ d ∈ tables_1, d.before a0 Z = true) (ws : List Jvm.Cond) (i0 i1 : Int32) (h0 : Heap) (n0 : Nat) :
    own_Ct l Z x code maxLocals ret ws room_1 #[(.int i0), (.int i1)] h0 (fun v h L => v = some (.int 1) ∧ Fr n0 L) := by
  refine own_of pn_com_example_tally_of_atoms_tallyofatoms_XmlCharactersIsSpacePinLaw ?_
  intro p e s m below meth c s₁ hx hby hml hown hnm hret hlk hZ X0 e0
  rw [ef_rm0]
  refine own_by (T' := s₁) (f' := (mkF m 1 #[.val (.int i0), .val (.int i1), .unset, .unset, .unset, .unset, .unset] [(.int i1)])) (fun t k => XS.iloadN X0.here hx rfl (hb hby at_0) rfl k) ?_
  refine own_by (T' := s₁) (f' := (mkF m 2 #[.val (.int i0), .val (.int i1), .unset, .unset, .unset, .unset, .unset] [(.int (1 : Int32)), (.int i1)])) (fun t k => XS.iconst X0.here hx rfl (hb hby at_1) k) ?_
  refine own_by (T' := s₁) (f' := (mkF m 3 #[.val (.int i0), .val (.int i1), .unset, .unset, .unset, .unset, .unset] [(.int (i1 &&& (1 : Int32)))])) (fun t k => XS.iand X0.here hx rfl (hb hby at_2) rfl k) ?_
  have mg2 : ∀ t, Steps p.tables e below (s₁.setTop (mkF m 17 #[.val (.int i0), .val (.int i1), .unset, .unset, .unset, .unset, .unset] [(.int (if (i1 &&& (1 : Int32)) = (0 : Int32) then (i0 &&& (65535 : Int32)) else (i0 &&& (63 : Int32))))])) t → Steps p.tables e below (s₁.setTop (mkF m 3 #[.val (.int i0), .val (.int i1), .unset, .unset, .unset, .unset, .unset] [(.int (i1 &&& (1 : Int32)))])) t := by
    intro t k0
    by_cases hm1 : (i1 &&& (1 : Int32)) = (0 : Int32)
    · skip
      refine XS.ifYes X0.here hx rfl (pc0 := 3) (pc' := 13) rfl (hb hby at_3) rfl ((if0 _ _).trans (teq hm1).1) (by decide) (by decide) ?_
      show Steps p.tables e below (s₁.setTop (mkF m 13 #[.val (.int i0), .val (.int i1), .unset, .unset, .unset, .unset, .unset] [])) _
      refine XS.iloadN X0.here hx rfl (hb hby at_13) rfl ?_
      show Steps p.tables e below (s₁.setTop (mkF m 14 #[.val (.int i0), .val (.int i1), .unset, .unset, .unset, .unset, .unset] [(.int i0)])) _
      refine X0.ldcInt hx hown (mvT hZ (hw _ (List.mem_of_getElem? (i := 5) rfl))) (g := (mkF m 14 #[.val (.int i0), .val (.int i1), .unset, .unset, .unset, .unset, .unset] [(.int i0)])) rfl (hb hby at_14) _ ?_
      show Steps p.tables e below (s₁.setTop (mkF m 16 #[.val (.int i0), .val (.int i1), .unset, .unset, .unset, .unset, .unset] [(.int (65535 : Int32)), (.int i0)])) _
      refine XS.iand X0.here hx rfl (hb hby at_16) rfl ?_
      show Steps p.tables e below (s₁.setTop (mkF m 17 #[.val (.int i0), .val (.int i1), .unset, .unset, .unset, .unset, .unset] [(.int (i0 &&& (65535 : Int32)))])) _
      simp only [hm1] at k0 ; exact k0
    · skip
      refine XS.ifNo X0.here hx rfl (hb hby at_3) rfl ((if0 _ _).trans (feq hm1).1) ?_
      show Steps p.tables e below (s₁.setTop (mkF m 6 #[.val (.int i0), .val (.int i1), .unset, .unset, .unset, .unset, .unset] [])) _
      refine XS.iloadN X0.here hx rfl (hb hby at_6) rfl ?_
      show Steps p.tables e below (s₁.setTop (mkF m 7 #[.val (.int i0), .val (.int i1), .unset, .unset, .unset, .unset, .unset] [(.int i0)])) _
      refine XS.bipush X0.here hx rfl (hb hby at_7) ?_
      show Steps p.tables e below (s₁.setTop (mkF m 9 #[.val (.int i0), .val (.int i1), .unset, .unset, .unset, .unset, .unset] [(.int (63 : Int32)), (.int i0)])) _
      refine XS.iand X0.here hx rfl (hb hby at_9) rfl ?_
      show Steps p.tables e below (s₁.setTop (mkF m 10 #[.val (.int i0), .val (.int i1), .unset, .unset, .unset, .unset, .unset] [(.int (i0 &&& (63 : Int32)))])) _
      refine XS.goto X0.here hx rfl (pc0 := 10) (pc' := 17) rfl (hb hby at_10) (by decide) (by decide) ?_
      show Steps p.tables e below (s₁.setTop (mkF m 17 #[.val (.int i0), .val (.int i1), .unset, .unset, .unset, .unset, .unset] [(.int (i0 &&& (63 : Int32)))])) _
      simp only [hm1] at k0 ; exact k0
  refine own_by mg2 ?_
  refine own_by (T' := s₁) (f' := (mkF m 18 #[.val (.int i0), .val (.int i1), .unset, .unset, .unset, .unset, .unset] [(.int ((if (i1 &&& (1 : Int32)) = (0 : Int32) then (i0 &&& (65535 : Int32)) else (i0 &&& (63 : Int32))).toUInt32.toUInt16.toUInt32.toInt32))])) (fun t k => XS.i2c X0.here hx rfl (hb hby at_17) rfl k) ?_
  obtain ⟨v0, hv0⟩ : ∃ z : Int32, z = ((if (i1 &&& (1 : Int32)) = (0 : Int32) then (i0 &&& (65535 : Int32)) else (i0 &&& (63 : Int32))).toUInt32.toUInt16.toUInt32.toInt32) := ⟨_, rfl⟩
  rw [← hv0]
  show own_Go p e below _ s₁ (mkF m 18 #[.val (.int i0), .val (.int i1), .unset, .unset, .unset, .unset, .unset] [(.int v0)])
  have hk0 : 0 ≤ v0.toInt := by rw [hv0]; exact (c_i2c _).2.1
  refine own_by (T' := s₁) (f' := (mkF m 19 #[.val (.int i0), .val (.int i1), .val (.int v0), .unset, .unset, .unset, .unset] [])) (fun t k => XS.istoreN X0.here hx rfl (hb hby at_18) rfl (l' := #[.val (.int i0), .val (.int i1), .val (.int v0), .unset, .unset, .unset, .unset]) rfl k) ?_
  refine own_by (T' := s₁) (f' := (mkF m 20 #[.val (.int i0), .val (.int i1), .val (.int v0), .unset, .unset, .unset, .unset] [(.int v0)])) (fun t k => XS.iloadN X0.here hx rfl (hb hby at_19) rfl k) ?_
  refine own_by (T' := s₁) (f' := (mkF m 21 #[.val (.int i0), .val (.int i1), .val (.int v0), .val (.int v0), .unset, .unset, .unset] [])) (fun t k => XS.istoreN X0.here hx rfl (hb hby at_20) rfl (l' := #[.val (.int i0), .val (.int i1), .val (.int v0), .val (.int v0), .unset, .unset, .unset]) rfl k) ?_
  refine own_by (T' := s₁) (f' := (mkF m 24 #[.val (.int i0), .val (.int i1), .val (.int v0), .val (.int v0), .unset, .unset, .unset] [(.long (4294977024 : Int64))])) (fun t k => X0.ldc2Long hx hown (mvT hZ (hw _ (List.mem_of_getElem? (i := 0) rfl))) (g := (mkF m 21 #[.val (.int i0), .val (.int i1), .val (.int v0), .val (.int v0), .unset, .unset, .unset] [])) rfl (hb hby at_21) _ k) ?_
  refine own_by (T' := s₁) (f' := (mkF m 26 #[.val (.int i0), .val (.int i1), .val (.int v0), .val (.int v0), .val (.long (4294977024 : Int64)), .second, .unset] [])) (fun t k => XS.lstore X0.here hx rfl (hb hby at_24) rfl (l' := #[.val (.int i0), .val (.int i1), .val (.int v0), .val (.int v0), .val (.long (4294977024 : Int64)), .second, .unset]) rfl k) ?_
  refine own_by (T' := s₁) (f' := (mkF m 27 #[.val (.int i0), .val (.int i1), .val (.int v0), .val (.int v0), .val (.long (4294977024 : Int64)), .second, .unset] [(.int v0)])) (fun t k => XS.iloadN X0.here hx rfl (hb hby at_26) rfl k) ?_
  refine own_by (T' := s₁) (f' := (mkF m 29 #[.val (.int i0), .val (.int i1), .val (.int v0), .val (.int v0), .val (.long (4294977024 : Int64)), .second, .unset] [(.int (64 : Int32)), (.int v0)])) (fun t k => XS.bipush X0.here hx rfl (hb hby at_27) k) ?_
  have mg5 : ∀ t, Steps p.tables e below (s₁.setTop (mkF m 48 #[.val (.int i0), .val (.int i1), .val (.int v0), .val (.int v0), .val (.long (4294977024 : Int64)), .second, .unset] [(.int (if v0 < (64 : Int32) then (if ((((4294977024 : Int64).toUInt64 >>> (v0 &&& 0x3f).toInt64.toUInt64).toInt64) &&& (1 : Int64)) = (0 : Int64) then (0 : Int32) else (1 : Int32)) else (0 : Int32)))])) t → Steps p.tables e below (s₁.setTop (mkF m 29 #[.val (.int i0), .val (.int i1), .val (.int v0), .val (.int v0), .val (.long (4294977024 : Int64)), .second, .unset] [(.int (64 : Int32)), (.int v0)])) t := by
    intro t k0
    by_cases hm3 : v0 < (64 : Int32)
    · skip
      refine XS.icmpNo X0.here hx rfl (hb hby at_29) rfl (tlt hm3).2.1 ?_
      show Steps p.tables e below (s₁.setTop (mkF m 32 #[.val (.int i0), .val (.int i1), .val (.int v0), .val (.int v0), .val (.long (4294977024 : Int64)), .second, .unset] [])) _
      refine XS.lload X0.here hx rfl (hb hby at_32) rfl ?_
      show Steps p.tables e below (s₁.setTop (mkF m 34 #[.val (.int i0), .val (.int i1), .val (.int v0), .val (.int v0), .val (.long (4294977024 : Int64)), .second, .unset] [(.long (4294977024 : Int64))])) _
      refine XS.iloadN X0.here hx rfl (hb hby at_34) rfl ?_
      show Steps p.tables e below (s₁.setTop (mkF m 35 #[.val (.int i0), .val (.int i1), .val (.int v0), .val (.int v0), .val (.long (4294977024 : Int64)), .second, .unset] [(.int v0), (.long (4294977024 : Int64))])) _
      refine XS.lushr X0.here hx rfl (hb hby at_35) rfl ?_
      show Steps p.tables e below (s₁.setTop (mkF m 36 #[.val (.int i0), .val (.int i1), .val (.int v0), .val (.int v0), .val (.long (4294977024 : Int64)), .second, .unset] [(.long (((4294977024 : Int64).toUInt64 >>> (v0 &&& 0x3f).toInt64.toUInt64).toInt64))])) _
      refine XS.lconst X0.here hx rfl (hb hby at_36) ?_
      show Steps p.tables e below (s₁.setTop (mkF m 37 #[.val (.int i0), .val (.int i1), .val (.int v0), .val (.int v0), .val (.long (4294977024 : Int64)), .second, .unset] [(.long (1 : Int64)), (.long (((4294977024 : Int64).toUInt64 >>> (v0 &&& 0x3f).toInt64.toUInt64).toInt64))])) _
      refine XS.land X0.here hx rfl (hb hby at_37) rfl ?_
      show Steps p.tables e below (s₁.setTop (mkF m 38 #[.val (.int i0), .val (.int i1), .val (.int v0), .val (.int v0), .val (.long (4294977024 : Int64)), .second, .unset] [(.long ((((4294977024 : Int64).toUInt64 >>> (v0 &&& 0x3f).toInt64.toUInt64).toInt64) &&& (1 : Int64)))])) _
      refine XS.lconst X0.here hx rfl (hb hby at_38) ?_
      show Steps p.tables e below (s₁.setTop (mkF m 39 #[.val (.int i0), .val (.int i1), .val (.int v0), .val (.int v0), .val (.long (4294977024 : Int64)), .second, .unset] [(.long (0 : Int64)), (.long ((((4294977024 : Int64).toUInt64 >>> (v0 &&& 0x3f).toInt64.toUInt64).toInt64) &&& (1 : Int64)))])) _
      refine XS.lcmp X0.here hx rfl (hb hby at_39) rfl ?_
      show Steps p.tables e below (s₁.setTop (mkF m 40 #[.val (.int i0), .val (.int i1), .val (.int v0), .val (.int v0), .val (.long (4294977024 : Int64)), .second, .unset] [(.int (lcmpW ((((4294977024 : Int64).toUInt64 >>> (v0 &&& 0x3f).toInt64.toUInt64).toInt64) &&& (1 : Int64)) (0 : Int64)))])) _
      by_cases hm4 : ((((4294977024 : Int64).toUInt64 >>> (v0 &&& 0x3f).toInt64.toUInt64).toInt64) &&& (1 : Int64)) = (0 : Int64)
      · skip
        refine XS.ifYes X0.here hx rfl (pc0 := 40) (pc' := 47) rfl (hb hby at_40) rfl ((if0 _ _).trans (teq ((lw_eq _ _).mpr hm4)).1) (by decide) (by decide) ?_
        show Steps p.tables e below (s₁.setTop (mkF m 47 #[.val (.int i0), .val (.int i1), .val (.int v0), .val (.int v0), .val (.long (4294977024 : Int64)), .second, .unset] [])) _
        refine XS.iconst X0.here hx rfl (hb hby at_47) ?_
        show Steps p.tables e below (s₁.setTop (mkF m 48 #[.val (.int i0), .val (.int i1), .val (.int v0), .val (.int v0), .val (.long (4294977024 : Int64)), .second, .unset] [(.int (0 : Int32))])) _
        simp only [hm3, hm4] at k0 ; exact k0
      · skip
        refine XS.ifNo X0.here hx rfl (hb hby at_40) rfl ((if0 _ _).trans (feq (mt (lw_eq _ _).mp hm4)).1) ?_
        show Steps p.tables e below (s₁.setTop (mkF m 43 #[.val (.int i0), .val (.int i1), .val (.int v0), .val (.int v0), .val (.long (4294977024 : Int64)), .second, .unset] [])) _
        refine XS.iconst X0.here hx rfl (hb hby at_43) ?_
        show Steps p.tables e below (s₁.setTop (mkF m 44 #[.val (.int i0), .val (.int i1), .val (.int v0), .val (.int v0), .val (.long (4294977024 : Int64)), .second, .unset] [(.int (1 : Int32))])) _
        refine XS.goto X0.here hx rfl (pc0 := 44) (pc' := 48) rfl (hb hby at_44) (by decide) (by decide) ?_
        show Steps p.tables e below (s₁.setTop (mkF m 48 #[.val (.int i0), .val (.int i1), .val (.int v0), .val (.int v0), .val (.long (4294977024 : Int64)), .second, .unset] [(.int (1 : Int32))])) _
        simp only [hm3, hm4] at k0 ; exact k0
    · skip
      refine XS.icmpYes X0.here hx rfl (pc0 := 29) (pc' := 47) rfl (hb hby at_29) rfl (flt hm3).2.1 (by decide) (by decide) ?_
      show Steps p.tables e below (s₁.setTop (mkF m 47 #[.val (.int i0), .val (.int i1), .val (.int v0), .val (.int v0), .val (.long (4294977024 : Int64)), .second, .unset] [])) _
      refine XS.iconst X0.here hx rfl (hb hby at_47) ?_
      show Steps p.tables e below (s₁.setTop (mkF m 48 #[.val (.int i0), .val (.int i1), .val (.int v0), .val (.int v0), .val (.long (4294977024 : Int64)), .second, .unset] [(.int (0 : Int32))])) _
      simp only [hm3] at k0 ; exact k0
  refine own_by mg5 ?_
  refine own_by (T' := s₁) (f' := (mkF m 50 #[.val (.int i0), .val (.int i1), .val (.int v0), .val (.int v0), .val (.long (4294977024 : Int64)), .second, .val (.int (if v0 < (64 : Int32) then (if ((((4294977024 : Int64).toUInt64 >>> (v0 &&& 0x3f).toInt64.toUInt64).toInt64) &&& (1 : Int64)) = (0 : Int64) then (0 : Int32) else (1 : Int32)) else (0 : Int32)))] [])) (fun t k => XS.istore X0.here hx rfl (hb hby at_48) rfl (l' := #[.val (.int i0), .val (.int i1), .val (.int v0), .val (.int v0), .val (.long (4294977024 : Int64)), .second, .val (.int (if v0 < (64 : Int32) then (if ((((4294977024 : Int64).toUInt64 >>> (v0 &&& 0x3f).toInt64.toUInt64).toInt64) &&& (1 : Int64)) = (0 : Int64) then (0 : Int32) else (1 : Int32)) else (0 : Int32)))]) rfl k) ?_
  refine own_by (T' := s₁) (f' := (mkF m 51 #[.val (.int i0), .val (.int i1), .val (.int v0), .val (.int v0), .val (.long (4294977024 : Int64)), .second, .val (.int (if v0 < (64 : Int32) then (if ((((4294977024 : Int64).toUInt64 >>> (v0 &&& 0x3f).toInt64.toUInt64).toInt64) &&& (1 : Int64)) = (0 : Int64) then (0 : Int32) else (1 : Int32)) else (0 : Int32)))] [(.int v0)])) (fun t k => XS.iloadN X0.here hx rfl (hb hby at_50) rfl k) ?_
  refine own_callS X0 hx hZ hown e0 (hb hby at_51) [(.int v0)] [] 0 (rmS l Z a0 hw [] v0 h0) (hw _ (List.mem_of_getElem? (i := 1) rfl)) (hw _ (List.mem_of_getElem? (i := 2) rfl)) (hw _ (List.mem_of_getElem? (i := 3) rfl)) (hw _ (List.mem_of_getElem? (i := 4) rfl)) (by decide) pd__C_Z (by rw [hml]; rfl) rfl rfl (Nat.le_of_eq rfl) (by decide) (by decide) (by decide) (by decide) ?_
  rintro T6 _ L6 X6 ⟨rfl, rfl, e6⟩
  show own_Go p e below _ T6 (mkF m 54 #[.val (.int i0), .val (.int i1), .val (.int v0), .val (.int v0), .val (.long (4294977024 : Int64)), .second, .val (.int (if v0 < (64 : Int32) then (if ((((4294977024 : Int64).toUInt64 >>> (v0 &&& 0x3f).toInt64.toUInt64).toInt64) &&& (1 : Int64)) = (0 : Int64) then (0 : Int32) else (1 : Int32)) else (0 : Int32)))] [(.int (own_sp v0))])
  rw [List.append_nil] at X6
  refine own_by (T' := T6) (f' := (mkF m 56 #[.val (.int i0), .val (.int i1), .val (.int v0), .val (.int v0), .val (.long (4294977024 : Int64)), .second, .val (.int (if v0 < (64 : Int32) then (if ((((4294977024 : Int64).toUInt64 >>> (v0 &&& 0x3f).toInt64.toUInt64).toInt64) &&& (1 : Int64)) = (0 : Int64) then (0 : Int32) else (1 : Int32)) else (0 : Int32)))] [(.int (if v0 < (64 : Int32) then (if ((((4294977024 : Int64).toUInt64 >>> (v0 &&& 0x3f).toInt64.toUInt64).toInt64) &&& (1 : Int64)) = (0 : Int64) then (0 : Int32) else (1 : Int32)) else (0 : Int32))), (.int (own_sp v0))])) (fun t k => XS.iload X6.here hx rfl (hb hby at_54) rfl k) ?_
  have hc56_7 : (own_sp v0) = (if v0 < (64 : Int32) then (if ((((4294977024 : Int64).toUInt64 >>> (v0 &&& 0x3f).toInt64.toUInt64).toInt64) &&& (1 : Int64)) = (0 : Int64) then (0 : Int32) else (1 : Int32)) else (0 : Int32)) := own_same v0 hk0
  refine own_by (T' := T6) (f' := (mkF m 59 #[.val (.int i0), .val (.int i1), .val (.int v0), .val (.int v0), .val (.long (4294977024 : Int64)), .second, .val (.int (if v0 < (64 : Int32) then (if ((((4294977024 : Int64).toUInt64 >>> (v0 &&& 0x3f).toInt64.toUInt64).toInt64) &&& (1 : Int64)) = (0 : Int64) then (0 : Int32) else (1 : Int32)) else (0 : Int32)))] [])) (fun t k => XS.icmpNo X6.here hx rfl (hb hby at_56) rfl (teq hc56_7).2 k) ?_
  refine own_by (T' := T6) (f' := (mkF m 60 #[.val (.int i0), .val (.int i1), .val (.int v0), .val (.int v0), .val (.long (4294977024 : Int64)), .second, .val (.int (if v0 < (64 : Int32) then (if ((((4294977024 : Int64).toUInt64 >>> (v0 &&& 0x3f).toInt64.toUInt64).toInt64) &&& (1 : Int64)) = (0 : Int64) then (0 : Int32) else (1 : Int32)) else (0 : Int32)))] [(.int (1 : Int32))])) (fun t k => XS.iconst X6.here hx rfl (hb hby at_59) k) ?_
  refine own_by (T' := T6) (f' := (mkF m 64 #[.val (.int i0), .val (.int i1), .val (.int v0), .val (.int v0), .val (.long (4294977024 : Int64)), .second, .val (.int (if v0 < (64 : Int32) then (if ((((4294977024 : Int64).toUInt64 >>> (v0 &&& 0x3f).toInt64.toUInt64).toInt64) &&& (1 : Int64)) = (0 : Int64) then (0 : Int32) else (1 : Int32)) else (0 : Int32)))] [(.int (1 : Int32))])) (fun t k => XS.goto X6.here hx rfl (pc0 := 60) (pc' := 64) rfl (hb hby at_60) (by decide) (by decide) k) ?_
  refine own_retZ X6 hx hret hlk (hb hby at_64) (Or.inr rfl) (by decide) (by decide) ?_
  try rw [e6]
  exact ⟨rfl, Fr.nil _⟩
set_option maxRecDepth 65536 in
set_option maxHeartbeats 40000000 in
theorem comes_1 {Post : Tables → Env → Array Value → State → Outcome → State → Prop} (hpost : ∀ tb e args s v u, (limb_1_1.after args s (.returned v) u = true ∧ limb_1_2.after args s (.returned v) u = true ∧ True) → FrameEnd s (.returned v) u (Jvm.fieldLocs frame_1_writes args s ++ Jvm.arrayLocs frame_1_arrays args s ++ Jvm.staticLocs frame_1_statics s) 0 0 → Post tb e args s (.returned v) u) :
    ArmFor flags0 classFile x code maxLocals ret World_1 tables_1 room_1 Calls_1 rest_1 Pre_1 Post := by
  intro l hfl _ _ p e ha hc hk s m args below hf hA hF happ hP
  obtain ⟨hcalls, hrest, hpre⟩ := hP
  obtain ⟨-, -, -, hnamed, -, -, -, hat⟩ := (Spec.applies_iff hf).mp happ
  obtain ⟨hg, hn⟩ := and_e (Cond.before_iff.mp (show (Jvm.Cond.and given_1 narrow_1).before args s = true from hpre))
  obtain ⟨gc, gr0⟩ := and_e hg
  obtain ⟨ga0, gr1⟩ := and_e gr0
  obtain ⟨w0, w1, rfl⟩ : ∃ w0 w1 : Value, args = #[w0, w1] := by
    have hs : args.size = 2 := by simpa [Cond.value, given_1] using gc
    obtain ⟨L⟩ := args
    match L, hs with
    | [w0, w1], _ => exact ⟨w0, w1, rfl⟩
  have hw := fun d (hd : d ∈ tables_1) => atoms_spec (ws := Jvm.Cond.code x code maxLocals ret :: tables_1) hat d (List.mem_cons_of_mem _ hd)
  have hfit : Fit s := fun {y c} hc i hi => by
    obtain ⟨ha, rfl⟩ := Array.getElem?_eq_some_iff.mp hc
    have q := List.all_eq_true.mp ((Array.all_eq_true_iff_forall_mem.mp hF) _ (Array.getElem_mem ha)) i (List.mem_range.mpr hi)
    simpa [Array.getElem?_eq_getElem hi] using q
  obtain ⟨i0, ei0⟩ := is_v ga0
  obtain rfl : w0 = (.int i0) := Option.some.inj ei0
  obtain ⟨i1, ei1⟩ := is_v gr1
  obtain rfl : w1 = (.int i1) := Option.some.inj ei1
  obtain ⟨n, o, h1, h2, h3, _, L, rfl, ⟨rfl, N⟩, hq⟩ := rm0 l s _ hw tables_1 i0 i1 s.heap s.heap.size p e ha hc hk s m _ below hf ((Spec.applies_iff_loose hf).mp happ).1 ⟨rfl, State.Warmed39.refl s, rfl⟩ trivial
  refine ⟨n, _, h1, h2, h3, hpost _ _ _ _ _ _ ⟨Cond.after_iff.mpr rfl, Cond.after_iff.mpr (eq_i res_at (Term.int_eval (1)) rfl), trivial⟩ ⟨hq.1, hq.2.1, (hq.2.2.sift fun y hy => Or.inr (N y hy)).mono (by decide) (by decide)⟩⟩
theorem main_1_1 : Claimed_1_1 := comes_1 fun _ _ _ _ _ _ h hF => ⟨h.1, hF⟩
theorem main_1_2 : Claimed_1_2 := comes_1 fun _ _ _ _ _ _ h hF => ⟨h.2.1, hF⟩
end Jvm.Pilot.@@N@@
namespace Jvm.Pilot.@@N@@
open Jvm Jvm.ClassFile Sem Op Lib Jvm.Free Jvm.Stand Jvm.Pilot.@@N@@.Jvm.D
/-! MADE BY PROGRAM (witnessworld.py) out of the Statement's table words and the real class files: 9 classes; the members and pool entries that the words name. The judged class is class 1, her method 1. -/
namespace start1
open Jvm.ClassFile
def u (s : String) : CpInfo := .utf8 (stringToUtf16 s)
/-- a pool by its gaps: so many unusable entries, then the entry; so many at the end -/
def gap : Nat → List CpInfo → List CpInfo
  | 0, r => r
  | n + 1, r => .unusable :: gap n r
def poolList (es : List (Nat × CpInfo)) (last : Nat) : List CpInfo := es.foldr (fun e r => gap e.1 (e.2 :: r)) (gap last [])
def pool (es : List (Nat × CpInfo)) (last : Nat) : Array CpInfo := ⟨poolList es last⟩
def fileOf (pool : Array CpInfo) (this : Nat) (attrs : Array Attribute := #[]) (ms : Array MethodInfo := #[]) (fl : Nat := 33) (sup : Nat := 0) (ifs : Array Nat := #[]) (fds : Array FieldInfo := #[]) : ClassFile where
  minorVersion := 0
  majorVersion := 65
  constantPool := pool
  accessFlags := fl
  thisClass := this
  superClass := sup
  interfaces := ifs
  fields := fds
  methods := ms
  attributes := attrs
def plain (name : String) (sup : Option ClassId) : Class where
  name := name
  kind := .ordinary
  loader := none
  accessFlags := 33
  super := sup
  interfaces := #[]
  cf := none
  fields := #[]
  methods := #[]
  instanceTypes := #[]
  staticTypes := #[]
  resolved := #[]
  callSites := []
  init := .initialized
  statics := none
  mirror := none

def pool0 : Array CpInfo := pool [(5, u "<init>"), (0, u "()V"), (1, .class_ 10), (1, u "java/lang/Object")] 113

def k0m0 : Method := { name := "<init>", desc := "()V", sig := { parameters := [], returnType := none }, accessFlags := 1, code := none }
/-- java/lang/Object -/
def k0 : Class := { plain "java/lang/Object" none with
  accessFlags := 33
  interfaces := #[]
  cf := some (fileOf pool0 8 #[] #[{ accessFlags := 1, nameIndex := 5, descriptorIndex := 6, attributes := #[] }] 33 0 #[] #[])
  fields := #[]
  methods := #[k0m0]
  instanceTypes := #[]
  staticTypes := #[]
  resolved := Array.replicate 124 none
  statics := none }

def pool1 : Array CpInfo := pool [(2, .class_ 4), (1, u "java/lang/Object"), (0, u "<init>"), (0, u "()V"), (0, .integer 65535), (0, .long 4294977024), (1, .methodref 11 12), (0, .class_ 13), (0, .nameAndType 14 15), (0, u "com/example/tally_of_atoms/tallyofatoms/XmlCharacters"), (0, u "isSpace"), (0, u "(C)Z"), (0, .class_ 17), (0, u "com/example/tally_of_atoms/tallyofatoms/XmlCharactersIsSpacePinLaw"), (2, u "law"), (0, u "(II)Z")] 3

def k1m0 : Method := { name := "<init>", desc := "()V", sig := { parameters := [], returnType := none }, accessFlags := 2, code := none }
def k1c1 : Code := { maxStack := 4, maxLocals := 7, code := code, exceptionTable := #[], attributes := #[] }
def k1m1 : Method := { name := "law", desc := "(II)Z", sig := { parameters := [.int, .int], returnType := some .boolean }, accessFlags := 9, code := some k1c1 }
/-- com/example/tally_of_atoms/tallyofatoms/XmlCharactersIsSpacePinLaw -/
def k1 : Class := { plain "com/example/tally_of_atoms/tallyofatoms/XmlCharactersIsSpacePinLaw" (some 0) with
  accessFlags := 49
  interfaces := #[]
  cf := some (fileOf pool1 16 #[] #[{ accessFlags := 2, nameIndex := 5, descriptorIndex := 6, attributes := #[] }, { accessFlags := 9, nameIndex := 20, descriptorIndex := 21, attributes := #[] }] 49 2 #[] #[])
  fields := #[]
  methods := #[k1m0, k1m1]
  instanceTypes := #[]
  staticTypes := #[]
  resolved := Array.replicate 25 none
  statics := none }

def pool2 : Array CpInfo := pool [(2, .class_ 4), (1, u "java/lang/Object"), (0, u "<init>"), (0, u "()V"), (1, .class_ 10), (1, u "com/example/tally_of_atoms/tallyofatoms/XmlCharacters"), (0, u "NAME_START_RANGES"), (0, u "[I"), (10, u "NAME_PART_RANGES"), (2, u "CHARACTER_RANGES"), (17, u "NEL"), (0, u "C"), (2, u "LSEP"), (3, u "isSpace"), (0, u "(C)Z")] 10

def k2m0 : Method := { name := "<init>", desc := "()V", sig := { parameters := [], returnType := none }, accessFlags := 2, code := none }
def k2c1 : Code := { maxStack := 2, maxLocals := 1, code := prog_145_method_2_code, exceptionTable := #[], attributes := #[] }
def k2m1 : Method := { name := "isSpace", desc := "(C)Z", sig := { parameters := [.char], returnType := some .boolean }, accessFlags := 8, code := some k2c1 }
/-- com/example/tally_of_atoms/tallyofatoms/XmlCharacters -/
def k2 : Class := { plain "com/example/tally_of_atoms/tallyofatoms/XmlCharacters" (some 0) with
  accessFlags := 32
  interfaces := #[]
  cf := some (fileOf pool2 8 #[] #[{ accessFlags := 2, nameIndex := 5, descriptorIndex := 6, attributes := #[] }, { accessFlags := 8, nameIndex := 52, descriptorIndex := 53, attributes := #[] }] 32 2 #[] #[{ accessFlags := 24, nameIndex := 44, descriptorIndex := 45, attributes := #[] }, { accessFlags := 24, nameIndex := 48, descriptorIndex := 45, attributes := #[] }, { accessFlags := 26, nameIndex := 11, descriptorIndex := 12, attributes := #[] }, { accessFlags := 26, nameIndex := 23, descriptorIndex := 12, attributes := #[] }, { accessFlags := 26, nameIndex := 26, descriptorIndex := 12, attributes := #[] }])
  fields := #[{ name := "NEL", type := .char, accessFlags := 24, slot := 0, constantValue := 0 }, { name := "LSEP", type := .char, accessFlags := 24, slot := 1, constantValue := 0 }, { name := "NAME_START_RANGES", type := (.array .int), accessFlags := 26, slot := 2, constantValue := 0 }, { name := "NAME_PART_RANGES", type := (.array .int), accessFlags := 26, slot := 3, constantValue := 0 }, { name := "CHARACTER_RANGES", type := (.array .int), accessFlags := 26, slot := 4, constantValue := 0 }]
  methods := #[k2m0, k2m1]
  instanceTypes := #[]
  staticTypes := #[.char, .char, (.array .int), (.array .int), (.array .int)]
  resolved := Array.replicate 64 none
  statics := none }

def pool3 : Array CpInfo := pool [(1, u "java/lang/Cloneable"), (0, .class_ 1), (0, u "java/lang/Object"), (0, .class_ 3)] 3

/-- java/lang/Cloneable -/
def k3 : Class := { plain "java/lang/Cloneable" (some 0) with
  accessFlags := 1537
  interfaces := #[]
  cf := some (fileOf pool3 2 #[] #[] 1537 4 #[] #[])
  fields := #[]
  methods := #[]
  instanceTypes := #[]
  staticTypes := #[]
  resolved := Array.replicate 8 none
  statics := none }

def pool4 : Array CpInfo := pool [(1, u "java/io/Serializable"), (0, .class_ 1), (0, u "java/lang/Object"), (0, .class_ 3)] 3

/-- java/io/Serializable -/
def k4 : Class := { plain "java/io/Serializable" (some 0) with
  accessFlags := 1537
  interfaces := #[]
  cf := some (fileOf pool4 2 #[] #[] 1537 4 #[] #[])
  fields := #[]
  methods := #[]
  instanceTypes := #[]
  staticTypes := #[]
  resolved := Array.replicate 8 none
  statics := none }

/-- the primitive byte -/
def k5 : Class := { plain "byte" none with kind := .primitive 'B', accessFlags := 0x411 }
/-- [B -/
def k6 : Class := { plain "[B" (some 0) with kind := .array 5 .byte, interfaces := #[3, 4], accessFlags := 1041 }

/-- the primitive int -/
def k7 : Class := { plain "int" none with kind := .primitive 'I', accessFlags := 0x411 }
/-- [I -/
def k8 : Class := { plain "[I" (some 0) with kind := .array 7 .int, interfaces := #[3, 4], accessFlags := 1041 }

def heap : Heap := #[]
def classes : Array Class := #[k0, k1, k2, k3, k4, k5, k6, k7, k8]
def interned : List (Array UInt16 × Addr) := []
def slotsUsed : Nat := 0
def theMethod : MethodId := ⟨1, 1⟩
def args0 : Array Value := #[.int 5, .int 6]
def aboutOver (below : List Frame) : State where
  vm := { classes := classes, interned := interned.toArray }
  heap := heap
  slotsUsed := slotsUsed
  threads := #[{ frames := .invoking theMethod args0 :: below }]
def below0 : List Frame := [.native { method := ⟨0, 0⟩, args := #[] }]
def about1 : State := aboutOver below0
def p0 : Program := .bare "" "" ""
def e0 : Env := launch0.env 0 0 0
theorem w_frames : about1.frames = Frame.invoking theMethod args0 :: below0 := rfl
set_option maxRecDepth 65536 in
theorem w_args : argsFit about1.vm theMethod args0 = true := by decide +kernel
set_option maxRecDepth 65536 in
theorem w_heap : heapFits about1 = true := by decide +kernel
set_option maxRecDepth 65536 in
theorem w_runnable : about1.curStatus? = some .runnable := by decide +kernel
set_option maxRecDepth 65536 in
theorem w_alone : about1.alone = true := by decide +kernel
set_option maxRecDepth 65536 in
theorem w_named : about1.methodNamed? x = some theMethod := by decide +kernel
set_option maxRecDepth 65536 in
theorem w_hears : about1.hears theMethod below0 = true := by decide +kernel
set_option maxRecDepth 65536 in
theorem w_ripe : about1.ripe theMethod args0 below0 = true := by decide +kernel
theorem w_running : about1.status = .running := rfl
set_option maxRecDepth 65536 in
theorem w_room : about1.hasRoom e0.platform room_1 = true :=
  launch0.hasRoom_least _ room_1 (by decide +kernel) (by decide +kernel) (by decide +kernel) (by decide +kernel) (by decide +kernel) (by decide +kernel)
theorem allAtoms_all (ts : List Jvm.Cond) (a : Array Jvm.Value) (st : Jvm.State) : (allAtoms ts).before a st = ts.all (fun c => c.before a st) := by
  induction ts with
  | nil => rfl
  | cons c t ih =>
    show (Jvm.Cond.and c (allAtoms t)).before a st = _
    rw [Jvm.Cond.before_and, ih, List.all_cons]
def words1 : List Jvm.Cond := Jvm.Cond.code x code maxLocals ret :: tables_1
/-- a 'code' word, met by the world's own term for the bytes: nothing is compared byte by byte -/
theorem code_word {y : MethodName} {bytes : ByteArray} {mx : Nat} {rt : Option FieldType} {a : Array Value} {s : State} {m : MethodId} {meth : Method} {c : Code} (h1 : s.methodNamed? y = some m) (h2 : s.vm.method? m = some meth) (h3 : meth.code = some c) (h4 : c.code = bytes)
    (h5 : (c.maxLocals == mx && c.exceptionTable.isEmpty && decide (c.maxStack ≤ mostOperands) && decide (meth.sig.returnType = rt) && !meth.locks && decide (parseMethodDescriptor y.desc = some meth.sig)) = true) : (Jvm.Cond.code y bytes mx rt).before a s = true := by
  simp only [Bool.and_eq_true, beq_iff_eq, Bool.not_eq_true', decide_eq_true_eq] at h5
  obtain ⟨⟨⟨⟨⟨g1, g2⟩, g3⟩, g4⟩, g5⟩, g6⟩ := h5
  simp [Cond.before, Cond.holds, Cond.value, h1, h2, h3, h4, g1, g2, g3, g4, g5, g6]
def isCode : Jvm.Cond → Bool
  | .code _ _ _ _ => true
  | _ => false
theorem all_split {L : List Jvm.Cond} {P : Jvm.Cond → Bool} (h1 : L.all (fun c => isCode c || P c) = true) (h2 : ∀ c ∈ L.filter isCode, P c = true) : L.all P = true := by
  refine List.all_eq_true.mpr fun c hc => ?_
  have h := List.all_eq_true.mp h1 c hc
  rcases Bool.eq_false_or_eq_true (isCode c) with hi | hi
  · exact h2 c (List.mem_filter.mpr ⟨hc, hi⟩)
  · simpa [hi] using h
set_option maxRecDepth 65536 in
theorem w_c0 : (Jvm.Cond.code x code maxLocals ret).before args0 about1 = true := code_word (m := ⟨1, 1⟩) (meth := k1m1) (c := k1c1) (by decide +kernel) rfl rfl rfl (by decide +kernel)
set_option maxRecDepth 65536 in
theorem w_c1 : (Jvm.Cond.code ({ cls := "com/example/tally_of_atoms/tallyofatoms/XmlCharacters", name := "isSpace", desc := "(C)Z" } : Jvm.MethodName) prog_145_method_2_code (1 : Nat) (Option.some Jvm.ClassFile.FieldType.boolean)).before args0 about1 = true := code_word (m := ⟨2, 1⟩) (meth := k2m1) (c := k2c1) (by decide +kernel) rfl rfl rfl (by decide +kernel)
def codes1 : List Jvm.Cond := [Jvm.Cond.code x code maxLocals ret, Jvm.Cond.code ({ cls := "com/example/tally_of_atoms/tallyofatoms/XmlCharacters", name := "isSpace", desc := "(C)Z" } : Jvm.MethodName) prog_145_method_2_code (1 : Nat) (Option.some Jvm.ClassFile.FieldType.boolean)]
set_option maxRecDepth 65536 in
theorem codes_eq : words1.filter isCode = codes1 := rfl
theorem w_codes : ∀ c ∈ words1.filter isCode, c.before args0 about1 = true := by
  rw [codes_eq]
  intro c hc
  simp only [codes1, List.mem_cons, List.not_mem_nil, or_false] at hc
  rcases hc with rfl | rfl
  · exact w_c0
  · exact w_c1
set_option maxRecDepth 65536 in
theorem w_t1 : words1.all (fun c => isCode c || c.before args0 about1) = true := by decide +kernel
theorem w_tables : (allAtoms (Jvm.Cond.code x code maxLocals ret :: tables_1)).before args0 about1 = true := by
  rw [allAtoms_all]
  show words1.all (fun c => c.before args0 about1) = true
  refine all_split ?_ w_codes
  rw [w_t1]
set_option maxRecDepth 65536 in
theorem w_case : (Jvm.Cond.and given_1 narrow_1).before args0 about1 = true := by decide +kernel
theorem w_applies : (headSpec (Jvm.Cond.code x code maxLocals ret :: tables_1) room_1).applies x e0.platform about1 = true :=
  (Spec.applies_iff w_frames).mpr ⟨w_running, w_runnable, w_alone, w_named, w_hears, w_ripe, w_room, w_tables⟩
theorem atStart : AtStart classFile x code maxLocals ret World_1 tables_1 room_1 Calls_1 rest_1 Pre_1 launch0 p0 e0 about1 theMethod args0 below0 :=
  ⟨lists_1, trivial, launch0.admits_env _ _ _, launch0.least_env, fairChoices_fair.cas, fairChoices_fair.clock, w_frames, w_args, w_heap, w_applies, trivial, trivial, w_case⟩
end start1
theorem witness_1 : WitnessClaimed_1 := ⟨start1.p0, start1.e0, start1.about1, start1.theMethod, start1.args0, start1.below0, start1.atStart⟩
end Jvm.Pilot.@@N@@
