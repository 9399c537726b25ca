import JvmDerived
import JvmDerived.Pilot.@@N@@Statement
import JvmDerived.Pilot.@@N@@Code
set_option linter.unusedVariables false
set_option linter.unusedSimpArgs false
namespace Jvm.Pilot.@@N@@
open Jvm Jvm.ClassFile Sem Op Lib Jvm.Free Jvm.Stand Jvm.LawKit Jvm.RoadKit Bundle Jvm.Pilot.@@N@@.Jvm.D
section Own
variable {p : Program} {l : Launch} {e : Env} {R : Room} {s : State} {m : MethodId} {args : Array Value} {below : List Frame} {meth : Method} {c : Code} {T : State} {locs : List Loc} {cells slots : Nat} {Z : State} {a0 : Array Value} {h : Heap} {P : State → Outcome → Prop} {pc : Nat} {Ls : Array Slot} {rest st : List Value}
/-- from T, with f on top, the run comes to an end of which P holds -/
def own_Go (p : Program) (e : Env) (below : List Frame) (P : State → Outcome → Prop) (T : State) (f : JFrame) : Prop :=
  ∃ t o, Steps p.tables e below (T.setTop f) t ∧ t.status = .running ∧ Ended t below o ∧ P t o
theorem own_by {T' : State} {f f' : JFrame} (st : ∀ t, Steps p.tables e below (T'.setTop f') t → Steps p.tables e below (T.setTop f) t) (k : own_Go p e below P T' f') : own_Go p e below P T f := by
  obtain ⟨t, o, h1, h2⟩ := k
  exact ⟨t, o, st _ h1, h2⟩
/-- a method's end: what it returns, the heap, what it wrote -/
def own_Ends (s : State) (rm : Room) (Q : Option Value → Heap → List Loc → Prop) (t : State) (o : Outcome) : Prop := ∃ v L, o = .returned v ∧ Q v t.heap L ∧ FrameEnd s o t L rm.cells rm.slots
/-- a body's contract, at one list of arguments and one heap -/
def own_Ct (l : Launch) (Z : State) (y : MethodName) (bytes : ByteArray) (mx : Nat) (rt : Option FieldType) (ws : List Jvm.Cond) (rm : Room) (as' : Array Value) (h0 : Heap) (Q : Option Value → Heap → List Loc → Prop) : Prop :=
  MetFree l y (head1 (Jvm.Cond.code y bytes mx rt :: ws) rm) (fun a U => a = as' ∧ Z.Warmed39 U.vm ∧ U.heap = h0) (fun _ _ _ _ _ => True) (fun _ U o U' => own_Ends U rm Q U' o)
theorem own_of {y : MethodName} {bytes : ByteArray} {mx : Nat} {rt : Option FieldType} {ws : List Jvm.Cond} {rm : Room} {as' : Array Value} {h0 : Heap} {Q : Option Value → Heap → List Loc → Prop} (hpl : plainName y.cls = true)
    (body : ∀ (p : Program) (e : Env) (s : State) (m : MethodId) (below : List Frame) (meth : Method) (c : Code) (s₁ : State), p.tables.exec = Jvm.exec → c.code = bytes → c.maxLocals = mx → s.vm.findClass y.cls = some m.cls → meth.name = y.name → meth.sig.returnType = rt → meth.locks = false → Z.Warmed39 s.vm →
      Stand p l e rm s m as' below meth c s₁ [] 0 0 → s₁.heap = h0 → own_Go p e below (own_Ends s rm Q) s₁ (entryFrame m as' mx)) : own_Ct l Z y bytes mx rt ws rm as' h0 Q := by
  refine MetFree.of_bodySF (plainFor_of_name hpl) hisR ?_
  intro p e s m args below meth c s₁ Bd hml hP hK
  obtain ⟨rfl, hZ, hh⟩ := hP
  exact body p e s m below meth c s₁ Bd.exec Bd.bytes hml (findClass_of_methodNamed Bd.named) (name_of_methodNamed Bd.named Bd.method).1 Bd.returns Bd.notSynchronized hZ (Stand.of_body Bd) (by rw [← hh, Bd.state]; rfl)
theorem own_ret {rm : Room} {Q : Option Value → Heap → List Loc → Prop} {t : FieldType} {w : Value} {i : Instr} (X : Stand p l e R s m args below meth c T locs cells slots) (hx : p.tables.exec = Jvm.exec) (hret : meth.sig.returnType = some t) (hlk : meth.locks = false) (hd : decode c.code pc = .ok (i, 1)) (hn : narrow t w = w)
    (hi : (i = .ireturn ∧ (t = .int ∨ t = .boolean ∨ t = .byte ∨ t = .char ∨ t = .short) ∧ ∃ z, w = .int z) ∨ (i = .lreturn ∧ t = .long ∧ ∃ z, w = .long z) ∨ (i = .dreturn ∧ t = .double ∧ ∃ z, w = .double z) ∨ (i = .freturn ∧ t = .float ∧ ∃ z, w = .float z) ∨ (i = .areturn ∧ t.isReference = true ∧ w.isRef = true))
    (hc : cells ≤ rm.cells) (hs : slots ≤ rm.slots) (hq : Q (some w) T.heap locs) : own_Go p e below (own_Ends s rm Q) T (mkF m pc Ls (w :: rest)) := by
  obtain ⟨fs, hr, hrun, hended, hW, hsame⟩ := X.leave (v := some w) (fun h => by rw [hret] at h; cases h) hlk
  exact ⟨_, _, retOut X hx hret hn hi hd hr, hrun, hended, _, _, rfl, hq, ⟨_, rfl⟩, hW, hsame.mono hc hs⟩
theorem own_retI {rm : Room} {Q : Option Value → Heap → List Loc → Prop} {w : Int32} (X : Stand p l e R s m args below meth c T locs cells slots) (hx : p.tables.exec = Jvm.exec) (hret : meth.sig.returnType = some .int) (hlk : meth.locks = false) (hd : decode c.code pc = .ok (.ireturn, 1)) 
    (hc : cells ≤ rm.cells) (hs : slots ≤ rm.slots) (hq : Q (some (.int w)) T.heap locs) : own_Go p e below (own_Ends s rm Q) T (mkF m pc Ls (.int w :: rest)) :=
  own_ret X hx hret hlk hd rfl (Or.inl ⟨rfl, Or.inl rfl, _, rfl⟩) hc hs hq
theorem own_retZ {rm : Room} {Q : Option Value → Heap → List Loc → Prop} {w : Int32} (X : Stand p l e R s m args below meth c T locs cells slots) (hx : p.tables.exec = Jvm.exec) (hret : meth.sig.returnType = some .boolean) (hlk : meth.locks = false) (hd : decode c.code pc = .ok (.ireturn, 1)) (hw : w = 0 ∨ w = 1)
    (hc : cells ≤ rm.cells) (hs : slots ≤ rm.slots) (hq : Q (some (.int w)) T.heap locs) : own_Go p e below (own_Ends s rm Q) T (mkF m pc Ls (.int w :: rest)) :=
  own_ret X hx hret hlk hd (by rcases hw with rfl | rfl <;> rfl) (Or.inl ⟨rfl, Or.inr (Or.inl rfl), _, rfl⟩) hc hs hq
theorem own_retJ {rm : Room} {Q : Option Value → Heap → List Loc → Prop} {w : Int64} (X : Stand p l e R s m args below meth c T locs cells slots) (hx : p.tables.exec = Jvm.exec) (hret : meth.sig.returnType = some .long) (hlk : meth.locks = false) (hd : decode c.code pc = .ok (.lreturn, 1)) 
    (hc : cells ≤ rm.cells) (hs : slots ≤ rm.slots) (hq : Q (some (.long w)) T.heap locs) : own_Go p e below (own_Ends s rm Q) T (mkF m pc Ls (.long w :: rest)) :=
  own_ret X hx hret hlk hd rfl (Or.inr (Or.inl ⟨rfl, rfl, _, rfl⟩)) hc hs hq
theorem own_retA {rm : Room} {Q : Option Value → Heap → List Loc → Prop} {w : Value} {t : FieldType} (X : Stand p l e R s m args below meth c T locs cells slots) (hx : p.tables.exec = Jvm.exec) (hret : meth.sig.returnType = some t) (hlk : meth.locks = false) (hd : decode c.code pc = .ok (.areturn, 1)) (ht : t.isReference = true) (hn : narrow t w = w) (hw : w.isRef = true)
    (hc : cells ≤ rm.cells) (hs : slots ≤ rm.slots) (hq : Q (some w) T.heap locs) : own_Go p e below (own_Ends s rm Q) T (mkF m pc Ls (w :: rest)) :=
  own_ret X hx hret hlk hd hn (Or.inr (Or.inr (Or.inr (Or.inr ⟨rfl, ht, hw⟩)))) hc hs hq
theorem own_retV {rm : Room} {Q : Option Value → Heap → List Loc → Prop} (X : Stand p l e R s m args below meth c T locs cells slots) (hx : p.tables.exec = Jvm.exec) (hret : meth.sig.returnType = none) (hlk : meth.locks = false) (hd : decode c.code pc = .ok (.return_, 1))
    (hc : cells ≤ rm.cells) (hs : slots ≤ rm.slots) (hq : Q none T.heap locs) : own_Go p e below (own_Ends s rm Q) T (mkF m pc Ls []) := by
  obtain ⟨fs, hr, hrun, hended, hW, hsame⟩ := X.leave (v := none) (fun _ => rfl) hlk
  exact ⟨_, _, X.returnOut hx hret hd hr, hrun, hended, _, _, rfl, hq, ⟨_, rfl⟩, hW, hsame.mono hc hs⟩
abbrev own_K (p : Program) (l : Launch) (e : Env) (R : Room) (s : State) (m : MethodId) (args : Array Value) (below : List Frame) (meth : Method) (c : Code) (P : State → Outcome → Prop) (locs : List Loc) (cells slots : Nat) (rm : Room) (Q : Option Value → Heap → List Loc → Prop) (pc : Nat) (Ls : Array Slot) (rest : List Value) : Prop :=
  ∀ (T' : State) (v : Option Value) (L : List Loc), Stand p l e R s m args below meth c T' (locs ++ L) (cells + rm.cells) (slots + rm.slots) → Q v T'.heap L → own_Go p e below P T' (mkF m pc Ls (v.toList ++ rest))
theorem own_callS {own : String} {index : Nat} {y : MethodName} {bytes : ByteArray} {maxL : Nat} {ret : Option FieldType} {rm : Room} {Q : Option Value → Heap → List Loc → Prop} {ps : List FieldType} {r : Option FieldType} (X : Stand p l e R s m args below meth c T locs cells slots) (hx : p.tables.exec = Jvm.exec) (hZ : Z.Warmed39 s.vm) (hown : s.vm.findClass own = some m.cls) (eT : T.heap = h) (hd : decode c.code pc = .ok (.invokestatic index, 3))
    (argsL rest : List Value) (W : Nat) (C : own_Ct l Z y bytes maxL ret [] rm argsL.toArray h Q) (w1 : (Cond.methodLink own index y).before a0 Z = true) (w2 : (Cond.static y).before a0 Z = true) (w3 : (Cond.initialized y.cls).before a0 Z = true) (w4 : (Cond.code y bytes maxL ret).before a0 Z = true)
    (hy : y.cls ≠ "java/lang/invoke/MethodHandle" ∧ y.cls ≠ "java/lang/invoke/VarHandle") (hpd : parseMethodDescriptor y.desc = some ⟨ps, r⟩) (hsize : Ls.size = c.maxLocals) (hlen : argsL.length = ps.length) (hst : st = argsL.reverse ++ rest)
    (hW : (rest.map fun v => v.category).sum ≤ W) (hf : rm.frames + 1 ≤ R.frames) (hl : W + (maxL + 11) + rm.locals ≤ R.locals) (hc : cells + rm.cells ≤ R.cells) (hs : slots + rm.slots ≤ R.slots)
    (k : own_K p l e R s m args below meth c P locs cells slots rm Q (pc + 3) Ls rest) : own_Go p e below P T (mkF m pc Ls st) := by
  obtain ⟨v, _, ⟨T', L', k', n'⟩, -, X', ⟨Lc, hQ, l', y', z'⟩, stp⟩ := Jvm.LawKit.callS X hx (y := y) hown (mvT hZ w1) (mvT hZ w2) (mvT hZ w3) (mvT hZ w4) hy (backOf (W := W) (Q := Q) C hZ w4 w3 hf hl) (g := mkF m pc Ls st) rfl hsize (argsL := argsL) (rest := rest) (lenOf hpd hlen) hst (by show 2 * 0 + _ ≤ _; omega) hd (fun _ _ => ⟨rfl, eT, hc, hs⟩)
  dsimp only [Pt.U, Pt.locs, Pt.cells, Pt.slots] at X' l' y' z' stp hQ
  subst l' y' z'
  exact own_by stp (k T' v Lc X' hQ)
theorem own_callN {own : String} {index : Nat} {y : MethodName} {bytes : ByteArray} {maxL : Nat} {rm : Room} {Q : Option Value → Heap → List Loc → Prop} {ps : List FieldType} {r : Option FieldType} {a : Addr} (X : Stand p l e R s m args below meth c T locs cells slots) (hx : p.tables.exec = Jvm.exec) (hZ : Z.Warmed39 s.vm) (hown : s.vm.findClass own = some m.cls) (eT : T.heap = h) (hd : decode c.code pc = .ok (.invokespecial index, 3))
    (argsL rest : List Value) (W : Nat) (C : own_Ct l Z y bytes maxL none [] rm (.ref a :: argsL).toArray h Q) (w1 : (Cond.methodLink own index y).before a0 Z = true) (w2 : (Cond.instanceMethod y).before a0 Z = true) (w3 : (Cond.initialized y.cls).before a0 Z = true) (w4 : (Cond.code y bytes maxL none).before a0 Z = true)
    (hyi : y.name = "<init>") (hy : y.cls ≠ "java/lang/invoke/MethodHandle" ∧ y.cls ≠ "java/lang/invoke/VarHandle") (hpd : parseMethodDescriptor y.desc = some ⟨ps, r⟩) (hsize : Ls.size = c.maxLocals) (hlen : argsL.length = ps.length) (hst : st = argsL.reverse ++ .ref a :: rest)
    (hW : (rest.map fun v => v.category).sum ≤ W) (hf : rm.frames + 1 ≤ R.frames) (hl : W + (maxL + 11) + rm.locals ≤ R.locals) (hc : cells + rm.cells ≤ R.cells) (hs : slots + rm.slots ≤ R.slots)
    (k : own_K p l e R s m args below meth c P locs cells slots rm Q (pc + 3) Ls rest) : own_Go p e below P T (mkF m pc Ls st) := by
  obtain ⟨v, _, ⟨T', L', k', n'⟩, -, X', ⟨Lc, hQ, l', y', z'⟩, stp⟩ := X.specialBack hx (y := y) hyi hown (mvT hZ w1) (mvT hZ w2) (mvT hZ w4) hy (backOf (W := W) (Q := Q) C hZ w4 w3 hf hl) (g := mkF m pc Ls st) rfl hsize (Steps.refl _) (a := a) (argsL := argsL) (rest := rest) (lenOf hpd hlen) hst (by show 2 * 0 + _ ≤ _; omega) hd (fun _ _ => ⟨rfl, eT, hc, hs⟩)
  dsimp only [Pt.U, Pt.locs, Pt.cells, Pt.slots] at X' l' y' z' stp hQ
  subst l' y' z'
  exact own_by (fun _ k => stp.trans k) (k T' v Lc X' hQ)
theorem own_callV {own : String} {index : Nat} {C0 : String} {y z : MethodName} {bytes : ByteArray} {maxL : Nat} {ret : Option FieldType} {rm : Room} {Q : Option Value → Heap → List Loc → Prop} {ps : List FieldType} {r : Option FieldType} {a : Addr} (X : Stand p l e R s m args below meth c T locs cells slots) (hx : p.tables.exec = Jvm.exec) (hZ : Z.Warmed39 s.vm) (hown : s.vm.findClass own = some m.cls) (eT : T.heap = h) (hd : decode c.code pc = .ok (.invokevirtual index, 3))
    (argsL rest : List Value) (W : Nat) (C : own_Ct l Z z bytes maxL ret [] rm (.ref a :: argsL).toArray h Q) (E : Exa Z h a C0) (w1 : (Cond.methodLink own index y).before a0 Z = true) (w0 : (Cond.declares y).before a0 Z = true) (nf : NotFace s y) (ws : (Cond.selects C0 y z).before a0 Z = true) (w2 : (Cond.instanceMethod z).before a0 Z = true) (w3 : (Cond.initialized z.cls).before a0 Z = true) (w4 : (Cond.code z bytes maxL ret).before a0 Z = true)
    (hy : y.cls ≠ "java/lang/invoke/MethodHandle" ∧ y.cls ≠ "java/lang/invoke/VarHandle") (hpd : parseMethodDescriptor y.desc = some ⟨ps, r⟩) (hsize : Ls.size = c.maxLocals) (hlen : argsL.length = ps.length) (hst : st = argsL.reverse ++ .ref a :: rest)
    (hW : (rest.map fun v => v.category).sum ≤ W) (hf : rm.frames + 1 ≤ R.frames) (hl : W + (maxL + 11) + rm.locals ≤ R.locals) (hc : cells + rm.cells ≤ R.cells) (hs : slots + rm.slots ≤ R.slots)
    (k : own_K p l e R s m args below meth c P locs cells slots rm Q (pc + 3) Ls rest) : own_Go p e below P T (mkF m pc Ls st) := by
  obtain ⟨cq, kq, qa, qb, qc⟩ := isOf hZ eT E
  obtain ⟨v, _, ⟨T', L', k', n'⟩, -, X', ⟨Lc, hQ, l', y', z'⟩, stp⟩ := X.virtualBack hx (y := y) (z := z) hown (mvT hZ w1) (mvT hZ w0) nf (mvT hZ ws) (mvT hZ w2) hy (backOf (W := W) (Q := Q) C hZ w4 w3 hf hl) qa qc (g := mkF m pc Ls st) rfl hsize (Steps.refl _) (argsL := argsL) (rest := rest) (lenOf hpd hlen) hst (by show 2 * 0 + _ ≤ _; omega) hd (fun _ _ => ⟨rfl, eT, hc, hs⟩)
  dsimp only [Pt.U, Pt.locs, Pt.cells, Pt.slots] at X' l' y' z' stp hQ
  subst l' y' z'
  exact own_by (fun _ k => stp.trans k) (k T' v Lc X' hQ)
theorem own_callP {own : String} {index : Nat} {C0 : String} {y : MethodName} {bytes : ByteArray} {maxL : Nat} {ret : Option FieldType} {rm : Room} {Q : Option Value → Heap → List Loc → Prop} {ps : List FieldType} {r : Option FieldType} {a : Addr} (X : Stand p l e R s m args below meth c T locs cells slots) (hx : p.tables.exec = Jvm.exec) (hZ : Z.Warmed39 s.vm) (hown : s.vm.findClass own = some m.cls) (eT : T.heap = h) (hd : decode c.code pc = .ok (.invokevirtual index, 3))
    (argsL rest : List Value) (W : Nat) (C : own_Ct l Z y bytes maxL ret [] rm (.ref a :: argsL).toArray h Q) (E : Exa Z h a C0) (w1 : (Cond.methodLink own index y).before a0 Z = true) (w2 : (Cond.instanceMethod y).before a0 Z = true) (ws : (Cond.selects y.cls y y).before a0 Z = true) (wp : (Cond.privateMethod y).before a0 Z = true) (w3 : (Cond.initialized y.cls).before a0 Z = true) (w4 : (Cond.code y bytes maxL ret).before a0 Z = true)
    (hy : y.cls ≠ "java/lang/invoke/MethodHandle" ∧ y.cls ≠ "java/lang/invoke/VarHandle") (hpd : parseMethodDescriptor y.desc = some ⟨ps, r⟩) (hsize : Ls.size = c.maxLocals) (hlen : argsL.length = ps.length) (hst : st = argsL.reverse ++ .ref a :: rest)
    (hW : (rest.map fun v => v.category).sum ≤ W) (hf : rm.frames + 1 ≤ R.frames) (hl : W + (maxL + 11) + rm.locals ≤ R.locals) (hc : cells + rm.cells ≤ R.cells) (hs : slots + rm.slots ≤ R.slots)
    (k : own_K p l e R s m args below meth c P locs cells slots rm Q (pc + 3) Ls rest) : own_Go p e below P T (mkF m pc Ls st) := by
  obtain ⟨cq, q1, q2⟩ := E.cell
  obtain ⟨v, _, ⟨T', L', k', n'⟩, -, X', ⟨Lc, hQ, l', y', z'⟩, stp⟩ := X.privateBack hx (y := y) hown (mvT hZ w1) (mvT hZ w2) (mvT hZ ws) (Cond.privateMethod_at (mvP hZ wp (args := #[]))) (mvT hZ w4) hy (backOf (W := W) (Q := Q) C hZ w4 w3 hf hl) (g := mkF m pc Ls st) rfl hsize (Steps.refl _) (a := a) (by rw [eT]; exact q1) q2 (argsL := argsL) (rest := rest) (lenOf hpd hlen) hst (by show 2 * 0 + _ ≤ _; omega) hd (fun _ _ => ⟨rfl, eT, hc, hs⟩)
  dsimp only [Pt.U, Pt.locs, Pt.cells, Pt.slots] at X' l' y' z' stp hQ
  subst l' y' z'
  exact own_by (fun _ k => stp.trans k) (k T' v Lc X' hQ)
abbrev own_K0 (p : Program) (l : Launch) (e : Env) (R : Room) (s : State) (m : MethodId) (args : Array Value) (below : List Frame) (meth : Method) (c : Code) (P : State → Outcome → Prop) (locs : List Loc) (cells slots : Nat) (h : Heap) (pc : Nat) (Ls : Array Slot) (st : List Value) : Prop :=
  ∀ (T' : State), Stand p l e R s m args below meth c T' locs cells slots → T'.heap = h → own_Go p e below P T' (mkF m pc Ls st)
theorem own_init {own : String} {index : Nat} {a : Addr} (X : Stand p l e R s m args below meth c T locs cells slots) (hx : p.tables.exec = Jvm.exec) (hZ : Z.Warmed39 s.vm) (hown : s.vm.findClass own = some m.cls) (eT : T.heap = h) (hd : decode c.code pc = .ok (.invokespecial index, 3)) (W : Nat)
    (w1 : (Cond.methodLink own index Lib.objectInit).before a0 Z = true) (w2 : (Cond.instanceMethod Lib.objectInit).before a0 Z = true) (w3 : (Cond.code Lib.objectInit ⟨#[0xb1]⟩ 1 none).before a0 Z = true) (hsize : Ls.size = c.maxLocals) (hW : (rest.map fun v => v.category).sum ≤ W) (hf : 1 ≤ R.frames) (hl : W + 12 ≤ R.locals)
    (k : own_K0 p l e R s m args below meth c P locs cells slots h (pc + 3) Ls rest) : own_Go p e below P T (mkF m pc Ls (.ref a :: rest)) := by
  obtain ⟨T', X', e', st⟩ := initO X hx hZ hown w1 w2 w3 eT (g := mkF m pc Ls (.ref a :: rest)) rfl hsize rfl hd hf (W := W) (by show 2 * 0 + _ ≤ _; omega) hl
  exact own_by st (k T' X' e')
theorem own_getF {own R0 O n d host : String} {index : Nat} {a : Addr} {v : Value} (X : Stand p l e R s m args below meth c T locs cells slots) (hx : p.tables.exec = Jvm.exec) (hZ : Z.Warmed39 s.vm) (hown : s.vm.findClass own = some m.cls) (eT : T.heap = h) (hd : decode c.code pc = .ok (.getfield index, 3))
    (w : (Cond.fieldLink own index R0 n d).before a0 Z = true ∨ (Cond.fieldLinkNest own index R0 n d host).before a0 Z = true) (via : Via Z R0 O n d) (F : Fld Z h a O n d v)
    (k : own_K0 p l e R s m args below meth c P locs cells slots h (pc + 3) Ls (v :: rest)) : own_Go p e below P T (mkF m pc Ls (.ref a :: rest)) := by
  obtain ⟨T', X', e', st⟩ := getF X hx hZ hown w via eT F (g := mkF m pc Ls (.ref a :: rest)) rfl rfl hd
  exact own_by st (k T' X' e')
theorem own_getS {own R0 O n d host : String} {index : Nat} {v : Value} (X : Stand p l e R s m args below meth c T locs cells slots) (hx : p.tables.exec = Jvm.exec) (hZ : Z.Warmed39 s.vm) (hown : s.vm.findClass own = some m.cls) (eT : T.heap = h) (hd : decode c.code pc = .ok (.getstatic index, 3))
    (w : (Cond.fieldLink own index R0 n d).before a0 Z = true ∨ (Cond.fieldLinkNest own index R0 n d host).before a0 Z = true) (via : Via Z R0 O n d) (F : Sta Z h O n d v)
    (k : own_K0 p l e R s m args below meth c P locs cells slots h (pc + 3) Ls (v :: st)) : own_Go p e below P T (mkF m pc Ls st) := by
  obtain ⟨T', X', e', stp⟩ := getS2 X hx hZ hown w via eT F (g := mkF m pc Ls st) rfl hd
  exact own_by stp (k T' X' e')
theorem own_new {own C : String} {index n : Nat} (X : Stand p l e R s m args below meth c T locs cells slots) (hx : p.tables.exec = Jvm.exec) (hZ : Z.Warmed39 s.vm) (hown : s.vm.findClass own = some m.cls) (eT : T.heap = h) (hd : decode c.code pc = .ok (.new index, 3))
    (w : (Cond.classLink own index C).before a0 Z = true) (wi : (Cond.instantiable C n).before a0 Z = true) (wz : (Cond.initialized C).before a0 Z = true) (hc : cells + 1 ≤ R.cells) (hl : slots + n ≤ R.slots)
    (k : ∀ (T' : State) (h' : Heap) (b : Addr), Stand p l e R s m args below meth c T' locs (cells + 1) (slots + n) → T'.heap = h' → b = h.size → Ext h h' → Exa Z h' b C → (∀ {O nm d : String} {ty : FieldType}, Laid Z a0 C O nm d → parseFieldDescriptor d = some ty → Fld Z h' b O nm d (defaultValue ty)) → own_Go p e below P T' (mkF m (pc + 3) Ls (.ref b :: st))) :
    own_Go p e below P T (mkF m pc Ls st) := by
  obtain ⟨T', h', X', e', E, A, D, -, stp⟩ := newO X hx hZ hown w wi wz eT (g := mkF m pc Ls st) rfl hd hc hl
  exact own_by stp (k T' h' _ X' e' rfl E A D)
theorem own_putF {own R0 O n d host C : String} {index kk : Nat} {ty : FieldType} {a : Addr} {v old : Value} (X : Stand p l e R s m args below meth c T locs cells slots) (hx : p.tables.exec = Jvm.exec) (hZ : Z.Warmed39 s.vm) (hown : s.vm.findClass own = some m.cls) (eT : T.heap = h) (hd : decode c.code pc = .ok (.putfield index, 3))
    (w : (Cond.fieldLink own index R0 n d).before a0 Z = true ∨ (Cond.fieldLinkNest own index R0 n d host).before a0 Z = true) (via : Via Z R0 O n d) (F : Fld Z h a O n d old) (E : Exa Z h a C) (L : (Cond.lays C O n d).before a0 Z = true ∨ ((Cond.laysFinal C O n d).before a0 Z = true ∧ own = O ∧ meth.name = "<init>")) (wi : (Cond.instantiable C kk).before a0 Z = true)
    (hty : parseFieldDescriptor d = some ty) (hn : narrow ty v = v) (hf : fits ty v = true)
    (k : ∀ (T' : State) (h' : Heap), Stand p l e R s m args below meth c T' (locs ++ [⟨a, Jvm.RoadKit.slotOf Z O n d⟩]) cells slots → T'.heap = h' → Wr h h' a (Jvm.RoadKit.slotOf Z O n d) v → own_Go p e below P T' (mkF m (pc + 3) Ls rest)) :
    own_Go p e below P T (mkF m pc Ls (v :: .ref a :: rest)) := by
  obtain ⟨T', h', X', e', W, st⟩ := putF X hx hZ hown w via eT F E L wi hty hn hf (g := mkF m pc Ls (v :: .ref a :: rest)) rfl rfl hd
  exact own_by st (k T' h' X' e' W)
theorem own_newA {aty : ArrayType} {n : Int32} (X : Stand p l e R s m args below meth c T locs cells slots) (hx : p.tables.exec = Jvm.exec) (hZ : Z.Warmed39 s.vm) (eT : T.heap = h) (hd : decode c.code pc = .ok (.newarray aty, 2))
    (w : (Cond.arrayClass (newarray.typeOf aty)).before a0 Z = true) (hn : ¬ n < 0) (cap : Nat) (hcap : n.toNatClampNeg ≤ cap) (hb : cap * 8 ≤ 536870912) (hc : cells + 1 ≤ R.cells) (hl : slots + cap ≤ R.slots)
    (k : ∀ (T' : State) (h' : Heap) (b : Addr) (cA : ClassId), Stand p l e R s m args below meth c T' locs (cells + 1) (slots + cap) → T'.heap = h' → b = h.size → Ext h h' → Arv Z h' b cA (newarray.typeOf aty) n [] (defaultValue (newarray.typeOf aty)) → own_Go p e below P T' (mkF m (pc + 2) Ls (.ref b :: rest))) :
    own_Go p e below P T (mkF m pc Ls (.int n :: rest)) := by
  obtain ⟨T', h', cA, X', e', E, A, stp⟩ := newP X hx hZ w eT (g := mkF m pc Ls (.int n :: rest)) rfl hd rfl hn hcap hb hc hl
  exact own_by stp (k T' h' _ cA X' e' rfl E (Arv.new A hn))
theorem own_ldcI {own : String} {index : Nat} {i : Int32} (X : Stand p l e R s m args below meth c T locs cells slots) (hx : p.tables.exec = Jvm.exec) (hZ : Z.Warmed39 s.vm) (hown : s.vm.findClass own = some m.cls) (hd : decode c.code pc = .ok (.ldc index, 2)) (w : (Cond.constant own index i).before a0 Z = true)
    (k : own_Go p e below P T (mkF m (pc + 2) Ls (.int i :: st))) : own_Go p e below P T (mkF m pc Ls st) :=
  own_by (fun t k => X.ldcInt hx hown (mvT hZ w) (g := mkF m pc Ls st) rfl hd t k) k
theorem own_ldcJ {own : String} {index : Nat} {i : Int64} (X : Stand p l e R s m args below meth c T locs cells slots) (hx : p.tables.exec = Jvm.exec) (hZ : Z.Warmed39 s.vm) (hown : s.vm.findClass own = some m.cls) (hd : decode c.code pc = .ok (.ldc2_w index, 3)) (w : (Cond.constantLong own index i).before a0 Z = true)
    (k : own_Go p e below P T (mkF m (pc + 3) Ls (.long i :: st))) : own_Go p e below P T (mkF m pc Ls st) :=
  own_by (fun t k => X.ldc2Long hx hown (mvT hZ w) (g := mkF m pc Ls st) rfl hd t k) k
end Own
theorem d1_0 : decode method_2_code 0 = .ok (.iload_n 0, 1) := by decide +kernel
theorem d1_1 : decode method_2_code 1 = .ok (.tableswitch 287 0 33 #[151, 155, 159, 163, 167, 171, 175, 179, 183, 187, 191, 195, 199, 203, 207, 211, 215, 219, 223, 227, 231, 235, 239, 243, 247, 251, 255, 259, 263, 267, 271, 275, 279, 283], 151) := by decide +kernel
theorem d1_152 : decode method_2_code 152 = .ok (.getstatic 7, 3) := by decide +kernel
theorem d1_155 : decode method_2_code 155 = .ok (.areturn, 1) := by decide +kernel
theorem pn_com_example_quayside_quayside_http_ErrorCodeBindsKeyPinLaw : plainName "com/example/quayside/quayside/http/ErrorCodeBindsKeyPinLaw" = true := by first | (simp [plainName, overriddenIn]; done) | decide +kernel
theorem d1_156 : decode method_2_code 156 = .ok (.getstatic 13, 3) := by decide +kernel
theorem d1_159 : decode method_2_code 159 = .ok (.areturn, 1) := by decide +kernel
theorem d1_160 : decode method_2_code 160 = .ok (.getstatic 16, 3) := by decide +kernel
theorem d1_163 : decode method_2_code 163 = .ok (.areturn, 1) := by decide +kernel
theorem d1_164 : decode method_2_code 164 = .ok (.getstatic 19, 3) := by decide +kernel
theorem d1_167 : decode method_2_code 167 = .ok (.areturn, 1) := by decide +kernel
theorem d1_168 : decode method_2_code 168 = .ok (.getstatic 22, 3) := by decide +kernel
theorem d1_171 : decode method_2_code 171 = .ok (.areturn, 1) := by decide +kernel
theorem d1_172 : decode method_2_code 172 = .ok (.getstatic 25, 3) := by decide +kernel
theorem d1_175 : decode method_2_code 175 = .ok (.areturn, 1) := by decide +kernel
theorem d1_176 : decode method_2_code 176 = .ok (.getstatic 28, 3) := by decide +kernel
theorem d1_179 : decode method_2_code 179 = .ok (.areturn, 1) := by decide +kernel
theorem d1_180 : decode method_2_code 180 = .ok (.getstatic 31, 3) := by decide +kernel
theorem d1_183 : decode method_2_code 183 = .ok (.areturn, 1) := by decide +kernel
theorem d1_184 : decode method_2_code 184 = .ok (.getstatic 34, 3) := by decide +kernel
theorem d1_187 : decode method_2_code 187 = .ok (.areturn, 1) := by decide +kernel
theorem d1_188 : decode method_2_code 188 = .ok (.getstatic 37, 3) := by decide +kernel
theorem d1_191 : decode method_2_code 191 = .ok (.areturn, 1) := by decide +kernel
theorem d1_192 : decode method_2_code 192 = .ok (.getstatic 40, 3) := by decide +kernel
theorem d1_195 : decode method_2_code 195 = .ok (.areturn, 1) := by decide +kernel
theorem d1_196 : decode method_2_code 196 = .ok (.getstatic 43, 3) := by decide +kernel
theorem d1_199 : decode method_2_code 199 = .ok (.areturn, 1) := by decide +kernel
theorem d1_200 : decode method_2_code 200 = .ok (.getstatic 46, 3) := by decide +kernel
theorem d1_203 : decode method_2_code 203 = .ok (.areturn, 1) := by decide +kernel
theorem d1_204 : decode method_2_code 204 = .ok (.getstatic 49, 3) := by decide +kernel
theorem d1_207 : decode method_2_code 207 = .ok (.areturn, 1) := by decide +kernel
theorem d1_208 : decode method_2_code 208 = .ok (.getstatic 52, 3) := by decide +kernel
theorem d1_211 : decode method_2_code 211 = .ok (.areturn, 1) := by decide +kernel
theorem d1_212 : decode method_2_code 212 = .ok (.getstatic 55, 3) := by decide +kernel
theorem d1_215 : decode method_2_code 215 = .ok (.areturn, 1) := by decide +kernel
theorem d1_216 : decode method_2_code 216 = .ok (.getstatic 58, 3) := by decide +kernel
theorem d1_219 : decode method_2_code 219 = .ok (.areturn, 1) := by decide +kernel
theorem d1_220 : decode method_2_code 220 = .ok (.getstatic 61, 3) := by decide +kernel
theorem d1_223 : decode method_2_code 223 = .ok (.areturn, 1) := by decide +kernel
theorem d1_224 : decode method_2_code 224 = .ok (.getstatic 64, 3) := by decide +kernel
theorem d1_227 : decode method_2_code 227 = .ok (.areturn, 1) := by decide +kernel
theorem d1_228 : decode method_2_code 228 = .ok (.getstatic 67, 3) := by decide +kernel
theorem d1_231 : decode method_2_code 231 = .ok (.areturn, 1) := by decide +kernel
theorem d1_232 : decode method_2_code 232 = .ok (.getstatic 70, 3) := by decide +kernel
theorem d1_235 : decode method_2_code 235 = .ok (.areturn, 1) := by decide +kernel
theorem d1_236 : decode method_2_code 236 = .ok (.getstatic 73, 3) := by decide +kernel
theorem d1_239 : decode method_2_code 239 = .ok (.areturn, 1) := by decide +kernel
theorem d1_240 : decode method_2_code 240 = .ok (.getstatic 76, 3) := by decide +kernel
theorem d1_243 : decode method_2_code 243 = .ok (.areturn, 1) := by decide +kernel
theorem d1_244 : decode method_2_code 244 = .ok (.getstatic 79, 3) := by decide +kernel
theorem d1_247 : decode method_2_code 247 = .ok (.areturn, 1) := by decide +kernel
theorem d1_248 : decode method_2_code 248 = .ok (.getstatic 82, 3) := by decide +kernel
theorem d1_251 : decode method_2_code 251 = .ok (.areturn, 1) := by decide +kernel
theorem d1_252 : decode method_2_code 252 = .ok (.getstatic 85, 3) := by decide +kernel
theorem d1_255 : decode method_2_code 255 = .ok (.areturn, 1) := by decide +kernel
theorem d1_256 : decode method_2_code 256 = .ok (.getstatic 88, 3) := by decide +kernel
theorem d1_259 : decode method_2_code 259 = .ok (.areturn, 1) := by decide +kernel
theorem d1_260 : decode method_2_code 260 = .ok (.getstatic 91, 3) := by decide +kernel
theorem d1_263 : decode method_2_code 263 = .ok (.areturn, 1) := by decide +kernel
theorem d1_264 : decode method_2_code 264 = .ok (.getstatic 94, 3) := by decide +kernel
theorem d1_267 : decode method_2_code 267 = .ok (.areturn, 1) := by decide +kernel
theorem d1_268 : decode method_2_code 268 = .ok (.getstatic 97, 3) := by decide +kernel
theorem d1_271 : decode method_2_code 271 = .ok (.areturn, 1) := by decide +kernel
theorem d1_272 : decode method_2_code 272 = .ok (.getstatic 100, 3) := by decide +kernel
theorem d1_275 : decode method_2_code 275 = .ok (.areturn, 1) := by decide +kernel
theorem d1_276 : decode method_2_code 276 = .ok (.getstatic 103, 3) := by decide +kernel
theorem d1_279 : decode method_2_code 279 = .ok (.areturn, 1) := by decide +kernel
theorem d1_280 : decode method_2_code 280 = .ok (.getstatic 106, 3) := by decide +kernel
theorem d1_283 : decode method_2_code 283 = .ok (.areturn, 1) := by decide +kernel
theorem d1_284 : decode method_2_code 284 = .ok (.getstatic 109, 3) := by decide +kernel
theorem d1_287 : decode method_2_code 287 = .ok (.areturn, 1) := by decide +kernel
theorem d1_288 : decode method_2_code 288 = .ok (.getstatic 112, 3) := by decide +kernel
theorem d1_291 : decode method_2_code 291 = .ok (.areturn, 1) := by decide +kernel
theorem d2_0 : decode prog_25_method_5_code 0 = .ok (.aload_n 0, 1) := by decide +kernel
theorem d2_1 : decode prog_25_method_5_code 1 = .ok (.getstatic 7, 3) := by decide +kernel
theorem d2_4 : decode prog_25_method_5_code 4 = .ok (.if_acmp .eq 14, 3) := by decide +kernel
theorem d2_18 : decode prog_25_method_5_code 18 = .ok (.iconst 0, 1) := by decide +kernel
theorem d2_19 : decode prog_25_method_5_code 19 = .ok (.ireturn, 1) := by decide +kernel
theorem d2_7 : decode prog_25_method_5_code 7 = .ok (.aload_n 0, 1) := by decide +kernel
theorem d2_8 : decode prog_25_method_5_code 8 = .ok (.getstatic 97, 3) := by decide +kernel
theorem d2_11 : decode prog_25_method_5_code 11 = .ok (.if_acmp .eq 7, 3) := by decide +kernel
theorem d2_14 : decode prog_25_method_5_code 14 = .ok (.iconst 1, 1) := by decide +kernel
theorem d2_15 : decode prog_25_method_5_code 15 = .ok (.goto 4, 3) := by decide +kernel
theorem pn_com_example_quayside_quayside_http_ErrorCode : plainName "com/example/quayside/quayside/http/ErrorCode" = true := by first | (simp [plainName, overriddenIn]; done) | decide +kernel
theorem pd__I_Lcom_example_quayside_quayside_http_ErrorCode_ : parseMethodDescriptor "(I)Lcom/example/quayside/quayside/http/ErrorCode;" = some ⟨[.int], some (.object "com/example/quayside/quayside/http/ErrorCode")⟩ := by decide +kernel
theorem pd___Z : parseMethodDescriptor "()Z" = some ⟨[], some .boolean⟩ := by decide +kernel
def own_nm (j : Nat) : String := ["BAD_REQUEST", "VALIDATION_ERROR", "INVALID_SEARCH_PERIOD", "IDEMPOTENCY_KEY_MISSING", "CREDENTIAL_EXPIRED_OR_REPLAYED", "OTP_INVALID", "OTP_EXPIRED", "UNAUTHENTICATED", "INSUFFICIENT_FUNDS", "MERCHANT_SUSPENDED", "NOT_FOUND", "METHOD_NOT_ALLOWED", "WALLET_EXISTS", "PHONE_IN_USE", "TOO_MANY_API_KEYS", "GRANT_EXPIRED", "PAYMENT_NOT_AUTHORIZED", "PAYMENT_NOT_COMPLETED", "WEBHOOK_EVENT_PENDING", "IDEMPOTENCY_KEY_IN_USE", "PAYLOAD_TOO_LARGE", "URI_TOO_LONG", "EXPECTATION_FAILED", "IDEMPOTENCY_KEY_REUSED", "BALANCE_LIMIT_EXCEEDED", "CREDENTIAL_TYPE_UNSUPPORTED", "CURRENCY_MISMATCH", "AMOUNT_OUT_OF_LIMITS", "DAILY_LIMIT_EXCEEDED", "AMOUNT_EXCEEDS_AUTHORIZED", "REFUND_EXCEEDS_PAYMENT", "RATE_LIMITED", "HEADERS_TOO_LARGE", "INTERNAL_ERROR", "UNAVAILABLE"].getD j ""
theorem ef_rmP0 (m : MethodId) (x0 : Int32) : entryFrame m #[(.int x0)] 1 = mkF m 0 #[.val (.int x0)] [] := by first | (simp [entryFrame, mkF, argsToLocals, Value.category]; done) | rfl
set_option maxRecDepth 65536 in
set_option maxHeartbeats 40000000 in
theorem rmP0 (l : Launch) (Z : State) (a0 : Array Value) (hw : ∀ d ∈ tables_1, d.before a0 Z = true) (ws : List Jvm.Cond) (a1 : Addr) (h0 : Heap) (S1 : Sta Z h0 "com/example/quayside/quayside/http/ErrorCode" "BAD_REQUEST" "Lcom/example/quayside/quayside/http/ErrorCode;" (.ref a1)) :
    own_Ct l Z (⟨"com/example/quayside/quayside/http/ErrorCodeBindsKeyPinLaw", "pick", "(I)Lcom/example/quayside/quayside/http/ErrorCode;"⟩ : MethodName) method_2_code 1 (some (.object "com/example/quayside/quayside/http/ErrorCode")) ws ({ frames := 0, cells := 0, slots := 0, locals := 0 } : Room) #[(.int (0 : Int32))] h0 (fun v h L => v = some (.ref a1) ∧ L = [] ∧ h = h0) := by
  refine own_of pn_com_example_quayside_quayside_http_ErrorCodeBindsKeyPinLaw ?_
  intro p e s m below meth c s₁ hx hby hml hown hnm hret hlk hZ X0 e0
  rw [ef_rmP0]
  refine own_by (T' := s₁) (f' := (mkF m 1 #[.val (.int (0 : Int32))] [(.int (0 : Int32))])) (fun t k => XS.iloadN X0.here hx rfl (hb hby d1_0) rfl k) ?_
  refine own_by (T' := s₁) (f' := (mkF m 152 #[.val (.int (0 : Int32))] [])) (fun t k => XS.tswIn X0.here hx rfl (pc0 := 1) (pc' := 152) rfl (hb hby d1_1) rfl (by decide) (o := 151) (by decide) (by decide) (by decide) k) ?_
  refine own_getS (host := "") X0 hx hZ hown e0 (hb hby d1_152) (Or.inl (hw _ (List.mem_of_getElem? (i := 5) rfl))) Via.refl S1 ?_
  intro T1 X1 e1
  show own_Go p e below _ T1 (mkF m 155 #[.val (.int (0 : Int32))] [(.ref a1)])
  refine own_retA X1 hx hret hlk (hb hby d1_155) rfl rfl rfl (by decide) (by decide) ?_
  try rw [e1]
  exact ⟨rfl, rfl, rfl⟩
theorem ef_rmP1 (m : MethodId) (x0 : Int32) : entryFrame m #[(.int x0)] 1 = mkF m 0 #[.val (.int x0)] [] := by first | (simp [entryFrame, mkF, argsToLocals, Value.category]; done) | rfl
set_option maxRecDepth 65536 in
set_option maxHeartbeats 40000000 in
theorem rmP1 (l : Launch) (Z : State) (a0 : Array Value) (hw : ∀ d ∈ tables_1, d.before a0 Z = true) (ws : List Jvm.Cond) (a1 : Addr) (h0 : Heap) (S1 : Sta Z h0 "com/example/quayside/quayside/http/ErrorCode" "VALIDATION_ERROR" "Lcom/example/quayside/quayside/http/ErrorCode;" (.ref a1)) :
    own_Ct l Z (⟨"com/example/quayside/quayside/http/ErrorCodeBindsKeyPinLaw", "pick", "(I)Lcom/example/quayside/quayside/http/ErrorCode;"⟩ : MethodName) method_2_code 1 (some (.object "com/example/quayside/quayside/http/ErrorCode")) ws ({ frames := 0, cells := 0, slots := 0, locals := 0 } : Room) #[(.int (1 : Int32))] h0 (fun v h L => v = some (.ref a1) ∧ L = [] ∧ h = h0) := by
  refine own_of pn_com_example_quayside_quayside_http_ErrorCodeBindsKeyPinLaw ?_
  intro p e s m below meth c s₁ hx hby hml hown hnm hret hlk hZ X0 e0
  rw [ef_rmP1]
  refine own_by (T' := s₁) (f' := (mkF m 1 #[.val (.int (1 : Int32))] [(.int (1 : Int32))])) (fun t k => XS.iloadN X0.here hx rfl (hb hby d1_0) rfl k) ?_
  refine own_by (T' := s₁) (f' := (mkF m 156 #[.val (.int (1 : Int32))] [])) (fun t k => XS.tswIn X0.here hx rfl (pc0 := 1) (pc' := 156) rfl (hb hby d1_1) rfl (by decide) (o := 155) (by decide) (by decide) (by decide) k) ?_
  refine own_getS (host := "") X0 hx hZ hown e0 (hb hby d1_156) (Or.inl (hw _ (List.mem_of_getElem? (i := 37) rfl))) Via.refl S1 ?_
  intro T1 X1 e1
  show own_Go p e below _ T1 (mkF m 159 #[.val (.int (1 : Int32))] [(.ref a1)])
  refine own_retA X1 hx hret hlk (hb hby d1_159) rfl rfl rfl (by decide) (by decide) ?_
  try rw [e1]
  exact ⟨rfl, rfl, rfl⟩
theorem ef_rmP2 (m : MethodId) (x0 : Int32) : entryFrame m #[(.int x0)] 1 = mkF m 0 #[.val (.int x0)] [] := by first | (simp [entryFrame, mkF, argsToLocals, Value.category]; done) | rfl
set_option maxRecDepth 65536 in
set_option maxHeartbeats 40000000 in
theorem rmP2 (l : Launch) (Z : State) (a0 : Array Value) (hw : ∀ d ∈ tables_1, d.before a0 Z = true) (ws : List Jvm.Cond) (a1 : Addr) (h0 : Heap) (S1 : Sta Z h0 "com/example/quayside/quayside/http/ErrorCode" "INVALID_SEARCH_PERIOD" "Lcom/example/quayside/quayside/http/ErrorCode;" (.ref a1)) :
    own_Ct l Z (⟨"com/example/quayside/quayside/http/ErrorCodeBindsKeyPinLaw", "pick", "(I)Lcom/example/quayside/quayside/http/ErrorCode;"⟩ : MethodName) method_2_code 1 (some (.object "com/example/quayside/quayside/http/ErrorCode")) ws ({ frames := 0, cells := 0, slots := 0, locals := 0 } : Room) #[(.int (2 : Int32))] h0 (fun v h L => v = some (.ref a1) ∧ L = [] ∧ h = h0) := by
  refine own_of pn_com_example_quayside_quayside_http_ErrorCodeBindsKeyPinLaw ?_
  intro p e s m below meth c s₁ hx hby hml hown hnm hret hlk hZ X0 e0
  rw [ef_rmP2]
  refine own_by (T' := s₁) (f' := (mkF m 1 #[.val (.int (2 : Int32))] [(.int (2 : Int32))])) (fun t k => XS.iloadN X0.here hx rfl (hb hby d1_0) rfl k) ?_
  refine own_by (T' := s₁) (f' := (mkF m 160 #[.val (.int (2 : Int32))] [])) (fun t k => XS.tswIn X0.here hx rfl (pc0 := 1) (pc' := 160) rfl (hb hby d1_1) rfl (by decide) (o := 159) (by decide) (by decide) (by decide) k) ?_
  refine own_getS (host := "") X0 hx hZ hown e0 (hb hby d1_160) (Or.inl (hw _ (List.mem_of_getElem? (i := 29) rfl))) Via.refl S1 ?_
  intro T1 X1 e1
  show own_Go p e below _ T1 (mkF m 163 #[.val (.int (2 : Int32))] [(.ref a1)])
  refine own_retA X1 hx hret hlk (hb hby d1_163) rfl rfl rfl (by decide) (by decide) ?_
  try rw [e1]
  exact ⟨rfl, rfl, rfl⟩
theorem ef_rmP3 (m : MethodId) (x0 : Int32) : entryFrame m #[(.int x0)] 1 = mkF m 0 #[.val (.int x0)] [] := by first | (simp [entryFrame, mkF, argsToLocals, Value.category]; done) | rfl
set_option maxRecDepth 65536 in
set_option maxHeartbeats 40000000 in
theorem rmP3 (l : Launch) (Z : State) (a0 : Array Value) (hw : ∀ d ∈ tables_1, d.before a0 Z = true) (ws : List Jvm.Cond) (a1 : Addr) (h0 : Heap) (S1 : Sta Z h0 "com/example/quayside/quayside/http/ErrorCode" "IDEMPOTENCY_KEY_MISSING" "Lcom/example/quayside/quayside/http/ErrorCode;" (.ref a1)) :
    own_Ct l Z (⟨"com/example/quayside/quayside/http/ErrorCodeBindsKeyPinLaw", "pick", "(I)Lcom/example/quayside/quayside/http/ErrorCode;"⟩ : MethodName) method_2_code 1 (some (.object "com/example/quayside/quayside/http/ErrorCode")) ws ({ frames := 0, cells := 0, slots := 0, locals := 0 } : Room) #[(.int (3 : Int32))] h0 (fun v h L => v = some (.ref a1) ∧ L = [] ∧ h = h0) := by
  refine own_of pn_com_example_quayside_quayside_http_ErrorCodeBindsKeyPinLaw ?_
  intro p e s m below meth c s₁ hx hby hml hown hnm hret hlk hZ X0 e0
  rw [ef_rmP3]
  refine own_by (T' := s₁) (f' := (mkF m 1 #[.val (.int (3 : Int32))] [(.int (3 : Int32))])) (fun t k => XS.iloadN X0.here hx rfl (hb hby d1_0) rfl k) ?_
  refine own_by (T' := s₁) (f' := (mkF m 164 #[.val (.int (3 : Int32))] [])) (fun t k => XS.tswIn X0.here hx rfl (pc0 := 1) (pc' := 164) rfl (hb hby d1_1) rfl (by decide) (o := 163) (by decide) (by decide) (by decide) k) ?_
  refine own_getS (host := "") X0 hx hZ hown e0 (hb hby d1_164) (Or.inl (hw _ (List.mem_of_getElem? (i := 17) rfl))) Via.refl S1 ?_
  intro T1 X1 e1
  show own_Go p e below _ T1 (mkF m 167 #[.val (.int (3 : Int32))] [(.ref a1)])
  refine own_retA X1 hx hret hlk (hb hby d1_167) rfl rfl rfl (by decide) (by decide) ?_
  try rw [e1]
  exact ⟨rfl, rfl, rfl⟩
theorem ef_rmP4 (m : MethodId) (x0 : Int32) : entryFrame m #[(.int x0)] 1 = mkF m 0 #[.val (.int x0)] [] := by first | (simp [entryFrame, mkF, argsToLocals, Value.category]; done) | rfl
set_option maxRecDepth 65536 in
set_option maxHeartbeats 40000000 in
theorem rmP4 (l : Launch) (Z : State) (a0 : Array Value) (hw : ∀ d ∈ tables_1, d.before a0 Z = true) (ws : List Jvm.Cond) (a1 : Addr) (h0 : Heap) (S1 : Sta Z h0 "com/example/quayside/quayside/http/ErrorCode" "CREDENTIAL_EXPIRED_OR_REPLAYED" "Lcom/example/quayside/quayside/http/ErrorCode;" (.ref a1)) :
    own_Ct l Z (⟨"com/example/quayside/quayside/http/ErrorCodeBindsKeyPinLaw", "pick", "(I)Lcom/example/quayside/quayside/http/ErrorCode;"⟩ : MethodName) method_2_code 1 (some (.object "com/example/quayside/quayside/http/ErrorCode")) ws ({ frames := 0, cells := 0, slots := 0, locals := 0 } : Room) #[(.int (4 : Int32))] h0 (fun v h L => v = some (.ref a1) ∧ L = [] ∧ h = h0) := by
  refine own_of pn_com_example_quayside_quayside_http_ErrorCodeBindsKeyPinLaw ?_
  intro p e s m below meth c s₁ hx hby hml hown hnm hret hlk hZ X0 e0
  rw [ef_rmP4]
  refine own_by (T' := s₁) (f' := (mkF m 1 #[.val (.int (4 : Int32))] [(.int (4 : Int32))])) (fun t k => XS.iloadN X0.here hx rfl (hb hby d1_0) rfl k) ?_
  refine own_by (T' := s₁) (f' := (mkF m 168 #[.val (.int (4 : Int32))] [])) (fun t k => XS.tswIn X0.here hx rfl (pc0 := 1) (pc' := 168) rfl (hb hby d1_1) rfl (by decide) (o := 167) (by decide) (by decide) (by decide) k) ?_
  refine own_getS (host := "") X0 hx hZ hown e0 (hb hby d1_168) (Or.inl (hw _ (List.mem_of_getElem? (i := 25) rfl))) Via.refl S1 ?_
  intro T1 X1 e1
  show own_Go p e below _ T1 (mkF m 171 #[.val (.int (4 : Int32))] [(.ref a1)])
  refine own_retA X1 hx hret hlk (hb hby d1_171) rfl rfl rfl (by decide) (by decide) ?_
  try rw [e1]
  exact ⟨rfl, rfl, rfl⟩
theorem ef_rmP5 (m : MethodId) (x0 : Int32) : entryFrame m #[(.int x0)] 1 = mkF m 0 #[.val (.int x0)] [] := by first | (simp [entryFrame, mkF, argsToLocals, Value.category]; done) | rfl
set_option maxRecDepth 65536 in
set_option maxHeartbeats 40000000 in
theorem rmP5 (l : Launch) (Z : State) (a0 : Array Value) (hw : ∀ d ∈ tables_1, d.before a0 Z = true) (ws : List Jvm.Cond) (a1 : Addr) (h0 : Heap) (S1 : Sta Z h0 "com/example/quayside/quayside/http/ErrorCode" "OTP_INVALID" "Lcom/example/quayside/quayside/http/ErrorCode;" (.ref a1)) :
    own_Ct l Z (⟨"com/example/quayside/quayside/http/ErrorCodeBindsKeyPinLaw", "pick", "(I)Lcom/example/quayside/quayside/http/ErrorCode;"⟩ : MethodName) method_2_code 1 (some (.object "com/example/quayside/quayside/http/ErrorCode")) ws ({ frames := 0, cells := 0, slots := 0, locals := 0 } : Room) #[(.int (5 : Int32))] h0 (fun v h L => v = some (.ref a1) ∧ L = [] ∧ h = h0) := by
  refine own_of pn_com_example_quayside_quayside_http_ErrorCodeBindsKeyPinLaw ?_
  intro p e s m below meth c s₁ hx hby hml hown hnm hret hlk hZ X0 e0
  rw [ef_rmP5]
  refine own_by (T' := s₁) (f' := (mkF m 1 #[.val (.int (5 : Int32))] [(.int (5 : Int32))])) (fun t k => XS.iloadN X0.here hx rfl (hb hby d1_0) rfl k) ?_
  refine own_by (T' := s₁) (f' := (mkF m 172 #[.val (.int (5 : Int32))] [])) (fun t k => XS.tswIn X0.here hx rfl (pc0 := 1) (pc' := 172) rfl (hb hby d1_1) rfl (by decide) (o := 171) (by decide) (by decide) (by decide) k) ?_
  refine own_getS (host := "") X0 hx hZ hown e0 (hb hby d1_172) (Or.inl (hw _ (List.mem_of_getElem? (i := 19) rfl))) Via.refl S1 ?_
  intro T1 X1 e1
  show own_Go p e below _ T1 (mkF m 175 #[.val (.int (5 : Int32))] [(.ref a1)])
  refine own_retA X1 hx hret hlk (hb hby d1_175) rfl rfl rfl (by decide) (by decide) ?_
  try rw [e1]
  exact ⟨rfl, rfl, rfl⟩
theorem ef_rmP6 (m : MethodId) (x0 : Int32) : entryFrame m #[(.int x0)] 1 = mkF m 0 #[.val (.int x0)] [] := by first | (simp [entryFrame, mkF, argsToLocals, Value.category]; done) | rfl
set_option maxRecDepth 65536 in
set_option maxHeartbeats 40000000 in
theorem rmP6 (l : Launch) (Z : State) (a0 : Array Value) (hw : ∀ d ∈ tables_1, d.before a0 Z = true) (ws : List Jvm.Cond) (a1 : Addr) (h0 : Heap) (S1 : Sta Z h0 "com/example/quayside/quayside/http/ErrorCode" "OTP_EXPIRED" "Lcom/example/quayside/quayside/http/ErrorCode;" (.ref a1)) :
    own_Ct l Z (⟨"com/example/quayside/quayside/http/ErrorCodeBindsKeyPinLaw", "pick", "(I)Lcom/example/quayside/quayside/http/ErrorCode;"⟩ : MethodName) method_2_code 1 (some (.object "com/example/quayside/quayside/http/ErrorCode")) ws ({ frames := 0, cells := 0, slots := 0, locals := 0 } : Room) #[(.int (6 : Int32))] h0 (fun v h L => v = some (.ref a1) ∧ L = [] ∧ h = h0) := by
  refine own_of pn_com_example_quayside_quayside_http_ErrorCodeBindsKeyPinLaw ?_
  intro p e s m below meth c s₁ hx hby hml hown hnm hret hlk hZ X0 e0
  rw [ef_rmP6]
  refine own_by (T' := s₁) (f' := (mkF m 1 #[.val (.int (6 : Int32))] [(.int (6 : Int32))])) (fun t k => XS.iloadN X0.here hx rfl (hb hby d1_0) rfl k) ?_
  refine own_by (T' := s₁) (f' := (mkF m 176 #[.val (.int (6 : Int32))] [])) (fun t k => XS.tswIn X0.here hx rfl (pc0 := 1) (pc' := 176) rfl (hb hby d1_1) rfl (by decide) (o := 175) (by decide) (by decide) (by decide) k) ?_
  refine own_getS (host := "") X0 hx hZ hown e0 (hb hby d1_176) (Or.inl (hw _ (List.mem_of_getElem? (i := 23) rfl))) Via.refl S1 ?_
  intro T1 X1 e1
  show own_Go p e below _ T1 (mkF m 179 #[.val (.int (6 : Int32))] [(.ref a1)])
  refine own_retA X1 hx hret hlk (hb hby d1_179) rfl rfl rfl (by decide) (by decide) ?_
  try rw [e1]
  exact ⟨rfl, rfl, rfl⟩
theorem ef_rmP7 (m : MethodId) (x0 : Int32) : entryFrame m #[(.int x0)] 1 = mkF m 0 #[.val (.int x0)] [] := by first | (simp [entryFrame, mkF, argsToLocals, Value.category]; done) | rfl
set_option maxRecDepth 65536 in
set_option maxHeartbeats 40000000 in
theorem rmP7 (l : Launch) (Z : State) (a0 : Array Value) (hw : ∀ d ∈ tables_1, d.before a0 Z = true) (ws : List Jvm.Cond) (a1 : Addr) (h0 : Heap) (S1 : Sta Z h0 "com/example/quayside/quayside/http/ErrorCode" "UNAUTHENTICATED" "Lcom/example/quayside/quayside/http/ErrorCode;" (.ref a1)) :
    own_Ct l Z (⟨"com/example/quayside/quayside/http/ErrorCodeBindsKeyPinLaw", "pick", "(I)Lcom/example/quayside/quayside/http/ErrorCode;"⟩ : MethodName) method_2_code 1 (some (.object "com/example/quayside/quayside/http/ErrorCode")) ws ({ frames := 0, cells := 0, slots := 0, locals := 0 } : Room) #[(.int (7 : Int32))] h0 (fun v h L => v = some (.ref a1) ∧ L = [] ∧ h = h0) := by
  refine own_of pn_com_example_quayside_quayside_http_ErrorCodeBindsKeyPinLaw ?_
  intro p e s m below meth c s₁ hx hby hml hown hnm hret hlk hZ X0 e0
  rw [ef_rmP7]
  refine own_by (T' := s₁) (f' := (mkF m 1 #[.val (.int (7 : Int32))] [(.int (7 : Int32))])) (fun t k => XS.iloadN X0.here hx rfl (hb hby d1_0) rfl k) ?_
  refine own_by (T' := s₁) (f' := (mkF m 180 #[.val (.int (7 : Int32))] [])) (fun t k => XS.tswIn X0.here hx rfl (pc0 := 1) (pc' := 180) rfl (hb hby d1_1) rfl (by decide) (o := 179) (by decide) (by decide) (by decide) k) ?_
  refine own_getS (host := "") X0 hx hZ hown e0 (hb hby d1_180) (Or.inl (hw _ (List.mem_of_getElem? (i := 27) rfl))) Via.refl S1 ?_
  intro T1 X1 e1
  show own_Go p e below _ T1 (mkF m 183 #[.val (.int (7 : Int32))] [(.ref a1)])
  refine own_retA X1 hx hret hlk (hb hby d1_183) rfl rfl rfl (by decide) (by decide) ?_
  try rw [e1]
  exact ⟨rfl, rfl, rfl⟩
theorem ef_rmP8 (m : MethodId) (x0 : Int32) : entryFrame m #[(.int x0)] 1 = mkF m 0 #[.val (.int x0)] [] := by first | (simp [entryFrame, mkF, argsToLocals, Value.category]; done) | rfl
set_option maxRecDepth 65536 in
set_option maxHeartbeats 40000000 in
theorem rmP8 (l : Launch) (Z : State) (a0 : Array Value) (hw : ∀ d ∈ tables_1, d.before a0 Z = true) (ws : List Jvm.Cond) (a1 : Addr) (h0 : Heap) (S1 : Sta Z h0 "com/example/quayside/quayside/http/ErrorCode" "INSUFFICIENT_FUNDS" "Lcom/example/quayside/quayside/http/ErrorCode;" (.ref a1)) :
    own_Ct l Z (⟨"com/example/quayside/quayside/http/ErrorCodeBindsKeyPinLaw", "pick", "(I)Lcom/example/quayside/quayside/http/ErrorCode;"⟩ : MethodName) method_2_code 1 (some (.object "com/example/quayside/quayside/http/ErrorCode")) ws ({ frames := 0, cells := 0, slots := 0, locals := 0 } : Room) #[(.int (8 : Int32))] h0 (fun v h L => v = some (.ref a1) ∧ L = [] ∧ h = h0) := by
  refine own_of pn_com_example_quayside_quayside_http_ErrorCodeBindsKeyPinLaw ?_
  intro p e s m below meth c s₁ hx hby hml hown hnm hret hlk hZ X0 e0
  rw [ef_rmP8]
  refine own_by (T' := s₁) (f' := (mkF m 1 #[.val (.int (8 : Int32))] [(.int (8 : Int32))])) (fun t k => XS.iloadN X0.here hx rfl (hb hby d1_0) rfl k) ?_
  refine own_by (T' := s₁) (f' := (mkF m 184 #[.val (.int (8 : Int32))] [])) (fun t k => XS.tswIn X0.here hx rfl (pc0 := 1) (pc' := 184) rfl (hb hby d1_1) rfl (by decide) (o := 183) (by decide) (by decide) (by decide) k) ?_
  refine own_getS (host := "") X0 hx hZ hown e0 (hb hby d1_184) (Or.inl (hw _ (List.mem_of_getElem? (i := 35) rfl))) Via.refl S1 ?_
  intro T1 X1 e1
  show own_Go p e below _ T1 (mkF m 187 #[.val (.int (8 : Int32))] [(.ref a1)])
  refine own_retA X1 hx hret hlk (hb hby d1_187) rfl rfl rfl (by decide) (by decide) ?_
  try rw [e1]
  exact ⟨rfl, rfl, rfl⟩
theorem ef_rmP9 (m : MethodId) (x0 : Int32) : entryFrame m #[(.int x0)] 1 = mkF m 0 #[.val (.int x0)] [] := by first | (simp [entryFrame, mkF, argsToLocals, Value.category]; done) | rfl
set_option maxRecDepth 65536 in
set_option maxHeartbeats 40000000 in
theorem rmP9 (l : Launch) (Z : State) (a0 : Array Value) (hw : ∀ d ∈ tables_1, d.before a0 Z = true) (ws : List Jvm.Cond) (a1 : Addr) (h0 : Heap) (S1 : Sta Z h0 "com/example/quayside/quayside/http/ErrorCode" "MERCHANT_SUSPENDED" "Lcom/example/quayside/quayside/http/ErrorCode;" (.ref a1)) :
    own_Ct l Z (⟨"com/example/quayside/quayside/http/ErrorCodeBindsKeyPinLaw", "pick", "(I)Lcom/example/quayside/quayside/http/ErrorCode;"⟩ : MethodName) method_2_code 1 (some (.object "com/example/quayside/quayside/http/ErrorCode")) ws ({ frames := 0, cells := 0, slots := 0, locals := 0 } : Room) #[(.int (9 : Int32))] h0 (fun v h L => v = some (.ref a1) ∧ L = [] ∧ h = h0) := by
  refine own_of pn_com_example_quayside_quayside_http_ErrorCodeBindsKeyPinLaw ?_
  intro p e s m below meth c s₁ hx hby hml hown hnm hret hlk hZ X0 e0
  rw [ef_rmP9]
  refine own_by (T' := s₁) (f' := (mkF m 1 #[.val (.int (9 : Int32))] [(.int (9 : Int32))])) (fun t k => XS.iloadN X0.here hx rfl (hb hby d1_0) rfl k) ?_
  refine own_by (T' := s₁) (f' := (mkF m 188 #[.val (.int (9 : Int32))] [])) (fun t k => XS.tswIn X0.here hx rfl (pc0 := 1) (pc' := 188) rfl (hb hby d1_1) rfl (by decide) (o := 187) (by decide) (by decide) (by decide) k) ?_
  refine own_getS (host := "") X0 hx hZ hown e0 (hb hby d1_188) (Or.inl (hw _ (List.mem_of_getElem? (i := 57) rfl))) Via.refl S1 ?_
  intro T1 X1 e1
  show own_Go p e below _ T1 (mkF m 191 #[.val (.int (9 : Int32))] [(.ref a1)])
  refine own_retA X1 hx hret hlk (hb hby d1_191) rfl rfl rfl (by decide) (by decide) ?_
  try rw [e1]
  exact ⟨rfl, rfl, rfl⟩
theorem ef_rmP10 (m : MethodId) (x0 : Int32) : entryFrame m #[(.int x0)] 1 = mkF m 0 #[.val (.int x0)] [] := by first | (simp [entryFrame, mkF, argsToLocals, Value.category]; done) | rfl
set_option maxRecDepth 65536 in
set_option maxHeartbeats 40000000 in
theorem rmP10 (l : Launch) (Z : State) (a0 : Array Value) (hw : ∀ d ∈ tables_1, d.before a0 Z = true) (ws : List Jvm.Cond) (a1 : Addr) (h0 : Heap) (S1 : Sta Z h0 "com/example/quayside/quayside/http/ErrorCode" "NOT_FOUND" "Lcom/example/quayside/quayside/http/ErrorCode;" (.ref a1)) :
    own_Ct l Z (⟨"com/example/quayside/quayside/http/ErrorCodeBindsKeyPinLaw", "pick", "(I)Lcom/example/quayside/quayside/http/ErrorCode;"⟩ : MethodName) method_2_code 1 (some (.object "com/example/quayside/quayside/http/ErrorCode")) ws ({ frames := 0, cells := 0, slots := 0, locals := 0 } : Room) #[(.int (10 : Int32))] h0 (fun v h L => v = some (.ref a1) ∧ L = [] ∧ h = h0) := by
  refine own_of pn_com_example_quayside_quayside_http_ErrorCodeBindsKeyPinLaw ?_
  intro p e s m below meth c s₁ hx hby hml hown hnm hret hlk hZ X0 e0
  rw [ef_rmP10]
  refine own_by (T' := s₁) (f' := (mkF m 1 #[.val (.int (10 : Int32))] [(.int (10 : Int32))])) (fun t k => XS.iloadN X0.here hx rfl (hb hby d1_0) rfl k) ?_
  refine own_by (T' := s₁) (f' := (mkF m 192 #[.val (.int (10 : Int32))] [])) (fun t k => XS.tswIn X0.here hx rfl (pc0 := 1) (pc' := 192) rfl (hb hby d1_1) rfl (by decide) (o := 191) (by decide) (by decide) (by decide) k) ?_
  refine own_getS (host := "") X0 hx hZ hown e0 (hb hby d1_192) (Or.inl (hw _ (List.mem_of_getElem? (i := 33) rfl))) Via.refl S1 ?_
  intro T1 X1 e1
  show own_Go p e below _ T1 (mkF m 195 #[.val (.int (10 : Int32))] [(.ref a1)])
  refine own_retA X1 hx hret hlk (hb hby d1_195) rfl rfl rfl (by decide) (by decide) ?_
  try rw [e1]
  exact ⟨rfl, rfl, rfl⟩
theorem ef_rmP11 (m : MethodId) (x0 : Int32) : entryFrame m #[(.int x0)] 1 = mkF m 0 #[.val (.int x0)] [] := by first | (simp [entryFrame, mkF, argsToLocals, Value.category]; done) | rfl
set_option maxRecDepth 65536 in
set_option maxHeartbeats 40000000 in
theorem rmP11 (l : Launch) (Z : State) (a0 : Array Value) (hw : ∀ d ∈ tables_1, d.before a0 Z = true) (ws : List Jvm.Cond) (a1 : Addr) (h0 : Heap) (S1 : Sta Z h0 "com/example/quayside/quayside/http/ErrorCode" "METHOD_NOT_ALLOWED" "Lcom/example/quayside/quayside/http/ErrorCode;" (.ref a1)) :
    own_Ct l Z (⟨"com/example/quayside/quayside/http/ErrorCodeBindsKeyPinLaw", "pick", "(I)Lcom/example/quayside/quayside/http/ErrorCode;"⟩ : MethodName) method_2_code 1 (some (.object "com/example/quayside/quayside/http/ErrorCode")) ws ({ frames := 0, cells := 0, slots := 0, locals := 0 } : Room) #[(.int (11 : Int32))] h0 (fun v h L => v = some (.ref a1) ∧ L = [] ∧ h = h0) := by
  refine own_of pn_com_example_quayside_quayside_http_ErrorCodeBindsKeyPinLaw ?_
  intro p e s m below meth c s₁ hx hby hml hown hnm hret hlk hZ X0 e0
  rw [ef_rmP11]
  refine own_by (T' := s₁) (f' := (mkF m 1 #[.val (.int (11 : Int32))] [(.int (11 : Int32))])) (fun t k => XS.iloadN X0.here hx rfl (hb hby d1_0) rfl k) ?_
  refine own_by (T' := s₁) (f' := (mkF m 196 #[.val (.int (11 : Int32))] [])) (fun t k => XS.tswIn X0.here hx rfl (pc0 := 1) (pc' := 196) rfl (hb hby d1_1) rfl (by decide) (o := 195) (by decide) (by decide) (by decide) k) ?_
  refine own_getS (host := "") X0 hx hZ hown e0 (hb hby d1_196) (Or.inl (hw _ (List.mem_of_getElem? (i := 31) rfl))) Via.refl S1 ?_
  intro T1 X1 e1
  show own_Go p e below _ T1 (mkF m 199 #[.val (.int (11 : Int32))] [(.ref a1)])
  refine own_retA X1 hx hret hlk (hb hby d1_199) rfl rfl rfl (by decide) (by decide) ?_
  try rw [e1]
  exact ⟨rfl, rfl, rfl⟩
theorem ef_rmP12 (m : MethodId) (x0 : Int32) : entryFrame m #[(.int x0)] 1 = mkF m 0 #[.val (.int x0)] [] := by first | (simp [entryFrame, mkF, argsToLocals, Value.category]; done) | rfl
set_option maxRecDepth 65536 in
set_option maxHeartbeats 40000000 in
theorem rmP12 (l : Launch) (Z : State) (a0 : Array Value) (hw : ∀ d ∈ tables_1, d.before a0 Z = true) (ws : List Jvm.Cond) (a1 : Addr) (h0 : Heap) (S1 : Sta Z h0 "com/example/quayside/quayside/http/ErrorCode" "WALLET_EXISTS" "Lcom/example/quayside/quayside/http/ErrorCode;" (.ref a1)) :
    own_Ct l Z (⟨"com/example/quayside/quayside/http/ErrorCodeBindsKeyPinLaw", "pick", "(I)Lcom/example/quayside/quayside/http/ErrorCode;"⟩ : MethodName) method_2_code 1 (some (.object "com/example/quayside/quayside/http/ErrorCode")) ws ({ frames := 0, cells := 0, slots := 0, locals := 0 } : Room) #[(.int (12 : Int32))] h0 (fun v h L => v = some (.ref a1) ∧ L = [] ∧ h = h0) := by
  refine own_of pn_com_example_quayside_quayside_http_ErrorCodeBindsKeyPinLaw ?_
  intro p e s m below meth c s₁ hx hby hml hown hnm hret hlk hZ X0 e0
  rw [ef_rmP12]
  refine own_by (T' := s₁) (f' := (mkF m 1 #[.val (.int (12 : Int32))] [(.int (12 : Int32))])) (fun t k => XS.iloadN X0.here hx rfl (hb hby d1_0) rfl k) ?_
  refine own_by (T' := s₁) (f' := (mkF m 200 #[.val (.int (12 : Int32))] [])) (fun t k => XS.tswIn X0.here hx rfl (pc0 := 1) (pc' := 200) rfl (hb hby d1_1) rfl (by decide) (o := 199) (by decide) (by decide) (by decide) k) ?_
  refine own_getS (host := "") X0 hx hZ hown e0 (hb hby d1_200) (Or.inl (hw _ (List.mem_of_getElem? (i := 61) rfl))) Via.refl S1 ?_
  intro T1 X1 e1
  show own_Go p e below _ T1 (mkF m 203 #[.val (.int (12 : Int32))] [(.ref a1)])
  refine own_retA X1 hx hret hlk (hb hby d1_203) rfl rfl rfl (by decide) (by decide) ?_
  try rw [e1]
  exact ⟨rfl, rfl, rfl⟩
theorem ef_rmP13 (m : MethodId) (x0 : Int32) : entryFrame m #[(.int x0)] 1 = mkF m 0 #[.val (.int x0)] [] := by first | (simp [entryFrame, mkF, argsToLocals, Value.category]; done) | rfl
set_option maxRecDepth 65536 in
set_option maxHeartbeats 40000000 in
theorem rmP13 (l : Launch) (Z : State) (a0 : Array Value) (hw : ∀ d ∈ tables_1, d.before a0 Z = true) (ws : List Jvm.Cond) (a1 : Addr) (h0 : Heap) (S1 : Sta Z h0 "com/example/quayside/quayside/http/ErrorCode" "PHONE_IN_USE" "Lcom/example/quayside/quayside/http/ErrorCode;" (.ref a1)) :
    own_Ct l Z (⟨"com/example/quayside/quayside/http/ErrorCodeBindsKeyPinLaw", "pick", "(I)Lcom/example/quayside/quayside/http/ErrorCode;"⟩ : MethodName) method_2_code 1 (some (.object "com/example/quayside/quayside/http/ErrorCode")) ws ({ frames := 0, cells := 0, slots := 0, locals := 0 } : Room) #[(.int (13 : Int32))] h0 (fun v h L => v = some (.ref a1) ∧ L = [] ∧ h = h0) := by
  refine own_of pn_com_example_quayside_quayside_http_ErrorCodeBindsKeyPinLaw ?_
  intro p e s m below meth c s₁ hx hby hml hown hnm hret hlk hZ X0 e0
  rw [ef_rmP13]
  refine own_by (T' := s₁) (f' := (mkF m 1 #[.val (.int (13 : Int32))] [(.int (13 : Int32))])) (fun t k => XS.iloadN X0.here hx rfl (hb hby d1_0) rfl k) ?_
  refine own_by (T' := s₁) (f' := (mkF m 204 #[.val (.int (13 : Int32))] [])) (fun t k => XS.tswIn X0.here hx rfl (pc0 := 1) (pc' := 204) rfl (hb hby d1_1) rfl (by decide) (o := 203) (by decide) (by decide) (by decide) k) ?_
  refine own_getS (host := "") X0 hx hZ hown e0 (hb hby d1_204) (Or.inl (hw _ (List.mem_of_getElem? (i := 21) rfl))) Via.refl S1 ?_
  intro T1 X1 e1
  show own_Go p e below _ T1 (mkF m 207 #[.val (.int (13 : Int32))] [(.ref a1)])
  refine own_retA X1 hx hret hlk (hb hby d1_207) rfl rfl rfl (by decide) (by decide) ?_
  try rw [e1]
  exact ⟨rfl, rfl, rfl⟩
theorem ef_rmP14 (m : MethodId) (x0 : Int32) : entryFrame m #[(.int x0)] 1 = mkF m 0 #[.val (.int x0)] [] := by first | (simp [entryFrame, mkF, argsToLocals, Value.category]; done) | rfl
set_option maxRecDepth 65536 in
set_option maxHeartbeats 40000000 in
theorem rmP14 (l : Launch) (Z : State) (a0 : Array Value) (hw : ∀ d ∈ tables_1, d.before a0 Z = true) (ws : List Jvm.Cond) (a1 : Addr) (h0 : Heap) (S1 : Sta Z h0 "com/example/quayside/quayside/http/ErrorCode" "TOO_MANY_API_KEYS" "Lcom/example/quayside/quayside/http/ErrorCode;" (.ref a1)) :
    own_Ct l Z (⟨"com/example/quayside/quayside/http/ErrorCodeBindsKeyPinLaw", "pick", "(I)Lcom/example/quayside/quayside/http/ErrorCode;"⟩ : MethodName) method_2_code 1 (some (.object "com/example/quayside/quayside/http/ErrorCode")) ws ({ frames := 0, cells := 0, slots := 0, locals := 0 } : Room) #[(.int (14 : Int32))] h0 (fun v h L => v = some (.ref a1) ∧ L = [] ∧ h = h0) := by
  refine own_of pn_com_example_quayside_quayside_http_ErrorCodeBindsKeyPinLaw ?_
  intro p e s m below meth c s₁ hx hby hml hown hnm hret hlk hZ X0 e0
  rw [ef_rmP14]
  refine own_by (T' := s₁) (f' := (mkF m 1 #[.val (.int (14 : Int32))] [(.int (14 : Int32))])) (fun t k => XS.iloadN X0.here hx rfl (hb hby d1_0) rfl k) ?_
  refine own_by (T' := s₁) (f' := (mkF m 208 #[.val (.int (14 : Int32))] [])) (fun t k => XS.tswIn X0.here hx rfl (pc0 := 1) (pc' := 208) rfl (hb hby d1_1) rfl (by decide) (o := 207) (by decide) (by decide) (by decide) k) ?_
  refine own_getS (host := "") X0 hx hZ hown e0 (hb hby d1_208) (Or.inl (hw _ (List.mem_of_getElem? (i := 38) rfl))) Via.refl S1 ?_
  intro T1 X1 e1
  show own_Go p e below _ T1 (mkF m 211 #[.val (.int (14 : Int32))] [(.ref a1)])
  refine own_retA X1 hx hret hlk (hb hby d1_211) rfl rfl rfl (by decide) (by decide) ?_
  try rw [e1]
  exact ⟨rfl, rfl, rfl⟩
theorem ef_rmP15 (m : MethodId) (x0 : Int32) : entryFrame m #[(.int x0)] 1 = mkF m 0 #[.val (.int x0)] [] := by first | (simp [entryFrame, mkF, argsToLocals, Value.category]; done) | rfl
set_option maxRecDepth 65536 in
set_option maxHeartbeats 40000000 in
theorem rmP15 (l : Launch) (Z : State) (a0 : Array Value) (hw : ∀ d ∈ tables_1, d.before a0 Z = true) (ws : List Jvm.Cond) (a1 : Addr) (h0 : Heap) (S1 : Sta Z h0 "com/example/quayside/quayside/http/ErrorCode" "GRANT_EXPIRED" "Lcom/example/quayside/quayside/http/ErrorCode;" (.ref a1)) :
    own_Ct l Z (⟨"com/example/quayside/quayside/http/ErrorCodeBindsKeyPinLaw", "pick", "(I)Lcom/example/quayside/quayside/http/ErrorCode;"⟩ : MethodName) method_2_code 1 (some (.object "com/example/quayside/quayside/http/ErrorCode")) ws ({ frames := 0, cells := 0, slots := 0, locals := 0 } : Room) #[(.int (15 : Int32))] h0 (fun v h L => v = some (.ref a1) ∧ L = [] ∧ h = h0) := by
  refine own_of pn_com_example_quayside_quayside_http_ErrorCodeBindsKeyPinLaw ?_
  intro p e s m below meth c s₁ hx hby hml hown hnm hret hlk hZ X0 e0
  rw [ef_rmP15]
  refine own_by (T' := s₁) (f' := (mkF m 1 #[.val (.int (15 : Int32))] [(.int (15 : Int32))])) (fun t k => XS.iloadN X0.here hx rfl (hb hby d1_0) rfl k) ?_
  refine own_by (T' := s₁) (f' := (mkF m 212 #[.val (.int (15 : Int32))] [])) (fun t k => XS.tswIn X0.here hx rfl (pc0 := 1) (pc' := 212) rfl (hb hby d1_1) rfl (by decide) (o := 211) (by decide) (by decide) (by decide) k) ?_
  refine own_getS (host := "") X0 hx hZ hown e0 (hb hby d1_212) (Or.inl (hw _ (List.mem_of_getElem? (i := 40) rfl))) Via.refl S1 ?_
  intro T1 X1 e1
  show own_Go p e below _ T1 (mkF m 215 #[.val (.int (15 : Int32))] [(.ref a1)])
  refine own_retA X1 hx hret hlk (hb hby d1_215) rfl rfl rfl (by decide) (by decide) ?_
  try rw [e1]
  exact ⟨rfl, rfl, rfl⟩
theorem ef_rmP16 (m : MethodId) (x0 : Int32) : entryFrame m #[(.int x0)] 1 = mkF m 0 #[.val (.int x0)] [] := by first | (simp [entryFrame, mkF, argsToLocals, Value.category]; done) | rfl
set_option maxRecDepth 65536 in
set_option maxHeartbeats 40000000 in
theorem rmP16 (l : Launch) (Z : State) (a0 : Array Value) (hw : ∀ d ∈ tables_1, d.before a0 Z = true) (ws : List Jvm.Cond) (a1 : Addr) (h0 : Heap) (S1 : Sta Z h0 "com/example/quayside/quayside/http/ErrorCode" "PAYMENT_NOT_AUTHORIZED" "Lcom/example/quayside/quayside/http/ErrorCode;" (.ref a1)) :
    own_Ct l Z (⟨"com/example/quayside/quayside/http/ErrorCodeBindsKeyPinLaw", "pick", "(I)Lcom/example/quayside/quayside/http/ErrorCode;"⟩ : MethodName) method_2_code 1 (some (.object "com/example/quayside/quayside/http/ErrorCode")) ws ({ frames := 0, cells := 0, slots := 0, locals := 0 } : Room) #[(.int (16 : Int32))] h0 (fun v h L => v = some (.ref a1) ∧ L = [] ∧ h = h0) := by
  refine own_of pn_com_example_quayside_quayside_http_ErrorCodeBindsKeyPinLaw ?_
  intro p e s m below meth c s₁ hx hby hml hown hnm hret hlk hZ X0 e0
  rw [ef_rmP16]
  refine own_by (T' := s₁) (f' := (mkF m 1 #[.val (.int (16 : Int32))] [(.int (16 : Int32))])) (fun t k => XS.iloadN X0.here hx rfl (hb hby d1_0) rfl k) ?_
  refine own_by (T' := s₁) (f' := (mkF m 216 #[.val (.int (16 : Int32))] [])) (fun t k => XS.tswIn X0.here hx rfl (pc0 := 1) (pc' := 216) rfl (hb hby d1_1) rfl (by decide) (o := 215) (by decide) (by decide) (by decide) k) ?_
  refine own_getS (host := "") X0 hx hZ hown e0 (hb hby d1_216) (Or.inl (hw _ (List.mem_of_getElem? (i := 45) rfl))) Via.refl S1 ?_
  intro T1 X1 e1
  show own_Go p e below _ T1 (mkF m 219 #[.val (.int (16 : Int32))] [(.ref a1)])
  refine own_retA X1 hx hret hlk (hb hby d1_219) rfl rfl rfl (by decide) (by decide) ?_
  try rw [e1]
  exact ⟨rfl, rfl, rfl⟩
theorem ef_rmP17 (m : MethodId) (x0 : Int32) : entryFrame m #[(.int x0)] 1 = mkF m 0 #[.val (.int x0)] [] := by first | (simp [entryFrame, mkF, argsToLocals, Value.category]; done) | rfl
set_option maxRecDepth 65536 in
set_option maxHeartbeats 40000000 in
theorem rmP17 (l : Launch) (Z : State) (a0 : Array Value) (hw : ∀ d ∈ tables_1, d.before a0 Z = true) (ws : List Jvm.Cond) (a1 : Addr) (h0 : Heap) (S1 : Sta Z h0 "com/example/quayside/quayside/http/ErrorCode" "PAYMENT_NOT_COMPLETED" "Lcom/example/quayside/quayside/http/ErrorCode;" (.ref a1)) :
    own_Ct l Z (⟨"com/example/quayside/quayside/http/ErrorCodeBindsKeyPinLaw", "pick", "(I)Lcom/example/quayside/quayside/http/ErrorCode;"⟩ : MethodName) method_2_code 1 (some (.object "com/example/quayside/quayside/http/ErrorCode")) ws ({ frames := 0, cells := 0, slots := 0, locals := 0 } : Room) #[(.int (17 : Int32))] h0 (fun v h L => v = some (.ref a1) ∧ L = [] ∧ h = h0) := by
  refine own_of pn_com_example_quayside_quayside_http_ErrorCodeBindsKeyPinLaw ?_
  intro p e s m below meth c s₁ hx hby hml hown hnm hret hlk hZ X0 e0
  rw [ef_rmP17]
  refine own_by (T' := s₁) (f' := (mkF m 1 #[.val (.int (17 : Int32))] [(.int (17 : Int32))])) (fun t k => XS.iloadN X0.here hx rfl (hb hby d1_0) rfl k) ?_
  refine own_by (T' := s₁) (f' := (mkF m 220 #[.val (.int (17 : Int32))] [])) (fun t k => XS.tswIn X0.here hx rfl (pc0 := 1) (pc' := 220) rfl (hb hby d1_1) rfl (by decide) (o := 219) (by decide) (by decide) (by decide) k) ?_
  refine own_getS (host := "") X0 hx hZ hown e0 (hb hby d1_220) (Or.inl (hw _ (List.mem_of_getElem? (i := 51) rfl))) Via.refl S1 ?_
  intro T1 X1 e1
  show own_Go p e below _ T1 (mkF m 223 #[.val (.int (17 : Int32))] [(.ref a1)])
  refine own_retA X1 hx hret hlk (hb hby d1_223) rfl rfl rfl (by decide) (by decide) ?_
  try rw [e1]
  exact ⟨rfl, rfl, rfl⟩
theorem ef_rmP18 (m : MethodId) (x0 : Int32) : entryFrame m #[(.int x0)] 1 = mkF m 0 #[.val (.int x0)] [] := by first | (simp [entryFrame, mkF, argsToLocals, Value.category]; done) | rfl
set_option maxRecDepth 65536 in
set_option maxHeartbeats 40000000 in
theorem rmP18 (l : Launch) (Z : State) (a0 : Array Value) (hw : ∀ d ∈ tables_1, d.before a0 Z = true) (ws : List Jvm.Cond) (a1 : Addr) (h0 : Heap) (S1 : Sta Z h0 "com/example/quayside/quayside/http/ErrorCode" "WEBHOOK_EVENT_PENDING" "Lcom/example/quayside/quayside/http/ErrorCode;" (.ref a1)) :
    own_Ct l Z (⟨"com/example/quayside/quayside/http/ErrorCodeBindsKeyPinLaw", "pick", "(I)Lcom/example/quayside/quayside/http/ErrorCode;"⟩ : MethodName) method_2_code 1 (some (.object "com/example/quayside/quayside/http/ErrorCode")) ws ({ frames := 0, cells := 0, slots := 0, locals := 0 } : Room) #[(.int (18 : Int32))] h0 (fun v h L => v = some (.ref a1) ∧ L = [] ∧ h = h0) := by
  refine own_of pn_com_example_quayside_quayside_http_ErrorCodeBindsKeyPinLaw ?_
  intro p e s m below meth c s₁ hx hby hml hown hnm hret hlk hZ X0 e0
  rw [ef_rmP18]
  refine own_by (T' := s₁) (f' := (mkF m 1 #[.val (.int (18 : Int32))] [(.int (18 : Int32))])) (fun t k => XS.iloadN X0.here hx rfl (hb hby d1_0) rfl k) ?_
  refine own_by (T' := s₁) (f' := (mkF m 224 #[.val (.int (18 : Int32))] [])) (fun t k => XS.tswIn X0.here hx rfl (pc0 := 1) (pc' := 224) rfl (hb hby d1_1) rfl (by decide) (o := 223) (by decide) (by decide) (by decide) k) ?_
  refine own_getS (host := "") X0 hx hZ hown e0 (hb hby d1_224) (Or.inl (hw _ (List.mem_of_getElem? (i := 55) rfl))) Via.refl S1 ?_
  intro T1 X1 e1
  show own_Go p e below _ T1 (mkF m 227 #[.val (.int (18 : Int32))] [(.ref a1)])
  refine own_retA X1 hx hret hlk (hb hby d1_227) rfl rfl rfl (by decide) (by decide) ?_
  try rw [e1]
  exact ⟨rfl, rfl, rfl⟩
theorem ef_rmP19 (m : MethodId) (x0 : Int32) : entryFrame m #[(.int x0)] 1 = mkF m 0 #[.val (.int x0)] [] := by first | (simp [entryFrame, mkF, argsToLocals, Value.category]; done) | rfl
set_option maxRecDepth 65536 in
set_option maxHeartbeats 40000000 in
theorem rmP19 (l : Launch) (Z : State) (a0 : Array Value) (hw : ∀ d ∈ tables_1, d.before a0 Z = true) (ws : List Jvm.Cond) (a1 : Addr) (h0 : Heap) (S1 : Sta Z h0 "com/example/quayside/quayside/http/ErrorCode" "IDEMPOTENCY_KEY_IN_USE" "Lcom/example/quayside/quayside/http/ErrorCode;" (.ref a1)) :
    own_Ct l Z (⟨"com/example/quayside/quayside/http/ErrorCodeBindsKeyPinLaw", "pick", "(I)Lcom/example/quayside/quayside/http/ErrorCode;"⟩ : MethodName) method_2_code 1 (some (.object "com/example/quayside/quayside/http/ErrorCode")) ws ({ frames := 0, cells := 0, slots := 0, locals := 0 } : Room) #[(.int (19 : Int32))] h0 (fun v h L => v = some (.ref a1) ∧ L = [] ∧ h = h0) := by
  refine own_of pn_com_example_quayside_quayside_http_ErrorCodeBindsKeyPinLaw ?_
  intro p e s m below meth c s₁ hx hby hml hown hnm hret hlk hZ X0 e0
  rw [ef_rmP19]
  refine own_by (T' := s₁) (f' := (mkF m 1 #[.val (.int (19 : Int32))] [(.int (19 : Int32))])) (fun t k => XS.iloadN X0.here hx rfl (hb hby d1_0) rfl k) ?_
  refine own_by (T' := s₁) (f' := (mkF m 228 #[.val (.int (19 : Int32))] [])) (fun t k => XS.tswIn X0.here hx rfl (pc0 := 1) (pc' := 228) rfl (hb hby d1_1) rfl (by decide) (o := 227) (by decide) (by decide) (by decide) k) ?_
  refine own_getS (host := "") X0 hx hZ hown e0 (hb hby d1_228) (Or.inl (hw _ (List.mem_of_getElem? (i := 43) rfl))) Via.refl S1 ?_
  intro T1 X1 e1
  show own_Go p e below _ T1 (mkF m 231 #[.val (.int (19 : Int32))] [(.ref a1)])
  refine own_retA X1 hx hret hlk (hb hby d1_231) rfl rfl rfl (by decide) (by decide) ?_
  try rw [e1]
  exact ⟨rfl, rfl, rfl⟩
theorem ef_rmP20 (m : MethodId) (x0 : Int32) : entryFrame m #[(.int x0)] 1 = mkF m 0 #[.val (.int x0)] [] := by first | (simp [entryFrame, mkF, argsToLocals, Value.category]; done) | rfl
set_option maxRecDepth 65536 in
set_option maxHeartbeats 40000000 in
theorem rmP20 (l : Launch) (Z : State) (a0 : Array Value) (hw : ∀ d ∈ tables_1, d.before a0 Z = true) (ws : List Jvm.Cond) (a1 : Addr) (h0 : Heap) (S1 : Sta Z h0 "com/example/quayside/quayside/http/ErrorCode" "PAYLOAD_TOO_LARGE" "Lcom/example/quayside/quayside/http/ErrorCode;" (.ref a1)) :
    own_Ct l Z (⟨"com/example/quayside/quayside/http/ErrorCodeBindsKeyPinLaw", "pick", "(I)Lcom/example/quayside/quayside/http/ErrorCode;"⟩ : MethodName) method_2_code 1 (some (.object "com/example/quayside/quayside/http/ErrorCode")) ws ({ frames := 0, cells := 0, slots := 0, locals := 0 } : Room) #[(.int (20 : Int32))] h0 (fun v h L => v = some (.ref a1) ∧ L = [] ∧ h = h0) := by
  refine own_of pn_com_example_quayside_quayside_http_ErrorCodeBindsKeyPinLaw ?_
  intro p e s m below meth c s₁ hx hby hml hown hnm hret hlk hZ X0 e0
  rw [ef_rmP20]
  refine own_by (T' := s₁) (f' := (mkF m 1 #[.val (.int (20 : Int32))] [(.int (20 : Int32))])) (fun t k => XS.iloadN X0.here hx rfl (hb hby d1_0) rfl k) ?_
  refine own_by (T' := s₁) (f' := (mkF m 232 #[.val (.int (20 : Int32))] [])) (fun t k => XS.tswIn X0.here hx rfl (pc0 := 1) (pc' := 232) rfl (hb hby d1_1) rfl (by decide) (o := 231) (by decide) (by decide) (by decide) k) ?_
  refine own_getS (host := "") X0 hx hZ hown e0 (hb hby d1_232) (Or.inl (hw _ (List.mem_of_getElem? (i := 53) rfl))) Via.refl S1 ?_
  intro T1 X1 e1
  show own_Go p e below _ T1 (mkF m 235 #[.val (.int (20 : Int32))] [(.ref a1)])
  refine own_retA X1 hx hret hlk (hb hby d1_235) rfl rfl rfl (by decide) (by decide) ?_
  try rw [e1]
  exact ⟨rfl, rfl, rfl⟩
theorem ef_rmP21 (m : MethodId) (x0 : Int32) : entryFrame m #[(.int x0)] 1 = mkF m 0 #[.val (.int x0)] [] := by first | (simp [entryFrame, mkF, argsToLocals, Value.category]; done) | rfl
set_option maxRecDepth 65536 in
set_option maxHeartbeats 40000000 in
theorem rmP21 (l : Launch) (Z : State) (a0 : Array Value) (hw : ∀ d ∈ tables_1, d.before a0 Z = true) (ws : List Jvm.Cond) (a1 : Addr) (h0 : Heap) (S1 : Sta Z h0 "com/example/quayside/quayside/http/ErrorCode" "URI_TOO_LONG" "Lcom/example/quayside/quayside/http/ErrorCode;" (.ref a1)) :
    own_Ct l Z (⟨"com/example/quayside/quayside/http/ErrorCodeBindsKeyPinLaw", "pick", "(I)Lcom/example/quayside/quayside/http/ErrorCode;"⟩ : MethodName) method_2_code 1 (some (.object "com/example/quayside/quayside/http/ErrorCode")) ws ({ frames := 0, cells := 0, slots := 0, locals := 0 } : Room) #[(.int (21 : Int32))] h0 (fun v h L => v = some (.ref a1) ∧ L = [] ∧ h = h0) := by
  refine own_of pn_com_example_quayside_quayside_http_ErrorCodeBindsKeyPinLaw ?_
  intro p e s m below meth c s₁ hx hby hml hown hnm hret hlk hZ X0 e0
  rw [ef_rmP21]
  refine own_by (T' := s₁) (f' := (mkF m 1 #[.val (.int (21 : Int32))] [(.int (21 : Int32))])) (fun t k => XS.iloadN X0.here hx rfl (hb hby d1_0) rfl k) ?_
  refine own_by (T' := s₁) (f' := (mkF m 236 #[.val (.int (21 : Int32))] [])) (fun t k => XS.tswIn X0.here hx rfl (pc0 := 1) (pc' := 236) rfl (hb hby d1_1) rfl (by decide) (o := 235) (by decide) (by decide) (by decide) k) ?_
  refine own_getS (host := "") X0 hx hZ hown e0 (hb hby d1_236) (Or.inl (hw _ (List.mem_of_getElem? (i := 69) rfl))) Via.refl S1 ?_
  intro T1 X1 e1
  show own_Go p e below _ T1 (mkF m 239 #[.val (.int (21 : Int32))] [(.ref a1)])
  refine own_retA X1 hx hret hlk (hb hby d1_239) rfl rfl rfl (by decide) (by decide) ?_
  try rw [e1]
  exact ⟨rfl, rfl, rfl⟩
theorem ef_rmP22 (m : MethodId) (x0 : Int32) : entryFrame m #[(.int x0)] 1 = mkF m 0 #[.val (.int x0)] [] := by first | (simp [entryFrame, mkF, argsToLocals, Value.category]; done) | rfl
set_option maxRecDepth 65536 in
set_option maxHeartbeats 40000000 in
theorem rmP22 (l : Launch) (Z : State) (a0 : Array Value) (hw : ∀ d ∈ tables_1, d.before a0 Z = true) (ws : List Jvm.Cond) (a1 : Addr) (h0 : Heap) (S1 : Sta Z h0 "com/example/quayside/quayside/http/ErrorCode" "EXPECTATION_FAILED" "Lcom/example/quayside/quayside/http/ErrorCode;" (.ref a1)) :
    own_Ct l Z (⟨"com/example/quayside/quayside/http/ErrorCodeBindsKeyPinLaw", "pick", "(I)Lcom/example/quayside/quayside/http/ErrorCode;"⟩ : MethodName) method_2_code 1 (some (.object "com/example/quayside/quayside/http/ErrorCode")) ws ({ frames := 0, cells := 0, slots := 0, locals := 0 } : Room) #[(.int (22 : Int32))] h0 (fun v h L => v = some (.ref a1) ∧ L = [] ∧ h = h0) := by
  refine own_of pn_com_example_quayside_quayside_http_ErrorCodeBindsKeyPinLaw ?_
  intro p e s m below meth c s₁ hx hby hml hown hnm hret hlk hZ X0 e0
  rw [ef_rmP22]
  refine own_by (T' := s₁) (f' := (mkF m 1 #[.val (.int (22 : Int32))] [(.int (22 : Int32))])) (fun t k => XS.iloadN X0.here hx rfl (hb hby d1_0) rfl k) ?_
  refine own_by (T' := s₁) (f' := (mkF m 240 #[.val (.int (22 : Int32))] [])) (fun t k => XS.tswIn X0.here hx rfl (pc0 := 1) (pc' := 240) rfl (hb hby d1_1) rfl (by decide) (o := 239) (by decide) (by decide) (by decide) k) ?_
  refine own_getS (host := "") X0 hx hZ hown e0 (hb hby d1_240) (Or.inl (hw _ (List.mem_of_getElem? (i := 49) rfl))) Via.refl S1 ?_
  intro T1 X1 e1
  show own_Go p e below _ T1 (mkF m 243 #[.val (.int (22 : Int32))] [(.ref a1)])
  refine own_retA X1 hx hret hlk (hb hby d1_243) rfl rfl rfl (by decide) (by decide) ?_
  try rw [e1]
  exact ⟨rfl, rfl, rfl⟩
theorem ef_rmP23 (m : MethodId) (x0 : Int32) : entryFrame m #[(.int x0)] 1 = mkF m 0 #[.val (.int x0)] [] := by first | (simp [entryFrame, mkF, argsToLocals, Value.category]; done) | rfl
set_option maxRecDepth 65536 in
set_option maxHeartbeats 40000000 in
theorem rmP23 (l : Launch) (Z : State) (a0 : Array Value) (hw : ∀ d ∈ tables_1, d.before a0 Z = true) (ws : List Jvm.Cond) (a1 : Addr) (h0 : Heap) (S1 : Sta Z h0 "com/example/quayside/quayside/http/ErrorCode" "IDEMPOTENCY_KEY_REUSED" "Lcom/example/quayside/quayside/http/ErrorCode;" (.ref a1)) :
    own_Ct l Z (⟨"com/example/quayside/quayside/http/ErrorCodeBindsKeyPinLaw", "pick", "(I)Lcom/example/quayside/quayside/http/ErrorCode;"⟩ : MethodName) method_2_code 1 (some (.object "com/example/quayside/quayside/http/ErrorCode")) ws ({ frames := 0, cells := 0, slots := 0, locals := 0 } : Room) #[(.int (23 : Int32))] h0 (fun v h L => v = some (.ref a1) ∧ L = [] ∧ h = h0) := by
  refine own_of pn_com_example_quayside_quayside_http_ErrorCodeBindsKeyPinLaw ?_
  intro p e s m below meth c s₁ hx hby hml hown hnm hret hlk hZ X0 e0
  rw [ef_rmP23]
  refine own_by (T' := s₁) (f' := (mkF m 1 #[.val (.int (23 : Int32))] [(.int (23 : Int32))])) (fun t k => XS.iloadN X0.here hx rfl (hb hby d1_0) rfl k) ?_
  refine own_by (T' := s₁) (f' := (mkF m 244 #[.val (.int (23 : Int32))] [])) (fun t k => XS.tswIn X0.here hx rfl (pc0 := 1) (pc' := 244) rfl (hb hby d1_1) rfl (by decide) (o := 243) (by decide) (by decide) (by decide) k) ?_
  refine own_getS (host := "") X0 hx hZ hown e0 (hb hby d1_244) (Or.inl (hw _ (List.mem_of_getElem? (i := 65) rfl))) Via.refl S1 ?_
  intro T1 X1 e1
  show own_Go p e below _ T1 (mkF m 247 #[.val (.int (23 : Int32))] [(.ref a1)])
  refine own_retA X1 hx hret hlk (hb hby d1_247) rfl rfl rfl (by decide) (by decide) ?_
  try rw [e1]
  exact ⟨rfl, rfl, rfl⟩
theorem ef_rmP24 (m : MethodId) (x0 : Int32) : entryFrame m #[(.int x0)] 1 = mkF m 0 #[.val (.int x0)] [] := by first | (simp [entryFrame, mkF, argsToLocals, Value.category]; done) | rfl
set_option maxRecDepth 65536 in
set_option maxHeartbeats 40000000 in
theorem rmP24 (l : Launch) (Z : State) (a0 : Array Value) (hw : ∀ d ∈ tables_1, d.before a0 Z = true) (ws : List Jvm.Cond) (a1 : Addr) (h0 : Heap) (S1 : Sta Z h0 "com/example/quayside/quayside/http/ErrorCode" "BALANCE_LIMIT_EXCEEDED" "Lcom/example/quayside/quayside/http/ErrorCode;" (.ref a1)) :
    own_Ct l Z (⟨"com/example/quayside/quayside/http/ErrorCodeBindsKeyPinLaw", "pick", "(I)Lcom/example/quayside/quayside/http/ErrorCode;"⟩ : MethodName) method_2_code 1 (some (.object "com/example/quayside/quayside/http/ErrorCode")) ws ({ frames := 0, cells := 0, slots := 0, locals := 0 } : Room) #[(.int (24 : Int32))] h0 (fun v h L => v = some (.ref a1) ∧ L = [] ∧ h = h0) := by
  refine own_of pn_com_example_quayside_quayside_http_ErrorCodeBindsKeyPinLaw ?_
  intro p e s m below meth c s₁ hx hby hml hown hnm hret hlk hZ X0 e0
  rw [ef_rmP24]
  refine own_by (T' := s₁) (f' := (mkF m 1 #[.val (.int (24 : Int32))] [(.int (24 : Int32))])) (fun t k => XS.iloadN X0.here hx rfl (hb hby d1_0) rfl k) ?_
  refine own_by (T' := s₁) (f' := (mkF m 248 #[.val (.int (24 : Int32))] [])) (fun t k => XS.tswIn X0.here hx rfl (pc0 := 1) (pc' := 248) rfl (hb hby d1_1) rfl (by decide) (o := 247) (by decide) (by decide) (by decide) k) ?_
  refine own_getS (host := "") X0 hx hZ hown e0 (hb hby d1_248) (Or.inl (hw _ (List.mem_of_getElem? (i := 67) rfl))) Via.refl S1 ?_
  intro T1 X1 e1
  show own_Go p e below _ T1 (mkF m 251 #[.val (.int (24 : Int32))] [(.ref a1)])
  refine own_retA X1 hx hret hlk (hb hby d1_251) rfl rfl rfl (by decide) (by decide) ?_
  try rw [e1]
  exact ⟨rfl, rfl, rfl⟩
theorem ef_rmP25 (m : MethodId) (x0 : Int32) : entryFrame m #[(.int x0)] 1 = mkF m 0 #[.val (.int x0)] [] := by first | (simp [entryFrame, mkF, argsToLocals, Value.category]; done) | rfl
set_option maxRecDepth 65536 in
set_option maxHeartbeats 40000000 in
theorem rmP25 (l : Launch) (Z : State) (a0 : Array Value) (hw : ∀ d ∈ tables_1, d.before a0 Z = true) (ws : List Jvm.Cond) (a1 : Addr) (h0 : Heap) (S1 : Sta Z h0 "com/example/quayside/quayside/http/ErrorCode" "CREDENTIAL_TYPE_UNSUPPORTED" "Lcom/example/quayside/quayside/http/ErrorCode;" (.ref a1)) :
    own_Ct l Z (⟨"com/example/quayside/quayside/http/ErrorCodeBindsKeyPinLaw", "pick", "(I)Lcom/example/quayside/quayside/http/ErrorCode;"⟩ : MethodName) method_2_code 1 (some (.object "com/example/quayside/quayside/http/ErrorCode")) ws ({ frames := 0, cells := 0, slots := 0, locals := 0 } : Room) #[(.int (25 : Int32))] h0 (fun v h L => v = some (.ref a1) ∧ L = [] ∧ h = h0) := by
  refine own_of pn_com_example_quayside_quayside_http_ErrorCodeBindsKeyPinLaw ?_
  intro p e s m below meth c s₁ hx hby hml hown hnm hret hlk hZ X0 e0
  rw [ef_rmP25]
  refine own_by (T' := s₁) (f' := (mkF m 1 #[.val (.int (25 : Int32))] [(.int (25 : Int32))])) (fun t k => XS.iloadN X0.here hx rfl (hb hby d1_0) rfl k) ?_
  refine own_by (T' := s₁) (f' := (mkF m 252 #[.val (.int (25 : Int32))] [])) (fun t k => XS.tswIn X0.here hx rfl (pc0 := 1) (pc' := 252) rfl (hb hby d1_1) rfl (by decide) (o := 251) (by decide) (by decide) (by decide) k) ?_
  refine own_getS (host := "") X0 hx hZ hown e0 (hb hby d1_252) (Or.inl (hw _ (List.mem_of_getElem? (i := 71) rfl))) Via.refl S1 ?_
  intro T1 X1 e1
  show own_Go p e below _ T1 (mkF m 255 #[.val (.int (25 : Int32))] [(.ref a1)])
  refine own_retA X1 hx hret hlk (hb hby d1_255) rfl rfl rfl (by decide) (by decide) ?_
  try rw [e1]
  exact ⟨rfl, rfl, rfl⟩
theorem ef_rmP26 (m : MethodId) (x0 : Int32) : entryFrame m #[(.int x0)] 1 = mkF m 0 #[.val (.int x0)] [] := by first | (simp [entryFrame, mkF, argsToLocals, Value.category]; done) | rfl
set_option maxRecDepth 65536 in
set_option maxHeartbeats 40000000 in
theorem rmP26 (l : Launch) (Z : State) (a0 : Array Value) (hw : ∀ d ∈ tables_1, d.before a0 Z = true) (ws : List Jvm.Cond) (a1 : Addr) (h0 : Heap) (S1 : Sta Z h0 "com/example/quayside/quayside/http/ErrorCode" "CURRENCY_MISMATCH" "Lcom/example/quayside/quayside/http/ErrorCode;" (.ref a1)) :
    own_Ct l Z (⟨"com/example/quayside/quayside/http/ErrorCodeBindsKeyPinLaw", "pick", "(I)Lcom/example/quayside/quayside/http/ErrorCode;"⟩ : MethodName) method_2_code 1 (some (.object "com/example/quayside/quayside/http/ErrorCode")) ws ({ frames := 0, cells := 0, slots := 0, locals := 0 } : Room) #[(.int (26 : Int32))] h0 (fun v h L => v = some (.ref a1) ∧ L = [] ∧ h = h0) := by
  refine own_of pn_com_example_quayside_quayside_http_ErrorCodeBindsKeyPinLaw ?_
  intro p e s m below meth c s₁ hx hby hml hown hnm hret hlk hZ X0 e0
  rw [ef_rmP26]
  refine own_by (T' := s₁) (f' := (mkF m 1 #[.val (.int (26 : Int32))] [(.int (26 : Int32))])) (fun t k => XS.iloadN X0.here hx rfl (hb hby d1_0) rfl k) ?_
  refine own_by (T' := s₁) (f' := (mkF m 256 #[.val (.int (26 : Int32))] [])) (fun t k => XS.tswIn X0.here hx rfl (pc0 := 1) (pc' := 256) rfl (hb hby d1_1) rfl (by decide) (o := 255) (by decide) (by decide) (by decide) k) ?_
  refine own_getS (host := "") X0 hx hZ hown e0 (hb hby d1_256) (Or.inl (hw _ (List.mem_of_getElem? (i := 77) rfl))) Via.refl S1 ?_
  intro T1 X1 e1
  show own_Go p e below _ T1 (mkF m 259 #[.val (.int (26 : Int32))] [(.ref a1)])
  refine own_retA X1 hx hret hlk (hb hby d1_259) rfl rfl rfl (by decide) (by decide) ?_
  try rw [e1]
  exact ⟨rfl, rfl, rfl⟩
theorem ef_rmP27 (m : MethodId) (x0 : Int32) : entryFrame m #[(.int x0)] 1 = mkF m 0 #[.val (.int x0)] [] := by first | (simp [entryFrame, mkF, argsToLocals, Value.category]; done) | rfl
set_option maxRecDepth 65536 in
set_option maxHeartbeats 40000000 in
theorem rmP27 (l : Launch) (Z : State) (a0 : Array Value) (hw : ∀ d ∈ tables_1, d.before a0 Z = true) (ws : List Jvm.Cond) (a1 : Addr) (h0 : Heap) (S1 : Sta Z h0 "com/example/quayside/quayside/http/ErrorCode" "AMOUNT_OUT_OF_LIMITS" "Lcom/example/quayside/quayside/http/ErrorCode;" (.ref a1)) :
    own_Ct l Z (⟨"com/example/quayside/quayside/http/ErrorCodeBindsKeyPinLaw", "pick", "(I)Lcom/example/quayside/quayside/http/ErrorCode;"⟩ : MethodName) method_2_code 1 (some (.object "com/example/quayside/quayside/http/ErrorCode")) ws ({ frames := 0, cells := 0, slots := 0, locals := 0 } : Room) #[(.int (27 : Int32))] h0 (fun v h L => v = some (.ref a1) ∧ L = [] ∧ h = h0) := by
  refine own_of pn_com_example_quayside_quayside_http_ErrorCodeBindsKeyPinLaw ?_
  intro p e s m below meth c s₁ hx hby hml hown hnm hret hlk hZ X0 e0
  rw [ef_rmP27]
  refine own_by (T' := s₁) (f' := (mkF m 1 #[.val (.int (27 : Int32))] [(.int (27 : Int32))])) (fun t k => XS.iloadN X0.here hx rfl (hb hby d1_0) rfl k) ?_
  refine own_by (T' := s₁) (f' := (mkF m 260 #[.val (.int (27 : Int32))] [])) (fun t k => XS.tswIn X0.here hx rfl (pc0 := 1) (pc' := 260) rfl (hb hby d1_1) rfl (by decide) (o := 259) (by decide) (by decide) (by decide) k) ?_
  refine own_getS (host := "") X0 hx hZ hown e0 (hb hby d1_260) (Or.inl (hw _ (List.mem_of_getElem? (i := 47) rfl))) Via.refl S1 ?_
  intro T1 X1 e1
  show own_Go p e below _ T1 (mkF m 263 #[.val (.int (27 : Int32))] [(.ref a1)])
  refine own_retA X1 hx hret hlk (hb hby d1_263) rfl rfl rfl (by decide) (by decide) ?_
  try rw [e1]
  exact ⟨rfl, rfl, rfl⟩
theorem ef_rmP28 (m : MethodId) (x0 : Int32) : entryFrame m #[(.int x0)] 1 = mkF m 0 #[.val (.int x0)] [] := by first | (simp [entryFrame, mkF, argsToLocals, Value.category]; done) | rfl
set_option maxRecDepth 65536 in
set_option maxHeartbeats 40000000 in
theorem rmP28 (l : Launch) (Z : State) (a0 : Array Value) (hw : ∀ d ∈ tables_1, d.before a0 Z = true) (ws : List Jvm.Cond) (a1 : Addr) (h0 : Heap) (S1 : Sta Z h0 "com/example/quayside/quayside/http/ErrorCode" "DAILY_LIMIT_EXCEEDED" "Lcom/example/quayside/quayside/http/ErrorCode;" (.ref a1)) :
    own_Ct l Z (⟨"com/example/quayside/quayside/http/ErrorCodeBindsKeyPinLaw", "pick", "(I)Lcom/example/quayside/quayside/http/ErrorCode;"⟩ : MethodName) method_2_code 1 (some (.object "com/example/quayside/quayside/http/ErrorCode")) ws ({ frames := 0, cells := 0, slots := 0, locals := 0 } : Room) #[(.int (28 : Int32))] h0 (fun v h L => v = some (.ref a1) ∧ L = [] ∧ h = h0) := by
  refine own_of pn_com_example_quayside_quayside_http_ErrorCodeBindsKeyPinLaw ?_
  intro p e s m below meth c s₁ hx hby hml hown hnm hret hlk hZ X0 e0
  rw [ef_rmP28]
  refine own_by (T' := s₁) (f' := (mkF m 1 #[.val (.int (28 : Int32))] [(.int (28 : Int32))])) (fun t k => XS.iloadN X0.here hx rfl (hb hby d1_0) rfl k) ?_
  refine own_by (T' := s₁) (f' := (mkF m 264 #[.val (.int (28 : Int32))] [])) (fun t k => XS.tswIn X0.here hx rfl (pc0 := 1) (pc' := 264) rfl (hb hby d1_1) rfl (by decide) (o := 263) (by decide) (by decide) (by decide) k) ?_
  refine own_getS (host := "") X0 hx hZ hown e0 (hb hby d1_264) (Or.inl (hw _ (List.mem_of_getElem? (i := 79) rfl))) Via.refl S1 ?_
  intro T1 X1 e1
  show own_Go p e below _ T1 (mkF m 267 #[.val (.int (28 : Int32))] [(.ref a1)])
  refine own_retA X1 hx hret hlk (hb hby d1_267) rfl rfl rfl (by decide) (by decide) ?_
  try rw [e1]
  exact ⟨rfl, rfl, rfl⟩
theorem ef_rmP29 (m : MethodId) (x0 : Int32) : entryFrame m #[(.int x0)] 1 = mkF m 0 #[.val (.int x0)] [] := by first | (simp [entryFrame, mkF, argsToLocals, Value.category]; done) | rfl
set_option maxRecDepth 65536 in
set_option maxHeartbeats 40000000 in
theorem rmP29 (l : Launch) (Z : State) (a0 : Array Value) (hw : ∀ d ∈ tables_1, d.before a0 Z = true) (ws : List Jvm.Cond) (a1 : Addr) (h0 : Heap) (S1 : Sta Z h0 "com/example/quayside/quayside/http/ErrorCode" "AMOUNT_EXCEEDS_AUTHORIZED" "Lcom/example/quayside/quayside/http/ErrorCode;" (.ref a1)) :
    own_Ct l Z (⟨"com/example/quayside/quayside/http/ErrorCodeBindsKeyPinLaw", "pick", "(I)Lcom/example/quayside/quayside/http/ErrorCode;"⟩ : MethodName) method_2_code 1 (some (.object "com/example/quayside/quayside/http/ErrorCode")) ws ({ frames := 0, cells := 0, slots := 0, locals := 0 } : Room) #[(.int (29 : Int32))] h0 (fun v h L => v = some (.ref a1) ∧ L = [] ∧ h = h0) := by
  refine own_of pn_com_example_quayside_quayside_http_ErrorCodeBindsKeyPinLaw ?_
  intro p e s m below meth c s₁ hx hby hml hown hnm hret hlk hZ X0 e0
  rw [ef_rmP29]
  refine own_by (T' := s₁) (f' := (mkF m 1 #[.val (.int (29 : Int32))] [(.int (29 : Int32))])) (fun t k => XS.iloadN X0.here hx rfl (hb hby d1_0) rfl k) ?_
  refine own_by (T' := s₁) (f' := (mkF m 268 #[.val (.int (29 : Int32))] [])) (fun t k => XS.tswIn X0.here hx rfl (pc0 := 1) (pc' := 268) rfl (hb hby d1_1) rfl (by decide) (o := 267) (by decide) (by decide) (by decide) k) ?_
  refine own_getS (host := "") X0 hx hZ hown e0 (hb hby d1_268) (Or.inl (hw _ (List.mem_of_getElem? (i := 59) rfl))) Via.refl S1 ?_
  intro T1 X1 e1
  show own_Go p e below _ T1 (mkF m 271 #[.val (.int (29 : Int32))] [(.ref a1)])
  refine own_retA X1 hx hret hlk (hb hby d1_271) rfl rfl rfl (by decide) (by decide) ?_
  try rw [e1]
  exact ⟨rfl, rfl, rfl⟩
theorem ef_rmP30 (m : MethodId) (x0 : Int32) : entryFrame m #[(.int x0)] 1 = mkF m 0 #[.val (.int x0)] [] := by first | (simp [entryFrame, mkF, argsToLocals, Value.category]; done) | rfl
set_option maxRecDepth 65536 in
set_option maxHeartbeats 40000000 in
theorem rmP30 (l : Launch) (Z : State) (a0 : Array Value) (hw : ∀ d ∈ tables_1, d.before a0 Z = true) (ws : List Jvm.Cond) (a1 : Addr) (h0 : Heap) (S1 : Sta Z h0 "com/example/quayside/quayside/http/ErrorCode" "REFUND_EXCEEDS_PAYMENT" "Lcom/example/quayside/quayside/http/ErrorCode;" (.ref a1)) :
    own_Ct l Z (⟨"com/example/quayside/quayside/http/ErrorCodeBindsKeyPinLaw", "pick", "(I)Lcom/example/quayside/quayside/http/ErrorCode;"⟩ : MethodName) method_2_code 1 (some (.object "com/example/quayside/quayside/http/ErrorCode")) ws ({ frames := 0, cells := 0, slots := 0, locals := 0 } : Room) #[(.int (30 : Int32))] h0 (fun v h L => v = some (.ref a1) ∧ L = [] ∧ h = h0) := by
  refine own_of pn_com_example_quayside_quayside_http_ErrorCodeBindsKeyPinLaw ?_
  intro p e s m below meth c s₁ hx hby hml hown hnm hret hlk hZ X0 e0
  rw [ef_rmP30]
  refine own_by (T' := s₁) (f' := (mkF m 1 #[.val (.int (30 : Int32))] [(.int (30 : Int32))])) (fun t k => XS.iloadN X0.here hx rfl (hb hby d1_0) rfl k) ?_
  refine own_by (T' := s₁) (f' := (mkF m 272 #[.val (.int (30 : Int32))] [])) (fun t k => XS.tswIn X0.here hx rfl (pc0 := 1) (pc' := 272) rfl (hb hby d1_1) rfl (by decide) (o := 271) (by decide) (by decide) (by decide) k) ?_
  refine own_getS (host := "") X0 hx hZ hown e0 (hb hby d1_272) (Or.inl (hw _ (List.mem_of_getElem? (i := 73) rfl))) Via.refl S1 ?_
  intro T1 X1 e1
  show own_Go p e below _ T1 (mkF m 275 #[.val (.int (30 : Int32))] [(.ref a1)])
  refine own_retA X1 hx hret hlk (hb hby d1_275) rfl rfl rfl (by decide) (by decide) ?_
  try rw [e1]
  exact ⟨rfl, rfl, rfl⟩
theorem ef_rmP31 (m : MethodId) (x0 : Int32) : entryFrame m #[(.int x0)] 1 = mkF m 0 #[.val (.int x0)] [] := by first | (simp [entryFrame, mkF, argsToLocals, Value.category]; done) | rfl
set_option maxRecDepth 65536 in
set_option maxHeartbeats 40000000 in
theorem rmP31 (l : Launch) (Z : State) (a0 : Array Value) (hw : ∀ d ∈ tables_1, d.before a0 Z = true) (ws : List Jvm.Cond) (a1 : Addr) (h0 : Heap) (S1 : Sta Z h0 "com/example/quayside/quayside/http/ErrorCode" "RATE_LIMITED" "Lcom/example/quayside/quayside/http/ErrorCode;" (.ref a1)) :
    own_Ct l Z (⟨"com/example/quayside/quayside/http/ErrorCodeBindsKeyPinLaw", "pick", "(I)Lcom/example/quayside/quayside/http/ErrorCode;"⟩ : MethodName) method_2_code 1 (some (.object "com/example/quayside/quayside/http/ErrorCode")) ws ({ frames := 0, cells := 0, slots := 0, locals := 0 } : Room) #[(.int (31 : Int32))] h0 (fun v h L => v = some (.ref a1) ∧ L = [] ∧ h = h0) := by
  refine own_of pn_com_example_quayside_quayside_http_ErrorCodeBindsKeyPinLaw ?_
  intro p e s m below meth c s₁ hx hby hml hown hnm hret hlk hZ X0 e0
  rw [ef_rmP31]
  refine own_by (T' := s₁) (f' := (mkF m 1 #[.val (.int (31 : Int32))] [(.int (31 : Int32))])) (fun t k => XS.iloadN X0.here hx rfl (hb hby d1_0) rfl k) ?_
  refine own_by (T' := s₁) (f' := (mkF m 276 #[.val (.int (31 : Int32))] [])) (fun t k => XS.tswIn X0.here hx rfl (pc0 := 1) (pc' := 276) rfl (hb hby d1_1) rfl (by decide) (o := 275) (by decide) (by decide) (by decide) k) ?_
  refine own_getS (host := "") X0 hx hZ hown e0 (hb hby d1_276) (Or.inl (hw _ (List.mem_of_getElem? (i := 42) rfl))) Via.refl S1 ?_
  intro T1 X1 e1
  show own_Go p e below _ T1 (mkF m 279 #[.val (.int (31 : Int32))] [(.ref a1)])
  refine own_retA X1 hx hret hlk (hb hby d1_279) rfl rfl rfl (by decide) (by decide) ?_
  try rw [e1]
  exact ⟨rfl, rfl, rfl⟩
theorem ef_rmP32 (m : MethodId) (x0 : Int32) : entryFrame m #[(.int x0)] 1 = mkF m 0 #[.val (.int x0)] [] := by first | (simp [entryFrame, mkF, argsToLocals, Value.category]; done) | rfl
set_option maxRecDepth 65536 in
set_option maxHeartbeats 40000000 in
theorem rmP32 (l : Launch) (Z : State) (a0 : Array Value) (hw : ∀ d ∈ tables_1, d.before a0 Z = true) (ws : List Jvm.Cond) (a1 : Addr) (h0 : Heap) (S1 : Sta Z h0 "com/example/quayside/quayside/http/ErrorCode" "HEADERS_TOO_LARGE" "Lcom/example/quayside/quayside/http/ErrorCode;" (.ref a1)) :
    own_Ct l Z (⟨"com/example/quayside/quayside/http/ErrorCodeBindsKeyPinLaw", "pick", "(I)Lcom/example/quayside/quayside/http/ErrorCode;"⟩ : MethodName) method_2_code 1 (some (.object "com/example/quayside/quayside/http/ErrorCode")) ws ({ frames := 0, cells := 0, slots := 0, locals := 0 } : Room) #[(.int (32 : Int32))] h0 (fun v h L => v = some (.ref a1) ∧ L = [] ∧ h = h0) := by
  refine own_of pn_com_example_quayside_quayside_http_ErrorCodeBindsKeyPinLaw ?_
  intro p e s m below meth c s₁ hx hby hml hown hnm hret hlk hZ X0 e0
  rw [ef_rmP32]
  refine own_by (T' := s₁) (f' := (mkF m 1 #[.val (.int (32 : Int32))] [(.int (32 : Int32))])) (fun t k => XS.iloadN X0.here hx rfl (hb hby d1_0) rfl k) ?_
  refine own_by (T' := s₁) (f' := (mkF m 280 #[.val (.int (32 : Int32))] [])) (fun t k => XS.tswIn X0.here hx rfl (pc0 := 1) (pc' := 280) rfl (hb hby d1_1) rfl (by decide) (o := 279) (by decide) (by decide) (by decide) k) ?_
  refine own_getS (host := "") X0 hx hZ hown e0 (hb hby d1_280) (Or.inl (hw _ (List.mem_of_getElem? (i := 81) rfl))) Via.refl S1 ?_
  intro T1 X1 e1
  show own_Go p e below _ T1 (mkF m 283 #[.val (.int (32 : Int32))] [(.ref a1)])
  refine own_retA X1 hx hret hlk (hb hby d1_283) rfl rfl rfl (by decide) (by decide) ?_
  try rw [e1]
  exact ⟨rfl, rfl, rfl⟩
theorem ef_rmP33 (m : MethodId) (x0 : Int32) : entryFrame m #[(.int x0)] 1 = mkF m 0 #[.val (.int x0)] [] := by first | (simp [entryFrame, mkF, argsToLocals, Value.category]; done) | rfl
set_option maxRecDepth 65536 in
set_option maxHeartbeats 40000000 in
theorem rmP33 (l : Launch) (Z : State) (a0 : Array Value) (hw : ∀ d ∈ tables_1, d.before a0 Z = true) (ws : List Jvm.Cond) (a1 : Addr) (h0 : Heap) (S1 : Sta Z h0 "com/example/quayside/quayside/http/ErrorCode" "INTERNAL_ERROR" "Lcom/example/quayside/quayside/http/ErrorCode;" (.ref a1)) :
    own_Ct l Z (⟨"com/example/quayside/quayside/http/ErrorCodeBindsKeyPinLaw", "pick", "(I)Lcom/example/quayside/quayside/http/ErrorCode;"⟩ : MethodName) method_2_code 1 (some (.object "com/example/quayside/quayside/http/ErrorCode")) ws ({ frames := 0, cells := 0, slots := 0, locals := 0 } : Room) #[(.int (33 : Int32))] h0 (fun v h L => v = some (.ref a1) ∧ L = [] ∧ h = h0) := by
  refine own_of pn_com_example_quayside_quayside_http_ErrorCodeBindsKeyPinLaw ?_
  intro p e s m below meth c s₁ hx hby hml hown hnm hret hlk hZ X0 e0
  rw [ef_rmP33]
  refine own_by (T' := s₁) (f' := (mkF m 1 #[.val (.int (33 : Int32))] [(.int (33 : Int32))])) (fun t k => XS.iloadN X0.here hx rfl (hb hby d1_0) rfl k) ?_
  refine own_by (T' := s₁) (f' := (mkF m 284 #[.val (.int (33 : Int32))] [])) (fun t k => XS.tswIn X0.here hx rfl (pc0 := 1) (pc' := 284) rfl (hb hby d1_1) rfl (by decide) (o := 283) (by decide) (by decide) (by decide) k) ?_
  refine own_getS (host := "") X0 hx hZ hown e0 (hb hby d1_284) (Or.inl (hw _ (List.mem_of_getElem? (i := 63) rfl))) Via.refl S1 ?_
  intro T1 X1 e1
  show own_Go p e below _ T1 (mkF m 287 #[.val (.int (33 : Int32))] [(.ref a1)])
  refine own_retA X1 hx hret hlk (hb hby d1_287) rfl rfl rfl (by decide) (by decide) ?_
  try rw [e1]
  exact ⟨rfl, rfl, rfl⟩
theorem ef_rmP34 (m : MethodId) (x0 : Int32) : entryFrame m #[(.int x0)] 1 = mkF m 0 #[.val (.int x0)] [] := by first | (simp [entryFrame, mkF, argsToLocals, Value.category]; done) | rfl
set_option maxRecDepth 65536 in
set_option maxHeartbeats 40000000 in
theorem rmP34 (l : Launch) (Z : State) (a0 : Array Value) (hw : ∀ d ∈ tables_1, d.before a0 Z = true) (ws : List Jvm.Cond) (a1 : Addr) (h0 : Heap) (S1 : Sta Z h0 "com/example/quayside/quayside/http/ErrorCode" "UNAVAILABLE" "Lcom/example/quayside/quayside/http/ErrorCode;" (.ref a1)) :
    own_Ct l Z (⟨"com/example/quayside/quayside/http/ErrorCodeBindsKeyPinLaw", "pick", "(I)Lcom/example/quayside/quayside/http/ErrorCode;"⟩ : MethodName) method_2_code 1 (some (.object "com/example/quayside/quayside/http/ErrorCode")) ws ({ frames := 0, cells := 0, slots := 0, locals := 0 } : Room) #[(.int (34 : Int32))] h0 (fun v h L => v = some (.ref a1) ∧ L = [] ∧ h = h0) := by
  refine own_of pn_com_example_quayside_quayside_http_ErrorCodeBindsKeyPinLaw ?_
  intro p e s m below meth c s₁ hx hby hml hown hnm hret hlk hZ X0 e0
  rw [ef_rmP34]
  refine own_by (T' := s₁) (f' := (mkF m 1 #[.val (.int (34 : Int32))] [(.int (34 : Int32))])) (fun t k => XS.iloadN X0.here hx rfl (hb hby d1_0) rfl k) ?_
  refine own_by (T' := s₁) (f' := (mkF m 288 #[.val (.int (34 : Int32))] [])) (fun t k => XS.tswOut X0.here hx rfl (pc0 := 1) (pc' := 288) rfl (hb hby d1_1) rfl (by decide) (by decide) (by decide) k) ?_
  refine own_getS (host := "") X0 hx hZ hown e0 (hb hby d1_288) (Or.inl (hw _ (List.mem_of_getElem? (i := 75) rfl))) Via.refl S1 ?_
  intro T1 X1 e1
  show own_Go p e below _ T1 (mkF m 291 #[.val (.int (34 : Int32))] [(.ref a1)])
  refine own_retA X1 hx hret hlk (hb hby d1_291) rfl rfl rfl (by decide) (by decide) ?_
  try rw [e1]
  exact ⟨rfl, rfl, rfl⟩
theorem own_i35 (z : Int32) (h0 : 0 ≤ z.toInt) (h1 : z.toInt < 35) : ∃ k : Nat, k < 35 ∧ z.toInt.toNat = k ∧ z = Int32.ofNat k := by
  refine ⟨z.toInt.toNat, by omega, rfl, Int32.toInt_inj.mp ?_⟩
  rw [Int32.toInt_ofNat_of_lt (by omega)]
  omega
set_option maxRecDepth 65536 in
theorem rmP (l : Launch) (Z : State) (a0 : Array Value) (hw : ∀ d ∈ tables_1, d.before a0 Z = true) (ws : List Jvm.Cond) (z : Int32) (h0 : Heap) (g0 : 0 ≤ z.toInt) (g1 : z.toInt < 35) (cc : Nat → Addr) (HS : ∀ j, j < 35 → Sta Z h0 "com/example/quayside/quayside/http/ErrorCode" (own_nm j) "Lcom/example/quayside/quayside/http/ErrorCode;" (.ref (cc j))) :
    own_Ct l Z (⟨"com/example/quayside/quayside/http/ErrorCodeBindsKeyPinLaw", "pick", "(I)Lcom/example/quayside/quayside/http/ErrorCode;"⟩ : MethodName) method_2_code 1 (some (.object "com/example/quayside/quayside/http/ErrorCode")) ws ({ frames := 0, cells := 0, slots := 0, locals := 0 } : Room) #[(.int z)] h0 (fun v h L => v = some (.ref (cc z.toInt.toNat)) ∧ L = [] ∧ h = h0) := by
  obtain ⟨k, hk, e, rfl⟩ := own_i35 z g0 g1
  rw [e]
  match k, hk with
  | 0, _ => exact rmP0 l Z a0 hw ws _ h0 (HS 0 (by decide))
  | 1, _ => exact rmP1 l Z a0 hw ws _ h0 (HS 1 (by decide))
  | 2, _ => exact rmP2 l Z a0 hw ws _ h0 (HS 2 (by decide))
  | 3, _ => exact rmP3 l Z a0 hw ws _ h0 (HS 3 (by decide))
  | 4, _ => exact rmP4 l Z a0 hw ws _ h0 (HS 4 (by decide))
  | 5, _ => exact rmP5 l Z a0 hw ws _ h0 (HS 5 (by decide))
  | 6, _ => exact rmP6 l Z a0 hw ws _ h0 (HS 6 (by decide))
  | 7, _ => exact rmP7 l Z a0 hw ws _ h0 (HS 7 (by decide))
  | 8, _ => exact rmP8 l Z a0 hw ws _ h0 (HS 8 (by decide))
  | 9, _ => exact rmP9 l Z a0 hw ws _ h0 (HS 9 (by decide))
  | 10, _ => exact rmP10 l Z a0 hw ws _ h0 (HS 10 (by decide))
  | 11, _ => exact rmP11 l Z a0 hw ws _ h0 (HS 11 (by decide))
  | 12, _ => exact rmP12 l Z a0 hw ws _ h0 (HS 12 (by decide))
  | 13, _ => exact rmP13 l Z a0 hw ws _ h0 (HS 13 (by decide))
  | 14, _ => exact rmP14 l Z a0 hw ws _ h0 (HS 14 (by decide))
  | 15, _ => exact rmP15 l Z a0 hw ws _ h0 (HS 15 (by decide))
  | 16, _ => exact rmP16 l Z a0 hw ws _ h0 (HS 16 (by decide))
  | 17, _ => exact rmP17 l Z a0 hw ws _ h0 (HS 17 (by decide))
  | 18, _ => exact rmP18 l Z a0 hw ws _ h0 (HS 18 (by decide))
  | 19, _ => exact rmP19 l Z a0 hw ws _ h0 (HS 19 (by decide))
  | 20, _ => exact rmP20 l Z a0 hw ws _ h0 (HS 20 (by decide))
  | 21, _ => exact rmP21 l Z a0 hw ws _ h0 (HS 21 (by decide))
  | 22, _ => exact rmP22 l Z a0 hw ws _ h0 (HS 22 (by decide))
  | 23, _ => exact rmP23 l Z a0 hw ws _ h0 (HS 23 (by decide))
  | 24, _ => exact rmP24 l Z a0 hw ws _ h0 (HS 24 (by decide))
  | 25, _ => exact rmP25 l Z a0 hw ws _ h0 (HS 25 (by decide))
  | 26, _ => exact rmP26 l Z a0 hw ws _ h0 (HS 26 (by decide))
  | 27, _ => exact rmP27 l Z a0 hw ws _ h0 (HS 27 (by decide))
  | 28, _ => exact rmP28 l Z a0 hw ws _ h0 (HS 28 (by decide))
  | 29, _ => exact rmP29 l Z a0 hw ws _ h0 (HS 29 (by decide))
  | 30, _ => exact rmP30 l Z a0 hw ws _ h0 (HS 30 (by decide))
  | 31, _ => exact rmP31 l Z a0 hw ws _ h0 (HS 31 (by decide))
  | 32, _ => exact rmP32 l Z a0 hw ws _ h0 (HS 32 (by decide))
  | 33, _ => exact rmP33 l Z a0 hw ws _ h0 (HS 33 (by decide))
  | 34, _ => exact rmP34 l Z a0 hw ws _ h0 (HS 34 (by decide))
  | n + 35, h => exact absurd h (by omega)
theorem ef_rmB (m : MethodId) (x0 : Addr) : entryFrame m #[(.ref x0)] 1 = mkF m 0 #[.val (.ref x0)] [] := by first | (simp [entryFrame, mkF, argsToLocals, Value.category]; done) | rfl
set_option maxRecDepth 65536 in
set_option maxHeartbeats 40000000 in
theorem rmB (l : Launch) (Z : State) (a0 : Array Value) (hw : ∀ d ∈ tables_1, d.before a0 Z = true) (ws : List Jvm.Cond) (a1 a2 a3 : Addr) (h0 : Heap) (S1 : Sta Z h0 "com/example/quayside/quayside/http/ErrorCode" "VALIDATION_ERROR" "Lcom/example/quayside/quayside/http/ErrorCode;" (.ref a2)) (S2 : Sta Z h0 "com/example/quayside/quayside/http/ErrorCode" "RATE_LIMITED" "Lcom/example/quayside/quayside/http/ErrorCode;" (.ref a3)) :
    own_Ct l Z (⟨"com/example/quayside/quayside/http/ErrorCode", "bindsKey", "()Z"⟩ : MethodName) prog_25_method_5_code 1 (some .boolean) ws ({ frames := 0, cells := 0, slots := 0, locals := 0 } : Room) #[(.ref a1)] h0 (fun v h L => v = some (.int (if a1 = a2 then 0 else if a1 = a3 then 0 else 1)) ∧ L = [] ∧ h = h0) := by
  refine own_of pn_com_example_quayside_quayside_http_ErrorCode ?_
  intro p e s m below meth c s₁ hx hby hml hown hnm hret hlk hZ X0 e0
  rw [ef_rmB]
  refine own_by (T' := s₁) (f' := (mkF m 1 #[.val (.ref a1)] [(.ref a1)])) (fun t k => XS.aloadN X0.here hx rfl (hb hby d2_0) rfl rfl k) ?_
  refine own_getS (host := "") X0 hx hZ hown e0 (hb hby d2_1) (Or.inl (hw _ (List.mem_of_getElem? (i := 13) rfl))) Via.refl S1 ?_
  intro T1 X1 e1
  show own_Go p e below _ T1 (mkF m 4 #[.val (.ref a1)] [(.ref a2), (.ref a1)])
  by_cases ha4_2 : a1 = a2
  · have _ := X1
    refine own_by (T' := T1) (f' := (mkF m 18 #[.val (.ref a1)] [])) (fun t k => Jvm.RoadKit.acmp (g := (mkF m 4 #[.val (.ref a1)] [(.ref a2), (.ref a1)])) X1 hx rfl rfl rfl (pc0 := 4) (pc' := 18) (same := true) rfl (hb hby d2_4) rfl (decide_eq_true (congrArg Value.ref ha4_2)) (by decide) (by decide) k) ?_
    refine own_by (T' := T1) (f' := (mkF m 19 #[.val (.ref a1)] [(.int (0 : Int32))])) (fun t k => XS.iconst X1.here hx rfl (hb hby d2_18) k) ?_
    refine own_retZ X1 hx hret hlk (hb hby d2_19) (Or.inl rfl) (by decide) (by decide) ?_
    try rw [e1]
    exact ⟨by simp_all, rfl, rfl⟩
  · have _ := X1
    refine own_by (T' := T1) (f' := (mkF m 7 #[.val (.ref a1)] [])) (fun t k => Jvm.RoadKit.acmp (g := (mkF m 4 #[.val (.ref a1)] [(.ref a2), (.ref a1)])) X1 hx rfl rfl rfl (pc0 := 4) (pc' := 7) (same := false) rfl (hb hby d2_4) rfl (decide_eq_false fun q => ha4_2 (Value.ref.inj q)) (by decide) (by decide) k) ?_
    refine own_by (T' := T1) (f' := (mkF m 8 #[.val (.ref a1)] [(.ref a1)])) (fun t k => XS.aloadN X1.here hx rfl (hb hby d2_7) rfl rfl k) ?_
    refine own_getS (host := "") X1 hx hZ hown e1 (hb hby d2_8) (Or.inl (hw _ (List.mem_of_getElem? (i := 15) rfl))) Via.refl S2 ?_
    intro T3 X3 e3
    show own_Go p e below _ T3 (mkF m 11 #[.val (.ref a1)] [(.ref a3), (.ref a1)])
    by_cases ha11_4 : a1 = a3
    · have _ := X3
      refine own_by (T' := T3) (f' := (mkF m 18 #[.val (.ref a1)] [])) (fun t k => Jvm.RoadKit.acmp (g := (mkF m 11 #[.val (.ref a1)] [(.ref a3), (.ref a1)])) X3 hx rfl rfl rfl (pc0 := 11) (pc' := 18) (same := true) rfl (hb hby d2_11) rfl (decide_eq_true (congrArg Value.ref ha11_4)) (by decide) (by decide) k) ?_
      refine own_by (T' := T3) (f' := (mkF m 19 #[.val (.ref a1)] [(.int (0 : Int32))])) (fun t k => XS.iconst X3.here hx rfl (hb hby d2_18) k) ?_
      refine own_retZ X3 hx hret hlk (hb hby d2_19) (Or.inl rfl) (by decide) (by decide) ?_
      try rw [e3]
      exact ⟨by simp_all, rfl, rfl⟩
    · have _ := X3
      refine own_by (T' := T3) (f' := (mkF m 14 #[.val (.ref a1)] [])) (fun t k => Jvm.RoadKit.acmp (g := (mkF m 11 #[.val (.ref a1)] [(.ref a3), (.ref a1)])) X3 hx rfl rfl rfl (pc0 := 11) (pc' := 14) (same := false) rfl (hb hby d2_11) rfl (decide_eq_false fun q => ha11_4 (Value.ref.inj q)) (by decide) (by decide) k) ?_
      refine own_by (T' := T3) (f' := (mkF m 15 #[.val (.ref a1)] [(.int (1 : Int32))])) (fun t k => XS.iconst X3.here hx rfl (hb hby d2_14) k) ?_
      refine own_by (T' := T3) (f' := (mkF m 19 #[.val (.ref a1)] [(.int (1 : Int32))])) (fun t k => XS.goto X3.here hx rfl (pc0 := 15) (pc' := 19) rfl (hb hby d2_15) (by decide) (by decide) k) ?_
      refine own_retZ X3 hx hret hlk (hb hby d2_19) (Or.inr rfl) (by decide) (by decide) ?_
      try rw [e3]
      exact ⟨by simp_all, rfl, rfl⟩
theorem own_k (x : Int32) : 0 ≤ ((x &&& 2147483647) % 35).toInt ∧ ((x &&& 2147483647) % 35).toInt < 35 := by
  have h1 := c_mask x 2147483647 31 (by decide) (by decide)
  have h2 := (c_irem (x &&& 2147483647) 35 35 (by decide)).1
  omega
theorem own_inj {Z : State} {h0 : Heap} {cc : Nat → Addr} (HO : ∀ j, j < 35 → Fld Z h0 (cc j) "java/lang/Enum" "ordinal" "I" (.int (Int32.ofNat j))) {z : Int32} (g0 : 0 ≤ z.toInt) (g1 : z.toInt < 35) (j : Nat) (hj : j < 35) : (cc z.toInt.toNat = cc j) ↔ z = Int32.ofNat j := by
  constructor
  · intro q
    have F1 := HO z.toInt.toNat (by omega)
    have F2 := HO j hj
    rw [q] at F1
    have e : Value.int (Int32.ofNat z.toInt.toNat) = Value.int (Int32.ofNat j) := by
      apply Decidable.byContradiction; intro ne; exact absurd rfl (Fld.ne F1 F2 ne)
    have e2 : (Int32.ofNat z.toInt.toNat) = (Int32.ofNat j) := by simpa using e
    rw [← e2]
    apply Int32.toInt_inj.mp
    rw [Int32.toInt_ofNat_of_lt (by omega)]; omega
  · rintro rfl
    rw [Int32.toInt_ofNat_of_lt (by omega)]; rfl
theorem own_eq {Z : State} {h0 : Heap} {cc : Nat → Addr} (HO : ∀ j, j < 35 → Fld Z h0 (cc j) "java/lang/Enum" "ordinal" "I" (.int (Int32.ofNat j))) {z : Int32} (g0 : 0 ≤ z.toInt) (g1 : z.toInt < 35) :
    (if cc z.toInt.toNat = cc 1 then (0 : Int32) else if cc z.toInt.toNat = cc 31 then 0 else 1) = (if z = (1 : Int32) then (0 : Int32) else (if z = (31 : Int32) then (0 : Int32) else (1 : Int32))) := by
  have e1 := own_inj HO g0 g1 1 (by decide)
  have e2 := own_inj HO g0 g1 31 (by decide)
  by_cases q1 : z = (1 : Int32)
  · rw [if_pos q1, if_pos (e1.mpr q1)]
  · rw [if_neg q1, if_neg (mt e1.mp q1)]
    by_cases q2 : z = (31 : Int32)
    · rw [if_pos q2, if_pos (e2.mpr q2)]
    · rw [if_neg q2, if_neg (mt e2.mp q2)]
theorem ef_rm0 (m : MethodId) (x0 : Int32) : entryFrame m #[(.int x0)] maxLocals = mkF m 0 #[.val (.int x0), .unset, .unset, .unset] [] := by first | (simp [entryFrame, mkF, argsToLocals, Value.category, maxLocals]; done) | rfl
set_option maxRecDepth 65536 in
set_option maxHeartbeats 40000000 in
theorem rm0 (l : Launch) (Z : State) (a0 : Array Value) (hw : ∀ d ∈ tables_1, d.before a0 Z = true) (ws : List Jvm.Cond) (i0 : Int32) (h0 : Heap) (n0 : Nat) (cc : Nat → Addr) (HS : ∀ j, j < 35 → Sta Z h0 "com/example/quayside/quayside/http/ErrorCode" (own_nm j) "Lcom/example/quayside/quayside/http/ErrorCode;" (.ref (cc j))) (HE : ∀ j, j < 35 → Exa Z h0 (cc j) "com/example/quayside/quayside/http/ErrorCode") (HO : ∀ j, j < 35 → Fld Z h0 (cc j) "java/lang/Enum" "ordinal" "I" (.int (Int32.ofNat j))) :
    own_Ct l Z x code maxLocals ret ws room_1 #[(.int i0)] h0 (fun v h L => v = some (.int 1) ∧ Fr n0 L) := by
  refine own_of pn_com_example_quayside_quayside_http_ErrorCodeBindsKeyPinLaw ?_
  intro p e s m below meth c s₁ hx hby hml hown hnm hret hlk hZ X0 e0
  rw [ef_rm0]
  refine own_by (T' := s₁) (f' := (mkF m 1 #[.val (.int i0), .unset, .unset, .unset] [(.int i0)])) (fun t k => XS.iloadN X0.here hx rfl (hb hby at_0) rfl k) ?_
  refine own_by (T' := s₁) (f' := (mkF m 3 #[.val (.int i0), .unset, .unset, .unset] [(.int (2147483647 : Int32)), (.int i0)])) (fun t k => X0.ldcInt hx hown (mvT hZ (hw _ (List.mem_of_getElem? (i := 0) rfl))) (g := (mkF m 1 #[.val (.int i0), .unset, .unset, .unset] [(.int i0)])) rfl (hb hby at_1) _ k) ?_
  refine own_by (T' := s₁) (f' := (mkF m 4 #[.val (.int i0), .unset, .unset, .unset] [(.int (i0 &&& (2147483647 : Int32)))])) (fun t k => XS.iand X0.here hx rfl (hb hby at_3) rfl k) ?_
  refine own_by (T' := s₁) (f' := (mkF m 6 #[.val (.int i0), .unset, .unset, .unset] [(.int (35 : Int32)), (.int (i0 &&& (2147483647 : Int32)))])) (fun t k => XS.bipush X0.here hx rfl (hb hby at_4) k) ?_
  refine own_by (T' := s₁) (f' := (mkF m 7 #[.val (.int i0), .unset, .unset, .unset] [(.int ((i0 &&& (2147483647 : Int32)) % (35 : Int32)))])) (fun t k => iremM X0 hx rfl (hb hby at_6) rfl (by decide) k) ?_
  obtain ⟨v0, hv0⟩ : ∃ z : Int32, z = ((i0 &&& (2147483647 : Int32)) % (35 : Int32)) := ⟨_, rfl⟩
  rw [← hv0]
  show own_Go p e below _ s₁ (mkF m 7 #[.val (.int i0), .unset, .unset, .unset] [(.int v0)])
  have hk0 : 0 ≤ v0.toInt := by rw [hv0]; exact (own_k _).1
  have hk1 : v0.toInt < 35 := by rw [hv0]; exact (own_k _).2
  refine own_by (T' := s₁) (f' := (mkF m 8 #[.val (.int i0), .val (.int v0), .unset, .unset] [])) (fun t k => XS.istoreN X0.here hx rfl (hb hby at_7) rfl (l' := #[.val (.int i0), .val (.int v0), .unset, .unset]) rfl k) ?_
  refine own_by (T' := s₁) (f' := (mkF m 9 #[.val (.int i0), .val (.int v0), .unset, .unset] [(.int v0)])) (fun t k => XS.iloadN X0.here hx rfl (hb hby at_8) rfl k) ?_
  refine own_callS X0 hx hZ hown e0 (hb hby at_9) [(.int v0)] [] 0 (rmP l Z a0 hw [] v0 h0 hk0 hk1 cc HS) (hw _ (List.mem_of_getElem? (i := 1) rfl)) (hw _ (List.mem_of_getElem? (i := 2) rfl)) (hw _ (List.mem_of_getElem? (i := 3) rfl)) (hw _ (List.mem_of_getElem? (i := 4) rfl)) (by decide) pd__I_Lcom_example_quayside_quayside_http_ErrorCode_ (by rw [hml]; rfl) rfl rfl (Nat.le_of_eq rfl) (by decide) (by decide) (by decide) (by decide) ?_
  rintro T1 _ L1 X1 ⟨rfl, rfl, e1⟩
  show own_Go p e below _ T1 (mkF m 12 #[.val (.int i0), .val (.int v0), .unset, .unset] [(.ref (cc v0.toInt.toNat))])
  rw [List.append_nil] at X1
  have EX := HE v0.toInt.toNat (by omega)
  refine own_by (T' := T1) (f' := (mkF m 13 #[.val (.int i0), .val (.int v0), .val (.ref (cc v0.toInt.toNat)), .unset] [])) (fun t k => XS.astoreN X1.here hx rfl (hb hby at_12) rfl rfl (l' := #[.val (.int i0), .val (.int v0), .val (.ref (cc v0.toInt.toNat)), .unset]) rfl k) ?_
  refine own_by (T' := T1) (f' := (mkF m 14 #[.val (.int i0), .val (.int v0), .val (.ref (cc v0.toInt.toNat)), .unset] [(.int v0)])) (fun t k => XS.iloadN X1.here hx rfl (hb hby at_13) rfl k) ?_
  refine own_by (T' := T1) (f' := (mkF m 15 #[.val (.int i0), .val (.int v0), .val (.ref (cc v0.toInt.toNat)), .unset] [(.int (1 : Int32)), (.int v0)])) (fun t k => XS.iconst X1.here hx rfl (hb hby at_14) k) ?_
  have mg4 : ∀ t, Steps p.tables e below (T1.setTop (mkF m 29 #[.val (.int i0), .val (.int v0), .val (.ref (cc v0.toInt.toNat)), .unset] [(.int (if v0 = (1 : Int32) then (0 : Int32) else (if v0 = (31 : Int32) then (0 : Int32) else (1 : Int32))))])) t → Steps p.tables e below (T1.setTop (mkF m 15 #[.val (.int i0), .val (.int v0), .val (.ref (cc v0.toInt.toNat)), .unset] [(.int (1 : Int32)), (.int v0)])) t := by
    intro t k0
    by_cases hm2 : v0 = (1 : Int32)
    · skip
      refine XS.icmpYes X1.here hx rfl (pc0 := 15) (pc' := 28) rfl (hb hby at_15) rfl (teq hm2).1 (by decide) (by decide) ?_
      show Steps p.tables e below (T1.setTop (mkF m 28 #[.val (.int i0), .val (.int v0), .val (.ref (cc v0.toInt.toNat)), .unset] [])) _
      refine XS.iconst X1.here hx rfl (hb hby at_28) ?_
      show Steps p.tables e below (T1.setTop (mkF m 29 #[.val (.int i0), .val (.int v0), .val (.ref (cc v0.toInt.toNat)), .unset] [(.int (0 : Int32))])) _
      try simp only [if_pos hm2] at k0
      exact k0
    · skip
      refine XS.icmpNo X1.here hx rfl (hb hby at_15) rfl (feq hm2).1 ?_
      show Steps p.tables e below (T1.setTop (mkF m 18 #[.val (.int i0), .val (.int v0), .val (.ref (cc v0.toInt.toNat)), .unset] [])) _
      refine XS.iloadN X1.here hx rfl (hb hby at_18) rfl ?_
      show Steps p.tables e below (T1.setTop (mkF m 19 #[.val (.int i0), .val (.int v0), .val (.ref (cc v0.toInt.toNat)), .unset] [(.int v0)])) _
      refine XS.bipush X1.here hx rfl (hb hby at_19) ?_
      show Steps p.tables e below (T1.setTop (mkF m 21 #[.val (.int i0), .val (.int v0), .val (.ref (cc v0.toInt.toNat)), .unset] [(.int (31 : Int32)), (.int v0)])) _
      by_cases hm3 : v0 = (31 : Int32)
      · skip
        refine XS.icmpYes X1.here hx rfl (pc0 := 21) (pc' := 28) rfl (hb hby at_21) rfl (teq hm3).1 (by decide) (by decide) ?_
        show Steps p.tables e below (T1.setTop (mkF m 28 #[.val (.int i0), .val (.int v0), .val (.ref (cc v0.toInt.toNat)), .unset] [])) _
        refine XS.iconst X1.here hx rfl (hb hby at_28) ?_
        show Steps p.tables e below (T1.setTop (mkF m 29 #[.val (.int i0), .val (.int v0), .val (.ref (cc v0.toInt.toNat)), .unset] [(.int (0 : Int32))])) _
        try simp only [if_neg hm2, if_pos hm3] at k0
        exact k0
      · skip
        refine XS.icmpNo X1.here hx rfl (hb hby at_21) rfl (feq hm3).1 ?_
        show Steps p.tables e below (T1.setTop (mkF m 24 #[.val (.int i0), .val (.int v0), .val (.ref (cc v0.toInt.toNat)), .unset] [])) _
        refine XS.iconst X1.here hx rfl (hb hby at_24) ?_
        show Steps p.tables e below (T1.setTop (mkF m 25 #[.val (.int i0), .val (.int v0), .val (.ref (cc v0.toInt.toNat)), .unset] [(.int (1 : Int32))])) _
        refine XS.goto X1.here hx rfl (pc0 := 25) (pc' := 29) rfl (hb hby at_25) (by decide) (by decide) ?_
        show Steps p.tables e below (T1.setTop (mkF m 29 #[.val (.int i0), .val (.int v0), .val (.ref (cc v0.toInt.toNat)), .unset] [(.int (1 : Int32))])) _
        try simp only [if_neg hm2, if_neg hm3] at k0
        exact k0
  refine own_by mg4 ?_
  refine own_by (T' := T1) (f' := (mkF m 30 #[.val (.int i0), .val (.int v0), .val (.ref (cc v0.toInt.toNat)), .val (.int (if v0 = (1 : Int32) then (0 : Int32) else (if v0 = (31 : Int32) then (0 : Int32) else (1 : Int32))))] [])) (fun t k => XS.istoreN X1.here hx rfl (hb hby at_29) rfl (l' := #[.val (.int i0), .val (.int v0), .val (.ref (cc v0.toInt.toNat)), .val (.int (if v0 = (1 : Int32) then (0 : Int32) else (if v0 = (31 : Int32) then (0 : Int32) else (1 : Int32))))]) rfl k) ?_
  refine own_by (T' := T1) (f' := (mkF m 31 #[.val (.int i0), .val (.int v0), .val (.ref (cc v0.toInt.toNat)), .val (.int (if v0 = (1 : Int32) then (0 : Int32) else (if v0 = (31 : Int32) then (0 : Int32) else (1 : Int32))))] [(.ref (cc v0.toInt.toNat))])) (fun t k => XS.aloadN X1.here hx rfl (hb hby at_30) rfl rfl k) ?_
  refine own_callV X1 hx hZ hown e1 (hb hby at_31) [] [] 0 (rmB l Z a0 hw [] (cc v0.toInt.toNat) (cc 1) (cc 31) h0 (HS 1 (by decide)) (HS 31 (by decide))) EX (hw _ (List.mem_of_getElem? (i := 8) rfl)) (hw _ (List.mem_of_getElem? (i := 9) rfl)) (notFace_of_selects (args := #[]) (mvT hZ (hw _ (List.mem_of_getElem? (i := 11) rfl)))) (hw _ (List.mem_of_getElem? (i := 11) rfl)) (hw _ (List.mem_of_getElem? (i := 10) rfl)) (hw _ (List.mem_of_getElem? (i := 6) rfl)) (hw _ (List.mem_of_getElem? (i := 12) rfl)) (by decide) pd___Z (by rw [hml]; rfl) rfl rfl (Nat.le_of_eq rfl) (by decide) (by decide) (by decide) (by decide) ?_
  rintro T5 _ L5 X5 ⟨rfl, rfl, e5⟩
  show own_Go p e below _ T5 (mkF m 34 #[.val (.int i0), .val (.int v0), .val (.ref (cc v0.toInt.toNat)), .val (.int (if v0 = (1 : Int32) then (0 : Int32) else (if v0 = (31 : Int32) then (0 : Int32) else (1 : Int32))))] [(.int (if cc v0.toInt.toNat = cc 1 then (0 : Int32) else if cc v0.toInt.toNat = cc 31 then 0 else 1))])
  rw [List.append_nil] at X5
  refine own_by (T' := T5) (f' := (mkF m 35 #[.val (.int i0), .val (.int v0), .val (.ref (cc v0.toInt.toNat)), .val (.int (if v0 = (1 : Int32) then (0 : Int32) else (if v0 = (31 : Int32) then (0 : Int32) else (1 : Int32))))] [(.int (if v0 = (1 : Int32) then (0 : Int32) else (if v0 = (31 : Int32) then (0 : Int32) else (1 : Int32)))), (.int (if cc v0.toInt.toNat = cc 1 then (0 : Int32) else if cc v0.toInt.toNat = cc 31 then 0 else 1))])) (fun t k => XS.iloadN X5.here hx rfl (hb hby at_34) rfl k) ?_
  have hc35_6 : (if cc v0.toInt.toNat = cc 1 then (0 : Int32) else if cc v0.toInt.toNat = cc 31 then 0 else 1) = (if v0 = (1 : Int32) then (0 : Int32) else (if v0 = (31 : Int32) then (0 : Int32) else (1 : Int32))) := own_eq HO hk0 hk1
  refine own_by (T' := T5) (f' := (mkF m 38 #[.val (.int i0), .val (.int v0), .val (.ref (cc v0.toInt.toNat)), .val (.int (if v0 = (1 : Int32) then (0 : Int32) else (if v0 = (31 : Int32) then (0 : Int32) else (1 : Int32))))] [])) (fun t k => XS.icmpNo X5.here hx rfl (hb hby at_35) rfl (teq hc35_6).2 k) ?_
  refine own_by (T' := T5) (f' := (mkF m 39 #[.val (.int i0), .val (.int v0), .val (.ref (cc v0.toInt.toNat)), .val (.int (if v0 = (1 : Int32) then (0 : Int32) else (if v0 = (31 : Int32) then (0 : Int32) else (1 : Int32))))] [(.int (1 : Int32))])) (fun t k => XS.iconst X5.here hx rfl (hb hby at_38) k) ?_
  refine own_by (T' := T5) (f' := (mkF m 43 #[.val (.int i0), .val (.int v0), .val (.ref (cc v0.toInt.toNat)), .val (.int (if v0 = (1 : Int32) then (0 : Int32) else (if v0 = (31 : Int32) then (0 : Int32) else (1 : Int32))))] [(.int (1 : Int32))])) (fun t k => XS.goto X5.here hx rfl (pc0 := 39) (pc' := 43) rfl (hb hby at_39) (by decide) (by decide) k) ?_
  refine own_retZ X5 hx hret hlk (hb hby at_43) (Or.inr rfl) (by decide) (by decide) ?_
  try rw [e5]
  exact ⟨rfl, Fr.nil _⟩
theorem own_eqv {args : Array Value} {first s : State} {o : Option Outcome} {idx : List Nat} {a b : Term} {k : Int32} (h : (Jvm.Cond.eq a b).value args first o s idx = some true) (hb : b.eval args first o idx s = some (.int k)) : a.eval args first o idx s = some (.int k) := by
  cases ha : a.eval args first o idx s with
  | none => simp [Cond.value, ha] at h
  | some x => cases x <;> simp [Cond.value, ha, hb] at h ⊢; exact h
set_option maxRecDepth 65536 in
set_option maxHeartbeats 40000000 in
theorem comes_1 {Post : Tables → Env → Array Value → State → Outcome → State → Prop} (hpost : ∀ tb e args s v u, (limb_1_1.after args s (.returned v) u = true ∧ limb_1_2.after args s (.returned v) u = true ∧ True) → FrameEnd s (.returned v) u (Jvm.fieldLocs frame_1_writes args s ++ Jvm.arrayLocs frame_1_arrays args s ++ Jvm.staticLocs frame_1_statics s) 0 0 → Post tb e args s (.returned v) u) :
    ArmFor flags0 classFile x code maxLocals ret World_1 tables_1 room_1 Calls_1 rest_1 Pre_1 Post := by
  intro l hfl _ _ p e ha hc hk s m args below hf hA hF happ hP
  obtain ⟨hcalls, hrest, hpre⟩ := hP
  obtain ⟨-, -, -, hnamed, -, -, -, hat⟩ := (Spec.applies_iff hf).mp happ
  obtain ⟨hg, hn⟩ := and_e (Cond.before_iff.mp (show (Jvm.Cond.and given_1 narrow_1).before args s = true from hpre))
  obtain ⟨gc, gr0⟩ := and_e hg
  obtain ⟨w0, rfl⟩ : ∃ w0 : Value, args = #[w0] := by
    have hs : args.size = 1 := by simpa [Cond.value, given_1] using gc
    obtain ⟨L⟩ := args
    match L, hs with
    | [w0], _ => exact ⟨w0, rfl⟩
  have hw := fun d (hd : d ∈ tables_1) => atoms_spec (ws := Jvm.Cond.code x code maxLocals ret :: tables_1) hat d (List.mem_cons_of_mem _ hd)
  have hfit : Fit s := fun {y c} hc i hi => by
    obtain ⟨ha, rfl⟩ := Array.getElem?_eq_some_iff.mp hc
    have q := List.all_eq_true.mp ((Array.all_eq_true_iff_forall_mem.mp hF) _ (Array.getElem_mem ha)) i (List.mem_range.mpr hi)
    simpa [Array.getElem?_eq_getElem hi] using q
  obtain ⟨i0, ei0⟩ := is_v gr0
  obtain rfl : w0 = (.int i0) := Option.some.inj ei0
  obtain ⟨nq0, nr0⟩ := and_e hn
  obtain ⟨nq1, nr1⟩ := and_e nr0
  obtain ⟨nq2, nr2⟩ := and_e nr1
  obtain ⟨nq3, nr3⟩ := and_e nr2
  obtain ⟨nq4, nr4⟩ := and_e nr3
  obtain ⟨nq5, nr5⟩ := and_e nr4
  obtain ⟨nq6, nr6⟩ := and_e nr5
  obtain ⟨nq7, nr7⟩ := and_e nr6
  obtain ⟨nq8, nr8⟩ := and_e nr7
  obtain ⟨nq9, nr9⟩ := and_e nr8
  obtain ⟨nq10, nr10⟩ := and_e nr9
  obtain ⟨nq11, nr11⟩ := and_e nr10
  obtain ⟨nq12, nr12⟩ := and_e nr11
  obtain ⟨nq13, nr13⟩ := and_e nr12
  obtain ⟨nq14, nr14⟩ := and_e nr13
  obtain ⟨nq15, nr15⟩ := and_e nr14
  obtain ⟨nq16, nr16⟩ := and_e nr15
  obtain ⟨nq17, nr17⟩ := and_e nr16
  obtain ⟨nq18, nr18⟩ := and_e nr17
  obtain ⟨nq19, nr19⟩ := and_e nr18
  obtain ⟨nq20, nr20⟩ := and_e nr19
  obtain ⟨nq21, nr21⟩ := and_e nr20
  obtain ⟨nq22, nr22⟩ := and_e nr21
  obtain ⟨nq23, nr23⟩ := and_e nr22
  obtain ⟨nq24, nr24⟩ := and_e nr23
  obtain ⟨nq25, nr25⟩ := and_e nr24
  obtain ⟨nq26, nr26⟩ := and_e nr25
  obtain ⟨nq27, nr27⟩ := and_e nr26
  obtain ⟨nq28, nr28⟩ := and_e nr27
  obtain ⟨nq29, nr29⟩ := and_e nr28
  obtain ⟨nq30, nr30⟩ := and_e nr29
  obtain ⟨nq31, nr31⟩ := and_e nr30
  obtain ⟨nq32, nr32⟩ := and_e nr31
  obtain ⟨nq33, nr33⟩ := and_e nr32
  obtain ⟨nq34, nr34⟩ := and_e nr33
  obtain ⟨nq35, nr35⟩ := and_e nr34
  obtain ⟨nq36, nr36⟩ := and_e nr35
  obtain ⟨nq37, nr37⟩ := and_e nr36
  obtain ⟨nq38, nr38⟩ := and_e nr37
  obtain ⟨nq39, nr39⟩ := and_e nr38
  obtain ⟨nq40, nr40⟩ := and_e nr39
  obtain ⟨nq41, nr41⟩ := and_e nr40
  obtain ⟨nq42, nr42⟩ := and_e nr41
  obtain ⟨nq43, nr43⟩ := and_e nr42
  obtain ⟨nq44, nr44⟩ := and_e nr43
  obtain ⟨nq45, nr45⟩ := and_e nr44
  obtain ⟨nq46, nr46⟩ := and_e nr45
  obtain ⟨nq47, nr47⟩ := and_e nr46
  obtain ⟨nq48, nr48⟩ := and_e nr47
  obtain ⟨nq49, nr49⟩ := and_e nr48
  obtain ⟨nq50, nr50⟩ := and_e nr49
  obtain ⟨nq51, nr51⟩ := and_e nr50
  obtain ⟨nq52, nr52⟩ := and_e nr51
  obtain ⟨nq53, nr53⟩ := and_e nr52
  obtain ⟨nq54, nr54⟩ := and_e nr53
  obtain ⟨nq55, nr55⟩ := and_e nr54
  obtain ⟨nq56, nr56⟩ := and_e nr55
  obtain ⟨nq57, nr57⟩ := and_e nr56
  obtain ⟨nq58, nr58⟩ := and_e nr57
  obtain ⟨nq59, nr59⟩ := and_e nr58
  obtain ⟨nq60, nr60⟩ := and_e nr59
  obtain ⟨nq61, nr61⟩ := and_e nr60
  obtain ⟨nq62, nr62⟩ := and_e nr61
  obtain ⟨nq63, nr63⟩ := and_e nr62
  obtain ⟨nq64, nr64⟩ := and_e nr63
  obtain ⟨nq65, nr65⟩ := and_e nr64
  obtain ⟨nq66, nr66⟩ := and_e nr65
  obtain ⟨nq67, nr67⟩ := and_e nr66
  obtain ⟨nq68, nr68⟩ := and_e nr67
  obtain ⟨c0, ev0⟩ := exa_v nq0
  have EE0 := Exa.start ev0 nq0
  have SS0 := Sta.start ev0 (Or.inr ⟨(hw _ (List.mem_of_getElem? (i := 6) rfl)), (hw _ (List.mem_of_getElem? (i := 7) rfl))⟩)
  have OO0 := Fld.start ((fld_at ev0).symm.trans (own_eqv nq2 (Term.int_eval 0)))
  obtain ⟨c1, ev1⟩ := exa_v nq1
  have EE1 := Exa.start ev1 nq1
  have SS1 := Sta.start ev1 (Or.inr ⟨(hw _ (List.mem_of_getElem? (i := 6) rfl)), (hw _ (List.mem_of_getElem? (i := 14) rfl))⟩)
  have OO1 := Fld.start ((fld_at ev1).symm.trans (own_eqv nq3 (Term.int_eval 1)))
  obtain ⟨c2, ev2⟩ := exa_v nq18
  have EE2 := Exa.start ev2 nq18
  have SS2 := Sta.start ev2 (Or.inr ⟨(hw _ (List.mem_of_getElem? (i := 6) rfl)), (hw _ (List.mem_of_getElem? (i := 30) rfl))⟩)
  have OO2 := Fld.start ((fld_at ev2).symm.trans (own_eqv nq19 (Term.int_eval 2)))
  obtain ⟨c3, ev3⟩ := exa_v nq6
  have EE3 := Exa.start ev3 nq6
  have SS3 := Sta.start ev3 (Or.inr ⟨(hw _ (List.mem_of_getElem? (i := 6) rfl)), (hw _ (List.mem_of_getElem? (i := 18) rfl))⟩)
  have OO3 := Fld.start ((fld_at ev3).symm.trans (own_eqv nq7 (Term.int_eval 3)))
  obtain ⟨c4, ev4⟩ := exa_v nq14
  have EE4 := Exa.start ev4 nq14
  have SS4 := Sta.start ev4 (Or.inr ⟨(hw _ (List.mem_of_getElem? (i := 6) rfl)), (hw _ (List.mem_of_getElem? (i := 26) rfl))⟩)
  have OO4 := Fld.start ((fld_at ev4).symm.trans (own_eqv nq15 (Term.int_eval 4)))
  obtain ⟨c5, ev5⟩ := exa_v nq8
  have EE5 := Exa.start ev5 nq8
  have SS5 := Sta.start ev5 (Or.inr ⟨(hw _ (List.mem_of_getElem? (i := 6) rfl)), (hw _ (List.mem_of_getElem? (i := 20) rfl))⟩)
  have OO5 := Fld.start ((fld_at ev5).symm.trans (own_eqv nq9 (Term.int_eval 5)))
  obtain ⟨c6, ev6⟩ := exa_v nq12
  have EE6 := Exa.start ev6 nq12
  have SS6 := Sta.start ev6 (Or.inr ⟨(hw _ (List.mem_of_getElem? (i := 6) rfl)), (hw _ (List.mem_of_getElem? (i := 24) rfl))⟩)
  have OO6 := Fld.start ((fld_at ev6).symm.trans (own_eqv nq13 (Term.int_eval 6)))
  obtain ⟨c7, ev7⟩ := exa_v nq16
  have EE7 := Exa.start ev7 nq16
  have SS7 := Sta.start ev7 (Or.inr ⟨(hw _ (List.mem_of_getElem? (i := 6) rfl)), (hw _ (List.mem_of_getElem? (i := 28) rfl))⟩)
  have OO7 := Fld.start ((fld_at ev7).symm.trans (own_eqv nq17 (Term.int_eval 7)))
  obtain ⟨c8, ev8⟩ := exa_v nq24
  have EE8 := Exa.start ev8 nq24
  have SS8 := Sta.start ev8 (Or.inr ⟨(hw _ (List.mem_of_getElem? (i := 6) rfl)), (hw _ (List.mem_of_getElem? (i := 36) rfl))⟩)
  have OO8 := Fld.start ((fld_at ev8).symm.trans (own_eqv nq25 (Term.int_eval 8)))
  obtain ⟨c9, ev9⟩ := exa_v nq44
  have EE9 := Exa.start ev9 nq44
  have SS9 := Sta.start ev9 (Or.inr ⟨(hw _ (List.mem_of_getElem? (i := 6) rfl)), (hw _ (List.mem_of_getElem? (i := 58) rfl))⟩)
  have OO9 := Fld.start ((fld_at ev9).symm.trans (own_eqv nq45 (Term.int_eval 9)))
  obtain ⟨c10, ev10⟩ := exa_v nq22
  have EE10 := Exa.start ev10 nq22
  have SS10 := Sta.start ev10 (Or.inr ⟨(hw _ (List.mem_of_getElem? (i := 6) rfl)), (hw _ (List.mem_of_getElem? (i := 34) rfl))⟩)
  have OO10 := Fld.start ((fld_at ev10).symm.trans (own_eqv nq23 (Term.int_eval 10)))
  obtain ⟨c11, ev11⟩ := exa_v nq20
  have EE11 := Exa.start ev11 nq20
  have SS11 := Sta.start ev11 (Or.inr ⟨(hw _ (List.mem_of_getElem? (i := 6) rfl)), (hw _ (List.mem_of_getElem? (i := 32) rfl))⟩)
  have OO11 := Fld.start ((fld_at ev11).symm.trans (own_eqv nq21 (Term.int_eval 11)))
  obtain ⟨c12, ev12⟩ := exa_v nq48
  have EE12 := Exa.start ev12 nq48
  have SS12 := Sta.start ev12 (Or.inr ⟨(hw _ (List.mem_of_getElem? (i := 6) rfl)), (hw _ (List.mem_of_getElem? (i := 62) rfl))⟩)
  have OO12 := Fld.start ((fld_at ev12).symm.trans (own_eqv nq49 (Term.int_eval 12)))
  obtain ⟨c13, ev13⟩ := exa_v nq10
  have EE13 := Exa.start ev13 nq10
  have SS13 := Sta.start ev13 (Or.inr ⟨(hw _ (List.mem_of_getElem? (i := 6) rfl)), (hw _ (List.mem_of_getElem? (i := 22) rfl))⟩)
  have OO13 := Fld.start ((fld_at ev13).symm.trans (own_eqv nq11 (Term.int_eval 13)))
  obtain ⟨c14, ev14⟩ := exa_v nq26
  have EE14 := Exa.start ev14 nq26
  have SS14 := Sta.start ev14 (Or.inr ⟨(hw _ (List.mem_of_getElem? (i := 6) rfl)), (hw _ (List.mem_of_getElem? (i := 39) rfl))⟩)
  have OO14 := Fld.start ((fld_at ev14).symm.trans (own_eqv nq27 (Term.int_eval 14)))
  obtain ⟨c15, ev15⟩ := exa_v nq28
  have EE15 := Exa.start ev15 nq28
  have SS15 := Sta.start ev15 (Or.inr ⟨(hw _ (List.mem_of_getElem? (i := 6) rfl)), (hw _ (List.mem_of_getElem? (i := 41) rfl))⟩)
  have OO15 := Fld.start ((fld_at ev15).symm.trans (own_eqv nq29 (Term.int_eval 15)))
  obtain ⟨c16, ev16⟩ := exa_v nq32
  have EE16 := Exa.start ev16 nq32
  have SS16 := Sta.start ev16 (Or.inr ⟨(hw _ (List.mem_of_getElem? (i := 6) rfl)), (hw _ (List.mem_of_getElem? (i := 46) rfl))⟩)
  have OO16 := Fld.start ((fld_at ev16).symm.trans (own_eqv nq33 (Term.int_eval 16)))
  obtain ⟨c17, ev17⟩ := exa_v nq38
  have EE17 := Exa.start ev17 nq38
  have SS17 := Sta.start ev17 (Or.inr ⟨(hw _ (List.mem_of_getElem? (i := 6) rfl)), (hw _ (List.mem_of_getElem? (i := 52) rfl))⟩)
  have OO17 := Fld.start ((fld_at ev17).symm.trans (own_eqv nq39 (Term.int_eval 17)))
  obtain ⟨c18, ev18⟩ := exa_v nq42
  have EE18 := Exa.start ev18 nq42
  have SS18 := Sta.start ev18 (Or.inr ⟨(hw _ (List.mem_of_getElem? (i := 6) rfl)), (hw _ (List.mem_of_getElem? (i := 56) rfl))⟩)
  have OO18 := Fld.start ((fld_at ev18).symm.trans (own_eqv nq43 (Term.int_eval 18)))
  obtain ⟨c19, ev19⟩ := exa_v nq30
  have EE19 := Exa.start ev19 nq30
  have SS19 := Sta.start ev19 (Or.inr ⟨(hw _ (List.mem_of_getElem? (i := 6) rfl)), (hw _ (List.mem_of_getElem? (i := 44) rfl))⟩)
  have OO19 := Fld.start ((fld_at ev19).symm.trans (own_eqv nq31 (Term.int_eval 19)))
  obtain ⟨c20, ev20⟩ := exa_v nq40
  have EE20 := Exa.start ev20 nq40
  have SS20 := Sta.start ev20 (Or.inr ⟨(hw _ (List.mem_of_getElem? (i := 6) rfl)), (hw _ (List.mem_of_getElem? (i := 54) rfl))⟩)
  have OO20 := Fld.start ((fld_at ev20).symm.trans (own_eqv nq41 (Term.int_eval 20)))
  obtain ⟨c21, ev21⟩ := exa_v nq56
  have EE21 := Exa.start ev21 nq56
  have SS21 := Sta.start ev21 (Or.inr ⟨(hw _ (List.mem_of_getElem? (i := 6) rfl)), (hw _ (List.mem_of_getElem? (i := 70) rfl))⟩)
  have OO21 := Fld.start ((fld_at ev21).symm.trans (own_eqv nq57 (Term.int_eval 21)))
  obtain ⟨c22, ev22⟩ := exa_v nq36
  have EE22 := Exa.start ev22 nq36
  have SS22 := Sta.start ev22 (Or.inr ⟨(hw _ (List.mem_of_getElem? (i := 6) rfl)), (hw _ (List.mem_of_getElem? (i := 50) rfl))⟩)
  have OO22 := Fld.start ((fld_at ev22).symm.trans (own_eqv nq37 (Term.int_eval 22)))
  obtain ⟨c23, ev23⟩ := exa_v nq52
  have EE23 := Exa.start ev23 nq52
  have SS23 := Sta.start ev23 (Or.inr ⟨(hw _ (List.mem_of_getElem? (i := 6) rfl)), (hw _ (List.mem_of_getElem? (i := 66) rfl))⟩)
  have OO23 := Fld.start ((fld_at ev23).symm.trans (own_eqv nq53 (Term.int_eval 23)))
  obtain ⟨c24, ev24⟩ := exa_v nq54
  have EE24 := Exa.start ev24 nq54
  have SS24 := Sta.start ev24 (Or.inr ⟨(hw _ (List.mem_of_getElem? (i := 6) rfl)), (hw _ (List.mem_of_getElem? (i := 68) rfl))⟩)
  have OO24 := Fld.start ((fld_at ev24).symm.trans (own_eqv nq55 (Term.int_eval 24)))
  obtain ⟨c25, ev25⟩ := exa_v nq58
  have EE25 := Exa.start ev25 nq58
  have SS25 := Sta.start ev25 (Or.inr ⟨(hw _ (List.mem_of_getElem? (i := 6) rfl)), (hw _ (List.mem_of_getElem? (i := 72) rfl))⟩)
  have OO25 := Fld.start ((fld_at ev25).symm.trans (own_eqv nq59 (Term.int_eval 25)))
  obtain ⟨c26, ev26⟩ := exa_v nq64
  have EE26 := Exa.start ev26 nq64
  have SS26 := Sta.start ev26 (Or.inr ⟨(hw _ (List.mem_of_getElem? (i := 6) rfl)), (hw _ (List.mem_of_getElem? (i := 78) rfl))⟩)
  have OO26 := Fld.start ((fld_at ev26).symm.trans (own_eqv nq65 (Term.int_eval 26)))
  obtain ⟨c27, ev27⟩ := exa_v nq34
  have EE27 := Exa.start ev27 nq34
  have SS27 := Sta.start ev27 (Or.inr ⟨(hw _ (List.mem_of_getElem? (i := 6) rfl)), (hw _ (List.mem_of_getElem? (i := 48) rfl))⟩)
  have OO27 := Fld.start ((fld_at ev27).symm.trans (own_eqv nq35 (Term.int_eval 27)))
  obtain ⟨c28, ev28⟩ := exa_v nq66
  have EE28 := Exa.start ev28 nq66
  have SS28 := Sta.start ev28 (Or.inr ⟨(hw _ (List.mem_of_getElem? (i := 6) rfl)), (hw _ (List.mem_of_getElem? (i := 80) rfl))⟩)
  have OO28 := Fld.start ((fld_at ev28).symm.trans (own_eqv nq67 (Term.int_eval 28)))
  obtain ⟨c29, ev29⟩ := exa_v nq46
  have EE29 := Exa.start ev29 nq46
  have SS29 := Sta.start ev29 (Or.inr ⟨(hw _ (List.mem_of_getElem? (i := 6) rfl)), (hw _ (List.mem_of_getElem? (i := 60) rfl))⟩)
  have OO29 := Fld.start ((fld_at ev29).symm.trans (own_eqv nq47 (Term.int_eval 29)))
  obtain ⟨c30, ev30⟩ := exa_v nq60
  have EE30 := Exa.start ev30 nq60
  have SS30 := Sta.start ev30 (Or.inr ⟨(hw _ (List.mem_of_getElem? (i := 6) rfl)), (hw _ (List.mem_of_getElem? (i := 74) rfl))⟩)
  have OO30 := Fld.start ((fld_at ev30).symm.trans (own_eqv nq61 (Term.int_eval 30)))
  obtain ⟨c31, ev31⟩ := exa_v nq4
  have EE31 := Exa.start ev31 nq4
  have SS31 := Sta.start ev31 (Or.inr ⟨(hw _ (List.mem_of_getElem? (i := 6) rfl)), (hw _ (List.mem_of_getElem? (i := 16) rfl))⟩)
  have OO31 := Fld.start ((fld_at ev31).symm.trans (own_eqv nq5 (Term.int_eval 31)))
  obtain ⟨c32, ev32⟩ := exa_v nq68
  have EE32 := Exa.start ev32 nq68
  have SS32 := Sta.start ev32 (Or.inr ⟨(hw _ (List.mem_of_getElem? (i := 6) rfl)), (hw _ (List.mem_of_getElem? (i := 82) rfl))⟩)
  have OO32 := Fld.start ((fld_at ev32).symm.trans (own_eqv nr68 (Term.int_eval 32)))
  obtain ⟨c33, ev33⟩ := exa_v nq50
  have EE33 := Exa.start ev33 nq50
  have SS33 := Sta.start ev33 (Or.inr ⟨(hw _ (List.mem_of_getElem? (i := 6) rfl)), (hw _ (List.mem_of_getElem? (i := 64) rfl))⟩)
  have OO33 := Fld.start ((fld_at ev33).symm.trans (own_eqv nq51 (Term.int_eval 33)))
  obtain ⟨c34, ev34⟩ := exa_v nq62
  have EE34 := Exa.start ev34 nq62
  have SS34 := Sta.start ev34 (Or.inr ⟨(hw _ (List.mem_of_getElem? (i := 6) rfl)), (hw _ (List.mem_of_getElem? (i := 76) rfl))⟩)
  have OO34 := Fld.start ((fld_at ev34).symm.trans (own_eqv nq63 (Term.int_eval 34)))
  let cc : Nat → Addr := fun j => [c0, c1, c2, c3, c4, c5, c6, c7, c8, c9, c10, c11, c12, c13, c14, c15, c16, c17, c18, c19, c20, c21, c22, c23, c24, c25, c26, c27, c28, c29, c30, c31, c32, c33, c34].getD j 0
  have HS : ∀ j, j < 35 → Sta s s.heap "com/example/quayside/quayside/http/ErrorCode" (own_nm j) "Lcom/example/quayside/quayside/http/ErrorCode;" (.ref (cc j)) := fun j hj => by
    match j, hj with
    | 0, _ => exact SS0
    | 1, _ => exact SS1
    | 2, _ => exact SS2
    | 3, _ => exact SS3
    | 4, _ => exact SS4
    | 5, _ => exact SS5
    | 6, _ => exact SS6
    | 7, _ => exact SS7
    | 8, _ => exact SS8
    | 9, _ => exact SS9
    | 10, _ => exact SS10
    | 11, _ => exact SS11
    | 12, _ => exact SS12
    | 13, _ => exact SS13
    | 14, _ => exact SS14
    | 15, _ => exact SS15
    | 16, _ => exact SS16
    | 17, _ => exact SS17
    | 18, _ => exact SS18
    | 19, _ => exact SS19
    | 20, _ => exact SS20
    | 21, _ => exact SS21
    | 22, _ => exact SS22
    | 23, _ => exact SS23
    | 24, _ => exact SS24
    | 25, _ => exact SS25
    | 26, _ => exact SS26
    | 27, _ => exact SS27
    | 28, _ => exact SS28
    | 29, _ => exact SS29
    | 30, _ => exact SS30
    | 31, _ => exact SS31
    | 32, _ => exact SS32
    | 33, _ => exact SS33
    | 34, _ => exact SS34
    | n + 35, h => exact absurd h (by omega)
  have HE : ∀ j, j < 35 → Exa s s.heap (cc j) "com/example/quayside/quayside/http/ErrorCode" := fun j hj => by
    match j, hj with
    | 0, _ => exact EE0
    | 1, _ => exact EE1
    | 2, _ => exact EE2
    | 3, _ => exact EE3
    | 4, _ => exact EE4
    | 5, _ => exact EE5
    | 6, _ => exact EE6
    | 7, _ => exact EE7
    | 8, _ => exact EE8
    | 9, _ => exact EE9
    | 10, _ => exact EE10
    | 11, _ => exact EE11
    | 12, _ => exact EE12
    | 13, _ => exact EE13
    | 14, _ => exact EE14
    | 15, _ => exact EE15
    | 16, _ => exact EE16
    | 17, _ => exact EE17
    | 18, _ => exact EE18
    | 19, _ => exact EE19
    | 20, _ => exact EE20
    | 21, _ => exact EE21
    | 22, _ => exact EE22
    | 23, _ => exact EE23
    | 24, _ => exact EE24
    | 25, _ => exact EE25
    | 26, _ => exact EE26
    | 27, _ => exact EE27
    | 28, _ => exact EE28
    | 29, _ => exact EE29
    | 30, _ => exact EE30
    | 31, _ => exact EE31
    | 32, _ => exact EE32
    | 33, _ => exact EE33
    | 34, _ => exact EE34
    | n + 35, h => exact absurd h (by omega)
  have HO : ∀ j, j < 35 → Fld s s.heap (cc j) "java/lang/Enum" "ordinal" "I" (.int (Int32.ofNat j)) := fun j hj => by
    match j, hj with
    | 0, _ => exact OO0
    | 1, _ => exact OO1
    | 2, _ => exact OO2
    | 3, _ => exact OO3
    | 4, _ => exact OO4
    | 5, _ => exact OO5
    | 6, _ => exact OO6
    | 7, _ => exact OO7
    | 8, _ => exact OO8
    | 9, _ => exact OO9
    | 10, _ => exact OO10
    | 11, _ => exact OO11
    | 12, _ => exact OO12
    | 13, _ => exact OO13
    | 14, _ => exact OO14
    | 15, _ => exact OO15
    | 16, _ => exact OO16
    | 17, _ => exact OO17
    | 18, _ => exact OO18
    | 19, _ => exact OO19
    | 20, _ => exact OO20
    | 21, _ => exact OO21
    | 22, _ => exact OO22
    | 23, _ => exact OO23
    | 24, _ => exact OO24
    | 25, _ => exact OO25
    | 26, _ => exact OO26
    | 27, _ => exact OO27
    | 28, _ => exact OO28
    | 29, _ => exact OO29
    | 30, _ => exact OO30
    | 31, _ => exact OO31
    | 32, _ => exact OO32
    | 33, _ => exact OO33
    | 34, _ => exact OO34
    | n + 35, h => exact absurd h (by omega)
  obtain ⟨n, o, h1, h2, h3, _, L, rfl, ⟨rfl, N⟩, hq⟩ := rm0 l s _ hw tables_1 i0 s.heap s.heap.size cc HS HE HO p e ha hc hk s m _ below hf ((Spec.applies_iff_loose hf).mp happ).1 ⟨rfl, State.Warmed39.refl s, rfl⟩ trivial
  refine ⟨n, _, h1, h2, h3, hpost _ _ _ _ _ _ ⟨Cond.after_iff.mpr rfl, Cond.after_iff.mpr (eq_i res_at (Term.int_eval (1)) rfl), trivial⟩ ⟨hq.1, hq.2.1, (hq.2.2.sift fun y hy => Or.inr (N y hy)).mono (by decide) (by decide)⟩⟩
theorem main_1_1 : Claimed_1_1 := comes_1 fun _ _ _ _ _ _ h hF => ⟨h.1, hF⟩
theorem main_1_2 : Claimed_1_2 := comes_1 fun _ _ _ _ _ _ h hF => ⟨h.2.1, hF⟩
end Jvm.Pilot.@@N@@
namespace Jvm.Pilot.@@N@@
open Jvm Jvm.ClassFile Sem Op Lib Jvm.Free Jvm.Stand Jvm.Pilot.@@N@@.Jvm.D
/-! MADE BY PROGRAM (witnessworld.py) out of the Statement's table words and the real class files: 12 classes; the members and pool entries that the words name. The judged class is class 1, her method 2. -/
namespace start1
open Jvm.ClassFile
def u (s : String) : CpInfo := .utf8 (stringToUtf16 s)
/-- a pool by its gaps: so many unusable entries, then the entry; so many at the end -/
def gap : Nat → List CpInfo → List CpInfo
  | 0, r => r
  | n + 1, r => .unusable :: gap n r
def poolList (es : List (Nat × CpInfo)) (last : Nat) : List CpInfo := es.foldr (fun e r => gap e.1 (e.2 :: r)) (gap last [])
def pool (es : List (Nat × CpInfo)) (last : Nat) : Array CpInfo := ⟨poolList es last⟩
def fileOf (pool : Array CpInfo) (this : Nat) (attrs : Array Attribute := #[]) (ms : Array MethodInfo := #[]) (fl : Nat := 33) (sup : Nat := 0) (ifs : Array Nat := #[]) (fds : Array FieldInfo := #[]) : ClassFile where
  minorVersion := 0
  majorVersion := 65
  constantPool := pool
  accessFlags := fl
  thisClass := this
  superClass := sup
  interfaces := ifs
  fields := fds
  methods := ms
  attributes := attrs
def plain (name : String) (sup : Option ClassId) : Class where
  name := name
  kind := .ordinary
  loader := none
  accessFlags := 33
  super := sup
  interfaces := #[]
  cf := none
  fields := #[]
  methods := #[]
  instanceTypes := #[]
  staticTypes := #[]
  resolved := #[]
  callSites := []
  init := .initialized
  statics := none
  mirror := none

def pool0 : Array CpInfo := pool [(5, u "<init>"), (0, u "()V"), (1, .class_ 10), (1, u "java/lang/Object")] 113

def k0m0 : Method := { name := "<init>", desc := "()V", sig := { parameters := [], returnType := none }, accessFlags := 1, code := none }
/-- java/lang/Object -/
def k0 : Class := { plain "java/lang/Object" none with
  accessFlags := 33
  interfaces := #[]
  cf := some (fileOf pool0 8 #[] #[{ accessFlags := 1, nameIndex := 5, descriptorIndex := 6, attributes := #[] }] 33 0 #[] #[])
  fields := #[]
  methods := #[k0m0]
  instanceTypes := #[]
  staticTypes := #[]
  resolved := Array.replicate 124 none
  statics := none }

def pool1 : Array CpInfo := pool [(2, .class_ 4), (1, u "java/lang/Object"), (0, u "<init>"), (0, u "()V"), (0, .fieldref 8 9), (0, .class_ 10), (0, .nameAndType 11 12), (0, u "com/example/quayside/quayside/http/ErrorCode"), (0, u "BAD_REQUEST"), (0, u "Lcom/example/quayside/quayside/http/ErrorCode;"), (0, .fieldref 8 14), (0, .nameAndType 15 12), (0, u "VALIDATION_ERROR"), (0, .fieldref 8 17), (0, .nameAndType 18 12), (0, u "INVALID_SEARCH_PERIOD"), (0, .fieldref 8 20), (0, .nameAndType 21 12), (0, u "IDEMPOTENCY_KEY_MISSING"), (0, .fieldref 8 23), (0, .nameAndType 24 12), (0, u "CREDENTIAL_EXPIRED_OR_REPLAYED"), (0, .fieldref 8 26), (0, .nameAndType 27 12), (0, u "OTP_INVALID"), (0, .fieldref 8 29), (0, .nameAndType 30 12), (0, u "OTP_EXPIRED"), (0, .fieldref 8 32), (0, .nameAndType 33 12), (0, u "UNAUTHENTICATED"), (0, .fieldref 8 35), (0, .nameAndType 36 12), (0, u "INSUFFICIENT_FUNDS"), (0, .fieldref 8 38), (0, .nameAndType 39 12), (0, u "MERCHANT_SUSPENDED"), (0, .fieldref 8 41), (0, .nameAndType 42 12), (0, u "NOT_FOUND"), (0, .fieldref 8 44), (0, .nameAndType 45 12), (0, u "METHOD_NOT_ALLOWED"), (0, .fieldref 8 47), (0, .nameAndType 48 12), (0, u "WALLET_EXISTS"), (0, .fieldref 8 50), (0, .nameAndType 51 12), (0, u "PHONE_IN_USE"), (0, .fieldref 8 53), (0, .nameAndType 54 12), (0, u "TOO_MANY_API_KEYS"), (0, .fieldref 8 56), (0, .nameAndType 57 12), (0, u "GRANT_EXPIRED"), (0, .fieldref 8 59), (0, .nameAndType 60 12), (0, u "PAYMENT_NOT_AUTHORIZED"), (0, .fieldref 8 62), (0, .nameAndType 63 12), (0, u "PAYMENT_NOT_COMPLETED"), (0, .fieldref 8 65), (0, .nameAndType 66 12), (0, u "WEBHOOK_EVENT_PENDING"), (0, .fieldref 8 68), (0, .nameAndType 69 12), (0, u "IDEMPOTENCY_KEY_IN_USE"), (0, .fieldref 8 71), (0, .nameAndType 72 12), (0, u "PAYLOAD_TOO_LARGE"), (0, .fieldref 8 74), (0, .nameAndType 75 12), (0, u "URI_TOO_LONG"), (0, .fieldref 8 77), (0, .nameAndType 78 12), (0, u "EXPECTATION_FAILED"), (0, .fieldref 8 80), (0, .nameAndType 81 12), (0, u "IDEMPOTENCY_KEY_REUSED"), (0, .fieldref 8 83), (0, .nameAndType 84 12), (0, u "BALANCE_LIMIT_EXCEEDED"), (0, .fieldref 8 86), (0, .nameAndType 87 12), (0, u "CREDENTIAL_TYPE_UNSUPPORTED"), (0, .fieldref 8 89), (0, .nameAndType 90 12), (0, u "CURRENCY_MISMATCH"), (0, .fieldref 8 92), (0, .nameAndType 93 12), (0, u "AMOUNT_OUT_OF_LIMITS"), (0, .fieldref 8 95), (0, .nameAndType 96 12), (0, u "DAILY_LIMIT_EXCEEDED"), (0, .fieldref 8 98), (0, .nameAndType 99 12), (0, u "AMOUNT_EXCEEDS_AUTHORIZED"), (0, .fieldref 8 101), (0, .nameAndType 102 12), (0, u "REFUND_EXCEEDS_PAYMENT"), (0, .fieldref 8 104), (0, .nameAndType 105 12), (0, u "RATE_LIMITED"), (0, .fieldref 8 107), (0, .nameAndType 108 12), (0, u "HEADERS_TOO_LARGE"), (0, .fieldref 8 110), (0, .nameAndType 111 12), (0, u "INTERNAL_ERROR"), (0, .fieldref 8 113), (0, .nameAndType 114 12), (0, u "UNAVAILABLE"), (0, .integer 2147483647), (0, .methodref 117 118), (0, .class_ 119), (0, .nameAndType 120 121), (0, u "com/example/quayside/quayside/http/ErrorCodeBindsKeyPinLaw"), (0, u "pick"), (0, u "(I)Lcom/example/quayside/quayside/http/ErrorCode;"), (0, .methodref 8 123), (0, .nameAndType 124 125), (0, u "bindsKey"), (0, u "()Z"), (3, u "law"), (0, u "(I)Z")] 2

def k1m0 : Method := { name := "<init>", desc := "()V", sig := { parameters := [], returnType := none }, accessFlags := 2, code := none }
def k1c1 : Code := { maxStack := 1, maxLocals := 1, code := method_2_code, exceptionTable := #[], attributes := #[] }
def k1m1 : Method := { name := "pick", desc := "(I)Lcom/example/quayside/quayside/http/ErrorCode;", sig := { parameters := [.int], returnType := some (.object "com/example/quayside/quayside/http/ErrorCode") }, accessFlags := 10, code := some k1c1 }
def k1c2 : Code := { maxStack := 2, maxLocals := 4, code := code, exceptionTable := #[], attributes := #[] }
def k1m2 : Method := { name := "law", desc := "(I)Z", sig := { parameters := [.int], returnType := some .boolean }, accessFlags := 9, code := some k1c2 }
/-- com/example/quayside/quayside/http/ErrorCodeBindsKeyPinLaw -/
def k1 : Class := { plain "com/example/quayside/quayside/http/ErrorCodeBindsKeyPinLaw" (some 0) with
  accessFlags := 49
  interfaces := #[]
  cf := some (fileOf pool1 117 #[] #[{ accessFlags := 2, nameIndex := 5, descriptorIndex := 6, attributes := #[] }, { accessFlags := 10, nameIndex := 120, descriptorIndex := 121, attributes := #[] }, { accessFlags := 9, nameIndex := 129, descriptorIndex := 130, attributes := #[] }] 49 2 #[] #[])
  fields := #[]
  methods := #[k1m0, k1m1, k1m2]
  instanceTypes := #[]
  staticTypes := #[]
  resolved := Array.replicate 133 none
  statics := none }

def pool2 : Array CpInfo := pool [(1, .class_ 2), (0, u "java/lang/constant/Constable"), (0, .class_ 4), (0, u "java/lang/Object")] 6

/-- java/lang/constant/Constable -/
def k2 : Class := { plain "java/lang/constant/Constable" (some 0) with
  accessFlags := 1537
  interfaces := #[]
  cf := some (fileOf pool2 1 #[] #[] 1537 3 #[] #[])
  fields := #[]
  methods := #[]
  instanceTypes := #[]
  staticTypes := #[]
  resolved := Array.replicate 11 none
  statics := none }

def pool3 : Array CpInfo := pool [(1, .class_ 2), (0, u "java/lang/Comparable"), (0, .class_ 4), (0, u "java/lang/Object")] 7

/-- java/lang/Comparable -/
def k3 : Class := { plain "java/lang/Comparable" (some 0) with
  accessFlags := 1537
  interfaces := #[]
  cf := some (fileOf pool3 1 #[] #[] 1537 3 #[] #[])
  fields := #[]
  methods := #[]
  instanceTypes := #[]
  staticTypes := #[]
  resolved := Array.replicate 12 none
  statics := none }

def pool4 : Array CpInfo := pool [(1, .class_ 2), (0, u "java/io/Serializable"), (0, .class_ 4), (0, u "java/lang/Object")] 2

/-- java/io/Serializable -/
def k4 : Class := { plain "java/io/Serializable" (some 0) with
  accessFlags := 1537
  interfaces := #[]
  cf := some (fileOf pool4 1 #[] #[] 1537 3 #[] #[])
  fields := #[]
  methods := #[]
  instanceTypes := #[]
  staticTypes := #[]
  resolved := Array.replicate 7 none
  statics := none }

def pool5 : Array CpInfo := pool [(2, .class_ 4), (1, u "java/lang/Enum"), (0, u "name"), (0, u "Ljava/lang/String;"), (2, u "ordinal"), (0, u "I"), (1, .class_ 14), (1, u "java/lang/Object"), (4, u "hash"), (86, .class_ 108), (1, u "java/lang/Enum$EnumDesc"), (2, .class_ 112), (0, u "java/lang/constant/Constable"), (0, .class_ 114), (0, u "java/lang/Comparable"), (0, .class_ 116), (0, u "java/io/Serializable")] 87

/-- java/lang/Enum -/
def k5 : Class := { plain "java/lang/Enum" (some 0) with
  accessFlags := 1057
  interfaces := #[2, 3, 4]
  cf := some (fileOf pool5 2 #[.nestMembers #[106]] #[] 1057 12 #[111, 113, 115] #[{ accessFlags := 18, nameIndex := 5, descriptorIndex := 6, attributes := #[] }, { accessFlags := 18, nameIndex := 9, descriptorIndex := 10, attributes := #[] }, { accessFlags := 2, nameIndex := 19, descriptorIndex := 10, attributes := #[] }])
  fields := #[{ name := "name", type := (.object "java/lang/String"), accessFlags := 18, slot := 0, constantValue := 0 }, { name := "ordinal", type := .int, accessFlags := 18, slot := 1, constantValue := 0 }, { name := "hash", type := .int, accessFlags := 2, slot := 2, constantValue := 0 }]
  methods := #[]
  instanceTypes := #[(.object "java/lang/String"), .int, .int]
  staticTypes := #[]
  resolved := Array.replicate 204 none
  statics := none }

def pool6 : Array CpInfo := pool [(1, .class_ 2), (0, u "com/example/quayside/quayside/http/ErrorCode"), (2, u "BAD_REQUEST"), (0, u "Lcom/example/quayside/quayside/http/ErrorCode;"), (0, .fieldref 1 8), (0, .nameAndType 9 6), (0, u "VALIDATION_ERROR"), (2, u "INVALID_SEARCH_PERIOD"), (2, u "IDEMPOTENCY_KEY_MISSING"), (2, u "CREDENTIAL_EXPIRED_OR_REPLAYED"), (2, u "OTP_INVALID"), (2, u "OTP_EXPIRED"), (2, u "UNAUTHENTICATED"), (2, u "INSUFFICIENT_FUNDS"), (2, u "MERCHANT_SUSPENDED"), (2, u "NOT_FOUND"), (2, u "METHOD_NOT_ALLOWED"), (2, u "WALLET_EXISTS"), (2, u "PHONE_IN_USE"), (2, u "TOO_MANY_API_KEYS"), (2, u "GRANT_EXPIRED"), (2, u "PAYMENT_NOT_AUTHORIZED"), (2, u "PAYMENT_NOT_COMPLETED"), (2, u "WEBHOOK_EVENT_PENDING"), (2, u "IDEMPOTENCY_KEY_IN_USE"), (2, u "PAYLOAD_TOO_LARGE"), (2, u "URI_TOO_LONG"), (2, u "EXPECTATION_FAILED"), (2, u "IDEMPOTENCY_KEY_REUSED"), (2, u "BALANCE_LIMIT_EXCEEDED"), (2, u "CREDENTIAL_TYPE_UNSUPPORTED"), (2, u "CURRENCY_MISMATCH"), (2, u "AMOUNT_OUT_OF_LIMITS"), (2, u "DAILY_LIMIT_EXCEEDED"), (2, u "AMOUNT_EXCEEDS_AUTHORIZED"), (2, u "REFUND_EXCEEDS_PAYMENT"), (0, .fieldref 1 98), (0, .nameAndType 99 6), (0, u "RATE_LIMITED"), (2, u "HEADERS_TOO_LARGE"), (2, u "INTERNAL_ERROR"), (2, u "UNAVAILABLE"), (2, u "$VALUES"), (0, u "[Lcom/example/quayside/quayside/http/ErrorCode;"), (6, .class_ 121), (1, u "java/lang/Enum"), (8, u "status"), (0, u "I"), (50, u "bindsKey"), (0, u "()Z")] 8

def k6c0 : Code := { maxStack := 2, maxLocals := 1, code := prog_25_method_5_code, exceptionTable := #[], attributes := #[] }
def k6m0 : Method := { name := "bindsKey", desc := "()Z", sig := { parameters := [], returnType := some .boolean }, accessFlags := 1, code := some k6c0 }
/-- com/example/quayside/quayside/http/ErrorCode -/
def k6 : Class := { plain "com/example/quayside/quayside/http/ErrorCode" (some 5) with
  accessFlags := 16433
  interfaces := #[]
  cf := some (fileOf pool6 1 #[] #[{ accessFlags := 1, nameIndex := 182, descriptorIndex := 183, attributes := #[] }] 16433 119 #[] #[{ accessFlags := 16409, nameIndex := 5, descriptorIndex := 6, attributes := #[] }, { accessFlags := 16409, nameIndex := 9, descriptorIndex := 6, attributes := #[] }, { accessFlags := 16409, nameIndex := 12, descriptorIndex := 6, attributes := #[] }, { accessFlags := 16409, nameIndex := 15, descriptorIndex := 6, attributes := #[] }, { accessFlags := 16409, nameIndex := 18, descriptorIndex := 6, attributes := #[] }, { accessFlags := 16409, nameIndex := 21, descriptorIndex := 6, attributes := #[] }, { accessFlags := 16409, nameIndex := 24, descriptorIndex := 6, attributes := #[] }, { accessFlags := 16409, nameIndex := 27, descriptorIndex := 6, attributes := #[] }, { accessFlags := 16409, nameIndex := 30, descriptorIndex := 6, attributes := #[] }, { accessFlags := 16409, nameIndex := 33, descriptorIndex := 6, attributes := #[] }, { accessFlags := 16409, nameIndex := 36, descriptorIndex := 6, attributes := #[] }, { accessFlags := 16409, nameIndex := 39, descriptorIndex := 6, attributes := #[] }, { accessFlags := 16409, nameIndex := 42, descriptorIndex := 6, attributes := #[] }, { accessFlags := 16409, nameIndex := 45, descriptorIndex := 6, attributes := #[] }, { accessFlags := 16409, nameIndex := 48, descriptorIndex := 6, attributes := #[] }, { accessFlags := 16409, nameIndex := 51, descriptorIndex := 6, attributes := #[] }, { accessFlags := 16409, nameIndex := 54, descriptorIndex := 6, attributes := #[] }, { accessFlags := 16409, nameIndex := 57, descriptorIndex := 6, attributes := #[] }, { accessFlags := 16409, nameIndex := 60, descriptorIndex := 6, attributes := #[] }, { accessFlags := 16409, nameIndex := 63, descriptorIndex := 6, attributes := #[] }, { accessFlags := 16409, nameIndex := 66, descriptorIndex := 6, attributes := #[] }, { accessFlags := 16409, nameIndex := 69, descriptorIndex := 6, attributes := #[] }, { accessFlags := 16409, nameIndex := 72, descriptorIndex := 6, attributes := #[] }, { accessFlags := 16409, nameIndex := 75, descriptorIndex := 6, attributes := #[] }, { accessFlags := 16409, nameIndex := 78, descriptorIndex := 6, attributes := #[] }, { accessFlags := 16409, nameIndex := 81, descriptorIndex := 6, attributes := #[] }, { accessFlags := 16409, nameIndex := 84, descriptorIndex := 6, attributes := #[] }, { accessFlags := 16409, nameIndex := 87, descriptorIndex := 6, attributes := #[] }, { accessFlags := 16409, nameIndex := 90, descriptorIndex := 6, attributes := #[] }, { accessFlags := 16409, nameIndex := 93, descriptorIndex := 6, attributes := #[] }, { accessFlags := 16409, nameIndex := 96, descriptorIndex := 6, attributes := #[] }, { accessFlags := 16409, nameIndex := 99, descriptorIndex := 6, attributes := #[] }, { accessFlags := 16409, nameIndex := 102, descriptorIndex := 6, attributes := #[] }, { accessFlags := 16409, nameIndex := 105, descriptorIndex := 6, attributes := #[] }, { accessFlags := 16409, nameIndex := 108, descriptorIndex := 6, attributes := #[] }, { accessFlags := 18, nameIndex := 130, descriptorIndex := 131, attributes := #[] }, { accessFlags := 4122, nameIndex := 111, descriptorIndex := 112, attributes := #[] }])
  fields := #[{ name := "BAD_REQUEST", type := (.object "com/example/quayside/quayside/http/ErrorCode"), accessFlags := 16409, slot := 0, constantValue := 0 }, { name := "VALIDATION_ERROR", type := (.object "com/example/quayside/quayside/http/ErrorCode"), accessFlags := 16409, slot := 1, constantValue := 0 }, { name := "INVALID_SEARCH_PERIOD", type := (.object "com/example/quayside/quayside/http/ErrorCode"), accessFlags := 16409, slot := 2, constantValue := 0 }, { name := "IDEMPOTENCY_KEY_MISSING", type := (.object "com/example/quayside/quayside/http/ErrorCode"), accessFlags := 16409, slot := 3, constantValue := 0 }, { name := "CREDENTIAL_EXPIRED_OR_REPLAYED", type := (.object "com/example/quayside/quayside/http/ErrorCode"), accessFlags := 16409, slot := 4, constantValue := 0 }, { name := "OTP_INVALID", type := (.object "com/example/quayside/quayside/http/ErrorCode"), accessFlags := 16409, slot := 5, constantValue := 0 }, { name := "OTP_EXPIRED", type := (.object "com/example/quayside/quayside/http/ErrorCode"), accessFlags := 16409, slot := 6, constantValue := 0 }, { name := "UNAUTHENTICATED", type := (.object "com/example/quayside/quayside/http/ErrorCode"), accessFlags := 16409, slot := 7, constantValue := 0 }, { name := "INSUFFICIENT_FUNDS", type := (.object "com/example/quayside/quayside/http/ErrorCode"), accessFlags := 16409, slot := 8, constantValue := 0 }, { name := "MERCHANT_SUSPENDED", type := (.object "com/example/quayside/quayside/http/ErrorCode"), accessFlags := 16409, slot := 9, constantValue := 0 }, { name := "NOT_FOUND", type := (.object "com/example/quayside/quayside/http/ErrorCode"), accessFlags := 16409, slot := 10, constantValue := 0 }, { name := "METHOD_NOT_ALLOWED", type := (.object "com/example/quayside/quayside/http/ErrorCode"), accessFlags := 16409, slot := 11, constantValue := 0 }, { name := "WALLET_EXISTS", type := (.object "com/example/quayside/quayside/http/ErrorCode"), accessFlags := 16409, slot := 12, constantValue := 0 }, { name := "PHONE_IN_USE", type := (.object "com/example/quayside/quayside/http/ErrorCode"), accessFlags := 16409, slot := 13, constantValue := 0 }, { name := "TOO_MANY_API_KEYS", type := (.object "com/example/quayside/quayside/http/ErrorCode"), accessFlags := 16409, slot := 14, constantValue := 0 }, { name := "GRANT_EXPIRED", type := (.object "com/example/quayside/quayside/http/ErrorCode"), accessFlags := 16409, slot := 15, constantValue := 0 }, { name := "PAYMENT_NOT_AUTHORIZED", type := (.object "com/example/quayside/quayside/http/ErrorCode"), accessFlags := 16409, slot := 16, constantValue := 0 }, { name := "PAYMENT_NOT_COMPLETED", type := (.object "com/example/quayside/quayside/http/ErrorCode"), accessFlags := 16409, slot := 17, constantValue := 0 }, { name := "WEBHOOK_EVENT_PENDING", type := (.object "com/example/quayside/quayside/http/ErrorCode"), accessFlags := 16409, slot := 18, constantValue := 0 }, { name := "IDEMPOTENCY_KEY_IN_USE", type := (.object "com/example/quayside/quayside/http/ErrorCode"), accessFlags := 16409, slot := 19, constantValue := 0 }, { name := "PAYLOAD_TOO_LARGE", type := (.object "com/example/quayside/quayside/http/ErrorCode"), accessFlags := 16409, slot := 20, constantValue := 0 }, { name := "URI_TOO_LONG", type := (.object "com/example/quayside/quayside/http/ErrorCode"), accessFlags := 16409, slot := 21, constantValue := 0 }, { name := "EXPECTATION_FAILED", type := (.object "com/example/quayside/quayside/http/ErrorCode"), accessFlags := 16409, slot := 22, constantValue := 0 }, { name := "IDEMPOTENCY_KEY_REUSED", type := (.object "com/example/quayside/quayside/http/ErrorCode"), accessFlags := 16409, slot := 23, constantValue := 0 }, { name := "BALANCE_LIMIT_EXCEEDED", type := (.object "com/example/quayside/quayside/http/ErrorCode"), accessFlags := 16409, slot := 24, constantValue := 0 }, { name := "CREDENTIAL_TYPE_UNSUPPORTED", type := (.object "com/example/quayside/quayside/http/ErrorCode"), accessFlags := 16409, slot := 25, constantValue := 0 }, { name := "CURRENCY_MISMATCH", type := (.object "com/example/quayside/quayside/http/ErrorCode"), accessFlags := 16409, slot := 26, constantValue := 0 }, { name := "AMOUNT_OUT_OF_LIMITS", type := (.object "com/example/quayside/quayside/http/ErrorCode"), accessFlags := 16409, slot := 27, constantValue := 0 }, { name := "DAILY_LIMIT_EXCEEDED", type := (.object "com/example/quayside/quayside/http/ErrorCode"), accessFlags := 16409, slot := 28, constantValue := 0 }, { name := "AMOUNT_EXCEEDS_AUTHORIZED", type := (.object "com/example/quayside/quayside/http/ErrorCode"), accessFlags := 16409, slot := 29, constantValue := 0 }, { name := "REFUND_EXCEEDS_PAYMENT", type := (.object "com/example/quayside/quayside/http/ErrorCode"), accessFlags := 16409, slot := 30, constantValue := 0 }, { name := "RATE_LIMITED", type := (.object "com/example/quayside/quayside/http/ErrorCode"), accessFlags := 16409, slot := 31, constantValue := 0 }, { name := "HEADERS_TOO_LARGE", type := (.object "com/example/quayside/quayside/http/ErrorCode"), accessFlags := 16409, slot := 32, constantValue := 0 }, { name := "INTERNAL_ERROR", type := (.object "com/example/quayside/quayside/http/ErrorCode"), accessFlags := 16409, slot := 33, constantValue := 0 }, { name := "UNAVAILABLE", type := (.object "com/example/quayside/quayside/http/ErrorCode"), accessFlags := 16409, slot := 34, constantValue := 0 }, { name := "status", type := .int, accessFlags := 18, slot := 3, constantValue := 0 }, { name := "$VALUES", type := (.array (.object "com/example/quayside/quayside/http/ErrorCode")), accessFlags := 4122, slot := 35, constantValue := 0 }]
  methods := #[k6m0]
  instanceTypes := #[(.object "java/lang/String"), .int, .int, .int]
  staticTypes := #[(.object "com/example/quayside/quayside/http/ErrorCode"), (.object "com/example/quayside/quayside/http/ErrorCode"), (.object "com/example/quayside/quayside/http/ErrorCode"), (.object "com/example/quayside/quayside/http/ErrorCode"), (.object "com/example/quayside/quayside/http/ErrorCode"), (.object "com/example/quayside/quayside/http/ErrorCode"), (.object "com/example/quayside/quayside/http/ErrorCode"), (.object "com/example/quayside/quayside/http/ErrorCode"), (.object "com/example/quayside/quayside/http/ErrorCode"), (.object "com/example/quayside/quayside/http/ErrorCode"), (.object "com/example/quayside/quayside/http/ErrorCode"), (.object "com/example/quayside/quayside/http/ErrorCode"), (.object "com/example/quayside/quayside/http/ErrorCode"), (.object "com/example/quayside/quayside/http/ErrorCode"), (.object "com/example/quayside/quayside/http/ErrorCode"), (.object "com/example/quayside/quayside/http/ErrorCode"), (.object "com/example/quayside/quayside/http/ErrorCode"), (.object "com/example/quayside/quayside/http/ErrorCode"), (.object "com/example/quayside/quayside/http/ErrorCode"), (.object "com/example/quayside/quayside/http/ErrorCode"), (.object "com/example/quayside/quayside/http/ErrorCode"), (.object "com/example/quayside/quayside/http/ErrorCode"), (.object "com/example/quayside/quayside/http/ErrorCode"), (.object "com/example/quayside/quayside/http/ErrorCode"), (.object "com/example/quayside/quayside/http/ErrorCode"), (.object "com/example/quayside/quayside/http/ErrorCode"), (.object "com/example/quayside/quayside/http/ErrorCode"), (.object "com/example/quayside/quayside/http/ErrorCode"), (.object "com/example/quayside/quayside/http/ErrorCode"), (.object "com/example/quayside/quayside/http/ErrorCode"), (.object "com/example/quayside/quayside/http/ErrorCode"), (.object "com/example/quayside/quayside/http/ErrorCode"), (.object "com/example/quayside/quayside/http/ErrorCode"), (.object "com/example/quayside/quayside/http/ErrorCode"), (.object "com/example/quayside/quayside/http/ErrorCode"), (.array (.object "com/example/quayside/quayside/http/ErrorCode"))]
  resolved := Array.replicate 192 none
  statics := some 0 }

def pool7 : Array CpInfo := pool [(1, u "java/lang/Cloneable"), (0, .class_ 1), (0, u "java/lang/Object"), (0, .class_ 3)] 3

/-- java/lang/Cloneable -/
def k7 : Class := { plain "java/lang/Cloneable" (some 0) with
  accessFlags := 1537
  interfaces := #[]
  cf := some (fileOf pool7 2 #[] #[] 1537 4 #[] #[])
  fields := #[]
  methods := #[]
  instanceTypes := #[]
  staticTypes := #[]
  resolved := Array.replicate 8 none
  statics := none }

/-- the primitive byte -/
def k8 : Class := { plain "byte" none with kind := .primitive 'B', accessFlags := 0x411 }
/-- [B -/
def k9 : Class := { plain "[B" (some 0) with kind := .array 8 .byte, interfaces := #[7, 4], accessFlags := 1041 }

/-- the primitive int -/
def k10 : Class := { plain "int" none with kind := .primitive 'I', accessFlags := 0x411 }
/-- [I -/
def k11 : Class := { plain "[I" (some 0) with kind := .array 10 .int, interfaces := #[7, 4], accessFlags := 1041 }

def heap : Heap := #[{ cls := 6, slots := #[.ref 1, .ref 2, .ref 3, .ref 4, .ref 5, .ref 6, .ref 7, .ref 8, .ref 9, .ref 10, .ref 11, .ref 12, .ref 13, .ref 14, .ref 15, .ref 16, .ref 17, .ref 18, .ref 19, .ref 20, .ref 21, .ref 22, .ref 23, .ref 24, .ref 25, .ref 26, .ref 27, .ref 28, .ref 29, .ref 30, .ref 31, .ref 32, .ref 33, .ref 34, .ref 35, .null], vm := .statics 6 },
  { cls := 6, slots := #[.null, .int 0, .int 0, .int 400], vm := .none },
  { cls := 6, slots := #[.null, .int 1, .int 0, .int 400], vm := .none },
  { cls := 6, slots := #[.null, .int 2, .int 0, .int 400], vm := .none },
  { cls := 6, slots := #[.null, .int 3, .int 0, .int 400], vm := .none },
  { cls := 6, slots := #[.null, .int 4, .int 0, .int 400], vm := .none },
  { cls := 6, slots := #[.null, .int 5, .int 0, .int 400], vm := .none },
  { cls := 6, slots := #[.null, .int 6, .int 0, .int 400], vm := .none },
  { cls := 6, slots := #[.null, .int 7, .int 0, .int 400], vm := .none },
  { cls := 6, slots := #[.null, .int 8, .int 0, .int 400], vm := .none },
  { cls := 6, slots := #[.null, .int 9, .int 0, .int 400], vm := .none },
  { cls := 6, slots := #[.null, .int 10, .int 0, .int 400], vm := .none },
  { cls := 6, slots := #[.null, .int 11, .int 0, .int 400], vm := .none },
  { cls := 6, slots := #[.null, .int 12, .int 0, .int 400], vm := .none },
  { cls := 6, slots := #[.null, .int 13, .int 0, .int 400], vm := .none },
  { cls := 6, slots := #[.null, .int 14, .int 0, .int 400], vm := .none },
  { cls := 6, slots := #[.null, .int 15, .int 0, .int 400], vm := .none },
  { cls := 6, slots := #[.null, .int 16, .int 0, .int 400], vm := .none },
  { cls := 6, slots := #[.null, .int 17, .int 0, .int 400], vm := .none },
  { cls := 6, slots := #[.null, .int 18, .int 0, .int 400], vm := .none },
  { cls := 6, slots := #[.null, .int 19, .int 0, .int 400], vm := .none },
  { cls := 6, slots := #[.null, .int 20, .int 0, .int 400], vm := .none },
  { cls := 6, slots := #[.null, .int 21, .int 0, .int 400], vm := .none },
  { cls := 6, slots := #[.null, .int 22, .int 0, .int 400], vm := .none },
  { cls := 6, slots := #[.null, .int 23, .int 0, .int 400], vm := .none },
  { cls := 6, slots := #[.null, .int 24, .int 0, .int 400], vm := .none },
  { cls := 6, slots := #[.null, .int 25, .int 0, .int 400], vm := .none },
  { cls := 6, slots := #[.null, .int 26, .int 0, .int 400], vm := .none },
  { cls := 6, slots := #[.null, .int 27, .int 0, .int 400], vm := .none },
  { cls := 6, slots := #[.null, .int 28, .int 0, .int 400], vm := .none },
  { cls := 6, slots := #[.null, .int 29, .int 0, .int 400], vm := .none },
  { cls := 6, slots := #[.null, .int 30, .int 0, .int 400], vm := .none },
  { cls := 6, slots := #[.null, .int 31, .int 0, .int 400], vm := .none },
  { cls := 6, slots := #[.null, .int 32, .int 0, .int 400], vm := .none },
  { cls := 6, slots := #[.null, .int 33, .int 0, .int 400], vm := .none },
  { cls := 6, slots := #[.null, .int 34, .int 0, .int 400], vm := .none }]
def classes : Array Class := #[k0, k1, k2, k3, k4, k5, k6, k7, k8, k9, k10, k11]
def interned : List (Array UInt16 × Addr) := []
def slotsUsed : Nat := 176
def theMethod : MethodId := ⟨1, 2⟩
def args0 : Array Value := #[.int 5]
def aboutOver (below : List Frame) : State where
  vm := { classes := classes, interned := interned.toArray }
  heap := heap
  slotsUsed := slotsUsed
  threads := #[{ frames := .invoking theMethod args0 :: below }]
def below0 : List Frame := [.native { method := ⟨0, 0⟩, args := #[] }]
def about1 : State := aboutOver below0
def p0 : Program := .bare "" "" ""
def e0 : Env := launch0.env 0 0 0
theorem w_frames : about1.frames = Frame.invoking theMethod args0 :: below0 := rfl
set_option maxRecDepth 65536 in
theorem w_args : argsFit about1.vm theMethod args0 = true := by decide +kernel
set_option maxRecDepth 65536 in
theorem w_heap : heapFits about1 = true := by decide +kernel
set_option maxRecDepth 65536 in
theorem w_runnable : about1.curStatus? = some .runnable := by decide +kernel
set_option maxRecDepth 65536 in
theorem w_alone : about1.alone = true := by decide +kernel
set_option maxRecDepth 65536 in
theorem w_named : about1.methodNamed? x = some theMethod := by decide +kernel
set_option maxRecDepth 65536 in
theorem w_hears : about1.hears theMethod below0 = true := by decide +kernel
set_option maxRecDepth 65536 in
theorem w_ripe : about1.ripe theMethod args0 below0 = true := by decide +kernel
theorem w_running : about1.status = .running := rfl
set_option maxRecDepth 65536 in
theorem w_room : about1.hasRoom e0.platform room_1 = true :=
  launch0.hasRoom_least _ room_1 (by decide +kernel) (by decide +kernel) (by decide +kernel) (by decide +kernel) (by decide +kernel) (by decide +kernel)
theorem allAtoms_all (ts : List Jvm.Cond) (a : Array Jvm.Value) (st : Jvm.State) : (allAtoms ts).before a st = ts.all (fun c => c.before a st) := by
  induction ts with
  | nil => rfl
  | cons c t ih =>
    show (Jvm.Cond.and c (allAtoms t)).before a st = _
    rw [Jvm.Cond.before_and, ih, List.all_cons]
def words1 : List Jvm.Cond := Jvm.Cond.code x code maxLocals ret :: tables_1
/-- a 'code' word, met by the world's own term for the bytes: nothing is compared byte by byte -/
theorem code_word {y : MethodName} {bytes : ByteArray} {mx : Nat} {rt : Option FieldType} {a : Array Value} {s : State} {m : MethodId} {meth : Method} {c : Code} (h1 : s.methodNamed? y = some m) (h2 : s.vm.method? m = some meth) (h3 : meth.code = some c) (h4 : c.code = bytes)
    (h5 : (c.maxLocals == mx && c.exceptionTable.isEmpty && decide (c.maxStack ≤ mostOperands) && decide (meth.sig.returnType = rt) && !meth.locks && decide (parseMethodDescriptor y.desc = some meth.sig)) = true) : (Jvm.Cond.code y bytes mx rt).before a s = true := by
  simp only [Bool.and_eq_true, beq_iff_eq, Bool.not_eq_true', decide_eq_true_eq] at h5
  obtain ⟨⟨⟨⟨⟨g1, g2⟩, g3⟩, g4⟩, g5⟩, g6⟩ := h5
  simp [Cond.before, Cond.holds, Cond.value, h1, h2, h3, h4, g1, g2, g3, g4, g5, g6]
def isCode : Jvm.Cond → Bool
  | .code _ _ _ _ => true
  | _ => false
theorem all_split {L : List Jvm.Cond} {P : Jvm.Cond → Bool} (h1 : L.all (fun c => isCode c || P c) = true) (h2 : ∀ c ∈ L.filter isCode, P c = true) : L.all P = true := by
  refine List.all_eq_true.mpr fun c hc => ?_
  have h := List.all_eq_true.mp h1 c hc
  rcases Bool.eq_false_or_eq_true (isCode c) with hi | hi
  · exact h2 c (List.mem_filter.mpr ⟨hc, hi⟩)
  · simpa [hi] using h
set_option maxRecDepth 65536 in
theorem w_c0 : (Jvm.Cond.code x code maxLocals ret).before args0 about1 = true := code_word (m := ⟨1, 2⟩) (meth := k1m2) (c := k1c2) (by decide +kernel) rfl rfl rfl (by decide +kernel)
set_option maxRecDepth 65536 in
theorem w_c1 : (Jvm.Cond.code ({ cls := "com/example/quayside/quayside/http/ErrorCodeBindsKeyPinLaw", name := "pick", desc := "(I)Lcom/example/quayside/quayside/http/ErrorCode;" } : Jvm.MethodName) method_2_code (1 : Nat) (Option.some (Jvm.ClassFile.FieldType.object "com/example/quayside/quayside/http/ErrorCode"))).before args0 about1 = true := code_word (m := ⟨1, 1⟩) (meth := k1m1) (c := k1c1) (by decide +kernel) rfl rfl rfl (by decide +kernel)
set_option maxRecDepth 65536 in
theorem w_c2 : (Jvm.Cond.code ({ cls := "com/example/quayside/quayside/http/ErrorCode", name := "bindsKey", desc := "()Z" } : Jvm.MethodName) prog_25_method_5_code (1 : Nat) (Option.some Jvm.ClassFile.FieldType.boolean)).before args0 about1 = true := code_word (m := ⟨6, 0⟩) (meth := k6m0) (c := k6c0) (by decide +kernel) rfl rfl rfl (by decide +kernel)
def codes1 : List Jvm.Cond := [Jvm.Cond.code x code maxLocals ret, Jvm.Cond.code ({ cls := "com/example/quayside/quayside/http/ErrorCodeBindsKeyPinLaw", name := "pick", desc := "(I)Lcom/example/quayside/quayside/http/ErrorCode;" } : Jvm.MethodName) method_2_code (1 : Nat) (Option.some (Jvm.ClassFile.FieldType.object "com/example/quayside/quayside/http/ErrorCode")), Jvm.Cond.code ({ cls := "com/example/quayside/quayside/http/ErrorCode", name := "bindsKey", desc := "()Z" } : Jvm.MethodName) prog_25_method_5_code (1 : Nat) (Option.some Jvm.ClassFile.FieldType.boolean)]
set_option maxRecDepth 65536 in
theorem codes_eq : words1.filter isCode = codes1 := rfl
theorem w_codes : ∀ c ∈ words1.filter isCode, c.before args0 about1 = true := by
  rw [codes_eq]
  intro c hc
  simp only [codes1, List.mem_cons, List.not_mem_nil, or_false] at hc
  rcases hc with rfl | rfl | rfl
  · exact w_c0
  · exact w_c1
  · exact w_c2
set_option maxRecDepth 65536 in
theorem w_t1 : (words1.take 24).all (fun c => isCode c || c.before args0 about1) = true := by decide +kernel
set_option maxRecDepth 65536 in
theorem w_t2 : ((words1.drop 24).take 24).all (fun c => isCode c || c.before args0 about1) = true := by decide +kernel
set_option maxRecDepth 65536 in
theorem w_t3 : (((words1.drop 24).drop 24).take 24).all (fun c => isCode c || c.before args0 about1) = true := by decide +kernel
set_option maxRecDepth 65536 in
theorem w_t4 : (((words1.drop 24).drop 24).drop 24).all (fun c => isCode c || c.before args0 about1) = true := by decide +kernel
theorem w_tables : (allAtoms (Jvm.Cond.code x code maxLocals ret :: tables_1)).before args0 about1 = true := by
  rw [allAtoms_all]
  show words1.all (fun c => c.before args0 about1) = true
  refine all_split ?_ w_codes
  rw [← List.take_append_drop 24 words1, List.all_append, w_t1, ← List.take_append_drop 24 (words1.drop 24), List.all_append, w_t2, ← List.take_append_drop 24 ((words1.drop 24).drop 24), List.all_append, w_t3, w_t4]
  rfl
set_option maxRecDepth 65536 in
theorem w_case : (Jvm.Cond.and given_1 narrow_1).before args0 about1 = true := by decide +kernel
theorem w_applies : (headSpec (Jvm.Cond.code x code maxLocals ret :: tables_1) room_1).applies x e0.platform about1 = true :=
  (Spec.applies_iff w_frames).mpr ⟨w_running, w_runnable, w_alone, w_named, w_hears, w_ripe, w_room, w_tables⟩
theorem atStart : AtStart classFile x code maxLocals ret World_1 tables_1 room_1 Calls_1 rest_1 Pre_1 launch0 p0 e0 about1 theMethod args0 below0 :=
  ⟨lists_1, trivial, launch0.admits_env _ _ _, launch0.least_env, fairChoices_fair.cas, fairChoices_fair.clock, w_frames, w_args, w_heap, w_applies, trivial, trivial, w_case⟩
end start1
theorem witness_1 : WitnessClaimed_1 := ⟨start1.p0, start1.e0, start1.about1, start1.theMethod, start1.args0, start1.below0, start1.atStart⟩
end Jvm.Pilot.@@N@@
