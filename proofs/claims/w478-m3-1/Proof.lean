import JvmDerived
import JvmDerived.Pilot.@@N@@Statement
import JvmDerived.Pilot.@@N@@Code
set_option linter.unusedVariables false
set_option linter.unusedSimpArgs false
namespace Jvm.Pilot.@@N@@
open Jvm Jvm.ClassFile Sem Op Lib Jvm.Free Jvm.Stand Jvm.LawKit Jvm.RoadKit Bundle Jvm.Pilot.@@N@@.Jvm.D
section Own
variable {p : Program} {l : Launch} {e : Env} {R : Room} {s : State} {m : MethodId} {args : Array Value} {below : List Frame} {meth : Method} {c : Code} {T : State} {locs : List Loc} {cells slots : Nat} {Z : State} {a0 : Array Value} {h : Heap} {P : State → Outcome → Prop} {pc : Nat} {Ls : Array Slot} {rest st : List Value}
/-- from T, with f on top, the run comes to an end of which P holds -/
def own_Go (p : Program) (e : Env) (below : List Frame) (P : State → Outcome → Prop) (T : State) (f : JFrame) : Prop :=
  ∃ t o, Steps p.tables e below (T.setTop f) t ∧ t.status = .running ∧ Ended t below o ∧ P t o
theorem own_by {T' : State} {f f' : JFrame} (st : ∀ t, Steps p.tables e below (T'.setTop f') t → Steps p.tables e below (T.setTop f) t) (k : own_Go p e below P T' f') : own_Go p e below P T f := by
  obtain ⟨t, o, h1, h2⟩ := k
  exact ⟨t, o, st _ h1, h2⟩
/-- a method's end: what it returns, the heap, what it wrote -/
def own_Ends (s : State) (rm : Room) (Q : Option Value → Heap → List Loc → Prop) (t : State) (o : Outcome) : Prop := ∃ v L, o = .returned v ∧ Q v t.heap L ∧ FrameEnd s o t L rm.cells rm.slots
/-- a body's contract, at one list of arguments and one heap -/
def own_Ct (l : Launch) (Z : State) (y : MethodName) (bytes : ByteArray) (mx : Nat) (rt : Option FieldType) (ws : List Jvm.Cond) (rm : Room) (as' : Array Value) (h0 : Heap) (Q : Option Value → Heap → List Loc → Prop) : Prop :=
  MetFree l y (head1 (Jvm.Cond.code y bytes mx rt :: ws) rm) (fun a U => a = as' ∧ Z.Warmed39 U.vm ∧ U.heap = h0) (fun _ _ _ _ _ => True) (fun _ U o U' => own_Ends U rm Q U' o)
theorem own_of {y : MethodName} {bytes : ByteArray} {mx : Nat} {rt : Option FieldType} {ws : List Jvm.Cond} {rm : Room} {as' : Array Value} {h0 : Heap} {Q : Option Value → Heap → List Loc → Prop} (hpl : plainName y.cls = true)
    (body : ∀ (p : Program) (e : Env) (s : State) (m : MethodId) (below : List Frame) (meth : Method) (c : Code) (s₁ : State), p.tables.exec = Jvm.exec → c.code = bytes → c.maxLocals = mx → s.vm.findClass y.cls = some m.cls → meth.name = y.name → meth.sig.returnType = rt → meth.locks = false → Z.Warmed39 s.vm →
      Stand p l e rm s m as' below meth c s₁ [] 0 0 → s₁.heap = h0 → own_Go p e below (own_Ends s rm Q) s₁ (entryFrame m as' mx)) : own_Ct l Z y bytes mx rt ws rm as' h0 Q := by
  refine MetFree.of_bodySF (plainFor_of_name hpl) hisR ?_
  intro p e s m args below meth c s₁ Bd hml hP hK
  obtain ⟨rfl, hZ, hh⟩ := hP
  exact body p e s m below meth c s₁ Bd.exec Bd.bytes hml (findClass_of_methodNamed Bd.named) (name_of_methodNamed Bd.named Bd.method).1 Bd.returns Bd.notSynchronized hZ (Stand.of_body Bd) (by rw [← hh, Bd.state]; rfl)
theorem own_ret {rm : Room} {Q : Option Value → Heap → List Loc → Prop} {t : FieldType} {w : Value} {i : Instr} (X : Stand p l e R s m args below meth c T locs cells slots) (hx : p.tables.exec = Jvm.exec) (hret : meth.sig.returnType = some t) (hlk : meth.locks = false) (hd : decode c.code pc = .ok (i, 1)) (hn : narrow t w = w)
    (hi : (i = .ireturn ∧ (t = .int ∨ t = .boolean ∨ t = .byte ∨ t = .char ∨ t = .short) ∧ ∃ z, w = .int z) ∨ (i = .lreturn ∧ t = .long ∧ ∃ z, w = .long z) ∨ (i = .dreturn ∧ t = .double ∧ ∃ z, w = .double z) ∨ (i = .freturn ∧ t = .float ∧ ∃ z, w = .float z) ∨ (i = .areturn ∧ t.isReference = true ∧ w.isRef = true))
    (hc : cells ≤ rm.cells) (hs : slots ≤ rm.slots) (hq : Q (some w) T.heap locs) : own_Go p e below (own_Ends s rm Q) T (mkF m pc Ls (w :: rest)) := by
  obtain ⟨fs, hr, hrun, hended, hW, hsame⟩ := X.leave (v := some w) (fun h => by rw [hret] at h; cases h) hlk
  exact ⟨_, _, retOut X hx hret hn hi hd hr, hrun, hended, _, _, rfl, hq, ⟨_, rfl⟩, hW, hsame.mono hc hs⟩
theorem own_retI {rm : Room} {Q : Option Value → Heap → List Loc → Prop} {w : Int32} (X : Stand p l e R s m args below meth c T locs cells slots) (hx : p.tables.exec = Jvm.exec) (hret : meth.sig.returnType = some .int) (hlk : meth.locks = false) (hd : decode c.code pc = .ok (.ireturn, 1)) 
    (hc : cells ≤ rm.cells) (hs : slots ≤ rm.slots) (hq : Q (some (.int w)) T.heap locs) : own_Go p e below (own_Ends s rm Q) T (mkF m pc Ls (.int w :: rest)) :=
  own_ret X hx hret hlk hd rfl (Or.inl ⟨rfl, Or.inl rfl, _, rfl⟩) hc hs hq
theorem own_retZ {rm : Room} {Q : Option Value → Heap → List Loc → Prop} {w : Int32} (X : Stand p l e R s m args below meth c T locs cells slots) (hx : p.tables.exec = Jvm.exec) (hret : meth.sig.returnType = some .boolean) (hlk : meth.locks = false) (hd : decode c.code pc = .ok (.ireturn, 1)) (hw : w = 0 ∨ w = 1)
    (hc : cells ≤ rm.cells) (hs : slots ≤ rm.slots) (hq : Q (some (.int w)) T.heap locs) : own_Go p e below (own_Ends s rm Q) T (mkF m pc Ls (.int w :: rest)) :=
  own_ret X hx hret hlk hd (by rcases hw with rfl | rfl <;> rfl) (Or.inl ⟨rfl, Or.inr (Or.inl rfl), _, rfl⟩) hc hs hq
theorem own_retJ {rm : Room} {Q : Option Value → Heap → List Loc → Prop} {w : Int64} (X : Stand p l e R s m args below meth c T locs cells slots) (hx : p.tables.exec = Jvm.exec) (hret : meth.sig.returnType = some .long) (hlk : meth.locks = false) (hd : decode c.code pc = .ok (.lreturn, 1)) 
    (hc : cells ≤ rm.cells) (hs : slots ≤ rm.slots) (hq : Q (some (.long w)) T.heap locs) : own_Go p e below (own_Ends s rm Q) T (mkF m pc Ls (.long w :: rest)) :=
  own_ret X hx hret hlk hd rfl (Or.inr (Or.inl ⟨rfl, rfl, _, rfl⟩)) hc hs hq
theorem own_retA {rm : Room} {Q : Option Value → Heap → List Loc → Prop} {w : Value} {t : FieldType} (X : Stand p l e R s m args below meth c T locs cells slots) (hx : p.tables.exec = Jvm.exec) (hret : meth.sig.returnType = some t) (hlk : meth.locks = false) (hd : decode c.code pc = .ok (.areturn, 1)) (ht : t.isReference = true) (hn : narrow t w = w) (hw : w.isRef = true)
    (hc : cells ≤ rm.cells) (hs : slots ≤ rm.slots) (hq : Q (some w) T.heap locs) : own_Go p e below (own_Ends s rm Q) T (mkF m pc Ls (w :: rest)) :=
  own_ret X hx hret hlk hd hn (Or.inr (Or.inr (Or.inr (Or.inr ⟨rfl, ht, hw⟩)))) hc hs hq
theorem own_retV {rm : Room} {Q : Option Value → Heap → List Loc → Prop} (X : Stand p l e R s m args below meth c T locs cells slots) (hx : p.tables.exec = Jvm.exec) (hret : meth.sig.returnType = none) (hlk : meth.locks = false) (hd : decode c.code pc = .ok (.return_, 1))
    (hc : cells ≤ rm.cells) (hs : slots ≤ rm.slots) (hq : Q none T.heap locs) : own_Go p e below (own_Ends s rm Q) T (mkF m pc Ls []) := by
  obtain ⟨fs, hr, hrun, hended, hW, hsame⟩ := X.leave (v := none) (fun _ => rfl) hlk
  exact ⟨_, _, X.returnOut hx hret hd hr, hrun, hended, _, _, rfl, hq, ⟨_, rfl⟩, hW, hsame.mono hc hs⟩
abbrev own_K (p : Program) (l : Launch) (e : Env) (R : Room) (s : State) (m : MethodId) (args : Array Value) (below : List Frame) (meth : Method) (c : Code) (P : State → Outcome → Prop) (locs : List Loc) (cells slots : Nat) (rm : Room) (Q : Option Value → Heap → List Loc → Prop) (pc : Nat) (Ls : Array Slot) (rest : List Value) : Prop :=
  ∀ (T' : State) (v : Option Value) (L : List Loc), Stand p l e R s m args below meth c T' (locs ++ L) (cells + rm.cells) (slots + rm.slots) → Q v T'.heap L → own_Go p e below P T' (mkF m pc Ls (v.toList ++ rest))
theorem own_callS {own : String} {index : Nat} {y : MethodName} {bytes : ByteArray} {maxL : Nat} {ret : Option FieldType} {rm : Room} {Q : Option Value → Heap → List Loc → Prop} {ps : List FieldType} {r : Option FieldType} (X : Stand p l e R s m args below meth c T locs cells slots) (hx : p.tables.exec = Jvm.exec) (hZ : Z.Warmed39 s.vm) (hown : s.vm.findClass own = some m.cls) (eT : T.heap = h) (hd : decode c.code pc = .ok (.invokestatic index, 3))
    (argsL rest : List Value) (W : Nat) (C : own_Ct l Z y bytes maxL ret [] rm argsL.toArray h Q) (w1 : (Cond.methodLink own index y).before a0 Z = true) (w2 : (Cond.static y).before a0 Z = true) (w3 : (Cond.initialized y.cls).before a0 Z = true) (w4 : (Cond.code y bytes maxL ret).before a0 Z = true)
    (hy : y.cls ≠ "java/lang/invoke/MethodHandle" ∧ y.cls ≠ "java/lang/invoke/VarHandle") (hpd : parseMethodDescriptor y.desc = some ⟨ps, r⟩) (hsize : Ls.size = c.maxLocals) (hlen : argsL.length = ps.length) (hst : st = argsL.reverse ++ rest)
    (hW : (rest.map fun v => v.category).sum ≤ W) (hf : rm.frames + 1 ≤ R.frames) (hl : W + (maxL + 11) + rm.locals ≤ R.locals) (hc : cells + rm.cells ≤ R.cells) (hs : slots + rm.slots ≤ R.slots)
    (k : own_K p l e R s m args below meth c P locs cells slots rm Q (pc + 3) Ls rest) : own_Go p e below P T (mkF m pc Ls st) := by
  obtain ⟨v, _, ⟨T', L', k', n'⟩, -, X', ⟨Lc, hQ, l', y', z'⟩, stp⟩ := Jvm.LawKit.callS X hx (y := y) hown (mvT hZ w1) (mvT hZ w2) (mvT hZ w3) (mvT hZ w4) hy (backOf (W := W) (Q := Q) C hZ w4 w3 hf hl) (g := mkF m pc Ls st) rfl hsize (argsL := argsL) (rest := rest) (lenOf hpd hlen) hst (by show 2 * 0 + _ ≤ _; omega) hd (fun _ _ => ⟨rfl, eT, hc, hs⟩)
  dsimp only [Pt.U, Pt.locs, Pt.cells, Pt.slots] at X' l' y' z' stp hQ
  subst l' y' z'
  exact own_by stp (k T' v Lc X' hQ)
theorem own_callN {own : String} {index : Nat} {y : MethodName} {bytes : ByteArray} {maxL : Nat} {rm : Room} {Q : Option Value → Heap → List Loc → Prop} {ps : List FieldType} {r : Option FieldType} {a : Addr} (X : Stand p l e R s m args below meth c T locs cells slots) (hx : p.tables.exec = Jvm.exec) (hZ : Z.Warmed39 s.vm) (hown : s.vm.findClass own = some m.cls) (eT : T.heap = h) (hd : decode c.code pc = .ok (.invokespecial index, 3))
    (argsL rest : List Value) (W : Nat) (C : own_Ct l Z y bytes maxL none [] rm (.ref a :: argsL).toArray h Q) (w1 : (Cond.methodLink own index y).before a0 Z = true) (w2 : (Cond.instanceMethod y).before a0 Z = true) (w3 : (Cond.initialized y.cls).before a0 Z = true) (w4 : (Cond.code y bytes maxL none).before a0 Z = true)
    (hyi : y.name = "<init>") (hy : y.cls ≠ "java/lang/invoke/MethodHandle" ∧ y.cls ≠ "java/lang/invoke/VarHandle") (hpd : parseMethodDescriptor y.desc = some ⟨ps, r⟩) (hsize : Ls.size = c.maxLocals) (hlen : argsL.length = ps.length) (hst : st = argsL.reverse ++ .ref a :: rest)
    (hW : (rest.map fun v => v.category).sum ≤ W) (hf : rm.frames + 1 ≤ R.frames) (hl : W + (maxL + 11) + rm.locals ≤ R.locals) (hc : cells + rm.cells ≤ R.cells) (hs : slots + rm.slots ≤ R.slots)
    (k : own_K p l e R s m args below meth c P locs cells slots rm Q (pc + 3) Ls rest) : own_Go p e below P T (mkF m pc Ls st) := by
  obtain ⟨v, _, ⟨T', L', k', n'⟩, -, X', ⟨Lc, hQ, l', y', z'⟩, stp⟩ := X.specialBack hx (y := y) hyi hown (mvT hZ w1) (mvT hZ w2) (mvT hZ w4) hy (backOf (W := W) (Q := Q) C hZ w4 w3 hf hl) (g := mkF m pc Ls st) rfl hsize (Steps.refl _) (a := a) (argsL := argsL) (rest := rest) (lenOf hpd hlen) hst (by show 2 * 0 + _ ≤ _; omega) hd (fun _ _ => ⟨rfl, eT, hc, hs⟩)
  dsimp only [Pt.U, Pt.locs, Pt.cells, Pt.slots] at X' l' y' z' stp hQ
  subst l' y' z'
  exact own_by (fun _ k => stp.trans k) (k T' v Lc X' hQ)
theorem own_callV {own : String} {index : Nat} {C0 : String} {y z : MethodName} {bytes : ByteArray} {maxL : Nat} {ret : Option FieldType} {rm : Room} {Q : Option Value → Heap → List Loc → Prop} {ps : List FieldType} {r : Option FieldType} {a : Addr} (X : Stand p l e R s m args below meth c T locs cells slots) (hx : p.tables.exec = Jvm.exec) (hZ : Z.Warmed39 s.vm) (hown : s.vm.findClass own = some m.cls) (eT : T.heap = h) (hd : decode c.code pc = .ok (.invokevirtual index, 3))
    (argsL rest : List Value) (W : Nat) (C : own_Ct l Z z bytes maxL ret [] rm (.ref a :: argsL).toArray h Q) (E : Exa Z h a C0) (w1 : (Cond.methodLink own index y).before a0 Z = true) (w0 : (Cond.declares y).before a0 Z = true) (nf : NotFace s y) (ws : (Cond.selects C0 y z).before a0 Z = true) (w2 : (Cond.instanceMethod z).before a0 Z = true) (w3 : (Cond.initialized z.cls).before a0 Z = true) (w4 : (Cond.code z bytes maxL ret).before a0 Z = true)
    (hy : y.cls ≠ "java/lang/invoke/MethodHandle" ∧ y.cls ≠ "java/lang/invoke/VarHandle") (hpd : parseMethodDescriptor y.desc = some ⟨ps, r⟩) (hsize : Ls.size = c.maxLocals) (hlen : argsL.length = ps.length) (hst : st = argsL.reverse ++ .ref a :: rest)
    (hW : (rest.map fun v => v.category).sum ≤ W) (hf : rm.frames + 1 ≤ R.frames) (hl : W + (maxL + 11) + rm.locals ≤ R.locals) (hc : cells + rm.cells ≤ R.cells) (hs : slots + rm.slots ≤ R.slots)
    (k : own_K p l e R s m args below meth c P locs cells slots rm Q (pc + 3) Ls rest) : own_Go p e below P T (mkF m pc Ls st) := by
  obtain ⟨cq, kq, qa, qb, qc⟩ := isOf hZ eT E
  obtain ⟨v, _, ⟨T', L', k', n'⟩, -, X', ⟨Lc, hQ, l', y', z'⟩, stp⟩ := X.virtualBack hx (y := y) (z := z) hown (mvT hZ w1) (mvT hZ w0) nf (mvT hZ ws) (mvT hZ w2) hy (backOf (W := W) (Q := Q) C hZ w4 w3 hf hl) qa qc (g := mkF m pc Ls st) rfl hsize (Steps.refl _) (argsL := argsL) (rest := rest) (lenOf hpd hlen) hst (by show 2 * 0 + _ ≤ _; omega) hd (fun _ _ => ⟨rfl, eT, hc, hs⟩)
  dsimp only [Pt.U, Pt.locs, Pt.cells, Pt.slots] at X' l' y' z' stp hQ
  subst l' y' z'
  exact own_by (fun _ k => stp.trans k) (k T' v Lc X' hQ)
theorem own_callP {own : String} {index : Nat} {C0 : String} {y : MethodName} {bytes : ByteArray} {maxL : Nat} {ret : Option FieldType} {rm : Room} {Q : Option Value → Heap → List Loc → Prop} {ps : List FieldType} {r : Option FieldType} {a : Addr} (X : Stand p l e R s m args below meth c T locs cells slots) (hx : p.tables.exec = Jvm.exec) (hZ : Z.Warmed39 s.vm) (hown : s.vm.findClass own = some m.cls) (eT : T.heap = h) (hd : decode c.code pc = .ok (.invokevirtual index, 3))
    (argsL rest : List Value) (W : Nat) (C : own_Ct l Z y bytes maxL ret [] rm (.ref a :: argsL).toArray h Q) (E : Exa Z h a C0) (w1 : (Cond.methodLink own index y).before a0 Z = true) (w2 : (Cond.instanceMethod y).before a0 Z = true) (ws : (Cond.selects y.cls y y).before a0 Z = true) (wp : (Cond.privateMethod y).before a0 Z = true) (w3 : (Cond.initialized y.cls).before a0 Z = true) (w4 : (Cond.code y bytes maxL ret).before a0 Z = true)
    (hy : y.cls ≠ "java/lang/invoke/MethodHandle" ∧ y.cls ≠ "java/lang/invoke/VarHandle") (hpd : parseMethodDescriptor y.desc = some ⟨ps, r⟩) (hsize : Ls.size = c.maxLocals) (hlen : argsL.length = ps.length) (hst : st = argsL.reverse ++ .ref a :: rest)
    (hW : (rest.map fun v => v.category).sum ≤ W) (hf : rm.frames + 1 ≤ R.frames) (hl : W + (maxL + 11) + rm.locals ≤ R.locals) (hc : cells + rm.cells ≤ R.cells) (hs : slots + rm.slots ≤ R.slots)
    (k : own_K p l e R s m args below meth c P locs cells slots rm Q (pc + 3) Ls rest) : own_Go p e below P T (mkF m pc Ls st) := by
  obtain ⟨cq, q1, q2⟩ := E.cell
  obtain ⟨v, _, ⟨T', L', k', n'⟩, -, X', ⟨Lc, hQ, l', y', z'⟩, stp⟩ := X.privateBack hx (y := y) hown (mvT hZ w1) (mvT hZ w2) (mvT hZ ws) (Cond.privateMethod_at (mvP hZ wp (args := #[]))) (mvT hZ w4) hy (backOf (W := W) (Q := Q) C hZ w4 w3 hf hl) (g := mkF m pc Ls st) rfl hsize (Steps.refl _) (a := a) (by rw [eT]; exact q1) q2 (argsL := argsL) (rest := rest) (lenOf hpd hlen) hst (by show 2 * 0 + _ ≤ _; omega) hd (fun _ _ => ⟨rfl, eT, hc, hs⟩)
  dsimp only [Pt.U, Pt.locs, Pt.cells, Pt.slots] at X' l' y' z' stp hQ
  subst l' y' z'
  exact own_by (fun _ k => stp.trans k) (k T' v Lc X' hQ)
abbrev own_K0 (p : Program) (l : Launch) (e : Env) (R : Room) (s : State) (m : MethodId) (args : Array Value) (below : List Frame) (meth : Method) (c : Code) (P : State → Outcome → Prop) (locs : List Loc) (cells slots : Nat) (h : Heap) (pc : Nat) (Ls : Array Slot) (st : List Value) : Prop :=
  ∀ (T' : State), Stand p l e R s m args below meth c T' locs cells slots → T'.heap = h → own_Go p e below P T' (mkF m pc Ls st)
theorem own_init {own : String} {index : Nat} {a : Addr} (X : Stand p l e R s m args below meth c T locs cells slots) (hx : p.tables.exec = Jvm.exec) (hZ : Z.Warmed39 s.vm) (hown : s.vm.findClass own = some m.cls) (eT : T.heap = h) (hd : decode c.code pc = .ok (.invokespecial index, 3)) (W : Nat)
    (w1 : (Cond.methodLink own index Lib.objectInit).before a0 Z = true) (w2 : (Cond.instanceMethod Lib.objectInit).before a0 Z = true) (w3 : (Cond.code Lib.objectInit ⟨#[0xb1]⟩ 1 none).before a0 Z = true) (hsize : Ls.size = c.maxLocals) (hW : (rest.map fun v => v.category).sum ≤ W) (hf : 1 ≤ R.frames) (hl : W + 12 ≤ R.locals)
    (k : own_K0 p l e R s m args below meth c P locs cells slots h (pc + 3) Ls rest) : own_Go p e below P T (mkF m pc Ls (.ref a :: rest)) := by
  obtain ⟨T', X', e', st⟩ := initO X hx hZ hown w1 w2 w3 eT (g := mkF m pc Ls (.ref a :: rest)) rfl hsize rfl hd hf (W := W) (by show 2 * 0 + _ ≤ _; omega) hl
  exact own_by st (k T' X' e')
theorem own_getF {own R0 O n d host : String} {index : Nat} {a : Addr} {v : Value} (X : Stand p l e R s m args below meth c T locs cells slots) (hx : p.tables.exec = Jvm.exec) (hZ : Z.Warmed39 s.vm) (hown : s.vm.findClass own = some m.cls) (eT : T.heap = h) (hd : decode c.code pc = .ok (.getfield index, 3))
    (w : (Cond.fieldLink own index R0 n d).before a0 Z = true ∨ (Cond.fieldLinkNest own index R0 n d host).before a0 Z = true) (via : Via Z R0 O n d) (F : Fld Z h a O n d v)
    (k : own_K0 p l e R s m args below meth c P locs cells slots h (pc + 3) Ls (v :: rest)) : own_Go p e below P T (mkF m pc Ls (.ref a :: rest)) := by
  obtain ⟨T', X', e', st⟩ := getF X hx hZ hown w via eT F (g := mkF m pc Ls (.ref a :: rest)) rfl rfl hd
  exact own_by st (k T' X' e')
theorem own_getS {own R0 O n d host : String} {index : Nat} {v : Value} (X : Stand p l e R s m args below meth c T locs cells slots) (hx : p.tables.exec = Jvm.exec) (hZ : Z.Warmed39 s.vm) (hown : s.vm.findClass own = some m.cls) (eT : T.heap = h) (hd : decode c.code pc = .ok (.getstatic index, 3))
    (w : (Cond.fieldLink own index R0 n d).before a0 Z = true ∨ (Cond.fieldLinkNest own index R0 n d host).before a0 Z = true) (via : Via Z R0 O n d) (F : Sta Z h O n d v)
    (k : own_K0 p l e R s m args below meth c P locs cells slots h (pc + 3) Ls (v :: st)) : own_Go p e below P T (mkF m pc Ls st) := by
  obtain ⟨T', X', e', stp⟩ := getS2 X hx hZ hown w via eT F (g := mkF m pc Ls st) rfl hd
  exact own_by stp (k T' X' e')
theorem own_new {own C : String} {index n : Nat} (X : Stand p l e R s m args below meth c T locs cells slots) (hx : p.tables.exec = Jvm.exec) (hZ : Z.Warmed39 s.vm) (hown : s.vm.findClass own = some m.cls) (eT : T.heap = h) (hd : decode c.code pc = .ok (.new index, 3))
    (w : (Cond.classLink own index C).before a0 Z = true) (wi : (Cond.instantiable C n).before a0 Z = true) (wz : (Cond.initialized C).before a0 Z = true) (hc : cells + 1 ≤ R.cells) (hl : slots + n ≤ R.slots)
    (k : ∀ (T' : State) (h' : Heap) (b : Addr), Stand p l e R s m args below meth c T' locs (cells + 1) (slots + n) → T'.heap = h' → b = h.size → Ext h h' → Exa Z h' b C → (∀ {O nm d : String} {ty : FieldType}, Laid Z a0 C O nm d → parseFieldDescriptor d = some ty → Fld Z h' b O nm d (defaultValue ty)) → own_Go p e below P T' (mkF m (pc + 3) Ls (.ref b :: st))) :
    own_Go p e below P T (mkF m pc Ls st) := by
  obtain ⟨T', h', X', e', E, A, D, -, stp⟩ := newO X hx hZ hown w wi wz eT (g := mkF m pc Ls st) rfl hd hc hl
  exact own_by stp (k T' h' _ X' e' rfl E A D)
theorem own_putF {own R0 O n d host C : String} {index kk : Nat} {ty : FieldType} {a : Addr} {v old : Value} (X : Stand p l e R s m args below meth c T locs cells slots) (hx : p.tables.exec = Jvm.exec) (hZ : Z.Warmed39 s.vm) (hown : s.vm.findClass own = some m.cls) (eT : T.heap = h) (hd : decode c.code pc = .ok (.putfield index, 3))
    (w : (Cond.fieldLink own index R0 n d).before a0 Z = true ∨ (Cond.fieldLinkNest own index R0 n d host).before a0 Z = true) (via : Via Z R0 O n d) (F : Fld Z h a O n d old) (E : Exa Z h a C) (L : (Cond.lays C O n d).before a0 Z = true ∨ ((Cond.laysFinal C O n d).before a0 Z = true ∧ own = O ∧ meth.name = "<init>")) (wi : (Cond.instantiable C kk).before a0 Z = true)
    (hty : parseFieldDescriptor d = some ty) (hn : narrow ty v = v) (hf : fits ty v = true)
    (k : ∀ (T' : State) (h' : Heap), Stand p l e R s m args below meth c T' (locs ++ [⟨a, Jvm.RoadKit.slotOf Z O n d⟩]) cells slots → T'.heap = h' → Wr h h' a (Jvm.RoadKit.slotOf Z O n d) v → own_Go p e below P T' (mkF m (pc + 3) Ls rest)) :
    own_Go p e below P T (mkF m pc Ls (v :: .ref a :: rest)) := by
  obtain ⟨T', h', X', e', W, st⟩ := putF X hx hZ hown w via eT F E L wi hty hn hf (g := mkF m pc Ls (v :: .ref a :: rest)) rfl rfl hd
  exact own_by st (k T' h' X' e' W)
theorem own_newA {aty : ArrayType} {n : Int32} (X : Stand p l e R s m args below meth c T locs cells slots) (hx : p.tables.exec = Jvm.exec) (hZ : Z.Warmed39 s.vm) (eT : T.heap = h) (hd : decode c.code pc = .ok (.newarray aty, 2))
    (w : (Cond.arrayClass (newarray.typeOf aty)).before a0 Z = true) (hn : ¬ n < 0) (cap : Nat) (hcap : n.toNatClampNeg ≤ cap) (hb : cap * 8 ≤ 536870912) (hc : cells + 1 ≤ R.cells) (hl : slots + cap ≤ R.slots)
    (k : ∀ (T' : State) (h' : Heap) (b : Addr) (cA : ClassId), Stand p l e R s m args below meth c T' locs (cells + 1) (slots + cap) → T'.heap = h' → b = h.size → Ext h h' → Arv Z h' b cA (newarray.typeOf aty) n [] (defaultValue (newarray.typeOf aty)) → own_Go p e below P T' (mkF m (pc + 2) Ls (.ref b :: rest))) :
    own_Go p e below P T (mkF m pc Ls (.int n :: rest)) := by
  obtain ⟨T', h', cA, X', e', E, A, stp⟩ := newP X hx hZ w eT (g := mkF m pc Ls (.int n :: rest)) rfl hd rfl hn hcap hb hc hl
  exact own_by stp (k T' h' _ cA X' e' rfl E (Arv.new A hn))
theorem own_ldcI {own : String} {index : Nat} {i : Int32} (X : Stand p l e R s m args below meth c T locs cells slots) (hx : p.tables.exec = Jvm.exec) (hZ : Z.Warmed39 s.vm) (hown : s.vm.findClass own = some m.cls) (hd : decode c.code pc = .ok (.ldc index, 2)) (w : (Cond.constant own index i).before a0 Z = true)
    (k : own_Go p e below P T (mkF m (pc + 2) Ls (.int i :: st))) : own_Go p e below P T (mkF m pc Ls st) :=
  own_by (fun t k => X.ldcInt hx hown (mvT hZ w) (g := mkF m pc Ls st) rfl hd t k) k
theorem own_ldcJ {own : String} {index : Nat} {i : Int64} (X : Stand p l e R s m args below meth c T locs cells slots) (hx : p.tables.exec = Jvm.exec) (hZ : Z.Warmed39 s.vm) (hown : s.vm.findClass own = some m.cls) (hd : decode c.code pc = .ok (.ldc2_w index, 3)) (w : (Cond.constantLong own index i).before a0 Z = true)
    (k : own_Go p e below P T (mkF m (pc + 3) Ls (.long i :: st))) : own_Go p e below P T (mkF m pc Ls st) :=
  own_by (fun t k => X.ldc2Long hx hown (mvT hZ w) (g := mkF m pc Ls st) rfl hd t k) k
theorem own_ns {a : Addr} {C : String} (F : Exa Z h a C) : ∃ c : Cell, h[a]? = some c ∧ c.vm.isStatics = false := by obtain ⟨c, _, h1, -, -, h4, -⟩ := F; exact ⟨c, h1, h4⟩
theorem own_sta_keep {h' : Heap} {C n d : String} {v : Value} {ws : List Addr} (F : Sta Z h C n d v) (K : Keep h h' ws) (q : ∀ x ∈ ws, ∃ c : Cell, h[x]? = some c ∧ c.vm.isStatics = false) : Sta Z h' C n d v := by
  obtain ⟨cf, i, k, f, st, cell, h1, h2, h3, h4, h5, h6, h7⟩ := F
  refine ⟨cf, i, k, f, st, cell, h1, h2, h3, h4, K.2.1 st cell h5 fun z => ?_, h6, h7⟩
  obtain ⟨c, c1, c2⟩ := q st z
  cases h5.symm.trans c1
  rw [h6] at c2; cases c2
end Own
section OwnArr
variable {p : Program} {l : Launch} {e : Env} {R : Room} {s : State} {m : MethodId} {args : Array Value} {below : List Frame} {meth : Method} {c : Code} {T : State} {locs : List Loc} {cells slots : Nat} {Z : State} {a0 : Array Value} {h h' : Heap} {P : State → Outcome → Prop} {pc : Nat} {Ls : Array Slot} {rest st : List Value} {a b : Addr} {ty : FieldType} {n : Nat} {f g : Nat → Int32}
/-- an array of ints (chars, bytes ..): its length, its elements -/
def own_A (Z : State) (h : Heap) (a : Addr) (ty : FieldType) (n : Nat) (f : Nat → Int32) : Prop := ∃ cl : Cell, Arr Z h a cl ty ∧ cl.slots.size = n ∧ n < 2147483648 ∧ ∀ i, i < n → cl.slots[i]? = some (.int (f i))
theorem own_A.lt (F : own_A Z h a ty n f) : a < h.size := by obtain ⟨_, A, -⟩ := F; exact A.lt
theorem own_A.ext (F : own_A Z h a ty n f) (E : Ext h h') : own_A Z h' a ty n f := by obtain ⟨cl, A, r⟩ := F; exact ⟨cl, A.ext E, r⟩
theorem own_A.other {sl : Nat} {v : Value} (F : own_A Z h b ty n f) (W : Wr h h' a sl v) (q : b ≠ a) : own_A Z h' b ty n f := by obtain ⟨cl, A, r⟩ := F; exact ⟨cl, A.other W q, r⟩
theorem own_A.keep {ws : List Addr} (F : own_A Z h a ty n f) (K : Keep h h' ws) (q : a ∉ ws) : own_A Z h' a ty n f := by obtain ⟨cl, A, r⟩ := F; exact ⟨cl, ⟨K.2.1 a cl A.1 q, A.2⟩, r⟩
theorem own_A.small (F : own_A Z h a ty n f) : n < 2147483648 := by obtain ⟨_, _, _, q, _⟩ := F; exact q
theorem own_A.congr (F : own_A Z h a ty n f) (q : ∀ i, i < n → f i = g i) : own_A Z h a ty n g := by
  obtain ⟨cl, A, h1, h2, h3⟩ := F
  exact ⟨cl, A, h1, h2, fun i hi => by rw [h3 i hi, q i hi]⟩
theorem own_A.set {j : Nat} {v : Int32} (F : own_A Z h a ty n f) (W : Wr h h' a j (.int v)) : own_A Z h' a ty n (fun i => if i = j then v else f i) := by
  obtain ⟨cl, A, h1, h2, h3⟩ := F
  have hw : j < cl.slots.size := by obtain ⟨c', q1, -, q3, -⟩ := W; cases q1.symm.trans A.1; exact q3
  refine ⟨_, A.same W, by rw [sz_set]; exact h1, h2, fun i hi => ?_⟩
  by_cases q : i = j
  · subst q; simp [Cell.setSlot, hw]
  · show _ = some (Value.int (if i = j then v else f i))
    rw [if_neg q, ← h3 i hi]; exact Array.getElem?_setIfInBounds_ne (Ne.symm q)
theorem own_clamp {j : Int32} (h0 : 0 ≤ j.toInt) : j.toNatClampNeg = j.toInt.toNat := rfl
theorem own_inb {j : Int32} {k : Nat} (h0 : 0 ≤ j.toInt) (h1 : j.toInt < k) : ¬ (j < 0 ∨ k ≤ j.toNatClampNeg) := by
  rintro (q | q)
  · have := Int32.lt_iff_toInt_lt.mp q
    have e : (0 : Int32).toInt = 0 := by decide
    omega
  · rw [own_clamp h0] at q; omega
theorem own_A.new {k : ClassId} {z : Int32} {v : Int32} (F : Arv Z h a k ty z [] (.int v)) : own_A Z h a ty z.toInt.toNat (fun _ => v) := by
  obtain ⟨cl, A, -, h2, h3, H, -⟩ := F
  have e : z.toNatClampNeg = z.toInt.toNat := rfl
  refine ⟨cl, A, h2.trans e, ?_, fun i hi => ?_⟩
  · have := rng32 z; omega
  · rw [H i (by rw [h2, e]; exact hi)]; rfl
theorem own_alen {j : Int32} (X : Stand p l e R s m args below meth c T locs cells slots) (hx : p.tables.exec = Jvm.exec) (hZ : Z.Warmed39 s.vm) (eT : T.heap = h) (hd : decode c.code pc = .ok (.arraylength, 1)) (F : own_A Z h a ty n f) (hj : j.toInt = n)
    (k : own_Go p e below P T (mkF m (pc + 1) Ls (.int j :: rest))) : own_Go p e below P T (mkF m pc Ls (.ref a :: rest)) := by
  obtain ⟨cl, A, h1, h2, -⟩ := F
  have e1 : cl.slots.size.toInt32 = j := by
    apply Int32.toInt_inj.mp
    rw [hj, h1]; exact Int32.toInt_ofNat_of_lt h2
  refine own_by (fun t k => X.arraylength hx (by rw [eT]; exact A.1) (State.isArrayOf_alike hZ.alike A.2.1) (g := mkF m pc Ls (.ref a :: rest)) rfl rfl hd t k) ?_
  rw [e1]; exact k
theorem own_ldI {j : Int32} (X : Stand p l e R s m args below meth c T locs cells slots) (hx : p.tables.exec = Jvm.exec) (hZ : Z.Warmed39 s.vm) (eT : T.heap = h) (hd : decode c.code pc = .ok (.iaload, 1)) (F : own_A Z h a .int n f) (h0 : 0 ≤ j.toInt) (h1 : j.toInt < n)
    (k : own_Go p e below P T (mkF m (pc + 1) Ls (.int (f j.toInt.toNat) :: rest))) : own_Go p e below P T (mkF m pc Ls (.int j :: .ref a :: rest)) := by
  obtain ⟨cl, A, e1, e2, e3⟩ := F
  exact own_by (fun t k => X.iaload hx (j := j) (v := .int (f j.toInt.toNat)) (by rw [eT]; exact A.1) (State.isArrayOf_alike hZ.alike A.2.1) A.2.2 (by rw [e1]; exact own_inb h0 h1) (e3 j.toInt.toNat (by omega)) (g := mkF m pc Ls (.int j :: .ref a :: rest)) rfl rfl hd t k) k
theorem own_ldC {j : Int32} (X : Stand p l e R s m args below meth c T locs cells slots) (hx : p.tables.exec = Jvm.exec) (hZ : Z.Warmed39 s.vm) (eT : T.heap = h) (hd : decode c.code pc = .ok (.caload, 1)) (F : own_A Z h a .char n f) (h0 : 0 ≤ j.toInt) (h1 : j.toInt < n)
    (k : own_Go p e below P T (mkF m (pc + 1) Ls (.int (f j.toInt.toNat) :: rest))) : own_Go p e below P T (mkF m pc Ls (.int j :: .ref a :: rest)) := by
  obtain ⟨cl, A, e1, e2, e3⟩ := F
  exact own_by (fun t k => X.caload hx (j := j) (v := .int (f j.toInt.toNat)) (by rw [eT]; exact A.1) (State.isArrayOf_alike hZ.alike A.2.1) A.2.2 (by rw [e1]; exact own_inb h0 h1) (e3 j.toInt.toNat (by omega)) (g := mkF m pc Ls (.int j :: .ref a :: rest)) rfl rfl hd t k) k
theorem own_ldB {j : Int32} (X : Stand p l e R s m args below meth c T locs cells slots) (hx : p.tables.exec = Jvm.exec) (hZ : Z.Warmed39 s.vm) (eT : T.heap = h) (hd : decode c.code pc = .ok (.baload, 1)) (F : own_A Z h a .byte n f) (h0 : 0 ≤ j.toInt) (h1 : j.toInt < n)
    (k : own_Go p e below P T (mkF m (pc + 1) Ls (.int (f j.toInt.toNat) :: rest))) : own_Go p e below P T (mkF m pc Ls (.int j :: .ref a :: rest)) := by
  obtain ⟨cl, A, e1, e2, e3⟩ := F
  exact own_by (fun t k => X.baloadBytes hx (j := j) (v := .int (f j.toInt.toNat)) (by rw [eT]; exact A.1) (State.isArrayOf_alike hZ.alike A.2.1) A.2.2 (by rw [e1]; exact own_inb h0 h1) (e3 j.toInt.toNat (by omega)) (g := mkF m pc Ls (.int j :: .ref a :: rest)) rfl rfl hd t k) k
abbrev own_KW (p : Program) (l : Launch) (e : Env) (R : Room) (s : State) (m : MethodId) (args : Array Value) (below : List Frame) (meth : Method) (c : Code) (P : State → Outcome → Prop) (locs : List Loc) (cells slots : Nat) (Z : State) (h : Heap) (a : Addr) (ty : FieldType) (n : Nat) (f : Nat → Int32) (j : Nat) (v : Int32) (pc : Nat) (Ls : Array Slot) (st : List Value) : Prop :=
  ∀ (T' : State) (h' : Heap), Stand p l e R s m args below meth c T' (locs ++ [⟨a, j⟩]) cells slots → T'.heap = h' → Wr h h' a j (.int v) → own_A Z h' a ty n (fun i => if i = j then v else f i) → own_Go p e below P T' (mkF m pc Ls st)
theorem own_stI {j x : Int32} (X : Stand p l e R s m args below meth c T locs cells slots) (hx : p.tables.exec = Jvm.exec) (hZ : Z.Warmed39 s.vm) (eT : T.heap = h) (hd : decode c.code pc = .ok (.iastore, 1)) (F : own_A Z h a .int n f) (h0 : 0 ≤ j.toInt) (h1 : j.toInt < n)
    (k : own_KW p l e R s m args below meth c P locs cells slots Z h a .int n f j.toInt.toNat x (pc + 1) Ls rest) : own_Go p e below P T (mkF m pc Ls (.int x :: .int j :: .ref a :: rest)) := by
  obtain ⟨cl, A, e1, e2, e3⟩ := F
  obtain ⟨T', h', X', e', W, stp⟩ := stI X hx hZ eT A (j := j) (x := x) (by rw [e1]; exact own_inb h0 h1) (g := mkF m pc Ls (.int x :: .int j :: .ref a :: rest)) rfl rfl hd
  exact own_by stp (k T' h' X' e' W (own_A.set ⟨cl, A, e1, e2, e3⟩ W))
theorem own_stC {j x : Int32} (X : Stand p l e R s m args below meth c T locs cells slots) (hx : p.tables.exec = Jvm.exec) (hZ : Z.Warmed39 s.vm) (eT : T.heap = h) (hd : decode c.code pc = .ok (.castore, 1)) (F : own_A Z h a .char n f) (h0 : 0 ≤ j.toInt) (h1 : j.toInt < n)
    (k : own_KW p l e R s m args below meth c P locs cells slots Z h a .char n f j.toInt.toNat (nar .char x) (pc + 1) Ls rest) : own_Go p e below P T (mkF m pc Ls (.int x :: .int j :: .ref a :: rest)) := by
  obtain ⟨cl, A, e1, e2, e3⟩ := F
  obtain ⟨T', h', X', e', W, stp⟩ := stC X hx hZ eT A (j := j) (x := x) (by rw [e1]; exact own_inb h0 h1) (g := mkF m pc Ls (.int x :: .int j :: .ref a :: rest)) rfl rfl hd
  exact own_by stp (k T' h' X' e' W (own_A.set ⟨cl, A, e1, e2, e3⟩ W))
theorem own_stB {j x : Int32} (X : Stand p l e R s m args below meth c T locs cells slots) (hx : p.tables.exec = Jvm.exec) (hZ : Z.Warmed39 s.vm) (eT : T.heap = h) (hd : decode c.code pc = .ok (.bastore, 1)) (F : own_A Z h a .byte n f) (h0 : 0 ≤ j.toInt) (h1 : j.toInt < n)
    (k : own_KW p l e R s m args below meth c P locs cells slots Z h a .byte n f j.toInt.toNat (nar .byte x) (pc + 1) Ls rest) : own_Go p e below P T (mkF m pc Ls (.int x :: .int j :: .ref a :: rest)) := by
  obtain ⟨cl, A, e1, e2, e3⟩ := F
  obtain ⟨T', h', X', e', W, stp⟩ := stB X hx hZ eT A (j := j) (x := x) (by rw [e1]; exact own_inb h0 h1) (g := mkF m pc Ls (.int x :: .int j :: .ref a :: rest)) rfl rfl hd
  exact own_by stp (k T' h' X' e' W (own_A.set ⟨cl, A, e1, e2, e3⟩ W))
theorem own_mkA {aty : ArrayType} {z : Int32} {v : Int32} (X : Stand p l e R s m args below meth c T locs cells slots) (hx : p.tables.exec = Jvm.exec) (hZ : Z.Warmed39 s.vm) (eT : T.heap = h) (hd : decode c.code pc = .ok (.newarray aty, 2))
    (w : (Cond.arrayClass (newarray.typeOf aty)).before a0 Z = true) (hv : defaultValue (newarray.typeOf aty) = .int v) (h0 : 0 ≤ z.toInt) (cap : Nat) (hcap : z.toInt ≤ cap) (hb : cap * 8 ≤ 536870912) (hc : cells + 1 ≤ R.cells) (hl : slots + cap ≤ R.slots)
    (k : ∀ (T' : State) (h' : Heap) (b : Addr), Stand p l e R s m args below meth c T' locs (cells + 1) (slots + cap) → T'.heap = h' → b = h.size → Ext h h' → own_A Z h' b (newarray.typeOf aty) z.toInt.toNat (fun _ => v) → own_Go p e below P T' (mkF m (pc + 2) Ls (.ref b :: rest))) :
    own_Go p e below P T (mkF m pc Ls (.int z :: rest)) := by
  have e0 : (0 : Int32).toInt = 0 := by decide
  refine own_newA X hx hZ eT hd w (fun q => ?_) cap ?_ hb hc hl ?_
  · have := Int32.lt_iff_toInt_lt.mp q; omega
  · rw [own_clamp h0]; omega
  · intro T' h' b' cA X' e' g' E A
    rw [hv] at A
    exact k T' h' b' X' e' g' E (own_A.new A)
end OwnArr
section OwnStr
/-- the first place whose sign is above 255, from i on, of k places -/
def own_fstA (f : Nat → Int32) : Nat → Nat → Nat
  | 0, i => i
  | k + 1, i => if (255 : Int32) < f i then i else own_fstA f k (i + 1)
def own_fst (f : Nat → Int32) (n : Nat) : Nat := own_fstA f n 0
/-- a sign's byte as it is stored -/
def own_b8 (x : Int32) : Int32 := nar .byte x.toInt8.toInt32
theorem own_upd (j : Nat) (φ g : Nat → Int32) (i : Nat) : (if i = j then φ j else if i < j then φ i else g i) = (if i < j + 1 then φ i else g i) := by
  by_cases h : i = j
  · subst h; simp
  · by_cases h2 : i < j
    · rw [if_neg h, if_pos h2, if_pos (by omega)]
    · rw [if_neg h, if_neg h2, if_neg (by omega)]
theorem own_inc {iv : Int32} {j n : Nat} (h : iv.toInt = j) (h1 : j < n) (h2 : n < 2147483648) : (iv + (1 : Int32)).toInt = ((j + 1 : Nat) : Int) := by
  have q := c_iadd iv 1
  have e1 : (1 : Int32).toInt = 1 := by decide
  have r := rng32 (iv + 1)
  omega
theorem own_nz {z : Int32} {n : Nat} (hz : z.toInt = n) (h1 : 1 ≤ n) : ¬ (z = (0 : Int32)) := fun q => by
  rw [q] at hz
  have : (0 : Int32).toInt = 0 := by decide
  omega
theorem own_cd0 (z : Int32) : ((((z - z).toUInt32 >>> ((31 : Int32) &&& 31).toUInt32).toInt32).toInt8.toInt32) = 0 := by rw [Int32.sub_self]; decide
theorem own_fstA_all {f : Nat → Int32} : ∀ (k i : Nat), (∀ q, i ≤ q → q < i + k → ¬ (255 : Int32) < f q) → own_fstA f k i = i + k
  | 0, i, _ => rfl
  | k + 1, i, h => by
    rw [own_fstA, if_neg (h i (Nat.le_refl _) (by omega)), own_fstA_all k (i + 1) (fun q h1 h2 => h q (by omega) (by omega))]; omega
theorem own_fst_all {f : Nat → Int32} {n : Nat} (h : ∀ q, q < n → ¬ (255 : Int32) < f q) : own_fst f n = n := by
  rw [own_fst, own_fstA_all n 0 (fun q _ h2 => h q (by omega))]; omega
theorem own_A.uniq {Z : State} {h : Heap} {a : Addr} {ty ty' : FieldType} {n n' : Nat} {f f' : Nat → Int32} (F : own_A Z h a ty n f) (G : own_A Z h a ty' n' f') : n = n' ∧ ∀ i, i < n → f i = f' i := by
  obtain ⟨c, A, h1, h2, h3⟩ := F
  obtain ⟨c', A', h1', h2', h3'⟩ := G
  cases A.1.symm.trans A'.1
  have e : n = n' := h1.symm.trans h1'
  refine ⟨e, fun i hi => ?_⟩
  have q := (h3 i hi).symm.trans (h3' i (e ▸ hi))
  simpa using q
theorem own_fld_uniq {Z : State} {h : Heap} {a : Addr} {C n d : String} {v w : Value} (F : Fld Z h a C n d v) (G : Fld Z h a C n d w) : v = w := by
  by_cases e : v = w
  · exact e
  · exact absurd rfl (Fld.ne F G e)
/-- the answer of an equals on two arrays -/
def own_eqA (n1 : Nat) (f1 : Nat → Int32) (n2 : Nat) (f2 : Nat → Int32) : Int32 := if n1 = n2 ∧ ∀ i, i < n1 → f1 i = f2 i then 1 else 0
theorem own_eqA_01 (n1 : Nat) (f1 : Nat → Int32) (n2 : Nat) (f2 : Nat → Int32) : own_eqA n1 f1 n2 f2 = 0 ∨ own_eqA n1 f1 n2 f2 = 1 := by unfold own_eqA; split <;> simp
theorem own_eqA_ne {n1 n2 : Nat} {f1 f2 : Nat → Int32} (h : ¬ n1 = n2) : own_eqA n1 f1 n2 f2 = 0 := by unfold own_eqA; rw [if_neg fun q => h q.1]
theorem own_eqA_at {n1 n2 : Nat} {f1 f2 : Nat → Int32} {j : Nat} (hj : j < n1) (h : ¬ f1 j = f2 j) : own_eqA n1 f1 n2 f2 = 0 := by unfold own_eqA; rw [if_neg fun q => h (q.2 j hj)]
theorem own_eqA_all {n1 n2 : Nat} {f1 f2 : Nat → Int32} (e : n1 = n2) (h : ∀ i, i < n1 → f1 i = f2 i) : own_eqA n1 f1 n2 f2 = 1 := by unfold own_eqA; rw [if_pos ⟨e, h⟩]
theorem own_i256 (z : Int32) (h0 : 0 ≤ z.toInt) (h1 : z.toInt < 256) : ∃ k : Fin 256, z = Int32.ofNat k.1 := by
  refine ⟨⟨z.toInt.toNat, by omega⟩, Int32.toInt_inj.mp ?_⟩
  rw [Int32.toInt_ofNat_of_lt (by simp only; omega)]
  simp only; omega
theorem own_b8_tab : ∀ k : Fin 256, ((own_b8 (Int32.ofNat k.1)) &&& (255 : Int32)).toUInt32.toUInt16.toUInt32.toInt32 = Int32.ofNat k.1 := by decide +kernel
/-- the byte read back -/
theorem own_b8_char (x : Int32) (h0 : 0 ≤ x.toInt) (h1 : x.toInt < 256) : ((own_b8 x) &&& (255 : Int32)).toUInt32.toUInt16.toUInt32.toInt32 = x := by
  obtain ⟨k, rfl⟩ := own_i256 x h0 h1
  exact own_b8_tab k
theorem own_b8_inj (x y : Int32) (h0 : 0 ≤ x.toInt) (h1 : x.toInt < 256) (g0 : 0 ≤ y.toInt) (g1 : y.toInt < 256) (e : own_b8 x = own_b8 y) : x = y := by
  rw [← own_b8_char x h0 h1, ← own_b8_char y g0 g1, e]
end OwnStr
section OwnWide
variable {p : Program} {l : Launch} {e : Env} {R : Room} {s : State} {m : MethodId} {args : Array Value} {below : List Frame} {meth : Method} {c : Code} {T : State} {locs : List Loc} {cells slots : Nat} {Z : State} {a0 : Array Value} {h h0 : Heap} {P : State → Outcome → Prop} {pc : Nat} {Ls : Array Slot} {rest st : List Value} {EL : List (String × Nat)} {vm0 V0 : Vm} {k0 : Nat}
/-- the end of a method that may have interned -/
def own_EndsW (Z : State) (EL : List (String × Nat)) (s : State) (rm : Room) (Q : Option Value → Heap → List Loc → Prop) (t : State) (o : Outcome) : Prop := ∃ v L, o = .returned v ∧ Q v t.heap L ∧ CHr Z EL s.vm s.heap t.vm t.heap ∧ ReturnedEndW s o t L rm.cells rm.slots
def own_CtW (l : Launch) (Z : State) (EL : List (String × Nat)) (y : MethodName) (bytes : ByteArray) (mx : Nat) (rt : Option FieldType) (ws : List Jvm.Cond) (rm : Room) (as' : Array Value) (h0 : Heap) (Q : Option Value → Heap → List Loc → Prop) : Prop :=
  MetFree l y (head1 (Jvm.Cond.code y bytes mx rt :: ws) rm) (fun a U => a = as' ∧ Z.Warmed39 U.vm ∧ U.heap = h0 ∧ CHv Z EL U.vm h0) (fun _ _ _ _ _ => True) (fun _ U o U' => own_EndsW Z EL U rm Q U' o)
theorem own_ofW {y : MethodName} {bytes : ByteArray} {mx : Nat} {rt : Option FieldType} {ws : List Jvm.Cond} {rm : Room} {as' : Array Value} {Q : Option Value → Heap → List Loc → Prop} (hpl : plainName y.cls = true)
    (body : ∀ (p : Program) (e : Env) (s : State) (m : MethodId) (below : List Frame) (meth : Method) (c : Code) (s₁ : State), p.tables.exec = Jvm.exec → c.code = bytes → c.maxLocals = mx → (s.setVm s.vm).vm.findClass y.cls = some m.cls → meth.name = y.name → meth.sig.returnType = rt → meth.locks = false → Z.Warmed39 (s.setVm s.vm).vm →
      Stand p l e rm (s.setVm s.vm) m as' below meth c s₁ [] 0 0 → s₁.heap = h0 → s.heap = h0 → s.Since s.vm h0.size → h0.size ≤ h0.size → CHr Z EL s.vm h0 s.vm h0 → own_Go p e below (own_EndsW Z EL s rm Q) s₁ (entryFrame m as' mx)) : own_CtW l Z EL y bytes mx rt ws rm as' h0 Q := by
  refine MetFree.of_bodySF (plainFor_of_name hpl) hisR ?_
  intro p e s m args below meth c s₁ Bd hml hP hK
  obtain ⟨rfl, hZ, hh, hC⟩ := hP
  exact body p e s m below meth c s₁ Bd.exec Bd.bytes hml (findClass_of_methodNamed Bd.named) (name_of_methodNamed Bd.named Bd.method).1 Bd.returns Bd.notSynchronized hZ (Stand.of_body Bd) (by rw [← hh, Bd.state]; rfl) hh ((State.WarmedH.refl s).since _) (Nat.le_refl _) (CHr.refl hC)
theorem own_endW {rm : Room} {Q : Option Value → Heap → List Loc → Prop} {v : Option Value} {fs : List Frame} (X : Stand p l e R (s.setVm vm0) m args below meth c T locs cells slots) (hZ : Z.Warmed39 (s.setVm vm0).vm) (hEL : EW Z a0 EL) (hs0 : s.heap = h0) (eT : T.heap = h) (CH : CHr Z EL s.vm h0 vm0 h) (hc : cells ≤ rm.cells) (hs : slots ≤ rm.slots) (hq : Q v T.heap locs)
    (hE : ReturnedEndW s (.returned v) (T.setFrames fs) locs cells slots) : own_EndsW Z EL s rm Q (T.setFrames fs) (.returned v) := by
  refine ⟨v, locs, rfl, hq, ?_, hE.1, hE.2.1, hE.2.2.1, hE.2.2.2.mono hc hs⟩
  rw [hs0]
  have q := CH.trans (CHv.at X hZ hEL CH.1)
  show CHr Z EL s.vm h0 T.vm T.heap
  rw [eT]; exact q
theorem own_retW {rm : Room} {Q : Option Value → Heap → List Loc → Prop} {t : FieldType} {w : Value} {i : Instr} (X : Stand p l e R (s.setVm vm0) m args below meth c T locs cells slots) (hx : p.tables.exec = Jvm.exec) (hret : meth.sig.returnType = some t) (hlk : meth.locks = false) (hZ : Z.Warmed39 (s.setVm vm0).vm) (hEL : EW Z a0 EL) (hs0 : s.heap = h0) (eT : T.heap = h) (hS : s.Since vm0 k0) (hk : k0 ≤ h.size) (CH : CHr Z EL s.vm h0 vm0 h) (hd : decode c.code pc = .ok (i, 1)) (hn : narrow t w = w)
    (hi : (i = .ireturn ∧ (t = .int ∨ t = .boolean ∨ t = .byte ∨ t = .char ∨ t = .short) ∧ ∃ z, w = .int z) ∨ (i = .lreturn ∧ t = .long ∧ ∃ z, w = .long z) ∨ (i = .dreturn ∧ t = .double ∧ ∃ z, w = .double z) ∨ (i = .freturn ∧ t = .float ∧ ∃ z, w = .float z) ∨ (i = .areturn ∧ t.isReference = true ∧ w.isRef = true))
    (hc : cells ≤ rm.cells) (hs : slots ≤ rm.slots) (hq : Q (some w) T.heap locs) : own_Go p e below (own_EndsW Z EL s rm Q) T (mkF m pc Ls (w :: rest)) := by
  obtain ⟨fs, hr, hrun, hended, hE⟩ := X.leaveW hS (by rw [eT]; exact hk) (v := some w) (fun h => by rw [hret] at h; cases h) hlk
  exact ⟨_, _, retOut X hx hret hn hi hd hr, hrun, hended, own_endW X hZ hEL hs0 eT CH hc hs hq hE⟩
theorem own_retWV {rm : Room} {Q : Option Value → Heap → List Loc → Prop} (X : Stand p l e R (s.setVm vm0) m args below meth c T locs cells slots) (hx : p.tables.exec = Jvm.exec) (hret : meth.sig.returnType = none) (hlk : meth.locks = false) (hZ : Z.Warmed39 (s.setVm vm0).vm) (hEL : EW Z a0 EL) (hs0 : s.heap = h0) (eT : T.heap = h) (hS : s.Since vm0 k0) (hk : k0 ≤ h.size) (CH : CHr Z EL s.vm h0 vm0 h) (hd : decode c.code pc = .ok (.return_, 1))
    (hc : cells ≤ rm.cells) (hs : slots ≤ rm.slots) (hq : Q none T.heap locs) : own_Go p e below (own_EndsW Z EL s rm Q) T (mkF m pc Ls []) := by
  obtain ⟨fs, hr, hrun, hended, hE⟩ := X.leaveW hS (by rw [eT]; exact hk) (v := none) (fun _ => rfl) hlk
  exact ⟨_, _, X.returnOut hx hret hd hr, hrun, hended, own_endW X hZ hEL hs0 eT CH hc hs hq hE⟩
theorem own_A.ofArv {b : Addr} {k : ClassId} {z : Int32} {vs : List Value} {us : List Int32} (F : Arv Z h b k .byte z vs (.int 0)) (hvs : vs = us.map Value.int) (hz : z.toInt = us.length) : own_A Z h b .byte us.length (fun i => us.getD i 0) := by
  obtain ⟨cl, A, -, h2, h3, H, -⟩ := F
  have e : z.toNatClampNeg = us.length := by rw [show z.toNatClampNeg = z.toInt.toNat from rfl]; omega
  refine ⟨cl, A, h2.trans e, by have := rng32 z; omega, fun i hi => ?_⟩
  rw [H i (by rw [h2, e]; exact hi), hvs]
  simp [List.getD, List.getElem?_map, hi]
theorem own_A.safe {vm : Vm} {x : Addr} {ty : FieldType} {n : Nat} {f : Nat → Int32} (hal : Z.vm.Alike vm) (F : own_A Z h x ty n f) (ht : ty ≠ .byte) : Safe Z EL vm h x := by obtain ⟨cl, A, -⟩ := F; exact Safe.arr hal A ht
theorem own_since_mono {vm1 : Vm} {n n' : Nat} (hS : s.Since vm1 n) (hn : n ≤ n') : s.Since vm1 n' := ⟨hS.1, fun j q hj hq => ⟨(hS.2 j q hj hq).1, Nat.lt_of_lt_of_le (hS.2 j q hj hq).2 hn⟩⟩
theorem own_ldc {own text : String} {index : Nat} {us : List Int32} {z : Int32} (X : Stand p l e R (s.setVm vm0) m args below meth c T locs cells slots) (hx : p.tables.exec = Jvm.exec) (hZ : Z.Warmed39 (s.setVm vm0).vm) (hown : (s.setVm vm0).vm.findClass own = some m.cls) (eT : T.heap = h) (hd : decode c.code pc = .ok (.ldc index, 2))
    (w : (Cond.stringLink own index text).before a0 Z = true) (wS : ∀ a ∈ Bundle.stringAtoms, a.before a0 Z = true) (hS : s.Since vm0 k0) (hk : k0 ≤ h.size) (hEL : EW Z a0 EL) (hmem : (own, index) ∈ EL) (CH : CHr Z EL V0 h0 vm0 h)
    (ht : (∀ c ∈ text.toList, c.toNat < 256) ∧ text.toList.map (fun c => Value.int (Jvm.Lit.byteI c.toNat.toUInt16)) = us.map Value.int) (hz : z.toInt = us.length) (hzn : ¬ z < 0) (n : Nat) (hn : 4 * text.toList.length ≤ n) (hbig : n ≤ 536870912) (hc : cells + 2 ≤ R.cells) (hl : slots + (n + 4) ≤ R.slots)
    (k : ∀ (a : Addr) (T' : State) (h' : Heap) (k1 : Nat) (b : Addr), Stand p l e R (s.setVm T'.vm) m args below meth c T' locs (cells + 2) (slots + (n + 4)) → T'.heap = h' → Ext h h' → s.Since T'.vm k1 → k1 ≤ h'.size → Z.Warmed39 (s.setVm T'.vm).vm → (s.setVm T'.vm).vm.findClass own = some m.cls → (s.setVm vm0).Warmed39 T'.vm → CHr Z EL vm0 h T'.vm h' → CHr Z EL V0 h0 T'.vm h' → Lit (s.setVm T'.vm) own index a →
      Exa Z h' a "java/lang/String" → Fld Z h' a "java/lang/String" "coder" "B" (.int 0) → Fld Z h' a "java/lang/String" "value" "[B" (.ref b) → own_A Z h' b .byte us.length (fun i => us.getD i 0) → (∀ x, Safe Z EL T'.vm h' x → x ≠ a ∧ x ≠ b) → own_Go p e below P T' (mkF m (pc + 2) Ls (.ref a :: st))) :
    own_Go p e below P T (mkF m pc Ls st) := by
  obtain ⟨a, T', h', k1, b, kk, X', e', E, hS', hk', hZ', hown', A, C, V, B, -, -, CH', L, sf, stp⟩ := ldcCH (s := s.setVm vm0) (vm0 := vm0) X hx hZ hown w wS eT (k0 := h.size) ((State.WarmedH.refl (s.setVm vm0)).since _) (Nat.le_refl _) hEL hmem CH.1 ht hzn (by rw [show z.toNatClampNeg = z.toInt.toNat from rfl, List.length_map]; omega) (g := mkF m pc Ls st) rfl hd hn hbig hc hl
  exact own_by stp (k a T' h' h'.size b X' e' E (hS.trans (own_since_mono hS' hk') (Nat.le_trans hk E.1)) (Nat.le_refl _) hZ' hown' hS'.1 CH' (CH.trans CH') L A C V (own_A.ofArv B rfl hz) sf)
abbrev own_KC (p : Program) (l : Launch) (e : Env) (R : Room) (s : State) (vm0 : Vm) (m : MethodId) (args : Array Value) (below : List Frame) (meth : Method) (c : Code) (P : State → Outcome → Prop) (locs : List Loc) (cells slots : Nat) (Z : State) (EL : List (String × Nat)) (V0 : Vm) (h0 h : Heap) (own : String) (rm : Room) (Q : Option Value → Heap → List Loc → Prop) (pc : Nat) (Ls : Array Slot) (rest : List Value) : Prop :=
  ∀ (T' : State) (v : Option Value) (L : List Loc), Stand p l e R (s.setVm T'.vm) m args below meth c T' (locs ++ L) (cells + rm.cells) (slots + rm.slots) → s.Since T'.vm T'.heap.size → T'.heap.size ≤ T'.heap.size → Z.Warmed39 (s.setVm T'.vm).vm → (s.setVm T'.vm).vm.findClass own = some m.cls → (s.setVm vm0).Warmed39 T'.vm → CHr Z EL vm0 h T'.vm T'.heap → CHr Z EL V0 h0 T'.vm T'.heap → Q v T'.heap L → own_Go p e below P T' (mkF m pc Ls (v.toList ++ rest))
theorem own_callSW {own : String} {index : Nat} {y : MethodName} {bytes : ByteArray} {maxL : Nat} {ret : Option FieldType} {rm : Room} {Q : Option Value → Heap → List Loc → Prop} {ps : List FieldType} {r : Option FieldType} (X : Stand p l e R (s.setVm vm0) m args below meth c T locs cells slots) (hx : p.tables.exec = Jvm.exec) (hZ : Z.Warmed39 (s.setVm vm0).vm) (hown : (s.setVm vm0).vm.findClass own = some m.cls) (eT : T.heap = h) (hd : decode c.code pc = .ok (.invokestatic index, 3))
    (hS : s.Since vm0 k0) (hk : k0 ≤ h.size) (hEL : EW Z a0 EL) (CH : CHr Z EL V0 h0 vm0 h)
    (argsL rest : List Value) (W : Nat) (C : own_CtW l Z EL y bytes maxL ret [] rm argsL.toArray h Q) (w1 : (Cond.methodLink own index y).before a0 Z = true) (w2 : (Cond.static y).before a0 Z = true) (w3 : (Cond.initialized y.cls).before a0 Z = true) (w4 : (Cond.code y bytes maxL ret).before a0 Z = true)
    (hy : y.cls ≠ "java/lang/invoke/MethodHandle" ∧ y.cls ≠ "java/lang/invoke/VarHandle") (hpd : parseMethodDescriptor y.desc = some ⟨ps, r⟩) (hsize : Ls.size = c.maxLocals) (hlen : argsL.length = ps.length) (hst : st = argsL.reverse ++ rest)
    (hW : (rest.map fun v => v.category).sum ≤ W) (hf : rm.frames + 1 ≤ R.frames) (hl : W + (maxL + 11) + rm.locals ≤ R.locals) (hc : cells + rm.cells ≤ R.cells) (hs : slots + rm.slots ≤ R.slots)
    (k : own_KC p l e R s vm0 m args below meth c P locs cells slots Z EL V0 h0 h own rm Q (pc + 3) Ls rest) : own_Go p e below P T (mkF m pc Ls st) := by
  obtain ⟨v, _, ⟨T', L', k', n'⟩, -, X', hS', hg', ⟨Lc, hQ, l', y', z', CH'⟩, stp⟩ := callSS X hx (y := y) hown (mvT hZ w1) (mvT hZ w2) (mvT hZ w3) (mvT hZ w4) hy (backOfSH (s := s) (W := W) (Q := Q) C hZ w4 w3 hf hl hEL CH.1) (g := mkF m pc Ls st) rfl hsize (argsL := argsL) (rest := rest) (lenOf hpd hlen) hst (by show 2 * 0 + _ ≤ _; omega) hd (fun _ _ => ⟨rfl, eT, hc, hs⟩)
  dsimp only [Pt.U, Pt.locs, Pt.cells, Pt.slots] at X' l' y' z' stp hQ hS' CH' hg'
  subst l' y' z'
  rw [eT] at hg'
  exact own_by (fun _ k => stp.trans k) (k T' v Lc X' (hS.trans hS' (Nat.le_trans hk hg')) (Nat.le_refl _) (State.Warmed39.trans hZ hS'.1) ((hS'.1.alike.findClass _ _).trans hown) hS'.1 CH' (CH.trans CH') hQ)
theorem own_callVW {own : String} {index : Nat} {C0 : String} {y z : MethodName} {bytes : ByteArray} {maxL : Nat} {ret : Option FieldType} {rm : Room} {Q : Option Value → Heap → List Loc → Prop} {ps : List FieldType} {r : Option FieldType} {a : Addr} (X : Stand p l e R (s.setVm vm0) m args below meth c T locs cells slots) (hx : p.tables.exec = Jvm.exec) (hZ : Z.Warmed39 (s.setVm vm0).vm) (hown : (s.setVm vm0).vm.findClass own = some m.cls) (eT : T.heap = h) (hd : decode c.code pc = .ok (.invokevirtual index, 3))
    (hS : s.Since vm0 k0) (hk : k0 ≤ h.size) (hEL : EW Z a0 EL) (CH : CHr Z EL V0 h0 vm0 h)
    (argsL rest : List Value) (W : Nat) (C : own_CtW l Z EL z bytes maxL ret [] rm (.ref a :: argsL).toArray h Q) (E : Exa Z h a C0) (w1 : (Cond.methodLink own index y).before a0 Z = true) (w0 : (Cond.declares y).before a0 Z = true) (nf : NotFace (s.setVm vm0) y) (ws : (Cond.selects C0 y z).before a0 Z = true) (w2 : (Cond.instanceMethod z).before a0 Z = true) (w3 : (Cond.initialized z.cls).before a0 Z = true) (w4 : (Cond.code z bytes maxL ret).before a0 Z = true)
    (hy : y.cls ≠ "java/lang/invoke/MethodHandle" ∧ y.cls ≠ "java/lang/invoke/VarHandle") (hpd : parseMethodDescriptor y.desc = some ⟨ps, r⟩) (hsize : Ls.size = c.maxLocals) (hlen : argsL.length = ps.length) (hst : st = argsL.reverse ++ .ref a :: rest)
    (hW : (rest.map fun v => v.category).sum ≤ W) (hf : rm.frames + 1 ≤ R.frames) (hl : W + (maxL + 11) + rm.locals ≤ R.locals) (hc : cells + rm.cells ≤ R.cells) (hs : slots + rm.slots ≤ R.slots)
    (k : own_KC p l e R s vm0 m args below meth c P locs cells slots Z EL V0 h0 h own rm Q (pc + 3) Ls rest) : own_Go p e below P T (mkF m pc Ls st) := by
  obtain ⟨cq, kq, qa, qb, qc⟩ := isOf hZ eT E
  obtain ⟨v, _, ⟨T', L', k', n'⟩, -, X', hS', hg', ⟨Lc, hQ, l', y', z', CH'⟩, stp⟩ := X.virtualBackS hx (y := y) (z := z) hown (mvT hZ w1) (mvT hZ w0) nf (mvT hZ ws) (mvT hZ w2) hy (backOfSH (s := s) (W := W) (Q := Q) C hZ w4 w3 hf hl hEL CH.1) qa qc (g := mkF m pc Ls st) rfl hsize (Steps.refl _) (argsL := argsL) (rest := rest) (lenOf hpd hlen) hst (by show 2 * 0 + _ ≤ _; omega) hd (fun _ _ => ⟨rfl, eT, hc, hs⟩)
  dsimp only [Pt.U, Pt.locs, Pt.cells, Pt.slots] at X' l' y' z' stp hQ hS' CH' hg'
  subst l' y' z'
  rw [eT] at hg'
  exact own_by (fun _ k => stp.trans k) (k T' v Lc X' (hS.trans hS' (Nat.le_trans hk hg')) (Nat.le_refl _) (State.Warmed39.trans hZ hS'.1) ((hS'.1.alike.findClass _ _).trans hown) hS'.1 CH' (CH.trans CH') hQ)
theorem own_callNW {own : String} {index : Nat} {y : MethodName} {bytes : ByteArray} {maxL : Nat} {rm : Room} {Q : Option Value → Heap → List Loc → Prop} {ps : List FieldType} {r : Option FieldType} {a : Addr} (X : Stand p l e R (s.setVm vm0) m args below meth c T locs cells slots) (hx : p.tables.exec = Jvm.exec) (hZ : Z.Warmed39 (s.setVm vm0).vm) (hown : (s.setVm vm0).vm.findClass own = some m.cls) (eT : T.heap = h) (hd : decode c.code pc = .ok (.invokespecial index, 3))
    (hS : s.Since vm0 k0) (hk : k0 ≤ h.size) (hEL : EW Z a0 EL) (CH : CHr Z EL V0 h0 vm0 h)
    (argsL rest : List Value) (W : Nat) (C : own_CtW l Z EL y bytes maxL none [] rm (.ref a :: argsL).toArray h Q) (w1 : (Cond.methodLink own index y).before a0 Z = true) (w2 : (Cond.instanceMethod y).before a0 Z = true) (w3 : (Cond.initialized y.cls).before a0 Z = true) (w4 : (Cond.code y bytes maxL none).before a0 Z = true)
    (hyi : y.name = "<init>") (hy : y.cls ≠ "java/lang/invoke/MethodHandle" ∧ y.cls ≠ "java/lang/invoke/VarHandle") (hpd : parseMethodDescriptor y.desc = some ⟨ps, r⟩) (hsize : Ls.size = c.maxLocals) (hlen : argsL.length = ps.length) (hst : st = argsL.reverse ++ .ref a :: rest)
    (hW : (rest.map fun v => v.category).sum ≤ W) (hf : rm.frames + 1 ≤ R.frames) (hl : W + (maxL + 11) + rm.locals ≤ R.locals) (hc : cells + rm.cells ≤ R.cells) (hs : slots + rm.slots ≤ R.slots)
    (k : own_KC p l e R s vm0 m args below meth c P locs cells slots Z EL V0 h0 h own rm Q (pc + 3) Ls rest) : own_Go p e below P T (mkF m pc Ls st) := by
  obtain ⟨v, _, ⟨T', L', k', n'⟩, -, X', hS', hg', ⟨Lc, hQ, l', y', z', CH'⟩, stp⟩ := X.specialBackS hx (y := y) hyi hown (mvT hZ w1) (mvT hZ w2) (mvT hZ w4) hy (backOfSH (s := s) (W := W) (Q := Q) C hZ w4 w3 hf hl hEL CH.1) (g := mkF m pc Ls st) rfl hsize (Steps.refl _) (a := a) (argsL := argsL) (rest := rest) (lenOf hpd hlen) hst (by show 2 * 0 + _ ≤ _; omega) hd (fun _ _ => ⟨rfl, eT, hc, hs⟩)
  dsimp only [Pt.U, Pt.locs, Pt.cells, Pt.slots] at X' l' y' z' stp hQ hS' CH' hg'
  subst l' y' z'
  rw [eT] at hg'
  exact own_by (fun _ k => stp.trans k) (k T' v Lc X' (hS.trans hS' (Nat.le_trans hk hg')) (Nat.le_refl _) (State.Warmed39.trans hZ hS'.1) ((hS'.1.alike.findClass _ _).trans hown) hS'.1 CH' (CH.trans CH') hQ)
end OwnWide
theorem own_wS {a0 : Array Value} {Z : State} (hw : ∀ d ∈ tables_1, d.before a0 Z = true) : ∀ a ∈ Bundle.stringAtoms, a.before a0 Z = true := by
  intro a ha
  simp only [Bundle.stringAtoms, List.mem_cons, List.not_mem_nil, or_false] at ha
  rcases ha with rfl | rfl | rfl | rfl | rfl | rfl | rfl
  · exact (hw _ (List.mem_of_getElem? (i := 5) rfl))
  · exact (hw _ (List.mem_of_getElem? (i := 6) rfl))
  · exact (hw _ (List.mem_of_getElem? (i := 7) rfl))
  · exact (hw _ (List.mem_of_getElem? (i := 8) rfl))
  · exact (hw _ (List.mem_of_getElem? (i := 9) rfl))
  · exact (hw _ (List.mem_of_getElem? (i := 10) rfl))
  · exact (hw _ (List.mem_of_getElem? (i := 11) rfl))
theorem own_EW {a0 : Array Value} {Z : State} (hw : ∀ d ∈ tables_1, d.before a0 Z = true) : EW Z a0 consts_1 := EW.cons (hw _ (List.mem_of_getElem? (i := 28) rfl)) (by decide +kernel) (EW.cons (hw _ (List.mem_of_getElem? (i := 4) rfl)) (by decide +kernel) (EW.cons (hw _ (List.mem_of_getElem? (i := 12) rfl)) (by decide +kernel) (EW.cons (hw _ (List.mem_of_getElem? (i := 27) rfl)) (by decide +kernel) (EW.nil))))
theorem d3_9 : decode jdk_43_method_13_code 9 = .ok (.iload_n 2, 1) := by decide +kernel
theorem d3_10 : decode jdk_43_method_13_code 10 = .ok (.aload_n 0, 1) := by decide +kernel
theorem d3_11 : decode jdk_43_method_13_code 11 = .ok (.arraylength, 1) := by decide +kernel
theorem d3_12 : decode jdk_43_method_13_code 12 = .ok (.if_icmp .ge 20, 3) := by decide +kernel
theorem d3_32 : decode jdk_43_method_13_code 32 = .ok (.iconst 1, 1) := by decide +kernel
theorem d3_33 : decode jdk_43_method_13_code 33 = .ok (.ireturn, 1) := by decide +kernel
theorem d3_15 : decode jdk_43_method_13_code 15 = .ok (.aload_n 0, 1) := by decide +kernel
theorem d3_16 : decode jdk_43_method_13_code 16 = .ok (.iload_n 2, 1) := by decide +kernel
theorem d3_17 : decode jdk_43_method_13_code 17 = .ok (.baload, 1) := by decide +kernel
theorem d3_18 : decode jdk_43_method_13_code 18 = .ok (.aload_n 1, 1) := by decide +kernel
theorem d3_19 : decode jdk_43_method_13_code 19 = .ok (.iload_n 2, 1) := by decide +kernel
theorem d3_20 : decode jdk_43_method_13_code 20 = .ok (.baload, 1) := by decide +kernel
theorem d3_21 : decode jdk_43_method_13_code 21 = .ok (.if_icmp .eq 5, 3) := by decide +kernel
theorem d3_26 : decode jdk_43_method_13_code 26 = .ok (.iinc 2 1, 3) := by decide +kernel
theorem d3_29 : decode jdk_43_method_13_code 29 = .ok (.goto (-20), 3) := by decide +kernel
theorem d3_24 : decode jdk_43_method_13_code 24 = .ok (.iconst 0, 1) := by decide +kernel
theorem d3_25 : decode jdk_43_method_13_code 25 = .ok (.ireturn, 1) := by decide +kernel
theorem d3_0 : decode jdk_43_method_13_code 0 = .ok (.aload_n 0, 1) := by decide +kernel
theorem d3_1 : decode jdk_43_method_13_code 1 = .ok (.arraylength, 1) := by decide +kernel
theorem d3_2 : decode jdk_43_method_13_code 2 = .ok (.aload_n 1, 1) := by decide +kernel
theorem d3_3 : decode jdk_43_method_13_code 3 = .ok (.arraylength, 1) := by decide +kernel
theorem d3_4 : decode jdk_43_method_13_code 4 = .ok (.if_icmp .ne 30, 3) := by decide +kernel
theorem d3_7 : decode jdk_43_method_13_code 7 = .ok (.iconst 0, 1) := by decide +kernel
theorem d3_8 : decode jdk_43_method_13_code 8 = .ok (.istore_n 2, 1) := by decide +kernel
theorem d3_34 : decode jdk_43_method_13_code 34 = .ok (.iconst 0, 1) := by decide +kernel
theorem d3_35 : decode jdk_43_method_13_code 35 = .ok (.ireturn, 1) := by decide +kernel
theorem pn_java_lang_StringLatin1 : plainName "java/lang/StringLatin1" = true := by first | (simp [plainName, overriddenIn]; done) | decide +kernel
theorem d2_0 : decode jdk_42_method_66_code 0 = .ok (.aload_n 0, 1) := by decide +kernel
theorem d2_1 : decode jdk_42_method_66_code 1 = .ok (.aload_n 1, 1) := by decide +kernel
theorem d2_2 : decode jdk_42_method_66_code 2 = .ok (.if_acmp .ne 5, 3) := by decide +kernel
theorem d2_5 : decode jdk_42_method_66_code 5 = .ok (.iconst 1, 1) := by decide +kernel
theorem d2_6 : decode jdk_42_method_66_code 6 = .ok (.ireturn, 1) := by decide +kernel
theorem d2_7 : decode jdk_42_method_66_code 7 = .ok (.aload_n 1, 1) := by decide +kernel
theorem d2_8 : decode jdk_42_method_66_code 8 = .ok (.instanceof 10, 3) := by decide +kernel
theorem d2_11 : decode jdk_42_method_66_code 11 = .ok (.ifCond .eq 43, 3) := by decide +kernel
theorem d2_14 : decode jdk_42_method_66_code 14 = .ok (.aload_n 1, 1) := by decide +kernel
theorem d2_15 : decode jdk_42_method_66_code 15 = .ok (.checkcast 10, 3) := by decide +kernel
theorem d2_18 : decode jdk_42_method_66_code 18 = .ok (.astore_n 2, 1) := by decide +kernel
theorem d2_19 : decode jdk_42_method_66_code 19 = .ok (.getstatic 38, 3) := by decide +kernel
theorem d2_22 : decode jdk_42_method_66_code 22 = .ok (.ifCond .eq 14, 3) := by decide +kernel
theorem d2_25 : decode jdk_42_method_66_code 25 = .ok (.aload_n 0, 1) := by decide +kernel
theorem d2_26 : decode jdk_42_method_66_code 26 = .ok (.getfield 15, 3) := by decide +kernel
theorem d2_29 : decode jdk_42_method_66_code 29 = .ok (.aload_n 2, 1) := by decide +kernel
theorem d2_30 : decode jdk_42_method_66_code 30 = .ok (.getfield 15, 3) := by decide +kernel
theorem d2_33 : decode jdk_42_method_66_code 33 = .ok (.if_icmp .ne 21, 3) := by decide +kernel
theorem d2_36 : decode jdk_42_method_66_code 36 = .ok (.aload_n 0, 1) := by decide +kernel
theorem d2_37 : decode jdk_42_method_66_code 37 = .ok (.getfield 9, 3) := by decide +kernel
theorem d2_40 : decode jdk_42_method_66_code 40 = .ok (.aload_n 2, 1) := by decide +kernel
theorem d2_41 : decode jdk_42_method_66_code 41 = .ok (.getfield 9, 3) := by decide +kernel
theorem d2_44 : decode jdk_42_method_66_code 44 = .ok (.invokestatic 541, 3) := by decide +kernel
theorem pd___B_B_Z : parseMethodDescriptor "([B[B)Z" = some ⟨[(.array .byte), (.array .byte)], some .boolean⟩ := by decide +kernel
theorem d2_47 : decode jdk_42_method_66_code 47 = .ok (.ifCond .eq 7, 3) := by decide +kernel
theorem d2_54 : decode jdk_42_method_66_code 54 = .ok (.iconst 0, 1) := by decide +kernel
theorem d2_55 : decode jdk_42_method_66_code 55 = .ok (.ireturn, 1) := by decide +kernel
theorem d2_50 : decode jdk_42_method_66_code 50 = .ok (.iconst 1, 1) := by decide +kernel
theorem d2_51 : decode jdk_42_method_66_code 51 = .ok (.goto 4, 3) := by decide +kernel
theorem pn_java_lang_String : plainName "java/lang/String" = true := by first | (simp [plainName, overriddenIn]; done) | decide +kernel
theorem d1_0 : decode prog_64_method_2_code 0 = .ok (.iload_n 0, 1) := by decide +kernel
theorem d1_1 : decode prog_64_method_2_code 1 = .ok (.ifCond .eq 8, 3) := by decide +kernel
theorem d1_9 : decode prog_64_method_2_code 9 = .ok (.ldc 28, 2) := by decide +kernel
theorem own_t_4 : (∀ c ∈ ("released" : String).toList, c.toNat < 256) ∧ ("released" : String).toList.map (fun c => Value.int (Jvm.Lit.byteI c.toNat.toUInt16)) = ([(114 : Int32), (101 : Int32), (108 : Int32), (101 : Int32), (97 : Int32), (115 : Int32), (101 : Int32), (100 : Int32)] : List Int32).map Value.int := by decide +kernel
theorem d1_11 : decode prog_64_method_2_code 11 = .ok (.areturn, 1) := by decide +kernel
theorem pn_com_example_quayside_quayside_wallet_PromoGrant : plainName "com/example/quayside/quayside/wallet/PromoGrant" = true := by first | (simp [plainName, overriddenIn]; done) | decide +kernel
theorem d1_4 : decode prog_64_method_2_code 4 = .ok (.ldc 26, 2) := by decide +kernel
theorem own_t_28 : (∀ c ∈ ("locked" : String).toList, c.toNat < 256) ∧ ("locked" : String).toList.map (fun c => Value.int (Jvm.Lit.byteI c.toNat.toUInt16)) = ([(108 : Int32), (111 : Int32), (99 : Int32), (107 : Int32), (101 : Int32), (100 : Int32)] : List Int32).map Value.int := by decide +kernel
theorem d1_6 : decode prog_64_method_2_code 6 = .ok (.goto 5, 3) := by decide +kernel
theorem pd__Z_Ljava_lang_String_ : parseMethodDescriptor "(Z)Ljava/lang/String;" = some ⟨[.boolean], some (.object "java/lang/String")⟩ := by decide +kernel
theorem own_t_12 : (∀ c ∈ ("locked" : String).toList, c.toNat < 256) ∧ ("locked" : String).toList.map (fun c => Value.int (Jvm.Lit.byteI c.toNat.toUInt16)) = ([(108 : Int32), (111 : Int32), (99 : Int32), (107 : Int32), (101 : Int32), (100 : Int32)] : List Int32).map Value.int := by decide +kernel
theorem pd__Ljava_lang_Object__Z : parseMethodDescriptor "(Ljava/lang/Object;)Z" = some ⟨[(.object "java/lang/Object")], some .boolean⟩ := by decide +kernel
theorem own_t_27 : (∀ c ∈ ("released" : String).toList, c.toNat < 256) ∧ ("released" : String).toList.map (fun c => Value.int (Jvm.Lit.byteI c.toNat.toUInt16)) = ([(114 : Int32), (101 : Int32), (108 : Int32), (101 : Int32), (97 : Int32), (115 : Int32), (101 : Int32), (100 : Int32)] : List Int32).map Value.int := by decide +kernel
theorem pn_com_example_quayside_quayside_wallet_PromoGrantStatePinLaw : plainName "com/example/quayside/quayside/wallet/PromoGrantStatePinLaw" = true := by first | (simp [plainName, overriddenIn]; done) | decide +kernel
theorem ef_rmLE (m : MethodId) (x0 : Addr) (x1 : Addr) : entryFrame m #[(.ref x0), (.ref x1)] 3 = mkF m 0 #[.val (.ref x0), .val (.ref x1), .unset] [] := by first | (simp [entryFrame, mkF, argsToLocals, Value.category]; done) | rfl
set_option maxRecDepth 65536 in
set_option maxHeartbeats 40000000 in
theorem rmLE (l : Launch) (Z : State) (a0 : Array Value) (hw : ∀ d ∈ tables_1, d.before a0 Z = true) (ws : List Jvm.Cond) (b1 b2 : Addr) (z1 z2 : Int32) (n1 n2 : Nat) (f1 f2 : Nat → Int32) (h0 : Heap) (hz1 : z1.toInt = n1) (hz2 : z2.toInt = n2) (A1 : own_A Z h0 b1 .byte n1 f1) (A2 : own_A Z h0 b2 .byte n2 f2) :
    own_Ct l Z (⟨"java/lang/StringLatin1", "equals", "([B[B)Z"⟩ : MethodName) jdk_43_method_13_code 3 (some .boolean) ws ({ frames := 0, cells := 0, slots := 0, locals := 0 } : Room) #[(.ref b1), (.ref b2)] h0 (fun v h L => v = some (.int (own_eqA n1 f1 n2 f2)) ∧ L = [] ∧ h = h0) := by
  refine own_of pn_java_lang_StringLatin1 ?_
  intro p e s m below meth c s₁ hx hby hml hown hnm hret hlk hZ X0 e0
  have loop : n1 = n2 → ∀ (k j : Nat) (iv : Int32) (TL : State), j + k = n1 → iv.toInt = (j : Nat) → (∀ q, q < j → f1 q = f2 q) → Stand p l e ({ frames := 0, cells := 0, slots := 0, locals := 0 } : Room) s m #[(.ref b1), (.ref b2)] below meth c TL [] 0 0 → TL.heap = h0 → own_Go p e below (own_Ends s ({ frames := 0, cells := 0, slots := 0, locals := 0 } : Room) (fun v h L => v = some (.int (own_eqA n1 f1 n2 f2)) ∧ L = [] ∧ h = h0)) TL (mkF m 9 #[.val (.ref b1), .val (.ref b2), .val (.int iv)] []) := by
    intro hnn k
    induction k with
    | zero =>
      intro j iv TL hjk hiv hall XL eL
      refine own_by (T' := TL) (f' := (mkF m 10 #[.val (.ref b1), .val (.ref b2), .val (.int iv)] [(.int iv)])) (fun t k => XS.iloadN XL.here hx rfl (hb hby d3_9) rfl k) ?_
      refine own_by (T' := TL) (f' := (mkF m 11 #[.val (.ref b1), .val (.ref b2), .val (.int iv)] [(.ref b1), (.int iv)])) (fun t k => XS.aloadN XL.here hx rfl (hb hby d3_10) rfl rfl k) ?_
      refine own_alen (j := z1) XL hx hZ eL (hb hby d3_11) A1 hz1 ?_
      show own_Go p e below _ TL (mkF m 12 #[.val (.ref b1), .val (.ref b2), .val (.int iv)] [(.int z1), (.int iv)])
      have hc12_51 : ¬ (iv < z1) := (by rw [Int32.lt_iff_toInt_lt]; omega)
      refine own_by (T' := TL) (f' := (mkF m 32 #[.val (.ref b1), .val (.ref b2), .val (.int iv)] [])) (fun t k => XS.icmpYes XL.here hx rfl (pc0 := 12) (pc' := 32) rfl (hb hby d3_12) rfl (flt hc12_51).2.1 (by decide) (by decide) k) ?_
      refine own_by (T' := TL) (f' := (mkF m 33 #[.val (.ref b1), .val (.ref b2), .val (.int iv)] [(.int (1 : Int32))])) (fun t k => XS.iconst XL.here hx rfl (hb hby d3_32) k) ?_
      refine own_retZ XL hx hret hlk (hb hby d3_33) (Or.inr rfl) (by decide) (by decide) ?_
      try rw [eL]
      exact ⟨by rw [own_eqA_all hnn (fun i hi => hall i (by omega))], rfl, rfl⟩
    | succ k ih =>
      intro j iv TL hjk hiv hall XL eL
      refine own_by (T' := TL) (f' := (mkF m 10 #[.val (.ref b1), .val (.ref b2), .val (.int iv)] [(.int iv)])) (fun t k => XS.iloadN XL.here hx rfl (hb hby d3_9) rfl k) ?_
      refine own_by (T' := TL) (f' := (mkF m 11 #[.val (.ref b1), .val (.ref b2), .val (.int iv)] [(.ref b1), (.int iv)])) (fun t k => XS.aloadN XL.here hx rfl (hb hby d3_10) rfl rfl k) ?_
      refine own_alen (j := z1) XL hx hZ eL (hb hby d3_11) A1 hz1 ?_
      show own_Go p e below _ TL (mkF m 12 #[.val (.ref b1), .val (.ref b2), .val (.int iv)] [(.int z1), (.int iv)])
      have hc12_51 : iv < z1 := (by rw [Int32.lt_iff_toInt_lt]; omega)
      refine own_by (T' := TL) (f' := (mkF m 15 #[.val (.ref b1), .val (.ref b2), .val (.int iv)] [])) (fun t k => XS.icmpNo XL.here hx rfl (hb hby d3_12) rfl (tlt hc12_51).2.1 k) ?_
      refine own_by (T' := TL) (f' := (mkF m 16 #[.val (.ref b1), .val (.ref b2), .val (.int iv)] [(.ref b1)])) (fun t k => XS.aloadN XL.here hx rfl (hb hby d3_15) rfl rfl k) ?_
      refine own_by (T' := TL) (f' := (mkF m 17 #[.val (.ref b1), .val (.ref b2), .val (.int iv)] [(.int iv), (.ref b1)])) (fun t k => XS.iloadN XL.here hx rfl (hb hby d3_16) rfl k) ?_
      refine own_ldB XL hx hZ eL (hb hby d3_17) A1 (by first | decide | omega) (by first | decide | omega) ?_
      rw [show iv.toInt.toNat = j from by omega]
      show own_Go p e below _ TL (mkF m 18 #[.val (.ref b1), .val (.ref b2), .val (.int iv)] [(.int (f1 j))])
      refine own_by (T' := TL) (f' := (mkF m 19 #[.val (.ref b1), .val (.ref b2), .val (.int iv)] [(.ref b2), (.int (f1 j))])) (fun t k => XS.aloadN XL.here hx rfl (hb hby d3_18) rfl rfl k) ?_
      refine own_by (T' := TL) (f' := (mkF m 20 #[.val (.ref b1), .val (.ref b2), .val (.int iv)] [(.int iv), (.ref b2), (.int (f1 j))])) (fun t k => XS.iloadN XL.here hx rfl (hb hby d3_19) rfl k) ?_
      refine own_ldB XL hx hZ eL (hb hby d3_20) A2 (by first | decide | omega) (by first | decide | omega) ?_
      rw [show iv.toInt.toNat = j from by omega]
      show own_Go p e below _ TL (mkF m 21 #[.val (.ref b1), .val (.ref b2), .val (.int iv)] [(.int (f2 j)), (.int (f1 j))])
      by_cases hc21_52 : (f1 j) = (f2 j)
      · have _ := XL
        refine own_by (T' := TL) (f' := (mkF m 26 #[.val (.ref b1), .val (.ref b2), .val (.int iv)] [])) (fun t k => XS.icmpYes XL.here hx rfl (pc0 := 21) (pc' := 26) rfl (hb hby d3_21) rfl (teq hc21_52).1 (by decide) (by decide) k) ?_
        refine own_by (T' := TL) (f' := (mkF m 29 #[.val (.ref b1), .val (.ref b2), .val (.int (iv + (1 : Int32)))] [])) (fun t k => XS.iinc XL.here hx rfl (hb hby d3_26) rfl (l' := #[.val (.ref b1), .val (.ref b2), .val (.int (iv + (1 : Int32)))]) rfl k) ?_
        refine own_by (T' := TL) (f' := (mkF m 9 #[.val (.ref b1), .val (.ref b2), .val (.int (iv + (1 : Int32)))] [])) (fun t k => XS.goto XL.here hx rfl (pc0 := 29) (pc' := 9) rfl (hb hby d3_29) (by decide) (by decide) k) ?_
        exact ih (j + 1) (iv + (1 : Int32)) TL (by omega) (own_inc hiv (by omega) A1.small) (fun q hq => if e : q = j then e ▸ hc21_52 else hall q (by omega)) XL eL
      · have _ := XL
        refine own_by (T' := TL) (f' := (mkF m 24 #[.val (.ref b1), .val (.ref b2), .val (.int iv)] [])) (fun t k => XS.icmpNo XL.here hx rfl (hb hby d3_21) rfl (feq hc21_52).1 k) ?_
        refine own_by (T' := TL) (f' := (mkF m 25 #[.val (.ref b1), .val (.ref b2), .val (.int iv)] [(.int (0 : Int32))])) (fun t k => XS.iconst XL.here hx rfl (hb hby d3_24) k) ?_
        refine own_retZ XL hx hret hlk (hb hby d3_25) (Or.inl rfl) (by decide) (by decide) ?_
        try rw [eL]
        exact ⟨by rw [own_eqA_at (by omega) hc21_52], rfl, rfl⟩
  rw [ef_rmLE]
  refine own_by (T' := s₁) (f' := (mkF m 1 #[.val (.ref b1), .val (.ref b2), .unset] [(.ref b1)])) (fun t k => XS.aloadN X0.here hx rfl (hb hby d3_0) rfl rfl k) ?_
  refine own_alen (j := z1) X0 hx hZ e0 (hb hby d3_1) A1 hz1 ?_
  show own_Go p e below _ s₁ (mkF m 2 #[.val (.ref b1), .val (.ref b2), .unset] [(.int z1)])
  refine own_by (T' := s₁) (f' := (mkF m 3 #[.val (.ref b1), .val (.ref b2), .unset] [(.ref b2), (.int z1)])) (fun t k => XS.aloadN X0.here hx rfl (hb hby d3_2) rfl rfl k) ?_
  refine own_alen (j := z2) X0 hx hZ e0 (hb hby d3_3) A2 hz2 ?_
  show own_Go p e below _ s₁ (mkF m 4 #[.val (.ref b1), .val (.ref b2), .unset] [(.int z2), (.int z1)])
  by_cases hc4_1 : z1 = z2
  · have _ := X0
    refine own_by (T' := s₁) (f' := (mkF m 7 #[.val (.ref b1), .val (.ref b2), .unset] [])) (fun t k => XS.icmpNo X0.here hx rfl (hb hby d3_4) rfl (teq hc4_1).2 k) ?_
    refine own_by (T' := s₁) (f' := (mkF m 8 #[.val (.ref b1), .val (.ref b2), .unset] [(.int (0 : Int32))])) (fun t k => XS.iconst X0.here hx rfl (hb hby d3_7) k) ?_
    refine own_by (T' := s₁) (f' := (mkF m 9 #[.val (.ref b1), .val (.ref b2), .val (.int (0 : Int32))] [])) (fun t k => XS.istoreN X0.here hx rfl (hb hby d3_8) rfl (l' := #[.val (.ref b1), .val (.ref b2), .val (.int (0 : Int32))]) rfl k) ?_
    exact loop (by rw [hc4_1] at hz1; omega) n1 0 0 s₁ (by omega) (by decide) (fun q hq => absurd hq (Nat.not_lt_zero q)) X0 e0
  · have _ := X0
    refine own_by (T' := s₁) (f' := (mkF m 34 #[.val (.ref b1), .val (.ref b2), .unset] [])) (fun t k => XS.icmpYes X0.here hx rfl (pc0 := 4) (pc' := 34) rfl (hb hby d3_4) rfl (feq hc4_1).2 (by decide) (by decide) k) ?_
    refine own_by (T' := s₁) (f' := (mkF m 35 #[.val (.ref b1), .val (.ref b2), .unset] [(.int (0 : Int32))])) (fun t k => XS.iconst X0.here hx rfl (hb hby d3_34) k) ?_
    refine own_retZ X0 hx hret hlk (hb hby d3_35) (Or.inl rfl) (by decide) (by decide) ?_
    try rw [e0]
    exact ⟨by rw [own_eqA_ne fun q => hc4_1 (Int32.toInt_inj.mp (by omega))], rfl, rfl⟩
theorem ef_rmEQ (m : MethodId) (x0 : Addr) (x1 : Addr) : entryFrame m #[(.ref x0), (.ref x1)] 3 = mkF m 0 #[.val (.ref x0), .val (.ref x1), .unset] [] := by first | (simp [entryFrame, mkF, argsToLocals, Value.category]; done) | rfl
set_option maxRecDepth 65536 in
set_option maxHeartbeats 40000000 in
theorem rmEQ (l : Launch) (Z : State) (a0 : Array Value) (hw : ∀ d ∈ tables_1, d.before a0 Z = true) (ws : List Jvm.Cond) (a1 a2 b1 b2 : Addr) (z1 z2 : Int32) (n1 n2 : Nat) (f1 f2 : Nat → Int32) (cs : Int32) (h0 : Heap) (E1 : Exa Z h0 a1 "java/lang/String") (C1 : Fld Z h0 a1 "java/lang/String" "coder" "B" (.int 0)) (V1 : Fld Z h0 a1 "java/lang/String" "value" "[B" (.ref b1)) (A1 : own_A Z h0 b1 .byte n1 f1) (hz1 : z1.toInt = n1) (E2 : Exa Z h0 a2 "java/lang/String") (C2 : Fld Z h0 a2 "java/lang/String" "coder" "B" (.int 0)) (V2 : Fld Z h0 a2 "java/lang/String" "value" "[B" (.ref b2)) (A2 : own_A Z h0 b2 .byte n2 f2) (hz2 : z2.toInt = n2) (hcs : ¬ (cs = (0 : Int32))) (S0 : Sta Z h0 "java/lang/String" "COMPACT_STRINGS" "Z" (.int cs)) :
    own_Ct l Z (⟨"java/lang/String", "equals", "(Ljava/lang/Object;)Z"⟩ : MethodName) jdk_42_method_66_code 3 (some .boolean) ws ({ frames := 1, cells := 0, slots := 0, locals := 16 } : Room) #[(.ref a1), (.ref a2)] h0 (fun v h L => v = some (.int (own_eqA n1 f1 n2 f2)) ∧ L = [] ∧ h = h0) := by
  refine own_of pn_java_lang_String ?_
  intro p e s m below meth c s₁ hx hby hml hown hnm hret hlk hZ X0 e0
  rw [ef_rmEQ]
  refine own_by (T' := s₁) (f' := (mkF m 1 #[.val (.ref a1), .val (.ref a2), .unset] [(.ref a1)])) (fun t k => XS.aloadN X0.here hx rfl (hb hby d2_0) rfl rfl k) ?_
  refine own_by (T' := s₁) (f' := (mkF m 2 #[.val (.ref a1), .val (.ref a2), .unset] [(.ref a2), (.ref a1)])) (fun t k => XS.aloadN X0.here hx rfl (hb hby d2_1) rfl rfl k) ?_
  by_cases ha2_11 : a1 = a2
  · have _ := X0
    refine own_by (T' := s₁) (f' := (mkF m 5 #[.val (.ref a1), .val (.ref a2), .unset] [])) (fun t k => Jvm.RoadKit.acmp (g := (mkF m 2 #[.val (.ref a1), .val (.ref a2), .unset] [(.ref a2), (.ref a1)])) X0 hx rfl rfl rfl (pc0 := 2) (pc' := 5) (same := true) rfl (hb hby d2_2) rfl (decide_eq_true (congrArg Value.ref ha2_11)) (by decide) (by decide) k) ?_
    refine own_by (T' := s₁) (f' := (mkF m 6 #[.val (.ref a1), .val (.ref a2), .unset] [(.int (1 : Int32))])) (fun t k => XS.iconst X0.here hx rfl (hb hby d2_5) k) ?_
    refine own_retZ X0 hx hret hlk (hb hby d2_6) (Or.inr rfl) (by decide) (by decide) ?_
    try rw [e0]
    have ha := ha2_11
    subst ha
    have hb : b1 = b2 := by simpa using own_fld_uniq V1 V2
    subst hb
    have hu := own_A.uniq A1 A2
    exact ⟨by rw [own_eqA_all hu.1 hu.2], rfl, rfl⟩
  · have _ := X0
    refine own_by (T' := s₁) (f' := (mkF m 7 #[.val (.ref a1), .val (.ref a2), .unset] [])) (fun t k => Jvm.RoadKit.acmp (g := (mkF m 2 #[.val (.ref a1), .val (.ref a2), .unset] [(.ref a2), (.ref a1)])) X0 hx rfl rfl rfl (pc0 := 2) (pc' := 7) (same := false) rfl (hb hby d2_2) rfl (decide_eq_false fun q => ha2_11 (Value.ref.inj q)) (by decide) (by decide) k) ?_
    refine own_by (T' := s₁) (f' := (mkF m 8 #[.val (.ref a1), .val (.ref a2), .unset] [(.ref a2)])) (fun t k => XS.aloadN X0.here hx rfl (hb hby d2_7) rfl rfl k) ?_
    obtain ⟨T12, X12, e12, st12⟩ := instY X0 hx hZ hown (hw _ (List.mem_of_getElem? (i := 18) rfl)) e0 (Ins.self E2) (g := (mkF m 8 #[.val (.ref a1), .val (.ref a2), .unset] [(.ref a2)])) rfl rfl (hb hby d2_8)
    refine own_by (f' := (mkF m 11 #[.val (.ref a1), .val (.ref a2), .unset] [(.int (1 : Int32))])) st12 ?_
    refine own_by (T' := T12) (f' := (mkF m 14 #[.val (.ref a1), .val (.ref a2), .unset] [])) (fun t k => XS.ifNo X12.here hx rfl (hb hby d2_11) rfl ((if0 _ _).trans (feq (by decide)).1) k) ?_
    refine own_by (T' := T12) (f' := (mkF m 15 #[.val (.ref a1), .val (.ref a2), .unset] [(.ref a2)])) (fun t k => XS.aloadN X12.here hx rfl (hb hby d2_14) rfl rfl k) ?_
    obtain ⟨T13, X13, e13, st13⟩ := castY X12 hx hZ hown (hw _ (List.mem_of_getElem? (i := 18) rfl)) e12 (Ins.self E2) (g := (mkF m 15 #[.val (.ref a1), .val (.ref a2), .unset] [(.ref a2)])) rfl rfl (hb hby d2_15)
    refine own_by (f' := (mkF m 18 #[.val (.ref a1), .val (.ref a2), .unset] [(.ref a2)])) st13 ?_
    refine own_by (T' := T13) (f' := (mkF m 19 #[.val (.ref a1), .val (.ref a2), .val (.ref a2)] [])) (fun t k => XS.astoreN X13.here hx rfl (hb hby d2_18) rfl rfl (l' := #[.val (.ref a1), .val (.ref a2), .val (.ref a2)]) rfl k) ?_
    refine own_getS (host := "") X13 hx hZ hown e13 (hb hby d2_19) (Or.inl (hw _ (List.mem_of_getElem? (i := 20) rfl))) Via.refl S0 ?_
    intro T14 X14 e14
    show own_Go p e below _ T14 (mkF m 22 #[.val (.ref a1), .val (.ref a2), .val (.ref a2)] [(.int cs)])
    refine own_by (T' := T14) (f' := (mkF m 25 #[.val (.ref a1), .val (.ref a2), .val (.ref a2)] [])) (fun t k => XS.ifNo X14.here hx rfl (hb hby d2_22) rfl ((if0 _ _).trans (feq hcs).1) k) ?_
    refine own_by (T' := T14) (f' := (mkF m 26 #[.val (.ref a1), .val (.ref a2), .val (.ref a2)] [(.ref a1)])) (fun t k => XS.aloadN X14.here hx rfl (hb hby d2_25) rfl rfl k) ?_
    refine own_getF (host := "") X14 hx hZ hown e14 (hb hby d2_26) (Or.inl (hw _ (List.mem_of_getElem? (i := 21) rfl))) Via.refl C1 ?_
    intro T15 X15 e15
    show own_Go p e below _ T15 (mkF m 29 #[.val (.ref a1), .val (.ref a2), .val (.ref a2)] [(.int (0 : Int32))])
    refine own_by (T' := T15) (f' := (mkF m 30 #[.val (.ref a1), .val (.ref a2), .val (.ref a2)] [(.ref a2), (.int (0 : Int32))])) (fun t k => XS.aloadN X15.here hx rfl (hb hby d2_29) rfl rfl k) ?_
    refine own_getF (host := "") X15 hx hZ hown e15 (hb hby d2_30) (Or.inl (hw _ (List.mem_of_getElem? (i := 21) rfl))) Via.refl C2 ?_
    intro T16 X16 e16
    show own_Go p e below _ T16 (mkF m 33 #[.val (.ref a1), .val (.ref a2), .val (.ref a2)] [(.int (0 : Int32)), (.int (0 : Int32))])
    refine own_by (T' := T16) (f' := (mkF m 36 #[.val (.ref a1), .val (.ref a2), .val (.ref a2)] [])) (fun t k => XS.icmpNo X16.here hx rfl (hb hby d2_33) rfl (teq rfl).2 k) ?_
    refine own_by (T' := T16) (f' := (mkF m 37 #[.val (.ref a1), .val (.ref a2), .val (.ref a2)] [(.ref a1)])) (fun t k => XS.aloadN X16.here hx rfl (hb hby d2_36) rfl rfl k) ?_
    refine own_getF (host := "") X16 hx hZ hown e16 (hb hby d2_37) (Or.inl (hw _ (List.mem_of_getElem? (i := 22) rfl))) Via.refl V1 ?_
    intro T17 X17 e17
    show own_Go p e below _ T17 (mkF m 40 #[.val (.ref a1), .val (.ref a2), .val (.ref a2)] [(.ref b1)])
    refine own_by (T' := T17) (f' := (mkF m 41 #[.val (.ref a1), .val (.ref a2), .val (.ref a2)] [(.ref a2), (.ref b1)])) (fun t k => XS.aloadN X17.here hx rfl (hb hby d2_40) rfl rfl k) ?_
    refine own_getF (host := "") X17 hx hZ hown e17 (hb hby d2_41) (Or.inl (hw _ (List.mem_of_getElem? (i := 22) rfl))) Via.refl V2 ?_
    intro T18 X18 e18
    show own_Go p e below _ T18 (mkF m 44 #[.val (.ref a1), .val (.ref a2), .val (.ref a2)] [(.ref b2), (.ref b1)])
    refine own_callS X18 hx hZ hown e18 (hb hby d2_44) [(.ref b1), (.ref b2)] [] 0 (rmLE l Z a0 hw [] b1 b2 z1 z2 n1 n2 f1 f2 h0 hz1 hz2 A1 A2) (hw _ (List.mem_of_getElem? (i := 23) rfl)) (hw _ (List.mem_of_getElem? (i := 24) rfl)) (hw _ (List.mem_of_getElem? (i := 25) rfl)) (hw _ (List.mem_of_getElem? (i := 26) rfl)) (by decide) pd___B_B_Z (by rw [hml]; rfl) rfl rfl (Nat.le_of_eq rfl) (by decide) (by decide) (by decide) (by decide) ?_
    rintro T19 _ L19 X19 ⟨rfl, rfl, e19⟩
    show own_Go p e below _ T19 (mkF m 47 #[.val (.ref a1), .val (.ref a2), .val (.ref a2)] [(.int (own_eqA n1 f1 n2 f2))])
    rw [List.append_nil] at X19
    by_cases hc47_20 : (own_eqA n1 f1 n2 f2) = (0 : Int32)
    · have _ := X19
      refine own_by (T' := T19) (f' := (mkF m 54 #[.val (.ref a1), .val (.ref a2), .val (.ref a2)] [])) (fun t k => XS.ifYes X19.here hx rfl (pc0 := 47) (pc' := 54) rfl (hb hby d2_47) rfl ((if0 _ _).trans (teq hc47_20).1) (by decide) (by decide) k) ?_
      refine own_by (T' := T19) (f' := (mkF m 55 #[.val (.ref a1), .val (.ref a2), .val (.ref a2)] [(.int (0 : Int32))])) (fun t k => XS.iconst X19.here hx rfl (hb hby d2_54) k) ?_
      refine own_retZ X19 hx hret hlk (hb hby d2_55) (Or.inl rfl) (by decide) (by decide) ?_
      try rw [e19]
      exact ⟨by rw [hc47_20], rfl, rfl⟩
    · have _ := X19
      refine own_by (T' := T19) (f' := (mkF m 50 #[.val (.ref a1), .val (.ref a2), .val (.ref a2)] [])) (fun t k => XS.ifNo X19.here hx rfl (hb hby d2_47) rfl ((if0 _ _).trans (feq hc47_20).1) k) ?_
      refine own_by (T' := T19) (f' := (mkF m 51 #[.val (.ref a1), .val (.ref a2), .val (.ref a2)] [(.int (1 : Int32))])) (fun t k => XS.iconst X19.here hx rfl (hb hby d2_50) k) ?_
      refine own_by (T' := T19) (f' := (mkF m 55 #[.val (.ref a1), .val (.ref a2), .val (.ref a2)] [(.int (1 : Int32))])) (fun t k => XS.goto X19.here hx rfl (pc0 := 51) (pc' := 55) rfl (hb hby d2_51) (by decide) (by decide) k) ?_
      refine own_retZ X19 hx hret hlk (hb hby d2_55) (Or.inr rfl) (by decide) (by decide) ?_
      try rw [e19]
      exact ⟨by rw [(own_eqA_01 n1 f1 n2 f2).resolve_left hc47_20], rfl, rfl⟩
theorem ef_rmS0 (m : MethodId) (x0 : Int32) : entryFrame m #[(.int x0)] 1 = mkF m 0 #[.val (.int x0)] [] := by first | (simp [entryFrame, mkF, argsToLocals, Value.category]; done) | rfl
set_option maxRecDepth 65536 in
set_option maxHeartbeats 40000000 in
theorem rmS0 (l : Launch) (Z : State) (a0 : Array Value) (hw : ∀ d ∈ tables_1, d.before a0 Z = true) (ws : List Jvm.Cond)  (h0 : Heap)  :
    own_CtW l Z consts_1 (⟨"com/example/quayside/quayside/wallet/PromoGrant", "state", "(Z)Ljava/lang/String;"⟩ : MethodName) prog_64_method_2_code 1 (some (.object "java/lang/String")) ws ({ frames := 0, cells := 2, slots := 36, locals := 0 } : Room) #[(.int (0 : Int32))] h0 (fun v h L => ∃ a b : Addr, v = some (.ref a) ∧ L = [] ∧ Keep h0 h [] ∧ Exa Z h a "java/lang/String" ∧ Fld Z h a "java/lang/String" "coder" "B" (.int 0) ∧ Fld Z h a "java/lang/String" "value" "[B" (.ref b) ∧ own_A Z h b .byte 8 (fun i => List.getD [(114 : Int32), (101 : Int32), (108 : Int32), (101 : Int32), (97 : Int32), (115 : Int32), (101 : Int32), (100 : Int32)] i 0)) := by
  have hEL := own_EW hw
  refine own_ofW pn_com_example_quayside_quayside_wallet_PromoGrant ?_
  intro p e s m below meth c s₁ hx hby hml hown hnm hret hlk hZ X0 e0 hs0 hS hk CH
  have K0 := Keep.refl h0 []
  rw [ef_rmS0]
  refine own_by (T' := s₁) (f' := (mkF m 1 #[.val (.int (0 : Int32))] [(.int (0 : Int32))])) (fun t k => XS.iloadN X0.here hx rfl (hb hby d1_0) rfl k) ?_
  refine own_by (T' := s₁) (f' := (mkF m 9 #[.val (.int (0 : Int32))] [])) (fun t k => XS.ifYes X0.here hx rfl (pc0 := 1) (pc' := 9) rfl (hb hby d1_1) rfl ((if0 _ _).trans (teq rfl).1) (by decide) (by decide) k) ?_
  refine own_ldc (us := [(114 : Int32), (101 : Int32), (108 : Int32), (101 : Int32), (97 : Int32), (115 : Int32), (101 : Int32), (100 : Int32)]) (z := (8 : Int32)) X0 hx hZ hown e0 (hb hby d1_9) (hw _ (List.mem_of_getElem? (i := 4) rfl)) (own_wS hw) hS hk hEL (by decide) CH own_t_4 (by decide) (by decide) 32 (by decide) (by decide) (by decide) (by decide) ?_
  intro a1 T1 h1 kx1 b1 X1 e1 E1 hS hk hZ hown hW1 CHs1 CH L1 A1 C1 V1 B1 sf1
  show own_Go p e below _ T1 (mkF m 11 #[.val (.int (0 : Int32))] [(.ref a1)])
  have K2 := K0.ext E1
  refine own_retW X1 hx hret hlk hZ hEL hs0 e1 hS hk CH (hb hby d1_11) rfl (Or.inr (Or.inr (Or.inr (Or.inr ⟨rfl, rfl, rfl⟩)))) (by decide) (by decide) ?_
  try rw [e1]
  exact ⟨a1, b1, rfl, rfl, K2, A1, C1, V1, B1⟩
theorem ef_rmS1 (m : MethodId) (x0 : Int32) : entryFrame m #[(.int x0)] 1 = mkF m 0 #[.val (.int x0)] [] := by first | (simp [entryFrame, mkF, argsToLocals, Value.category]; done) | rfl
set_option maxRecDepth 65536 in
set_option maxHeartbeats 40000000 in
theorem rmS1 (l : Launch) (Z : State) (a0 : Array Value) (hw : ∀ d ∈ tables_1, d.before a0 Z = true) (ws : List Jvm.Cond)  (h0 : Heap)  :
    own_CtW l Z consts_1 (⟨"com/example/quayside/quayside/wallet/PromoGrant", "state", "(Z)Ljava/lang/String;"⟩ : MethodName) prog_64_method_2_code 1 (some (.object "java/lang/String")) ws ({ frames := 0, cells := 2, slots := 36, locals := 0 } : Room) #[(.int (1 : Int32))] h0 (fun v h L => ∃ a b : Addr, v = some (.ref a) ∧ L = [] ∧ Keep h0 h [] ∧ Exa Z h a "java/lang/String" ∧ Fld Z h a "java/lang/String" "coder" "B" (.int 0) ∧ Fld Z h a "java/lang/String" "value" "[B" (.ref b) ∧ own_A Z h b .byte 6 (fun i => List.getD [(108 : Int32), (111 : Int32), (99 : Int32), (107 : Int32), (101 : Int32), (100 : Int32)] i 0)) := by
  have hEL := own_EW hw
  refine own_ofW pn_com_example_quayside_quayside_wallet_PromoGrant ?_
  intro p e s m below meth c s₁ hx hby hml hown hnm hret hlk hZ X0 e0 hs0 hS hk CH
  have K0 := Keep.refl h0 []
  rw [ef_rmS1]
  refine own_by (T' := s₁) (f' := (mkF m 1 #[.val (.int (1 : Int32))] [(.int (1 : Int32))])) (fun t k => XS.iloadN X0.here hx rfl (hb hby d1_0) rfl k) ?_
  refine own_by (T' := s₁) (f' := (mkF m 4 #[.val (.int (1 : Int32))] [])) (fun t k => XS.ifNo X0.here hx rfl (hb hby d1_1) rfl ((if0 _ _).trans (feq (by decide)).1) k) ?_
  refine own_ldc (us := [(108 : Int32), (111 : Int32), (99 : Int32), (107 : Int32), (101 : Int32), (100 : Int32)]) (z := (6 : Int32)) X0 hx hZ hown e0 (hb hby d1_4) (hw _ (List.mem_of_getElem? (i := 28) rfl)) (own_wS hw) hS hk hEL (by decide) CH own_t_28 (by decide) (by decide) 24 (by decide) (by decide) (by decide) (by decide) ?_
  intro a1 T1 h1 kx1 b1 X1 e1 E1 hS hk hZ hown hW1 CHs1 CH L1 A1 C1 V1 B1 sf1
  show own_Go p e below _ T1 (mkF m 6 #[.val (.int (1 : Int32))] [(.ref a1)])
  have K2 := K0.ext E1
  refine own_by (T' := T1) (f' := (mkF m 11 #[.val (.int (1 : Int32))] [(.ref a1)])) (fun t k => XS.goto X1.here hx rfl (pc0 := 6) (pc' := 11) rfl (hb hby d1_6) (by decide) (by decide) k) ?_
  refine own_retW X1 hx hret hlk hZ hEL hs0 e1 hS hk CH (hb hby d1_11) rfl (Or.inr (Or.inr (Or.inr (Or.inr ⟨rfl, rfl, rfl⟩)))) (by decide) (by decide) ?_
  try rw [e1]
  exact ⟨a1, b1, rfl, rfl, K2, A1, C1, V1, B1⟩
theorem ef_rm0 (m : MethodId) (x0 : Int32) : entryFrame m #[(.int x0)] maxLocals = mkF m 0 #[.val (.int x0), .unset, .unset, .unset, .unset] [] := by first | (simp [entryFrame, mkF, argsToLocals, Value.category, maxLocals]; done) | rfl
set_option maxRecDepth 65536 in
set_option maxHeartbeats 40000000 in
theorem rm0 (l : Launch) (Z : State) (a0 : Array Value) (hw : ∀ d ∈ tables_1, d.before a0 Z = true) (ws : List Jvm.Cond) (i0 : Int32) (cs : Int32) (h0 : Heap) (n0 : Nat) (hcs : ¬ (cs = (0 : Int32))) (S0 : Sta Z h0 "java/lang/String" "COMPACT_STRINGS" "Z" (.int cs)) :
    own_CtW l Z consts_1 x code maxLocals ret ws room_1 #[(.int i0)] h0 (fun v h L => v = some (.int 1) ∧ Fr n0 L) := by
  have hEL := own_EW hw
  refine own_ofW pn_com_example_quayside_quayside_wallet_PromoGrantStatePinLaw ?_
  intro p e s m below meth c s₁ hx hby hml hown hnm hret hlk hZ X0 e0 hs0 hS hk CH
  rw [ef_rm0]
  refine own_by (T' := s₁) (f' := (mkF m 1 #[.val (.int i0), .unset, .unset, .unset, .unset] [(.int i0)])) (fun t k => XS.iloadN X0.here hx rfl (hb hby at_0) rfl k) ?_
  refine own_by (T' := s₁) (f' := (mkF m 2 #[.val (.int i0), .unset, .unset, .unset, .unset] [(.int (1 : Int32)), (.int i0)])) (fun t k => XS.iconst X0.here hx rfl (hb hby at_1) k) ?_
  refine own_by (T' := s₁) (f' := (mkF m 3 #[.val (.int i0), .unset, .unset, .unset, .unset] [(.int (i0 &&& (1 : Int32)))])) (fun t k => XS.iand X0.here hx rfl (hb hby at_2) rfl k) ?_
  by_cases hc3_1 : (i0 &&& (1 : Int32)) = (0 : Int32)
  · have _ := X0
    refine own_by (T' := s₁) (f' := (mkF m 10 #[.val (.int i0), .unset, .unset, .unset, .unset] [])) (fun t k => XS.ifYes X0.here hx rfl (pc0 := 3) (pc' := 10) rfl (hb hby at_3) rfl ((if0 _ _).trans (teq hc3_1).1) (by decide) (by decide) k) ?_
    refine own_by (T' := s₁) (f' := (mkF m 11 #[.val (.int i0), .unset, .unset, .unset, .unset] [(.int (0 : Int32))])) (fun t k => XS.iconst X0.here hx rfl (hb hby at_10) k) ?_
    refine own_by (T' := s₁) (f' := (mkF m 12 #[.val (.int i0), .val (.int (0 : Int32)), .unset, .unset, .unset] [])) (fun t k => XS.istoreN X0.here hx rfl (hb hby at_11) rfl (l' := #[.val (.int i0), .val (.int (0 : Int32)), .unset, .unset, .unset]) rfl k) ?_
    refine own_by (T' := s₁) (f' := (mkF m 13 #[.val (.int i0), .val (.int (0 : Int32)), .unset, .unset, .unset] [(.int (0 : Int32))])) (fun t k => XS.iloadN X0.here hx rfl (hb hby at_12) rfl k) ?_
    refine own_callSW X0 hx hZ hown e0 (hb hby at_13) hS hk hEL CH [(.int (0 : Int32))] [] 0 (rmS0 l Z a0 hw [] h0) (hw _ (List.mem_of_getElem? (i := 0) rfl)) (hw _ (List.mem_of_getElem? (i := 1) rfl)) (hw _ (List.mem_of_getElem? (i := 2) rfl)) (hw _ (List.mem_of_getElem? (i := 3) rfl)) (by decide) pd__Z_Ljava_lang_String_ (by rw [hml]; rfl) rfl rfl (Nat.le_of_eq rfl) (by decide) (by decide) (by decide) (by decide) ?_
    rintro T2 _ L2 X2 hS hk hZ hown hW2 CHs2 CH ⟨a2, b2, rfl, rfl, K2, A2, C2, V2, B2⟩
    show own_Go p e below _ T2 (mkF m 16 #[.val (.int i0), .val (.int (0 : Int32)), .unset, .unset, .unset] [(.ref a2)])
    rw [List.append_nil] at X2
    refine own_by (T' := T2) (f' := (mkF m 17 #[.val (.int i0), .val (.int (0 : Int32)), .val (.ref a2), .unset, .unset] [])) (fun t k => XS.astoreN X2.here hx rfl (hb hby at_16) rfl rfl (l' := #[.val (.int i0), .val (.int (0 : Int32)), .val (.ref a2), .unset, .unset]) rfl k) ?_
    refine own_by (T' := T2) (f' := (mkF m 18 #[.val (.int i0), .val (.int (0 : Int32)), .val (.ref a2), .unset, .unset] [(.ref a2)])) (fun t k => XS.aloadN X2.here hx rfl (hb hby at_17) rfl rfl k) ?_
    refine own_by (T' := T2) (f' := (mkF m 23 #[.val (.int i0), .val (.int (0 : Int32)), .val (.ref a2), .unset, .unset] [])) (fun t k => XS.ifnonnullYes X2.here hx rfl (pc0 := 18) (pc' := 23) rfl (hb hby at_18) rfl (by decide) (by decide) k) ?_
    refine own_by (T' := T2) (f' := (mkF m 24 #[.val (.int i0), .val (.int (0 : Int32)), .val (.ref a2), .unset, .unset] [(.ref a2)])) (fun t k => XS.aloadN X2.here hx rfl (hb hby at_23) rfl rfl k) ?_
    refine own_ldc (us := [(108 : Int32), (111 : Int32), (99 : Int32), (107 : Int32), (101 : Int32), (100 : Int32)]) (z := (6 : Int32)) X2 hx hZ hown rfl (hb hby at_24) (hw _ (List.mem_of_getElem? (i := 12) rfl)) (own_wS hw) hS hk hEL (by decide) CH own_t_12 (by decide) (by decide) 24 (by decide) (by decide) (by decide) (by decide) ?_
    intro a3 T3 h3 kx3 b3 X3 e3 E3 hS hk hZ hown hW3 CHs3 CH L3 A3 C3 V3 B3 sf3
    show own_Go p e below _ T3 (mkF m 26 #[.val (.int i0), .val (.int (0 : Int32)), .val (.ref a2), .unset, .unset] [(.ref a3), (.ref a2)])
    have f4 := (A2.ext E3)
    have f5 := (C2.ext E3)
    have f6 := (V2.ext E3)
    have f7 := (B2.ext E3)
    have f8 := ((own_sta_keep S0 K2 all0).ext E3)
    refine own_callV X3 hx hZ hown e3 (hb hby at_26) [(.ref a3)] [] 0 (rmEQ l Z a0 hw [] a2 a3 b2 b3 (8 : Int32) (6 : Int32) 8 6 (fun i => List.getD [(114 : Int32), (101 : Int32), (108 : Int32), (101 : Int32), (97 : Int32), (115 : Int32), (101 : Int32), (100 : Int32)] i 0) (fun i => List.getD [(108 : Int32), (111 : Int32), (99 : Int32), (107 : Int32), (101 : Int32), (100 : Int32)] i 0) cs h3 f4 f5 f6 f7 (by decide) A3 C3 V3 B3 (by decide) hcs f8) f4 (hw _ (List.mem_of_getElem? (i := 13) rfl)) (hw _ (List.mem_of_getElem? (i := 14) rfl)) (notFace_of_selects (args := #[]) (mvT hZ (hw _ (List.mem_of_getElem? (i := 16) rfl)))) (hw _ (List.mem_of_getElem? (i := 16) rfl)) (hw _ (List.mem_of_getElem? (i := 15) rfl)) (hw _ (List.mem_of_getElem? (i := 5) rfl)) (hw _ (List.mem_of_getElem? (i := 17) rfl)) (by decide) pd__Ljava_lang_Object__Z (by rw [hml]; rfl) rfl rfl (Nat.le_of_eq rfl) (by decide) (by decide) (by decide) (by decide) ?_
    rintro T9 _ L9 X9 ⟨rfl, rfl, e9⟩
    show own_Go p e below _ T9 (mkF m 29 #[.val (.int i0), .val (.int (0 : Int32)), .val (.ref a2), .unset, .unset] [(.int (own_eqA 8 (fun i => List.getD [(114 : Int32), (101 : Int32), (108 : Int32), (101 : Int32), (97 : Int32), (115 : Int32), (101 : Int32), (100 : Int32)] i 0) 6 (fun i => List.getD [(108 : Int32), (111 : Int32), (99 : Int32), (107 : Int32), (101 : Int32), (100 : Int32)] i 0)))])
    rw [List.append_nil] at X9
    rw [own_eqA_ne (by decide)]
    show own_Go p e below _ T9 (mkF m 29 #[.val (.int i0), .val (.int (0 : Int32)), .val (.ref a2), .unset, .unset] [(.int (0 : Int32))])
    refine own_by (T' := T9) (f' := (mkF m 30 #[.val (.int i0), .val (.int (0 : Int32)), .val (.ref a2), .val (.int (0 : Int32)), .unset] [])) (fun t k => XS.istoreN X9.here hx rfl (hb hby at_29) rfl (l' := #[.val (.int i0), .val (.int (0 : Int32)), .val (.ref a2), .val (.int (0 : Int32)), .unset]) rfl k) ?_
    refine own_by (T' := T9) (f' := (mkF m 31 #[.val (.int i0), .val (.int (0 : Int32)), .val (.ref a2), .val (.int (0 : Int32)), .unset] [(.ref a2)])) (fun t k => XS.aloadN X9.here hx rfl (hb hby at_30) rfl rfl k) ?_
    refine own_ldc (us := [(114 : Int32), (101 : Int32), (108 : Int32), (101 : Int32), (97 : Int32), (115 : Int32), (101 : Int32), (100 : Int32)]) (z := (8 : Int32)) X9 hx hZ hown e9 (hb hby at_31) (hw _ (List.mem_of_getElem? (i := 27) rfl)) (own_wS hw) hS hk hEL (by decide) CH own_t_27 (by decide) (by decide) 32 (by decide) (by decide) (by decide) (by decide) ?_
    intro a10 T10 h10 kx10 b10 X10 e10 E10 hS hk hZ hown hW10 CHs10 CH L10 A10 C10 V10 B10 sf10
    show own_Go p e below _ T10 (mkF m 33 #[.val (.int i0), .val (.int (0 : Int32)), .val (.ref a2), .val (.int (0 : Int32)), .unset] [(.ref a10), (.ref a2)])
    have f11 := (f4.ext E10)
    have f12 := (f5.ext E10)
    have f13 := (f6.ext E10)
    have f14 := (f7.ext E10)
    have f15 := (f8.ext E10)
    refine own_callV X10 hx hZ hown e10 (hb hby at_33) [(.ref a10)] [] 0 (rmEQ l Z a0 hw [] a2 a10 b2 b10 (8 : Int32) (8 : Int32) 8 8 (fun i => List.getD [(114 : Int32), (101 : Int32), (108 : Int32), (101 : Int32), (97 : Int32), (115 : Int32), (101 : Int32), (100 : Int32)] i 0) (fun i => List.getD [(114 : Int32), (101 : Int32), (108 : Int32), (101 : Int32), (97 : Int32), (115 : Int32), (101 : Int32), (100 : Int32)] i 0) cs h10 f11 f12 f13 f14 (by decide) A10 C10 V10 B10 (by decide) hcs f15) f11 (hw _ (List.mem_of_getElem? (i := 13) rfl)) (hw _ (List.mem_of_getElem? (i := 14) rfl)) (notFace_of_selects (args := #[]) (mvT hZ (hw _ (List.mem_of_getElem? (i := 16) rfl)))) (hw _ (List.mem_of_getElem? (i := 16) rfl)) (hw _ (List.mem_of_getElem? (i := 15) rfl)) (hw _ (List.mem_of_getElem? (i := 5) rfl)) (hw _ (List.mem_of_getElem? (i := 17) rfl)) (by decide) pd__Ljava_lang_Object__Z (by rw [hml]; rfl) rfl rfl (Nat.le_of_eq rfl) (by decide) (by decide) (by decide) (by decide) ?_
    rintro T16 _ L16 X16 ⟨rfl, rfl, e16⟩
    show own_Go p e below _ T16 (mkF m 36 #[.val (.int i0), .val (.int (0 : Int32)), .val (.ref a2), .val (.int (0 : Int32)), .unset] [(.int (own_eqA 8 (fun i => List.getD [(114 : Int32), (101 : Int32), (108 : Int32), (101 : Int32), (97 : Int32), (115 : Int32), (101 : Int32), (100 : Int32)] i 0) 8 (fun i => List.getD [(114 : Int32), (101 : Int32), (108 : Int32), (101 : Int32), (97 : Int32), (115 : Int32), (101 : Int32), (100 : Int32)] i 0)))])
    rw [List.append_nil] at X16
    rw [own_eqA_all rfl (fun _ _ => rfl)]
    show own_Go p e below _ T16 (mkF m 36 #[.val (.int i0), .val (.int (0 : Int32)), .val (.ref a2), .val (.int (0 : Int32)), .unset] [(.int (1 : Int32))])
    refine own_by (T' := T16) (f' := (mkF m 38 #[.val (.int i0), .val (.int (0 : Int32)), .val (.ref a2), .val (.int (0 : Int32)), .val (.int (1 : Int32))] [])) (fun t k => XS.istore X16.here hx rfl (hb hby at_36) rfl (l' := #[.val (.int i0), .val (.int (0 : Int32)), .val (.ref a2), .val (.int (0 : Int32)), .val (.int (1 : Int32))]) rfl k) ?_
    refine own_by (T' := T16) (f' := (mkF m 39 #[.val (.int i0), .val (.int (0 : Int32)), .val (.ref a2), .val (.int (0 : Int32)), .val (.int (1 : Int32))] [(.int (0 : Int32))])) (fun t k => XS.iloadN X16.here hx rfl (hb hby at_38) rfl k) ?_
    refine own_by (T' := T16) (f' := (mkF m 40 #[.val (.int i0), .val (.int (0 : Int32)), .val (.ref a2), .val (.int (0 : Int32)), .val (.int (1 : Int32))] [(.int (0 : Int32)), (.int (0 : Int32))])) (fun t k => XS.iloadN X16.here hx rfl (hb hby at_39) rfl k) ?_
    refine own_by (T' := T16) (f' := (mkF m 45 #[.val (.int i0), .val (.int (0 : Int32)), .val (.ref a2), .val (.int (0 : Int32)), .val (.int (1 : Int32))] [])) (fun t k => XS.icmpYes X16.here hx rfl (pc0 := 40) (pc' := 45) rfl (hb hby at_40) rfl (teq rfl).1 (by decide) (by decide) k) ?_
    refine own_by (T' := T16) (f' := (mkF m 47 #[.val (.int i0), .val (.int (0 : Int32)), .val (.ref a2), .val (.int (0 : Int32)), .val (.int (1 : Int32))] [(.int (1 : Int32))])) (fun t k => XS.iload X16.here hx rfl (hb hby at_45) rfl k) ?_
    refine own_by (T' := T16) (f' := (mkF m 48 #[.val (.int i0), .val (.int (0 : Int32)), .val (.ref a2), .val (.int (0 : Int32)), .val (.int (1 : Int32))] [(.int (0 : Int32)), (.int (1 : Int32))])) (fun t k => XS.iloadN X16.here hx rfl (hb hby at_47) rfl k) ?_
    refine own_by (T' := T16) (f' := (mkF m 53 #[.val (.int i0), .val (.int (0 : Int32)), .val (.ref a2), .val (.int (0 : Int32)), .val (.int (1 : Int32))] [])) (fun t k => XS.icmpYes X16.here hx rfl (pc0 := 48) (pc' := 53) rfl (hb hby at_48) rfl (feq (by decide)).2 (by decide) (by decide) k) ?_
    refine own_by (T' := T16) (f' := (mkF m 54 #[.val (.int i0), .val (.int (0 : Int32)), .val (.ref a2), .val (.int (0 : Int32)), .val (.int (1 : Int32))] [(.ref a2)])) (fun t k => XS.aloadN X16.here hx rfl (hb hby at_53) rfl rfl k) ?_
    refine own_by (T' := T16) (f' := (mkF m 56 #[.val (.int i0), .val (.int (0 : Int32)), .val (.ref a2), .val (.int (0 : Int32)), .val (.int (1 : Int32))] [(.ref a3), (.ref a2)])) (ldcAgain X16 hx hZ hown (hw _ (List.mem_of_getElem? (i := 12) rfl)) (L3.stays hW10) (g := (mkF m 54 #[.val (.int i0), .val (.int (0 : Int32)), .val (.ref a2), .val (.int (0 : Int32)), .val (.int (1 : Int32))] [(.ref a2)])) rfl (hb hby at_54)) ?_
    have f17 := (A3.ext E10)
    have f18 := (C3.ext E10)
    have f19 := (V3.ext E10)
    have f20 := (B3.ext E10)
    refine own_callV X16 hx hZ hown e16 (hb hby at_56) [(.ref a3)] [] 0 (rmEQ l Z a0 hw [] a2 a3 b2 b3 (8 : Int32) (6 : Int32) 8 6 (fun i => List.getD [(114 : Int32), (101 : Int32), (108 : Int32), (101 : Int32), (97 : Int32), (115 : Int32), (101 : Int32), (100 : Int32)] i 0) (fun i => List.getD [(108 : Int32), (111 : Int32), (99 : Int32), (107 : Int32), (101 : Int32), (100 : Int32)] i 0) cs h10 f11 f12 f13 f14 (by decide) f17 f18 f19 f20 (by decide) hcs f15) f11 (hw _ (List.mem_of_getElem? (i := 13) rfl)) (hw _ (List.mem_of_getElem? (i := 14) rfl)) (notFace_of_selects (args := #[]) (mvT hZ (hw _ (List.mem_of_getElem? (i := 16) rfl)))) (hw _ (List.mem_of_getElem? (i := 16) rfl)) (hw _ (List.mem_of_getElem? (i := 15) rfl)) (hw _ (List.mem_of_getElem? (i := 5) rfl)) (hw _ (List.mem_of_getElem? (i := 17) rfl)) (by decide) pd__Ljava_lang_Object__Z (by rw [hml]; rfl) rfl rfl (Nat.le_of_eq rfl) (by decide) (by decide) (by decide) (by decide) ?_
    rintro T21 _ L21 X21 ⟨rfl, rfl, e21⟩
    show own_Go p e below _ T21 (mkF m 59 #[.val (.int i0), .val (.int (0 : Int32)), .val (.ref a2), .val (.int (0 : Int32)), .val (.int (1 : Int32))] [(.int (own_eqA 8 (fun i => List.getD [(114 : Int32), (101 : Int32), (108 : Int32), (101 : Int32), (97 : Int32), (115 : Int32), (101 : Int32), (100 : Int32)] i 0) 6 (fun i => List.getD [(108 : Int32), (111 : Int32), (99 : Int32), (107 : Int32), (101 : Int32), (100 : Int32)] i 0)))])
    rw [List.append_nil] at X21
    rw [own_eqA_ne (by decide)]
    show own_Go p e below _ T21 (mkF m 59 #[.val (.int i0), .val (.int (0 : Int32)), .val (.ref a2), .val (.int (0 : Int32)), .val (.int (1 : Int32))] [(.int (0 : Int32))])
    refine own_by (T' := T21) (f' := (mkF m 60 #[.val (.int i0), .val (.int (0 : Int32)), .val (.ref a2), .val (.int (0 : Int32)), .val (.int (1 : Int32))] [(.int (0 : Int32)), (.int (0 : Int32))])) (fun t k => XS.iloadN X21.here hx rfl (hb hby at_59) rfl k) ?_
    refine own_by (T' := T21) (f' := (mkF m 65 #[.val (.int i0), .val (.int (0 : Int32)), .val (.ref a2), .val (.int (0 : Int32)), .val (.int (1 : Int32))] [])) (fun t k => XS.icmpYes X21.here hx rfl (pc0 := 60) (pc' := 65) rfl (hb hby at_60) rfl (teq rfl).1 (by decide) (by decide) k) ?_
    refine own_by (T' := T21) (f' := (mkF m 66 #[.val (.int i0), .val (.int (0 : Int32)), .val (.ref a2), .val (.int (0 : Int32)), .val (.int (1 : Int32))] [(.ref a2)])) (fun t k => XS.aloadN X21.here hx rfl (hb hby at_65) rfl rfl k) ?_
    refine own_by (T' := T21) (f' := (mkF m 68 #[.val (.int i0), .val (.int (0 : Int32)), .val (.ref a2), .val (.int (0 : Int32)), .val (.int (1 : Int32))] [(.ref a10), (.ref a2)])) (ldcAgain X21 hx hZ hown (hw _ (List.mem_of_getElem? (i := 27) rfl)) L10 (g := (mkF m 66 #[.val (.int i0), .val (.int (0 : Int32)), .val (.ref a2), .val (.int (0 : Int32)), .val (.int (1 : Int32))] [(.ref a2)])) rfl (hb hby at_66)) ?_
    refine own_callV X21 hx hZ hown e21 (hb hby at_68) [(.ref a10)] [] 0 (rmEQ l Z a0 hw [] a2 a10 b2 b10 (8 : Int32) (8 : Int32) 8 8 (fun i => List.getD [(114 : Int32), (101 : Int32), (108 : Int32), (101 : Int32), (97 : Int32), (115 : Int32), (101 : Int32), (100 : Int32)] i 0) (fun i => List.getD [(114 : Int32), (101 : Int32), (108 : Int32), (101 : Int32), (97 : Int32), (115 : Int32), (101 : Int32), (100 : Int32)] i 0) cs h10 f11 f12 f13 f14 (by decide) A10 C10 V10 B10 (by decide) hcs f15) f11 (hw _ (List.mem_of_getElem? (i := 13) rfl)) (hw _ (List.mem_of_getElem? (i := 14) rfl)) (notFace_of_selects (args := #[]) (mvT hZ (hw _ (List.mem_of_getElem? (i := 16) rfl)))) (hw _ (List.mem_of_getElem? (i := 16) rfl)) (hw _ (List.mem_of_getElem? (i := 15) rfl)) (hw _ (List.mem_of_getElem? (i := 5) rfl)) (hw _ (List.mem_of_getElem? (i := 17) rfl)) (by decide) pd__Ljava_lang_Object__Z (by rw [hml]; rfl) rfl rfl (Nat.le_of_eq rfl) (by decide) (by decide) (by decide) (by decide) ?_
    rintro T22 _ L22 X22 ⟨rfl, rfl, e22⟩
    show own_Go p e below _ T22 (mkF m 71 #[.val (.int i0), .val (.int (0 : Int32)), .val (.ref a2), .val (.int (0 : Int32)), .val (.int (1 : Int32))] [(.int (own_eqA 8 (fun i => List.getD [(114 : Int32), (101 : Int32), (108 : Int32), (101 : Int32), (97 : Int32), (115 : Int32), (101 : Int32), (100 : Int32)] i 0) 8 (fun i => List.getD [(114 : Int32), (101 : Int32), (108 : Int32), (101 : Int32), (97 : Int32), (115 : Int32), (101 : Int32), (100 : Int32)] i 0)))])
    rw [List.append_nil] at X22
    rw [own_eqA_all rfl (fun _ _ => rfl)]
    show own_Go p e below _ T22 (mkF m 71 #[.val (.int i0), .val (.int (0 : Int32)), .val (.ref a2), .val (.int (0 : Int32)), .val (.int (1 : Int32))] [(.int (1 : Int32))])
    refine own_by (T' := T22) (f' := (mkF m 72 #[.val (.int i0), .val (.int (0 : Int32)), .val (.ref a2), .val (.int (0 : Int32)), .val (.int (1 : Int32))] [(.int (0 : Int32)), (.int (1 : Int32))])) (fun t k => XS.iloadN X22.here hx rfl (hb hby at_71) rfl k) ?_
    refine own_by (T' := T22) (f' := (mkF m 75 #[.val (.int i0), .val (.int (0 : Int32)), .val (.ref a2), .val (.int (0 : Int32)), .val (.int (1 : Int32))] [])) (fun t k => XS.icmpNo X22.here hx rfl (hb hby at_72) rfl (feq (by decide)).1 k) ?_
    refine own_by (T' := T22) (f' := (mkF m 76 #[.val (.int i0), .val (.int (0 : Int32)), .val (.ref a2), .val (.int (0 : Int32)), .val (.int (1 : Int32))] [(.int (1 : Int32))])) (fun t k => XS.iconst X22.here hx rfl (hb hby at_75) k) ?_
    refine own_by (T' := T22) (f' := (mkF m 80 #[.val (.int i0), .val (.int (0 : Int32)), .val (.ref a2), .val (.int (0 : Int32)), .val (.int (1 : Int32))] [(.int (1 : Int32))])) (fun t k => XS.goto X22.here hx rfl (pc0 := 76) (pc' := 80) rfl (hb hby at_76) (by decide) (by decide) k) ?_
    refine own_retW X22 hx hret hlk hZ hEL hs0 e22 hS hk CH (hb hby at_80) rfl (Or.inl ⟨rfl, Or.inr (Or.inl rfl), _, rfl⟩) (by decide) (by decide) ?_
    try rw [e22]
    exact ⟨rfl, Fr.nil _⟩
  · have _ := X0
    refine own_by (T' := s₁) (f' := (mkF m 6 #[.val (.int i0), .unset, .unset, .unset, .unset] [])) (fun t k => XS.ifNo X0.here hx rfl (hb hby at_3) rfl ((if0 _ _).trans (feq hc3_1).1) k) ?_
    refine own_by (T' := s₁) (f' := (mkF m 7 #[.val (.int i0), .unset, .unset, .unset, .unset] [(.int (1 : Int32))])) (fun t k => XS.iconst X0.here hx rfl (hb hby at_6) k) ?_
    refine own_by (T' := s₁) (f' := (mkF m 11 #[.val (.int i0), .unset, .unset, .unset, .unset] [(.int (1 : Int32))])) (fun t k => XS.goto X0.here hx rfl (pc0 := 7) (pc' := 11) rfl (hb hby at_7) (by decide) (by decide) k) ?_
    refine own_by (T' := s₁) (f' := (mkF m 12 #[.val (.int i0), .val (.int (1 : Int32)), .unset, .unset, .unset] [])) (fun t k => XS.istoreN X0.here hx rfl (hb hby at_11) rfl (l' := #[.val (.int i0), .val (.int (1 : Int32)), .unset, .unset, .unset]) rfl k) ?_
    refine own_by (T' := s₁) (f' := (mkF m 13 #[.val (.int i0), .val (.int (1 : Int32)), .unset, .unset, .unset] [(.int (1 : Int32))])) (fun t k => XS.iloadN X0.here hx rfl (hb hby at_12) rfl k) ?_
    refine own_callSW X0 hx hZ hown e0 (hb hby at_13) hS hk hEL CH [(.int (1 : Int32))] [] 0 (rmS1 l Z a0 hw [] h0) (hw _ (List.mem_of_getElem? (i := 0) rfl)) (hw _ (List.mem_of_getElem? (i := 1) rfl)) (hw _ (List.mem_of_getElem? (i := 2) rfl)) (hw _ (List.mem_of_getElem? (i := 3) rfl)) (by decide) pd__Z_Ljava_lang_String_ (by rw [hml]; rfl) rfl rfl (Nat.le_of_eq rfl) (by decide) (by decide) (by decide) (by decide) ?_
    rintro T23 _ L23 X23 hS hk hZ hown hW23 CHs23 CH ⟨a23, b23, rfl, rfl, K23, A23, C23, V23, B23⟩
    show own_Go p e below _ T23 (mkF m 16 #[.val (.int i0), .val (.int (1 : Int32)), .unset, .unset, .unset] [(.ref a23)])
    rw [List.append_nil] at X23
    refine own_by (T' := T23) (f' := (mkF m 17 #[.val (.int i0), .val (.int (1 : Int32)), .val (.ref a23), .unset, .unset] [])) (fun t k => XS.astoreN X23.here hx rfl (hb hby at_16) rfl rfl (l' := #[.val (.int i0), .val (.int (1 : Int32)), .val (.ref a23), .unset, .unset]) rfl k) ?_
    refine own_by (T' := T23) (f' := (mkF m 18 #[.val (.int i0), .val (.int (1 : Int32)), .val (.ref a23), .unset, .unset] [(.ref a23)])) (fun t k => XS.aloadN X23.here hx rfl (hb hby at_17) rfl rfl k) ?_
    refine own_by (T' := T23) (f' := (mkF m 23 #[.val (.int i0), .val (.int (1 : Int32)), .val (.ref a23), .unset, .unset] [])) (fun t k => XS.ifnonnullYes X23.here hx rfl (pc0 := 18) (pc' := 23) rfl (hb hby at_18) rfl (by decide) (by decide) k) ?_
    refine own_by (T' := T23) (f' := (mkF m 24 #[.val (.int i0), .val (.int (1 : Int32)), .val (.ref a23), .unset, .unset] [(.ref a23)])) (fun t k => XS.aloadN X23.here hx rfl (hb hby at_23) rfl rfl k) ?_
    refine own_ldc (us := [(108 : Int32), (111 : Int32), (99 : Int32), (107 : Int32), (101 : Int32), (100 : Int32)]) (z := (6 : Int32)) X23 hx hZ hown rfl (hb hby at_24) (hw _ (List.mem_of_getElem? (i := 12) rfl)) (own_wS hw) hS hk hEL (by decide) CH own_t_12 (by decide) (by decide) 24 (by decide) (by decide) (by decide) (by decide) ?_
    intro a24 T24 h24 kx24 b24 X24 e24 E24 hS hk hZ hown hW24 CHs24 CH L24 A24 C24 V24 B24 sf24
    show own_Go p e below _ T24 (mkF m 26 #[.val (.int i0), .val (.int (1 : Int32)), .val (.ref a23), .unset, .unset] [(.ref a24), (.ref a23)])
    have f25 := (A23.ext E24)
    have f26 := (C23.ext E24)
    have f27 := (V23.ext E24)
    have f28 := (B23.ext E24)
    have f29 := ((own_sta_keep S0 K23 all0).ext E24)
    refine own_callV X24 hx hZ hown e24 (hb hby at_26) [(.ref a24)] [] 0 (rmEQ l Z a0 hw [] a23 a24 b23 b24 (6 : Int32) (6 : Int32) 6 6 (fun i => List.getD [(108 : Int32), (111 : Int32), (99 : Int32), (107 : Int32), (101 : Int32), (100 : Int32)] i 0) (fun i => List.getD [(108 : Int32), (111 : Int32), (99 : Int32), (107 : Int32), (101 : Int32), (100 : Int32)] i 0) cs h24 f25 f26 f27 f28 (by decide) A24 C24 V24 B24 (by decide) hcs f29) f25 (hw _ (List.mem_of_getElem? (i := 13) rfl)) (hw _ (List.mem_of_getElem? (i := 14) rfl)) (notFace_of_selects (args := #[]) (mvT hZ (hw _ (List.mem_of_getElem? (i := 16) rfl)))) (hw _ (List.mem_of_getElem? (i := 16) rfl)) (hw _ (List.mem_of_getElem? (i := 15) rfl)) (hw _ (List.mem_of_getElem? (i := 5) rfl)) (hw _ (List.mem_of_getElem? (i := 17) rfl)) (by decide) pd__Ljava_lang_Object__Z (by rw [hml]; rfl) rfl rfl (Nat.le_of_eq rfl) (by decide) (by decide) (by decide) (by decide) ?_
    rintro T30 _ L30 X30 ⟨rfl, rfl, e30⟩
    show own_Go p e below _ T30 (mkF m 29 #[.val (.int i0), .val (.int (1 : Int32)), .val (.ref a23), .unset, .unset] [(.int (own_eqA 6 (fun i => List.getD [(108 : Int32), (111 : Int32), (99 : Int32), (107 : Int32), (101 : Int32), (100 : Int32)] i 0) 6 (fun i => List.getD [(108 : Int32), (111 : Int32), (99 : Int32), (107 : Int32), (101 : Int32), (100 : Int32)] i 0)))])
    rw [List.append_nil] at X30
    rw [own_eqA_all rfl (fun _ _ => rfl)]
    show own_Go p e below _ T30 (mkF m 29 #[.val (.int i0), .val (.int (1 : Int32)), .val (.ref a23), .unset, .unset] [(.int (1 : Int32))])
    refine own_by (T' := T30) (f' := (mkF m 30 #[.val (.int i0), .val (.int (1 : Int32)), .val (.ref a23), .val (.int (1 : Int32)), .unset] [])) (fun t k => XS.istoreN X30.here hx rfl (hb hby at_29) rfl (l' := #[.val (.int i0), .val (.int (1 : Int32)), .val (.ref a23), .val (.int (1 : Int32)), .unset]) rfl k) ?_
    refine own_by (T' := T30) (f' := (mkF m 31 #[.val (.int i0), .val (.int (1 : Int32)), .val (.ref a23), .val (.int (1 : Int32)), .unset] [(.ref a23)])) (fun t k => XS.aloadN X30.here hx rfl (hb hby at_30) rfl rfl k) ?_
    refine own_ldc (us := [(114 : Int32), (101 : Int32), (108 : Int32), (101 : Int32), (97 : Int32), (115 : Int32), (101 : Int32), (100 : Int32)]) (z := (8 : Int32)) X30 hx hZ hown e30 (hb hby at_31) (hw _ (List.mem_of_getElem? (i := 27) rfl)) (own_wS hw) hS hk hEL (by decide) CH own_t_27 (by decide) (by decide) 32 (by decide) (by decide) (by decide) (by decide) ?_
    intro a31 T31 h31 kx31 b31 X31 e31 E31 hS hk hZ hown hW31 CHs31 CH L31 A31 C31 V31 B31 sf31
    show own_Go p e below _ T31 (mkF m 33 #[.val (.int i0), .val (.int (1 : Int32)), .val (.ref a23), .val (.int (1 : Int32)), .unset] [(.ref a31), (.ref a23)])
    have f32 := (f25.ext E31)
    have f33 := (f26.ext E31)
    have f34 := (f27.ext E31)
    have f35 := (f28.ext E31)
    have f36 := (f29.ext E31)
    refine own_callV X31 hx hZ hown e31 (hb hby at_33) [(.ref a31)] [] 0 (rmEQ l Z a0 hw [] a23 a31 b23 b31 (6 : Int32) (8 : Int32) 6 8 (fun i => List.getD [(108 : Int32), (111 : Int32), (99 : Int32), (107 : Int32), (101 : Int32), (100 : Int32)] i 0) (fun i => List.getD [(114 : Int32), (101 : Int32), (108 : Int32), (101 : Int32), (97 : Int32), (115 : Int32), (101 : Int32), (100 : Int32)] i 0) cs h31 f32 f33 f34 f35 (by decide) A31 C31 V31 B31 (by decide) hcs f36) f32 (hw _ (List.mem_of_getElem? (i := 13) rfl)) (hw _ (List.mem_of_getElem? (i := 14) rfl)) (notFace_of_selects (args := #[]) (mvT hZ (hw _ (List.mem_of_getElem? (i := 16) rfl)))) (hw _ (List.mem_of_getElem? (i := 16) rfl)) (hw _ (List.mem_of_getElem? (i := 15) rfl)) (hw _ (List.mem_of_getElem? (i := 5) rfl)) (hw _ (List.mem_of_getElem? (i := 17) rfl)) (by decide) pd__Ljava_lang_Object__Z (by rw [hml]; rfl) rfl rfl (Nat.le_of_eq rfl) (by decide) (by decide) (by decide) (by decide) ?_
    rintro T37 _ L37 X37 ⟨rfl, rfl, e37⟩
    show own_Go p e below _ T37 (mkF m 36 #[.val (.int i0), .val (.int (1 : Int32)), .val (.ref a23), .val (.int (1 : Int32)), .unset] [(.int (own_eqA 6 (fun i => List.getD [(108 : Int32), (111 : Int32), (99 : Int32), (107 : Int32), (101 : Int32), (100 : Int32)] i 0) 8 (fun i => List.getD [(114 : Int32), (101 : Int32), (108 : Int32), (101 : Int32), (97 : Int32), (115 : Int32), (101 : Int32), (100 : Int32)] i 0)))])
    rw [List.append_nil] at X37
    rw [own_eqA_ne (by decide)]
    show own_Go p e below _ T37 (mkF m 36 #[.val (.int i0), .val (.int (1 : Int32)), .val (.ref a23), .val (.int (1 : Int32)), .unset] [(.int (0 : Int32))])
    refine own_by (T' := T37) (f' := (mkF m 38 #[.val (.int i0), .val (.int (1 : Int32)), .val (.ref a23), .val (.int (1 : Int32)), .val (.int (0 : Int32))] [])) (fun t k => XS.istore X37.here hx rfl (hb hby at_36) rfl (l' := #[.val (.int i0), .val (.int (1 : Int32)), .val (.ref a23), .val (.int (1 : Int32)), .val (.int (0 : Int32))]) rfl k) ?_
    refine own_by (T' := T37) (f' := (mkF m 39 #[.val (.int i0), .val (.int (1 : Int32)), .val (.ref a23), .val (.int (1 : Int32)), .val (.int (0 : Int32))] [(.int (1 : Int32))])) (fun t k => XS.iloadN X37.here hx rfl (hb hby at_38) rfl k) ?_
    refine own_by (T' := T37) (f' := (mkF m 40 #[.val (.int i0), .val (.int (1 : Int32)), .val (.ref a23), .val (.int (1 : Int32)), .val (.int (0 : Int32))] [(.int (1 : Int32)), (.int (1 : Int32))])) (fun t k => XS.iloadN X37.here hx rfl (hb hby at_39) rfl k) ?_
    refine own_by (T' := T37) (f' := (mkF m 45 #[.val (.int i0), .val (.int (1 : Int32)), .val (.ref a23), .val (.int (1 : Int32)), .val (.int (0 : Int32))] [])) (fun t k => XS.icmpYes X37.here hx rfl (pc0 := 40) (pc' := 45) rfl (hb hby at_40) rfl (teq rfl).1 (by decide) (by decide) k) ?_
    refine own_by (T' := T37) (f' := (mkF m 47 #[.val (.int i0), .val (.int (1 : Int32)), .val (.ref a23), .val (.int (1 : Int32)), .val (.int (0 : Int32))] [(.int (0 : Int32))])) (fun t k => XS.iload X37.here hx rfl (hb hby at_45) rfl k) ?_
    refine own_by (T' := T37) (f' := (mkF m 48 #[.val (.int i0), .val (.int (1 : Int32)), .val (.ref a23), .val (.int (1 : Int32)), .val (.int (0 : Int32))] [(.int (1 : Int32)), (.int (0 : Int32))])) (fun t k => XS.iloadN X37.here hx rfl (hb hby at_47) rfl k) ?_
    refine own_by (T' := T37) (f' := (mkF m 53 #[.val (.int i0), .val (.int (1 : Int32)), .val (.ref a23), .val (.int (1 : Int32)), .val (.int (0 : Int32))] [])) (fun t k => XS.icmpYes X37.here hx rfl (pc0 := 48) (pc' := 53) rfl (hb hby at_48) rfl (feq (by decide)).2 (by decide) (by decide) k) ?_
    refine own_by (T' := T37) (f' := (mkF m 54 #[.val (.int i0), .val (.int (1 : Int32)), .val (.ref a23), .val (.int (1 : Int32)), .val (.int (0 : Int32))] [(.ref a23)])) (fun t k => XS.aloadN X37.here hx rfl (hb hby at_53) rfl rfl k) ?_
    refine own_by (T' := T37) (f' := (mkF m 56 #[.val (.int i0), .val (.int (1 : Int32)), .val (.ref a23), .val (.int (1 : Int32)), .val (.int (0 : Int32))] [(.ref a24), (.ref a23)])) (ldcAgain X37 hx hZ hown (hw _ (List.mem_of_getElem? (i := 12) rfl)) (L24.stays hW31) (g := (mkF m 54 #[.val (.int i0), .val (.int (1 : Int32)), .val (.ref a23), .val (.int (1 : Int32)), .val (.int (0 : Int32))] [(.ref a23)])) rfl (hb hby at_54)) ?_
    have f38 := (A24.ext E31)
    have f39 := (C24.ext E31)
    have f40 := (V24.ext E31)
    have f41 := (B24.ext E31)
    refine own_callV X37 hx hZ hown e37 (hb hby at_56) [(.ref a24)] [] 0 (rmEQ l Z a0 hw [] a23 a24 b23 b24 (6 : Int32) (6 : Int32) 6 6 (fun i => List.getD [(108 : Int32), (111 : Int32), (99 : Int32), (107 : Int32), (101 : Int32), (100 : Int32)] i 0) (fun i => List.getD [(108 : Int32), (111 : Int32), (99 : Int32), (107 : Int32), (101 : Int32), (100 : Int32)] i 0) cs h31 f32 f33 f34 f35 (by decide) f38 f39 f40 f41 (by decide) hcs f36) f32 (hw _ (List.mem_of_getElem? (i := 13) rfl)) (hw _ (List.mem_of_getElem? (i := 14) rfl)) (notFace_of_selects (args := #[]) (mvT hZ (hw _ (List.mem_of_getElem? (i := 16) rfl)))) (hw _ (List.mem_of_getElem? (i := 16) rfl)) (hw _ (List.mem_of_getElem? (i := 15) rfl)) (hw _ (List.mem_of_getElem? (i := 5) rfl)) (hw _ (List.mem_of_getElem? (i := 17) rfl)) (by decide) pd__Ljava_lang_Object__Z (by rw [hml]; rfl) rfl rfl (Nat.le_of_eq rfl) (by decide) (by decide) (by decide) (by decide) ?_
    rintro T42 _ L42 X42 ⟨rfl, rfl, e42⟩
    show own_Go p e below _ T42 (mkF m 59 #[.val (.int i0), .val (.int (1 : Int32)), .val (.ref a23), .val (.int (1 : Int32)), .val (.int (0 : Int32))] [(.int (own_eqA 6 (fun i => List.getD [(108 : Int32), (111 : Int32), (99 : Int32), (107 : Int32), (101 : Int32), (100 : Int32)] i 0) 6 (fun i => List.getD [(108 : Int32), (111 : Int32), (99 : Int32), (107 : Int32), (101 : Int32), (100 : Int32)] i 0)))])
    rw [List.append_nil] at X42
    rw [own_eqA_all rfl (fun _ _ => rfl)]
    show own_Go p e below _ T42 (mkF m 59 #[.val (.int i0), .val (.int (1 : Int32)), .val (.ref a23), .val (.int (1 : Int32)), .val (.int (0 : Int32))] [(.int (1 : Int32))])
    refine own_by (T' := T42) (f' := (mkF m 60 #[.val (.int i0), .val (.int (1 : Int32)), .val (.ref a23), .val (.int (1 : Int32)), .val (.int (0 : Int32))] [(.int (1 : Int32)), (.int (1 : Int32))])) (fun t k => XS.iloadN X42.here hx rfl (hb hby at_59) rfl k) ?_
    refine own_by (T' := T42) (f' := (mkF m 65 #[.val (.int i0), .val (.int (1 : Int32)), .val (.ref a23), .val (.int (1 : Int32)), .val (.int (0 : Int32))] [])) (fun t k => XS.icmpYes X42.here hx rfl (pc0 := 60) (pc' := 65) rfl (hb hby at_60) rfl (teq rfl).1 (by decide) (by decide) k) ?_
    refine own_by (T' := T42) (f' := (mkF m 66 #[.val (.int i0), .val (.int (1 : Int32)), .val (.ref a23), .val (.int (1 : Int32)), .val (.int (0 : Int32))] [(.ref a23)])) (fun t k => XS.aloadN X42.here hx rfl (hb hby at_65) rfl rfl k) ?_
    refine own_by (T' := T42) (f' := (mkF m 68 #[.val (.int i0), .val (.int (1 : Int32)), .val (.ref a23), .val (.int (1 : Int32)), .val (.int (0 : Int32))] [(.ref a31), (.ref a23)])) (ldcAgain X42 hx hZ hown (hw _ (List.mem_of_getElem? (i := 27) rfl)) L31 (g := (mkF m 66 #[.val (.int i0), .val (.int (1 : Int32)), .val (.ref a23), .val (.int (1 : Int32)), .val (.int (0 : Int32))] [(.ref a23)])) rfl (hb hby at_66)) ?_
    refine own_callV X42 hx hZ hown e42 (hb hby at_68) [(.ref a31)] [] 0 (rmEQ l Z a0 hw [] a23 a31 b23 b31 (6 : Int32) (8 : Int32) 6 8 (fun i => List.getD [(108 : Int32), (111 : Int32), (99 : Int32), (107 : Int32), (101 : Int32), (100 : Int32)] i 0) (fun i => List.getD [(114 : Int32), (101 : Int32), (108 : Int32), (101 : Int32), (97 : Int32), (115 : Int32), (101 : Int32), (100 : Int32)] i 0) cs h31 f32 f33 f34 f35 (by decide) A31 C31 V31 B31 (by decide) hcs f36) f32 (hw _ (List.mem_of_getElem? (i := 13) rfl)) (hw _ (List.mem_of_getElem? (i := 14) rfl)) (notFace_of_selects (args := #[]) (mvT hZ (hw _ (List.mem_of_getElem? (i := 16) rfl)))) (hw _ (List.mem_of_getElem? (i := 16) rfl)) (hw _ (List.mem_of_getElem? (i := 15) rfl)) (hw _ (List.mem_of_getElem? (i := 5) rfl)) (hw _ (List.mem_of_getElem? (i := 17) rfl)) (by decide) pd__Ljava_lang_Object__Z (by rw [hml]; rfl) rfl rfl (Nat.le_of_eq rfl) (by decide) (by decide) (by decide) (by decide) ?_
    rintro T43 _ L43 X43 ⟨rfl, rfl, e43⟩
    show own_Go p e below _ T43 (mkF m 71 #[.val (.int i0), .val (.int (1 : Int32)), .val (.ref a23), .val (.int (1 : Int32)), .val (.int (0 : Int32))] [(.int (own_eqA 6 (fun i => List.getD [(108 : Int32), (111 : Int32), (99 : Int32), (107 : Int32), (101 : Int32), (100 : Int32)] i 0) 8 (fun i => List.getD [(114 : Int32), (101 : Int32), (108 : Int32), (101 : Int32), (97 : Int32), (115 : Int32), (101 : Int32), (100 : Int32)] i 0)))])
    rw [List.append_nil] at X43
    rw [own_eqA_ne (by decide)]
    show own_Go p e below _ T43 (mkF m 71 #[.val (.int i0), .val (.int (1 : Int32)), .val (.ref a23), .val (.int (1 : Int32)), .val (.int (0 : Int32))] [(.int (0 : Int32))])
    refine own_by (T' := T43) (f' := (mkF m 72 #[.val (.int i0), .val (.int (1 : Int32)), .val (.ref a23), .val (.int (1 : Int32)), .val (.int (0 : Int32))] [(.int (1 : Int32)), (.int (0 : Int32))])) (fun t k => XS.iloadN X43.here hx rfl (hb hby at_71) rfl k) ?_
    refine own_by (T' := T43) (f' := (mkF m 75 #[.val (.int i0), .val (.int (1 : Int32)), .val (.ref a23), .val (.int (1 : Int32)), .val (.int (0 : Int32))] [])) (fun t k => XS.icmpNo X43.here hx rfl (hb hby at_72) rfl (feq (by decide)).1 k) ?_
    refine own_by (T' := T43) (f' := (mkF m 76 #[.val (.int i0), .val (.int (1 : Int32)), .val (.ref a23), .val (.int (1 : Int32)), .val (.int (0 : Int32))] [(.int (1 : Int32))])) (fun t k => XS.iconst X43.here hx rfl (hb hby at_75) k) ?_
    refine own_by (T' := T43) (f' := (mkF m 80 #[.val (.int i0), .val (.int (1 : Int32)), .val (.ref a23), .val (.int (1 : Int32)), .val (.int (0 : Int32))] [(.int (1 : Int32))])) (fun t k => XS.goto X43.here hx rfl (pc0 := 76) (pc' := 80) rfl (hb hby at_76) (by decide) (by decide) k) ?_
    refine own_retW X43 hx hret hlk hZ hEL hs0 e43 hS hk CH (hb hby at_80) rfl (Or.inl ⟨rfl, Or.inr (Or.inl rfl), _, rfl⟩) (by decide) (by decide) ?_
    try rw [e43]
    exact ⟨rfl, Fr.nil _⟩
theorem own_cs {args : Array Value} {s : State} {c : Jvm.Cond} (h : (Jvm.Cond.and (Jvm.Cond.initializedFor "java/lang/String" "COMPACT_STRINGS" "Z") (Jvm.Cond.and (Jvm.Cond.isInt (Jvm.Term.static "java/lang/String" "COMPACT_STRINGS" "Z")) (Jvm.Cond.and (Jvm.Cond.not (Jvm.Cond.eq (Jvm.Term.static "java/lang/String" "COMPACT_STRINGS" "Z") (Jvm.Term.int (0 : Int32)))) c))).value args s none s [] = some true) :
    ∃ cs : Int32, Sta s s.heap "java/lang/String" "COMPACT_STRINGS" "Z" (.int cs) ∧ ¬ (cs = (0 : Int32)) ∧ (Jvm.Cond.not (Jvm.Cond.eq (Jvm.Term.static "java/lang/String" "COMPACT_STRINGS" "Z") (Jvm.Term.int (0 : Int32)))).before args s = true := by
  obtain ⟨h1, h2⟩ := and_e h
  obtain ⟨h3, h4⟩ := and_e h2
  obtain ⟨h5, -⟩ := and_e h4
  obtain ⟨cs, ev⟩ := is_v h3
  refine ⟨cs, Sta.start ev (Or.inl (Cond.before_iff.mpr h1)), fun q => ?_, Cond.before_iff.mpr h5⟩
  have h6 := not_v h5
  rw [eq_i ev (Term.int_eval 0) (by rw [q])] at h6
  simp at h6
set_option maxRecDepth 65536 in
set_option maxHeartbeats 40000000 in
theorem comes_1 {Post : Tables → Env → Array Value → State → Outcome → State → Prop} (hpost : ∀ tb e args s v u, (limb_1_1.after args s (.returned v) u = true ∧ limb_1_2.after args s (.returned v) u = true ∧ True) → ReturnedEndW s (.returned v) u (Jvm.fieldLocs frame_1_writes args s ++ Jvm.arrayLocs frame_1_arrays args s ++ Jvm.staticLocs frame_1_statics s) 8 4160 → Post tb e args s (.returned v) u) :
    ArmFor flags0 classFile x code maxLocals ret World_1 tables_1 room_1 Calls_1 rest_1 Pre_1 Post := by
  intro l hfl _ _ p e ha hc hk s m args below hf hA hF happ hP
  obtain ⟨hcalls, hrest, hpre⟩ := hP
  obtain ⟨-, -, -, hnamed, -, -, -, hat⟩ := (Spec.applies_iff hf).mp happ
  obtain ⟨hg, hn⟩ := and_e (Cond.before_iff.mp (show (Jvm.Cond.and given_1 narrow_1).before args s = true from hpre))
  obtain ⟨gc, gr0⟩ := and_e hg
  obtain ⟨w0, rfl⟩ : ∃ w0 : Value, args = #[w0] := by
    have hs : args.size = 1 := by simpa [Cond.value, given_1] using gc
    obtain ⟨L⟩ := args
    match L, hs with
    | [w0], _ => exact ⟨w0, rfl⟩
  have hw := fun d (hd : d ∈ tables_1) => atoms_spec (ws := Jvm.Cond.code x code maxLocals ret :: tables_1) hat d (List.mem_cons_of_mem _ hd)
  have hfit : Fit s := fun {y c} hc i hi => by
    obtain ⟨ha, rfl⟩ := Array.getElem?_eq_some_iff.mp hc
    have q := List.all_eq_true.mp ((Array.all_eq_true_iff_forall_mem.mp hF) _ (Array.getElem_mem ha)) i (List.mem_range.mpr hi)
    simpa [Array.getElem?_eq_getElem hi] using q
  obtain ⟨i0, ei0⟩ := is_v gr0
  obtain rfl : w0 = (.int i0) := Option.some.inj ei0
  have hrc := Cond.before_iff.mp (show rest_1_c.before _ s = true from hrest)
  rw [rest_1_c_eq] at hrc
  obtain ⟨cs, ecs, hcs, hcw⟩ := own_cs hrc
  have hCH : CHv s consts_1 s.vm s.heap := CHv.start (own_EW hw) (fun p hp => hcalls.1 p hp) hcw (hw _ (List.mem_of_getElem? (i := 7) rfl)) (hw _ (List.mem_of_getElem? (i := 6) rfl))
  obtain ⟨n, o, h1, h2, h3, _, L, rfl, ⟨rfl, N⟩, -, hq⟩ := rm0 l s _ hw tables_1 i0 cs s.heap s.heap.size hcs ecs p e ha hc hk s m _ below hf ((Spec.applies_iff_loose hf).mp happ).1 ⟨rfl, State.Warmed39.refl s, rfl, hCH⟩ trivial
  refine ⟨n, _, h1, h2, h3, hpost _ _ _ _ _ _ ⟨Cond.after_iff.mpr rfl, Cond.after_iff.mpr (eq_i res_at (Term.int_eval (1)) rfl), trivial⟩ ⟨hq.1, hq.2.1, hq.2.2.1, (hq.2.2.2.sift fun y hy => Or.inr (N y hy)).mono (by decide) (by decide)⟩⟩
theorem main_1_1 : Claimed_1_1 := comes_1 fun _ _ _ _ _ _ h hF => ⟨h.1, hF⟩
theorem main_1_2 : Claimed_1_2 := comes_1 fun _ _ _ _ _ _ h hF => ⟨h.2.1, hF⟩
end Jvm.Pilot.@@N@@
namespace Jvm.Pilot.@@N@@
open Jvm Jvm.ClassFile Sem Op Lib Jvm.Free Jvm.Stand Jvm.Pilot.@@N@@.Jvm.D
/-! MADE BY PROGRAM (witnessworld.py) out of the Statement's table words and the real class files: 18 classes; the members and pool entries that the words name. The judged class is class 1, her method 1. -/
namespace start1
open Jvm.ClassFile
def u (s : String) : CpInfo := .utf8 (stringToUtf16 s)
/-- a pool by its gaps: so many unusable entries, then the entry; so many at the end -/
def gap : Nat → List CpInfo → List CpInfo
  | 0, r => r
  | n + 1, r => .unusable :: gap n r
def poolList (es : List (Nat × CpInfo)) (last : Nat) : List CpInfo := es.foldr (fun e r => gap e.1 (e.2 :: r)) (gap last [])
def pool (es : List (Nat × CpInfo)) (last : Nat) : Array CpInfo := ⟨poolList es last⟩
def fileOf (pool : Array CpInfo) (this : Nat) (attrs : Array Attribute := #[]) (ms : Array MethodInfo := #[]) (fl : Nat := 33) (sup : Nat := 0) (ifs : Array Nat := #[]) (fds : Array FieldInfo := #[]) : ClassFile where
  minorVersion := 0
  majorVersion := 65
  constantPool := pool
  accessFlags := fl
  thisClass := this
  superClass := sup
  interfaces := ifs
  fields := fds
  methods := ms
  attributes := attrs
def plain (name : String) (sup : Option ClassId) : Class where
  name := name
  kind := .ordinary
  loader := none
  accessFlags := 33
  super := sup
  interfaces := #[]
  cf := none
  fields := #[]
  methods := #[]
  instanceTypes := #[]
  staticTypes := #[]
  resolved := #[]
  callSites := []
  init := .initialized
  statics := none
  mirror := none

def pool0 : Array CpInfo := pool [(5, u "<init>"), (0, u "()V"), (1, .class_ 10), (1, u "java/lang/Object")] 113

def k0m0 : Method := { name := "<init>", desc := "()V", sig := { parameters := [], returnType := none }, accessFlags := 1, code := none }
/-- java/lang/Object -/
def k0 : Class := { plain "java/lang/Object" none with
  accessFlags := 33
  interfaces := #[]
  cf := some (fileOf pool0 8 #[] #[{ accessFlags := 1, nameIndex := 5, descriptorIndex := 6, attributes := #[] }] 33 0 #[] #[])
  fields := #[]
  methods := #[k0m0]
  instanceTypes := #[]
  staticTypes := #[]
  resolved := Array.replicate 124 none
  statics := none }

def pool1 : Array CpInfo := pool [(2, .class_ 4), (1, u "java/lang/Object"), (0, u "<init>"), (0, u "()V"), (0, .methodref 8 9), (0, .class_ 10), (0, .nameAndType 11 12), (0, u "com/example/quayside/quayside/wallet/PromoGrant"), (0, u "state"), (0, u "(Z)Ljava/lang/String;"), (0, .string 14), (0, u "locked"), (0, .methodref 16 17), (0, .class_ 18), (0, .nameAndType 19 20), (0, u "java/lang/String"), (0, u "equals"), (0, u "(Ljava/lang/Object;)Z"), (0, .string 22), (0, u "released"), (0, .class_ 24), (0, u "com/example/quayside/quayside/wallet/PromoGrantStatePinLaw"), (2, u "law"), (0, u "(I)Z")] 3

def k1m0 : Method := { name := "<init>", desc := "()V", sig := { parameters := [], returnType := none }, accessFlags := 1, code := none }
def k1c1 : Code := { maxStack := 2, maxLocals := 5, code := code, exceptionTable := #[], attributes := #[] }
def k1m1 : Method := { name := "law", desc := "(I)Z", sig := { parameters := [.int], returnType := some .boolean }, accessFlags := 9, code := some k1c1 }
/-- com/example/quayside/quayside/wallet/PromoGrantStatePinLaw -/
def k1 : Class := { plain "com/example/quayside/quayside/wallet/PromoGrantStatePinLaw" (some 0) with
  accessFlags := 49
  interfaces := #[]
  cf := some (fileOf pool1 23 #[] #[{ accessFlags := 1, nameIndex := 5, descriptorIndex := 6, attributes := #[] }, { accessFlags := 9, nameIndex := 27, descriptorIndex := 28, attributes := #[] }] 49 2 #[] #[])
  fields := #[]
  methods := #[k1m0, k1m1]
  instanceTypes := #[]
  staticTypes := #[]
  resolved := Array.replicate 32 none
  statics := none }

def pool2 : Array CpInfo := pool [(2, .class_ 4), (1, u "java/lang/Object"), (0, u "<init>"), (0, u "()V"), (0, .class_ 8), (0, u "java/lang/Record")] 13

def k2m0 : Method := { name := "<init>", desc := "()V", sig := { parameters := [], returnType := none }, accessFlags := 4, code := none }
/-- java/lang/Record -/
def k2 : Class := { plain "java/lang/Record" (some 0) with
  accessFlags := 1057
  interfaces := #[]
  cf := some (fileOf pool2 7 #[] #[{ accessFlags := 4, nameIndex := 5, descriptorIndex := 6, attributes := #[] }] 1057 2 #[] #[])
  fields := #[]
  methods := #[k2m0]
  instanceTypes := #[]
  staticTypes := #[]
  resolved := Array.replicate 22 none
  statics := none }

def pool3 : Array CpInfo := pool [(2, .class_ 4), (1, u "java/lang/Record"), (3, .class_ 10), (1, u "com/example/quayside/quayside/wallet/PromoGrant"), (0, u "grantId"), (0, u "Ljava/lang/String;"), (2, u "amountMinor"), (0, u "J"), (2, u "remainingMinor"), (2, u "expiresAt"), (2, u "state"), (0, .string 27), (0, u "locked"), (0, .string 29), (0, u "released"), (12, u "RELEASED"), (1, u "LOCKED"), (4, u "(Z)Ljava/lang/String;")] 31

def k3c0 : Code := { maxStack := 1, maxLocals := 1, code := prog_64_method_2_code, exceptionTable := #[], attributes := #[] }
def k3m0 : Method := { name := "state", desc := "(Z)Ljava/lang/String;", sig := { parameters := [.boolean], returnType := some (.object "java/lang/String") }, accessFlags := 8, code := some k3c0 }
/-- com/example/quayside/quayside/wallet/PromoGrant -/
def k3 : Class := { plain "com/example/quayside/quayside/wallet/PromoGrant" (some 2) with
  accessFlags := 49
  interfaces := #[]
  cf := some (fileOf pool3 8 #[] #[{ accessFlags := 8, nameIndex := 25, descriptorIndex := 49, attributes := #[] }] 49 2 #[] #[{ accessFlags := 18, nameIndex := 11, descriptorIndex := 12, attributes := #[] }, { accessFlags := 18, nameIndex := 15, descriptorIndex := 16, attributes := #[] }, { accessFlags := 18, nameIndex := 19, descriptorIndex := 16, attributes := #[] }, { accessFlags := 18, nameIndex := 22, descriptorIndex := 12, attributes := #[] }, { accessFlags := 18, nameIndex := 25, descriptorIndex := 12, attributes := #[] }, { accessFlags := 25, nameIndex := 42, descriptorIndex := 12, attributes := #[] }, { accessFlags := 25, nameIndex := 44, descriptorIndex := 12, attributes := #[] }])
  fields := #[{ name := "grantId", type := (.object "java/lang/String"), accessFlags := 18, slot := 0, constantValue := 0 }, { name := "amountMinor", type := .long, accessFlags := 18, slot := 1, constantValue := 0 }, { name := "remainingMinor", type := .long, accessFlags := 18, slot := 2, constantValue := 0 }, { name := "expiresAt", type := (.object "java/lang/String"), accessFlags := 18, slot := 3, constantValue := 0 }, { name := "state", type := (.object "java/lang/String"), accessFlags := 18, slot := 4, constantValue := 0 }, { name := "RELEASED", type := (.object "java/lang/String"), accessFlags := 25, slot := 0, constantValue := 0 }, { name := "LOCKED", type := (.object "java/lang/String"), accessFlags := 25, slot := 1, constantValue := 0 }]
  methods := #[k3m0]
  instanceTypes := #[(.object "java/lang/String"), .long, .long, (.object "java/lang/String"), (.object "java/lang/String")]
  staticTypes := #[(.object "java/lang/String"), (.object "java/lang/String")]
  resolved := Array.replicate 81 none
  statics := none }

def pool4 : Array CpInfo := pool [(1, .class_ 2), (0, u "java/io/Serializable"), (0, .class_ 4), (0, u "java/lang/Object")] 2

/-- java/io/Serializable -/
def k4 : Class := { plain "java/io/Serializable" (some 0) with
  accessFlags := 1537
  interfaces := #[]
  cf := some (fileOf pool4 1 #[] #[] 1537 3 #[] #[])
  fields := #[]
  methods := #[]
  instanceTypes := #[]
  staticTypes := #[]
  resolved := Array.replicate 7 none
  statics := none }

def pool5 : Array CpInfo := pool [(1, .class_ 2), (0, u "java/lang/Comparable"), (0, .class_ 4), (0, u "java/lang/Object")] 7

/-- java/lang/Comparable -/
def k5 : Class := { plain "java/lang/Comparable" (some 0) with
  accessFlags := 1537
  interfaces := #[]
  cf := some (fileOf pool5 1 #[] #[] 1537 3 #[] #[])
  fields := #[]
  methods := #[]
  instanceTypes := #[]
  staticTypes := #[]
  resolved := Array.replicate 12 none
  statics := none }

def pool6 : Array CpInfo := pool [(2, .class_ 4), (1, u "java/lang/CharSequence"), (42, .class_ 48), (0, u "java/lang/CharSequence$1CodePointIterator"), (10, .class_ 60), (0, u "java/lang/CharSequence$1CharIterator"), (5, .class_ 67), (0, u "java/lang/Object")] 63

/-- java/lang/CharSequence -/
def k6 : Class := { plain "java/lang/CharSequence" (some 0) with
  accessFlags := 1537
  interfaces := #[]
  cf := some (fileOf pool6 2 #[.nestMembers #[47, 59]] #[] 1537 66 #[] #[])
  fields := #[]
  methods := #[]
  instanceTypes := #[]
  staticTypes := #[]
  resolved := Array.replicate 131 none
  statics := none }

def pool7 : Array CpInfo := pool [(1, .class_ 2), (0, u "java/lang/constant/Constable"), (0, .class_ 4), (0, u "java/lang/Object")] 6

/-- java/lang/constant/Constable -/
def k7 : Class := { plain "java/lang/constant/Constable" (some 0) with
  accessFlags := 1537
  interfaces := #[]
  cf := some (fileOf pool7 1 #[] #[] 1537 3 #[] #[])
  fields := #[]
  methods := #[]
  instanceTypes := #[]
  staticTypes := #[]
  resolved := Array.replicate 11 none
  statics := none }

def pool8 : Array CpInfo := pool [(1, .class_ 2), (0, u "java/lang/constant/ConstantDesc"), (0, .class_ 4), (0, u "java/lang/Object")] 32

/-- java/lang/constant/ConstantDesc -/
def k8 : Class := { plain "java/lang/constant/ConstantDesc" (some 0) with
  accessFlags := 1537
  interfaces := #[]
  cf := some (fileOf pool8 1 #[] #[] 1537 3 #[] #[])
  fields := #[]
  methods := #[]
  instanceTypes := #[]
  staticTypes := #[]
  resolved := Array.replicate 37 none
  statics := none }

def pool9 : Array CpInfo := pool [(2, .class_ 4), (1, u "java/lang/Object"), (0, u "<init>"), (0, u "()V"), (2, .fieldref 10 11), (0, .class_ 12), (0, .nameAndType 13 14), (0, u "java/lang/String"), (0, u "value"), (0, u "[B"), (0, .fieldref 10 16), (0, .nameAndType 17 18), (0, u "coder"), (0, u "B"), (2, u "hash"), (0, u "I"), (2, u "hashIsZero"), (0, u "Z"), (11, .fieldref 10 39), (0, .nameAndType 40 26), (0, u "COMPACT_STRINGS"), (66, .class_ 109), (1, u "java/lang/StringLatin1"), (431, .methodref 107 542), (0, .nameAndType 543 544), (0, u "equals"), (0, u "([B[B)Z"), (28, u "(Ljava/lang/Object;)Z"), (1, .class_ 576), (0, u "java/lang/CharSequence"), (22, u "CASE_INSENSITIVE_ORDER"), (0, u "Ljava/util/Comparator;"), (500, u "serialPersistentFields"), (0, u "[Ljava/io/ObjectStreamField;"), (0, .class_ 1104), (0, u "java/lang/String$CaseInsensitiveComparator"), (1, .class_ 1107), (0, u "java/io/Serializable"), (0, .class_ 1109), (0, u "java/lang/Comparable"), (0, .class_ 1111), (0, u "java/lang/constant/Constable"), (0, .class_ 1113), (0, u "java/lang/constant/ConstantDesc"), (2, u "serialVersionUID"), (0, u "J"), (3, u "REPL"), (0, u "C"), (2, u "LATIN1"), (1, u "UTF16")] 323

def k9m0 : Method := { name := "<init>", desc := "()V", sig := { parameters := [], returnType := none }, accessFlags := 1, code := none }
def k9c1 : Code := { maxStack := 2, maxLocals := 3, code := jdk_42_method_66_code, exceptionTable := #[], attributes := #[] }
def k9m1 : Method := { name := "equals", desc := "(Ljava/lang/Object;)Z", sig := { parameters := [(.object "java/lang/Object")], returnType := some .boolean }, accessFlags := 1, code := some k9c1 }
/-- java/lang/String -/
def k9 : Class := { plain "java/lang/String" (some 0) with
  accessFlags := 49
  interfaces := #[4, 5, 6, 7, 8]
  cf := some (fileOf pool9 10 #[.nestMembers #[1103]] #[{ accessFlags := 1, nameIndex := 5, descriptorIndex := 6, attributes := #[] }, { accessFlags := 1, nameIndex := 543, descriptorIndex := 573, attributes := #[] }] 49 2 #[1106, 1108, 575, 1110, 1112] #[{ accessFlags := 18, nameIndex := 13, descriptorIndex := 14, attributes := #[] }, { accessFlags := 18, nameIndex := 17, descriptorIndex := 18, attributes := #[] }, { accessFlags := 2, nameIndex := 21, descriptorIndex := 22, attributes := #[] }, { accessFlags := 2, nameIndex := 25, descriptorIndex := 26, attributes := #[] }, { accessFlags := 26, nameIndex := 1116, descriptorIndex := 1117, attributes := #[] }, { accessFlags := 24, nameIndex := 40, descriptorIndex := 26, attributes := #[] }, { accessFlags := 26, nameIndex := 1101, descriptorIndex := 1102, attributes := #[] }, { accessFlags := 26, nameIndex := 1121, descriptorIndex := 1122, attributes := #[] }, { accessFlags := 25, nameIndex := 599, descriptorIndex := 600, attributes := #[] }, { accessFlags := 24, nameIndex := 1125, descriptorIndex := 18, attributes := #[] }, { accessFlags := 24, nameIndex := 1127, descriptorIndex := 18, attributes := #[] }])
  fields := #[{ name := "value", type := (.array .byte), accessFlags := 18, slot := 0, constantValue := 0 }, { name := "coder", type := .byte, accessFlags := 18, slot := 1, constantValue := 0 }, { name := "hash", type := .int, accessFlags := 2, slot := 2, constantValue := 0 }, { name := "hashIsZero", type := .boolean, accessFlags := 2, slot := 3, constantValue := 0 }, { name := "serialVersionUID", type := .long, accessFlags := 26, slot := 0, constantValue := 0 }, { name := "COMPACT_STRINGS", type := .boolean, accessFlags := 24, slot := 1, constantValue := 0 }, { name := "serialPersistentFields", type := (.array (.object "java/io/ObjectStreamField")), accessFlags := 26, slot := 2, constantValue := 0 }, { name := "REPL", type := .char, accessFlags := 26, slot := 3, constantValue := 0 }, { name := "CASE_INSENSITIVE_ORDER", type := (.object "java/util/Comparator"), accessFlags := 25, slot := 4, constantValue := 0 }, { name := "LATIN1", type := .byte, accessFlags := 24, slot := 5, constantValue := 0 }, { name := "UTF16", type := .byte, accessFlags := 24, slot := 6, constantValue := 0 }]
  methods := #[k9m0, k9m1]
  instanceTypes := #[(.array .byte), .byte, .int, .boolean]
  staticTypes := #[.long, .boolean, (.array (.object "java/io/ObjectStreamField")), .char, (.object "java/util/Comparator"), .byte, .byte]
  resolved := Array.replicate 1451 none
  statics := some 0 }

def pool10 : Array CpInfo := pool [(4, .class_ 6), (1, u "java/lang/Object"), (0, u "<init>"), (0, u "()V"), (5, .class_ 16), (1, u "java/lang/StringLatin1"), (104, u "$assertionsDisabled"), (0, u "Z"), (98, .class_ 223), (1, u "java/lang/StringLatin1$LinesSpliterator"), (57, u "equals"), (0, u "([B[B)Z"), (107, .class_ 391), (0, u "java/lang/StringLatin1$CharsSpliterator")] 3

def k10m0 : Method := { name := "<init>", desc := "()V", sig := { parameters := [], returnType := none }, accessFlags := 0, code := none }
def k10c1 : Code := { maxStack := 3, maxLocals := 3, code := jdk_43_method_13_code, exceptionTable := #[], attributes := #[] }
def k10m1 : Method := { name := "equals", desc := "([B[B)Z", sig := { parameters := [(.array .byte), (.array .byte)], returnType := some .boolean }, accessFlags := 9, code := some k10c1 }
/-- java/lang/StringLatin1 -/
def k10 : Class := { plain "java/lang/StringLatin1" (some 0) with
  accessFlags := 48
  interfaces := #[]
  cf := some (fileOf pool10 14 #[.nestMembers #[390, 221]] #[{ accessFlags := 0, nameIndex := 7, descriptorIndex := 8, attributes := #[] }, { accessFlags := 9, nameIndex := 281, descriptorIndex := 282, attributes := #[] }] 48 4 #[] #[{ accessFlags := 4120, nameIndex := 121, descriptorIndex := 122, attributes := #[] }])
  fields := #[{ name := "$assertionsDisabled", type := .boolean, accessFlags := 4120, slot := 0, constantValue := 0 }]
  methods := #[k10m0, k10m1]
  instanceTypes := #[]
  staticTypes := #[.boolean]
  resolved := Array.replicate 395 none
  statics := none }

def pool11 : Array CpInfo := pool [(2, .class_ 4), (1, u "java/lang/Object"), (0, u "<init>"), (0, u "()V"), (17, .class_ 26), (1, u "jdk/internal/util/Preconditions"), (28, .class_ 56), (0, u "jdk/internal/util/Preconditions$4"), (57, .class_ 115), (0, u "jdk/internal/util/Preconditions$1"), (7, u "SIOOBE_FORMATTER"), (0, u "Ljava/util/function/BiFunction;"), (0, .class_ 126), (0, u "jdk/internal/util/Preconditions$2"), (3, u "AIOOBE_FORMATTER"), (0, .class_ 132), (0, u "jdk/internal/util/Preconditions$3"), (3, u "IOOBE_FORMATTER")] 57

def k11m0 : Method := { name := "<init>", desc := "()V", sig := { parameters := [], returnType := none }, accessFlags := 1, code := none }
/-- jdk/internal/util/Preconditions -/
def k11 : Class := { plain "jdk/internal/util/Preconditions" (some 0) with
  accessFlags := 33
  interfaces := #[]
  cf := some (fileOf pool11 24 #[.nestMembers #[55, 131, 125, 114]] #[{ accessFlags := 1, nameIndex := 5, descriptorIndex := 6, attributes := #[] }] 33 2 #[] #[{ accessFlags := 25, nameIndex := 123, descriptorIndex := 124, attributes := #[] }, { accessFlags := 25, nameIndex := 130, descriptorIndex := 124, attributes := #[] }, { accessFlags := 25, nameIndex := 136, descriptorIndex := 124, attributes := #[] }])
  fields := #[{ name := "SIOOBE_FORMATTER", type := (.object "java/util/function/BiFunction"), accessFlags := 25, slot := 0, constantValue := 0 }, { name := "AIOOBE_FORMATTER", type := (.object "java/util/function/BiFunction"), accessFlags := 25, slot := 1, constantValue := 0 }, { name := "IOOBE_FORMATTER", type := (.object "java/util/function/BiFunction"), accessFlags := 25, slot := 2, constantValue := 0 }]
  methods := #[k11m0]
  instanceTypes := #[]
  staticTypes := #[(.object "java/util/function/BiFunction"), (.object "java/util/function/BiFunction"), (.object "java/util/function/BiFunction")]
  resolved := Array.replicate 194 none
  statics := some 1 }

def pool12 : Array CpInfo := pool [(9, u "<init>"), (6, .class_ 18), (1, u "java/lang/Object"), (0, u "()V"), (1, .class_ 23), (1, u "jdk/internal/util/ArraysSupport"), (0, u "LOG2_ARRAY_LONG_INDEX_SCALE"), (0, u "I"), (2, u "U"), (0, u "Ljdk/internal/misc/Unsafe;"), (8, u "BIG_ENDIAN"), (0, u "Z"), (8, u "LOG2_BYTE_BIT_SIZE"), (4, u "LOG2_ARRAY_INT_INDEX_SCALE"), (54, u "JLA"), (0, u "Ljdk/internal/access/JavaLangAccess;"), (11, u "LOG2_ARRAY_BOOLEAN_INDEX_SCALE"), (9, u "LOG2_ARRAY_BYTE_INDEX_SCALE"), (5, u "LOG2_ARRAY_CHAR_INDEX_SCALE"), (5, u "LOG2_ARRAY_SHORT_INDEX_SCALE"), (18, u "LOG2_ARRAY_FLOAT_INDEX_SCALE"), (24, u "LOG2_ARRAY_DOUBLE_INDEX_SCALE"), (89, u "T_BOOLEAN"), (2, u "T_CHAR"), (1, u "T_FLOAT"), (1, u "T_DOUBLE"), (1, u "T_BYTE"), (1, u "T_SHORT"), (1, u "T_INT"), (1, u "T_LONG"), (1, u "SOFT_MAX_ARRAY_LENGTH")] 83

def k12m0 : Method := { name := "<init>", desc := "()V", sig := { parameters := [], returnType := none }, accessFlags := 2, code := none }
/-- jdk/internal/util/ArraysSupport -/
def k12 : Class := { plain "jdk/internal/util/ArraysSupport" (some 0) with
  accessFlags := 33
  interfaces := #[]
  cf := some (fileOf pool12 21 #[] #[{ accessFlags := 2, nameIndex := 9, descriptorIndex := 19, attributes := #[] }] 33 16 #[] #[{ accessFlags := 24, nameIndex := 28, descriptorIndex := 29, attributes := #[] }, { accessFlags := 26, nameIndex := 38, descriptorIndex := 39, attributes := #[] }, { accessFlags := 25, nameIndex := 121, descriptorIndex := 25, attributes := #[] }, { accessFlags := 25, nameIndex := 131, descriptorIndex := 25, attributes := #[] }, { accessFlags := 25, nameIndex := 137, descriptorIndex := 25, attributes := #[] }, { accessFlags := 25, nameIndex := 143, descriptorIndex := 25, attributes := #[] }, { accessFlags := 25, nameIndex := 53, descriptorIndex := 25, attributes := #[] }, { accessFlags := 25, nameIndex := 24, descriptorIndex := 25, attributes := #[] }, { accessFlags := 25, nameIndex := 162, descriptorIndex := 25, attributes := #[] }, { accessFlags := 25, nameIndex := 187, descriptorIndex := 25, attributes := #[] }, { accessFlags := 26, nameIndex := 48, descriptorIndex := 25, attributes := #[] }, { accessFlags := 25, nameIndex := 277, descriptorIndex := 25, attributes := #[] }, { accessFlags := 25, nameIndex := 280, descriptorIndex := 25, attributes := #[] }, { accessFlags := 25, nameIndex := 282, descriptorIndex := 25, attributes := #[] }, { accessFlags := 25, nameIndex := 284, descriptorIndex := 25, attributes := #[] }, { accessFlags := 25, nameIndex := 286, descriptorIndex := 25, attributes := #[] }, { accessFlags := 25, nameIndex := 288, descriptorIndex := 25, attributes := #[] }, { accessFlags := 25, nameIndex := 290, descriptorIndex := 25, attributes := #[] }, { accessFlags := 25, nameIndex := 292, descriptorIndex := 25, attributes := #[] }, { accessFlags := 26, nameIndex := 108, descriptorIndex := 109, attributes := #[] }, { accessFlags := 25, nameIndex := 294, descriptorIndex := 25, attributes := #[] }])
  fields := #[{ name := "U", type := (.object "jdk/internal/misc/Unsafe"), accessFlags := 24, slot := 0, constantValue := 0 }, { name := "BIG_ENDIAN", type := .boolean, accessFlags := 26, slot := 1, constantValue := 0 }, { name := "LOG2_ARRAY_BOOLEAN_INDEX_SCALE", type := .int, accessFlags := 25, slot := 2, constantValue := 0 }, { name := "LOG2_ARRAY_BYTE_INDEX_SCALE", type := .int, accessFlags := 25, slot := 3, constantValue := 0 }, { name := "LOG2_ARRAY_CHAR_INDEX_SCALE", type := .int, accessFlags := 25, slot := 4, constantValue := 0 }, { name := "LOG2_ARRAY_SHORT_INDEX_SCALE", type := .int, accessFlags := 25, slot := 5, constantValue := 0 }, { name := "LOG2_ARRAY_INT_INDEX_SCALE", type := .int, accessFlags := 25, slot := 6, constantValue := 0 }, { name := "LOG2_ARRAY_LONG_INDEX_SCALE", type := .int, accessFlags := 25, slot := 7, constantValue := 0 }, { name := "LOG2_ARRAY_FLOAT_INDEX_SCALE", type := .int, accessFlags := 25, slot := 8, constantValue := 0 }, { name := "LOG2_ARRAY_DOUBLE_INDEX_SCALE", type := .int, accessFlags := 25, slot := 9, constantValue := 0 }, { name := "LOG2_BYTE_BIT_SIZE", type := .int, accessFlags := 26, slot := 10, constantValue := 0 }, { name := "T_BOOLEAN", type := .int, accessFlags := 25, slot := 11, constantValue := 0 }, { name := "T_CHAR", type := .int, accessFlags := 25, slot := 12, constantValue := 0 }, { name := "T_FLOAT", type := .int, accessFlags := 25, slot := 13, constantValue := 0 }, { name := "T_DOUBLE", type := .int, accessFlags := 25, slot := 14, constantValue := 0 }, { name := "T_BYTE", type := .int, accessFlags := 25, slot := 15, constantValue := 0 }, { name := "T_SHORT", type := .int, accessFlags := 25, slot := 16, constantValue := 0 }, { name := "T_INT", type := .int, accessFlags := 25, slot := 17, constantValue := 0 }, { name := "T_LONG", type := .int, accessFlags := 25, slot := 18, constantValue := 0 }, { name := "JLA", type := (.object "jdk/internal/access/JavaLangAccess"), accessFlags := 26, slot := 19, constantValue := 0 }, { name := "SOFT_MAX_ARRAY_LENGTH", type := .int, accessFlags := 25, slot := 20, constantValue := 0 }]
  methods := #[k12m0]
  instanceTypes := #[]
  staticTypes := #[(.object "jdk/internal/misc/Unsafe"), .boolean, .int, .int, .int, .int, .int, .int, .int, .int, .int, .int, .int, .int, .int, .int, .int, .int, .int, (.object "jdk/internal/access/JavaLangAccess"), .int]
  resolved := Array.replicate 378 none
  statics := none }

def pool13 : Array CpInfo := pool [(1, u "java/lang/Cloneable"), (0, .class_ 1), (0, u "java/lang/Object"), (0, .class_ 3)] 3

/-- java/lang/Cloneable -/
def k13 : Class := { plain "java/lang/Cloneable" (some 0) with
  accessFlags := 1537
  interfaces := #[]
  cf := some (fileOf pool13 2 #[] #[] 1537 4 #[] #[])
  fields := #[]
  methods := #[]
  instanceTypes := #[]
  staticTypes := #[]
  resolved := Array.replicate 8 none
  statics := none }

/-- the primitive byte -/
def k14 : Class := { plain "byte" none with kind := .primitive 'B', accessFlags := 0x411 }
/-- [B -/
def k15 : Class := { plain "[B" (some 0) with kind := .array 14 .byte, interfaces := #[13, 4], accessFlags := 1041 }

/-- the primitive int -/
def k16 : Class := { plain "int" none with kind := .primitive 'I', accessFlags := 0x411 }
/-- [I -/
def k17 : Class := { plain "[I" (some 0) with kind := .array 16 .int, interfaces := #[13, 4], accessFlags := 1041 }

def heap : Heap := #[{ cls := 9, slots := #[.long 0, .int 1, .null, .int 0, .null, .int 0, .int 0], vm := .statics 9 },
  { cls := 11, slots := #[.null, .null, .null], vm := .statics 11 }]
def classes : Array Class := #[k0, k1, k2, k3, k4, k5, k6, k7, k8, k9, k10, k11, k12, k13, k14, k15, k16, k17]
def interned : List (Array UInt16 × Addr) := []
def slotsUsed : Nat := 10
def theMethod : MethodId := ⟨1, 1⟩
def args0 : Array Value := #[.int 5]
def aboutOver (below : List Frame) : State where
  vm := { classes := classes, interned := interned.toArray }
  heap := heap
  slotsUsed := slotsUsed
  threads := #[{ frames := .invoking theMethod args0 :: below }]
def below0 : List Frame := [.native { method := ⟨0, 0⟩, args := #[] }]
def about1 : State := aboutOver below0
def p0 : Program := .bare "" "" ""
def e0 : Env := launch0.env 0 0 0
theorem w_frames : about1.frames = Frame.invoking theMethod args0 :: below0 := rfl
set_option maxRecDepth 65536 in
theorem w_args : argsFit about1.vm theMethod args0 = true := by decide +kernel
set_option maxRecDepth 65536 in
theorem w_heap : heapFits about1 = true := by decide +kernel
set_option maxRecDepth 65536 in
theorem w_runnable : about1.curStatus? = some .runnable := by decide +kernel
set_option maxRecDepth 65536 in
theorem w_alone : about1.alone = true := by decide +kernel
set_option maxRecDepth 65536 in
theorem w_named : about1.methodNamed? x = some theMethod := by decide +kernel
set_option maxRecDepth 65536 in
theorem w_hears : about1.hears theMethod below0 = true := by decide +kernel
set_option maxRecDepth 65536 in
theorem w_ripe : about1.ripe theMethod args0 below0 = true := by decide +kernel
theorem w_running : about1.status = .running := rfl
set_option maxRecDepth 65536 in
theorem w_room : about1.hasRoom e0.platform room_1 = true :=
  launch0.hasRoom_least _ room_1 (by decide +kernel) (by decide +kernel) (by decide +kernel) (by decide +kernel) (by decide +kernel) (by decide +kernel)
theorem allAtoms_all (ts : List Jvm.Cond) (a : Array Jvm.Value) (st : Jvm.State) : (allAtoms ts).before a st = ts.all (fun c => c.before a st) := by
  induction ts with
  | nil => rfl
  | cons c t ih =>
    show (Jvm.Cond.and c (allAtoms t)).before a st = _
    rw [Jvm.Cond.before_and, ih, List.all_cons]
def words1 : List Jvm.Cond := Jvm.Cond.code x code maxLocals ret :: tables_1
/-- a 'code' word, met by the world's own term for the bytes: nothing is compared byte by byte -/
theorem code_word {y : MethodName} {bytes : ByteArray} {mx : Nat} {rt : Option FieldType} {a : Array Value} {s : State} {m : MethodId} {meth : Method} {c : Code} (h1 : s.methodNamed? y = some m) (h2 : s.vm.method? m = some meth) (h3 : meth.code = some c) (h4 : c.code = bytes)
    (h5 : (c.maxLocals == mx && c.exceptionTable.isEmpty && decide (c.maxStack ≤ mostOperands) && decide (meth.sig.returnType = rt) && !meth.locks && decide (parseMethodDescriptor y.desc = some meth.sig)) = true) : (Jvm.Cond.code y bytes mx rt).before a s = true := by
  simp only [Bool.and_eq_true, beq_iff_eq, Bool.not_eq_true', decide_eq_true_eq] at h5
  obtain ⟨⟨⟨⟨⟨g1, g2⟩, g3⟩, g4⟩, g5⟩, g6⟩ := h5
  simp [Cond.before, Cond.holds, Cond.value, h1, h2, h3, h4, g1, g2, g3, g4, g5, g6]
def isCode : Jvm.Cond → Bool
  | .code _ _ _ _ => true
  | _ => false
theorem all_split {L : List Jvm.Cond} {P : Jvm.Cond → Bool} (h1 : L.all (fun c => isCode c || P c) = true) (h2 : ∀ c ∈ L.filter isCode, P c = true) : L.all P = true := by
  refine List.all_eq_true.mpr fun c hc => ?_
  have h := List.all_eq_true.mp h1 c hc
  rcases Bool.eq_false_or_eq_true (isCode c) with hi | hi
  · exact h2 c (List.mem_filter.mpr ⟨hc, hi⟩)
  · simpa [hi] using h
set_option maxRecDepth 65536 in
theorem w_c0 : (Jvm.Cond.code x code maxLocals ret).before args0 about1 = true := code_word (m := ⟨1, 1⟩) (meth := k1m1) (c := k1c1) (by decide +kernel) rfl rfl rfl (by decide +kernel)
set_option maxRecDepth 65536 in
theorem w_c1 : (Jvm.Cond.code ({ cls := "com/example/quayside/quayside/wallet/PromoGrant", name := "state", desc := "(Z)Ljava/lang/String;" } : Jvm.MethodName) prog_64_method_2_code (1 : Nat) (Option.some (Jvm.ClassFile.FieldType.object "java/lang/String"))).before args0 about1 = true := code_word (m := ⟨3, 0⟩) (meth := k3m0) (c := k3c0) (by decide +kernel) rfl rfl rfl (by decide +kernel)
set_option maxRecDepth 65536 in
theorem w_c2 : (Jvm.Cond.code ({ cls := "java/lang/String", name := "equals", desc := "(Ljava/lang/Object;)Z" } : Jvm.MethodName) jdk_42_method_66_code (3 : Nat) (Option.some Jvm.ClassFile.FieldType.boolean)).before args0 about1 = true := code_word (m := ⟨9, 1⟩) (meth := k9m1) (c := k9c1) (by decide +kernel) rfl rfl rfl (by decide +kernel)
set_option maxRecDepth 65536 in
theorem w_c3 : (Jvm.Cond.code ({ cls := "java/lang/StringLatin1", name := "equals", desc := "([B[B)Z" } : Jvm.MethodName) jdk_43_method_13_code (3 : Nat) (Option.some Jvm.ClassFile.FieldType.boolean)).before args0 about1 = true := code_word (m := ⟨10, 1⟩) (meth := k10m1) (c := k10c1) (by decide +kernel) rfl rfl rfl (by decide +kernel)
def codes1 : List Jvm.Cond := [Jvm.Cond.code x code maxLocals ret, Jvm.Cond.code ({ cls := "com/example/quayside/quayside/wallet/PromoGrant", name := "state", desc := "(Z)Ljava/lang/String;" } : Jvm.MethodName) prog_64_method_2_code (1 : Nat) (Option.some (Jvm.ClassFile.FieldType.object "java/lang/String")), Jvm.Cond.code ({ cls := "java/lang/String", name := "equals", desc := "(Ljava/lang/Object;)Z" } : Jvm.MethodName) jdk_42_method_66_code (3 : Nat) (Option.some Jvm.ClassFile.FieldType.boolean), Jvm.Cond.code ({ cls := "java/lang/StringLatin1", name := "equals", desc := "([B[B)Z" } : Jvm.MethodName) jdk_43_method_13_code (3 : Nat) (Option.some Jvm.ClassFile.FieldType.boolean)]
set_option maxRecDepth 65536 in
theorem codes_eq : words1.filter isCode = codes1 := rfl
theorem w_codes : ∀ c ∈ words1.filter isCode, c.before args0 about1 = true := by
  rw [codes_eq]
  intro c hc
  simp only [codes1, List.mem_cons, List.not_mem_nil, or_false] at hc
  rcases hc with rfl | rfl | rfl | rfl
  · exact w_c0
  · exact w_c1
  · exact w_c2
  · exact w_c3
set_option maxRecDepth 65536 in
theorem w_t1 : (words1.take 24).all (fun c => isCode c || c.before args0 about1) = true := by decide +kernel
set_option maxRecDepth 65536 in
theorem w_t2 : (words1.drop 24).all (fun c => isCode c || c.before args0 about1) = true := by decide +kernel
theorem w_tables : (allAtoms (Jvm.Cond.code x code maxLocals ret :: tables_1)).before args0 about1 = true := by
  rw [allAtoms_all]
  show words1.all (fun c => c.before args0 about1) = true
  refine all_split ?_ w_codes
  rw [← List.take_append_drop 24 words1, List.all_append, w_t1, w_t2]
  rfl
set_option maxRecDepth 65536 in
theorem w_rest : rest_1_c.before args0 about1 = true := by decide +kernel
set_option maxRecDepth 65536 in
theorem w_case : (Jvm.Cond.and given_1 narrow_1).before args0 about1 = true := by decide +kernel
set_option maxRecDepth 65536 in
theorem w_consts : constsHeld consts_1 about1 := Jvm.Lit.constsHeldB_iff.mp (by decide +kernel)
theorem w_applies : (headSpec (Jvm.Cond.code x code maxLocals ret :: tables_1) room_1).applies x e0.platform about1 = true :=
  (Spec.applies_iff w_frames).mpr ⟨w_running, w_runnable, w_alone, w_named, w_hears, w_ripe, w_room, w_tables⟩
theorem atStart : AtStart classFile x code maxLocals ret World_1 tables_1 room_1 Calls_1 rest_1 Pre_1 launch0 p0 e0 about1 theMethod args0 below0 :=
  ⟨lists_1, trivial, launch0.admits_env _ _ _, launch0.least_env, fairChoices_fair.cas, fairChoices_fair.clock, w_frames, w_args, w_heap, w_applies, ⟨w_consts, trivial⟩, w_rest, w_case⟩
end start1
theorem witness_1 : WitnessClaimed_1 := ⟨start1.p0, start1.e0, start1.about1, start1.theMethod, start1.args0, start1.below0, start1.atStart⟩
end Jvm.Pilot.@@N@@
