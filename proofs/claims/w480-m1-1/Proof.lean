import JvmDerived
import JvmDerived.Pilot.@@N@@Statement
import JvmDerived.Pilot.@@N@@Code
set_option linter.unusedVariables false
set_option linter.unusedSimpArgs false
namespace Jvm.Pilot.@@N@@
open Jvm Jvm.ClassFile Sem Op Lib Jvm.Free Jvm.Stand Jvm.LawKit Jvm.RoadKit Bundle Jvm.Pilot.@@N@@.Jvm.D
section Own
variable {p : Program} {l : Launch} {e : Env} {R : Room} {s : State} {m : MethodId} {args : Array Value} {below : List Frame} {meth : Method} {c : Code} {T : State} {locs : List Loc} {cells slots : Nat} {Z : State} {a0 : Array Value} {h : Heap} {P : State → Outcome → Prop} {pc : Nat} {Ls : Array Slot} {rest st : List Value}
/-- from T, with f on top, the run comes to an end of which P holds -/
def own_Go (p : Program) (e : Env) (below : List Frame) (P : State → Outcome → Prop) (T : State) (f : JFrame) : Prop :=
  ∃ t o, Steps p.tables e below (T.setTop f) t ∧ t.status = .running ∧ Ended t below o ∧ P t o
theorem own_by {T' : State} {f f' : JFrame} (st : ∀ t, Steps p.tables e below (T'.setTop f') t → Steps p.tables e below (T.setTop f) t) (k : own_Go p e below P T' f') : own_Go p e below P T f := by
  obtain ⟨t, o, h1, h2⟩ := k
  exact ⟨t, o, st _ h1, h2⟩
/-- a method's end: what it returns, the heap, what it wrote -/
def own_Ends (s : State) (rm : Room) (Q : Option Value → Heap → List Loc → Prop) (t : State) (o : Outcome) : Prop := ∃ v L, o = .returned v ∧ Q v t.heap L ∧ FrameEnd s o t L rm.cells rm.slots
/-- a body's contract, at one list of arguments and one heap -/
def own_Ct (l : Launch) (Z : State) (y : MethodName) (bytes : ByteArray) (mx : Nat) (rt : Option FieldType) (ws : List Jvm.Cond) (rm : Room) (as' : Array Value) (h0 : Heap) (Q : Option Value → Heap → List Loc → Prop) : Prop :=
  MetFree l y (head1 (Jvm.Cond.code y bytes mx rt :: ws) rm) (fun a U => a = as' ∧ Z.Warmed39 U.vm ∧ U.heap = h0) (fun _ _ _ _ _ => True) (fun _ U o U' => own_Ends U rm Q U' o)
theorem own_of {y : MethodName} {bytes : ByteArray} {mx : Nat} {rt : Option FieldType} {ws : List Jvm.Cond} {rm : Room} {as' : Array Value} {h0 : Heap} {Q : Option Value → Heap → List Loc → Prop} (hpl : plainName y.cls = true)
    (body : ∀ (p : Program) (e : Env) (s : State) (m : MethodId) (below : List Frame) (meth : Method) (c : Code) (s₁ : State), p.tables.exec = Jvm.exec → c.code = bytes → c.maxLocals = mx → s.vm.findClass y.cls = some m.cls → meth.name = y.name → meth.sig.returnType = rt → meth.locks = false → Z.Warmed39 s.vm →
      Stand p l e rm s m as' below meth c s₁ [] 0 0 → s₁.heap = h0 → own_Go p e below (own_Ends s rm Q) s₁ (entryFrame m as' mx)) : own_Ct l Z y bytes mx rt ws rm as' h0 Q := by
  refine MetFree.of_bodySF (plainFor_of_name hpl) hisR ?_
  intro p e s m args below meth c s₁ Bd hml hP hK
  obtain ⟨rfl, hZ, hh⟩ := hP
  exact body p e s m below meth c s₁ Bd.exec Bd.bytes hml (findClass_of_methodNamed Bd.named) (name_of_methodNamed Bd.named Bd.method).1 Bd.returns Bd.notSynchronized hZ (Stand.of_body Bd) (by rw [← hh, Bd.state]; rfl)
theorem own_ret {rm : Room} {Q : Option Value → Heap → List Loc → Prop} {t : FieldType} {w : Value} {i : Instr} (X : Stand p l e R s m args below meth c T locs cells slots) (hx : p.tables.exec = Jvm.exec) (hret : meth.sig.returnType = some t) (hlk : meth.locks = false) (hd : decode c.code pc = .ok (i, 1)) (hn : narrow t w = w)
    (hi : (i = .ireturn ∧ (t = .int ∨ t = .boolean ∨ t = .byte ∨ t = .char ∨ t = .short) ∧ ∃ z, w = .int z) ∨ (i = .lreturn ∧ t = .long ∧ ∃ z, w = .long z) ∨ (i = .dreturn ∧ t = .double ∧ ∃ z, w = .double z) ∨ (i = .freturn ∧ t = .float ∧ ∃ z, w = .float z) ∨ (i = .areturn ∧ t.isReference = true ∧ w.isRef = true))
    (hc : cells ≤ rm.cells) (hs : slots ≤ rm.slots) (hq : Q (some w) T.heap locs) : own_Go p e below (own_Ends s rm Q) T (mkF m pc Ls (w :: rest)) := by
  obtain ⟨fs, hr, hrun, hended, hW, hsame⟩ := X.leave (v := some w) (fun h => by rw [hret] at h; cases h) hlk
  exact ⟨_, _, retOut X hx hret hn hi hd hr, hrun, hended, _, _, rfl, hq, ⟨_, rfl⟩, hW, hsame.mono hc hs⟩
theorem own_retI {rm : Room} {Q : Option Value → Heap → List Loc → Prop} {w : Int32} (X : Stand p l e R s m args below meth c T locs cells slots) (hx : p.tables.exec = Jvm.exec) (hret : meth.sig.returnType = some .int) (hlk : meth.locks = false) (hd : decode c.code pc = .ok (.ireturn, 1)) 
    (hc : cells ≤ rm.cells) (hs : slots ≤ rm.slots) (hq : Q (some (.int w)) T.heap locs) : own_Go p e below (own_Ends s rm Q) T (mkF m pc Ls (.int w :: rest)) :=
  own_ret X hx hret hlk hd rfl (Or.inl ⟨rfl, Or.inl rfl, _, rfl⟩) hc hs hq
theorem own_retZ {rm : Room} {Q : Option Value → Heap → List Loc → Prop} {w : Int32} (X : Stand p l e R s m args below meth c T locs cells slots) (hx : p.tables.exec = Jvm.exec) (hret : meth.sig.returnType = some .boolean) (hlk : meth.locks = false) (hd : decode c.code pc = .ok (.ireturn, 1)) (hw : w = 0 ∨ w = 1)
    (hc : cells ≤ rm.cells) (hs : slots ≤ rm.slots) (hq : Q (some (.int w)) T.heap locs) : own_Go p e below (own_Ends s rm Q) T (mkF m pc Ls (.int w :: rest)) :=
  own_ret X hx hret hlk hd (by rcases hw with rfl | rfl <;> rfl) (Or.inl ⟨rfl, Or.inr (Or.inl rfl), _, rfl⟩) hc hs hq
theorem own_retJ {rm : Room} {Q : Option Value → Heap → List Loc → Prop} {w : Int64} (X : Stand p l e R s m args below meth c T locs cells slots) (hx : p.tables.exec = Jvm.exec) (hret : meth.sig.returnType = some .long) (hlk : meth.locks = false) (hd : decode c.code pc = .ok (.lreturn, 1)) 
    (hc : cells ≤ rm.cells) (hs : slots ≤ rm.slots) (hq : Q (some (.long w)) T.heap locs) : own_Go p e below (own_Ends s rm Q) T (mkF m pc Ls (.long w :: rest)) :=
  own_ret X hx hret hlk hd rfl (Or.inr (Or.inl ⟨rfl, rfl, _, rfl⟩)) hc hs hq
theorem own_retA {rm : Room} {Q : Option Value → Heap → List Loc → Prop} {w : Value} {t : FieldType} (X : Stand p l e R s m args below meth c T locs cells slots) (hx : p.tables.exec = Jvm.exec) (hret : meth.sig.returnType = some t) (hlk : meth.locks = false) (hd : decode c.code pc = .ok (.areturn, 1)) (ht : t.isReference = true) (hn : narrow t w = w) (hw : w.isRef = true)
    (hc : cells ≤ rm.cells) (hs : slots ≤ rm.slots) (hq : Q (some w) T.heap locs) : own_Go p e below (own_Ends s rm Q) T (mkF m pc Ls (w :: rest)) :=
  own_ret X hx hret hlk hd hn (Or.inr (Or.inr (Or.inr (Or.inr ⟨rfl, ht, hw⟩)))) hc hs hq
theorem own_retV {rm : Room} {Q : Option Value → Heap → List Loc → Prop} (X : Stand p l e R s m args below meth c T locs cells slots) (hx : p.tables.exec = Jvm.exec) (hret : meth.sig.returnType = none) (hlk : meth.locks = false) (hd : decode c.code pc = .ok (.return_, 1))
    (hc : cells ≤ rm.cells) (hs : slots ≤ rm.slots) (hq : Q none T.heap locs) : own_Go p e below (own_Ends s rm Q) T (mkF m pc Ls []) := by
  obtain ⟨fs, hr, hrun, hended, hW, hsame⟩ := X.leave (v := none) (fun _ => rfl) hlk
  exact ⟨_, _, X.returnOut hx hret hd hr, hrun, hended, _, _, rfl, hq, ⟨_, rfl⟩, hW, hsame.mono hc hs⟩
abbrev own_K (p : Program) (l : Launch) (e : Env) (R : Room) (s : State) (m : MethodId) (args : Array Value) (below : List Frame) (meth : Method) (c : Code) (P : State → Outcome → Prop) (locs : List Loc) (cells slots : Nat) (rm : Room) (Q : Option Value → Heap → List Loc → Prop) (pc : Nat) (Ls : Array Slot) (rest : List Value) : Prop :=
  ∀ (T' : State) (v : Option Value) (L : List Loc), Stand p l e R s m args below meth c T' (locs ++ L) (cells + rm.cells) (slots + rm.slots) → Q v T'.heap L → own_Go p e below P T' (mkF m pc Ls (v.toList ++ rest))
theorem own_callS {own : String} {index : Nat} {y : MethodName} {bytes : ByteArray} {maxL : Nat} {ret : Option FieldType} {rm : Room} {Q : Option Value → Heap → List Loc → Prop} {ps : List FieldType} {r : Option FieldType} (X : Stand p l e R s m args below meth c T locs cells slots) (hx : p.tables.exec = Jvm.exec) (hZ : Z.Warmed39 s.vm) (hown : s.vm.findClass own = some m.cls) (eT : T.heap = h) (hd : decode c.code pc = .ok (.invokestatic index, 3))
    (argsL rest : List Value) (W : Nat) (C : own_Ct l Z y bytes maxL ret [] rm argsL.toArray h Q) (w1 : (Cond.methodLink own index y).before a0 Z = true) (w2 : (Cond.static y).before a0 Z = true) (w3 : (Cond.initialized y.cls).before a0 Z = true) (w4 : (Cond.code y bytes maxL ret).before a0 Z = true)
    (hy : y.cls ≠ "java/lang/invoke/MethodHandle" ∧ y.cls ≠ "java/lang/invoke/VarHandle") (hpd : parseMethodDescriptor y.desc = some ⟨ps, r⟩) (hsize : Ls.size = c.maxLocals) (hlen : argsL.length = ps.length) (hst : st = argsL.reverse ++ rest)
    (hW : (rest.map fun v => v.category).sum ≤ W) (hf : rm.frames + 1 ≤ R.frames) (hl : W + (maxL + 11) + rm.locals ≤ R.locals) (hc : cells + rm.cells ≤ R.cells) (hs : slots + rm.slots ≤ R.slots)
    (k : own_K p l e R s m args below meth c P locs cells slots rm Q (pc + 3) Ls rest) : own_Go p e below P T (mkF m pc Ls st) := by
  obtain ⟨v, _, ⟨T', L', k', n'⟩, -, X', ⟨Lc, hQ, l', y', z'⟩, stp⟩ := Jvm.LawKit.callS X hx (y := y) hown (mvT hZ w1) (mvT hZ w2) (mvT hZ w3) (mvT hZ w4) hy (backOf (W := W) (Q := Q) C hZ w4 w3 hf hl) (g := mkF m pc Ls st) rfl hsize (argsL := argsL) (rest := rest) (lenOf hpd hlen) hst (by show 2 * 0 + _ ≤ _; omega) hd (fun _ _ => ⟨rfl, eT, hc, hs⟩)
  dsimp only [Pt.U, Pt.locs, Pt.cells, Pt.slots] at X' l' y' z' stp hQ
  subst l' y' z'
  exact own_by stp (k T' v Lc X' hQ)
theorem own_callN {own : String} {index : Nat} {y : MethodName} {bytes : ByteArray} {maxL : Nat} {rm : Room} {Q : Option Value → Heap → List Loc → Prop} {ps : List FieldType} {r : Option FieldType} {a : Addr} (X : Stand p l e R s m args below meth c T locs cells slots) (hx : p.tables.exec = Jvm.exec) (hZ : Z.Warmed39 s.vm) (hown : s.vm.findClass own = some m.cls) (eT : T.heap = h) (hd : decode c.code pc = .ok (.invokespecial index, 3))
    (argsL rest : List Value) (W : Nat) (C : own_Ct l Z y bytes maxL none [] rm (.ref a :: argsL).toArray h Q) (w1 : (Cond.methodLink own index y).before a0 Z = true) (w2 : (Cond.instanceMethod y).before a0 Z = true) (w3 : (Cond.initialized y.cls).before a0 Z = true) (w4 : (Cond.code y bytes maxL none).before a0 Z = true)
    (hyi : y.name = "<init>") (hy : y.cls ≠ "java/lang/invoke/MethodHandle" ∧ y.cls ≠ "java/lang/invoke/VarHandle") (hpd : parseMethodDescriptor y.desc = some ⟨ps, r⟩) (hsize : Ls.size = c.maxLocals) (hlen : argsL.length = ps.length) (hst : st = argsL.reverse ++ .ref a :: rest)
    (hW : (rest.map fun v => v.category).sum ≤ W) (hf : rm.frames + 1 ≤ R.frames) (hl : W + (maxL + 11) + rm.locals ≤ R.locals) (hc : cells + rm.cells ≤ R.cells) (hs : slots + rm.slots ≤ R.slots)
    (k : own_K p l e R s m args below meth c P locs cells slots rm Q (pc + 3) Ls rest) : own_Go p e below P T (mkF m pc Ls st) := by
  obtain ⟨v, _, ⟨T', L', k', n'⟩, -, X', ⟨Lc, hQ, l', y', z'⟩, stp⟩ := X.specialBack hx (y := y) hyi hown (mvT hZ w1) (mvT hZ w2) (mvT hZ w4) hy (backOf (W := W) (Q := Q) C hZ w4 w3 hf hl) (g := mkF m pc Ls st) rfl hsize (Steps.refl _) (a := a) (argsL := argsL) (rest := rest) (lenOf hpd hlen) hst (by show 2 * 0 + _ ≤ _; omega) hd (fun _ _ => ⟨rfl, eT, hc, hs⟩)
  dsimp only [Pt.U, Pt.locs, Pt.cells, Pt.slots] at X' l' y' z' stp hQ
  subst l' y' z'
  exact own_by (fun _ k => stp.trans k) (k T' v Lc X' hQ)
theorem own_callV {own : String} {index : Nat} {C0 : String} {y z : MethodName} {bytes : ByteArray} {maxL : Nat} {ret : Option FieldType} {rm : Room} {Q : Option Value → Heap → List Loc → Prop} {ps : List FieldType} {r : Option FieldType} {a : Addr} (X : Stand p l e R s m args below meth c T locs cells slots) (hx : p.tables.exec = Jvm.exec) (hZ : Z.Warmed39 s.vm) (hown : s.vm.findClass own = some m.cls) (eT : T.heap = h) (hd : decode c.code pc = .ok (.invokevirtual index, 3))
    (argsL rest : List Value) (W : Nat) (C : own_Ct l Z z bytes maxL ret [] rm (.ref a :: argsL).toArray h Q) (E : Exa Z h a C0) (w1 : (Cond.methodLink own index y).before a0 Z = true) (w0 : (Cond.declares y).before a0 Z = true) (nf : NotFace s y) (ws : (Cond.selects C0 y z).before a0 Z = true) (w2 : (Cond.instanceMethod z).before a0 Z = true) (w3 : (Cond.initialized z.cls).before a0 Z = true) (w4 : (Cond.code z bytes maxL ret).before a0 Z = true)
    (hy : y.cls ≠ "java/lang/invoke/MethodHandle" ∧ y.cls ≠ "java/lang/invoke/VarHandle") (hpd : parseMethodDescriptor y.desc = some ⟨ps, r⟩) (hsize : Ls.size = c.maxLocals) (hlen : argsL.length = ps.length) (hst : st = argsL.reverse ++ .ref a :: rest)
    (hW : (rest.map fun v => v.category).sum ≤ W) (hf : rm.frames + 1 ≤ R.frames) (hl : W + (maxL + 11) + rm.locals ≤ R.locals) (hc : cells + rm.cells ≤ R.cells) (hs : slots + rm.slots ≤ R.slots)
    (k : own_K p l e R s m args below meth c P locs cells slots rm Q (pc + 3) Ls rest) : own_Go p e below P T (mkF m pc Ls st) := by
  obtain ⟨cq, kq, qa, qb, qc⟩ := isOf hZ eT E
  obtain ⟨v, _, ⟨T', L', k', n'⟩, -, X', ⟨Lc, hQ, l', y', z'⟩, stp⟩ := X.virtualBack hx (y := y) (z := z) hown (mvT hZ w1) (mvT hZ w0) nf (mvT hZ ws) (mvT hZ w2) hy (backOf (W := W) (Q := Q) C hZ w4 w3 hf hl) qa qc (g := mkF m pc Ls st) rfl hsize (Steps.refl _) (argsL := argsL) (rest := rest) (lenOf hpd hlen) hst (by show 2 * 0 + _ ≤ _; omega) hd (fun _ _ => ⟨rfl, eT, hc, hs⟩)
  dsimp only [Pt.U, Pt.locs, Pt.cells, Pt.slots] at X' l' y' z' stp hQ
  subst l' y' z'
  exact own_by (fun _ k => stp.trans k) (k T' v Lc X' hQ)
theorem own_callP {own : String} {index : Nat} {C0 : String} {y : MethodName} {bytes : ByteArray} {maxL : Nat} {ret : Option FieldType} {rm : Room} {Q : Option Value → Heap → List Loc → Prop} {ps : List FieldType} {r : Option FieldType} {a : Addr} (X : Stand p l e R s m args below meth c T locs cells slots) (hx : p.tables.exec = Jvm.exec) (hZ : Z.Warmed39 s.vm) (hown : s.vm.findClass own = some m.cls) (eT : T.heap = h) (hd : decode c.code pc = .ok (.invokevirtual index, 3))
    (argsL rest : List Value) (W : Nat) (C : own_Ct l Z y bytes maxL ret [] rm (.ref a :: argsL).toArray h Q) (E : Exa Z h a C0) (w1 : (Cond.methodLink own index y).before a0 Z = true) (w2 : (Cond.instanceMethod y).before a0 Z = true) (ws : (Cond.selects y.cls y y).before a0 Z = true) (wp : (Cond.privateMethod y).before a0 Z = true) (w3 : (Cond.initialized y.cls).before a0 Z = true) (w4 : (Cond.code y bytes maxL ret).before a0 Z = true)
    (hy : y.cls ≠ "java/lang/invoke/MethodHandle" ∧ y.cls ≠ "java/lang/invoke/VarHandle") (hpd : parseMethodDescriptor y.desc = some ⟨ps, r⟩) (hsize : Ls.size = c.maxLocals) (hlen : argsL.length = ps.length) (hst : st = argsL.reverse ++ .ref a :: rest)
    (hW : (rest.map fun v => v.category).sum ≤ W) (hf : rm.frames + 1 ≤ R.frames) (hl : W + (maxL + 11) + rm.locals ≤ R.locals) (hc : cells + rm.cells ≤ R.cells) (hs : slots + rm.slots ≤ R.slots)
    (k : own_K p l e R s m args below meth c P locs cells slots rm Q (pc + 3) Ls rest) : own_Go p e below P T (mkF m pc Ls st) := by
  obtain ⟨cq, q1, q2⟩ := E.cell
  obtain ⟨v, _, ⟨T', L', k', n'⟩, -, X', ⟨Lc, hQ, l', y', z'⟩, stp⟩ := X.privateBack hx (y := y) hown (mvT hZ w1) (mvT hZ w2) (mvT hZ ws) (Cond.privateMethod_at (mvP hZ wp (args := #[]))) (mvT hZ w4) hy (backOf (W := W) (Q := Q) C hZ w4 w3 hf hl) (g := mkF m pc Ls st) rfl hsize (Steps.refl _) (a := a) (by rw [eT]; exact q1) q2 (argsL := argsL) (rest := rest) (lenOf hpd hlen) hst (by show 2 * 0 + _ ≤ _; omega) hd (fun _ _ => ⟨rfl, eT, hc, hs⟩)
  dsimp only [Pt.U, Pt.locs, Pt.cells, Pt.slots] at X' l' y' z' stp hQ
  subst l' y' z'
  exact own_by (fun _ k => stp.trans k) (k T' v Lc X' hQ)
abbrev own_K0 (p : Program) (l : Launch) (e : Env) (R : Room) (s : State) (m : MethodId) (args : Array Value) (below : List Frame) (meth : Method) (c : Code) (P : State → Outcome → Prop) (locs : List Loc) (cells slots : Nat) (h : Heap) (pc : Nat) (Ls : Array Slot) (st : List Value) : Prop :=
  ∀ (T' : State), Stand p l e R s m args below meth c T' locs cells slots → T'.heap = h → own_Go p e below P T' (mkF m pc Ls st)
theorem own_init {own : String} {index : Nat} {a : Addr} (X : Stand p l e R s m args below meth c T locs cells slots) (hx : p.tables.exec = Jvm.exec) (hZ : Z.Warmed39 s.vm) (hown : s.vm.findClass own = some m.cls) (eT : T.heap = h) (hd : decode c.code pc = .ok (.invokespecial index, 3)) (W : Nat)
    (w1 : (Cond.methodLink own index Lib.objectInit).before a0 Z = true) (w2 : (Cond.instanceMethod Lib.objectInit).before a0 Z = true) (w3 : (Cond.code Lib.objectInit ⟨#[0xb1]⟩ 1 none).before a0 Z = true) (hsize : Ls.size = c.maxLocals) (hW : (rest.map fun v => v.category).sum ≤ W) (hf : 1 ≤ R.frames) (hl : W + 12 ≤ R.locals)
    (k : own_K0 p l e R s m args below meth c P locs cells slots h (pc + 3) Ls rest) : own_Go p e below P T (mkF m pc Ls (.ref a :: rest)) := by
  obtain ⟨T', X', e', st⟩ := initO X hx hZ hown w1 w2 w3 eT (g := mkF m pc Ls (.ref a :: rest)) rfl hsize rfl hd hf (W := W) (by show 2 * 0 + _ ≤ _; omega) hl
  exact own_by st (k T' X' e')
theorem own_getF {own R0 O n d host : String} {index : Nat} {a : Addr} {v : Value} (X : Stand p l e R s m args below meth c T locs cells slots) (hx : p.tables.exec = Jvm.exec) (hZ : Z.Warmed39 s.vm) (hown : s.vm.findClass own = some m.cls) (eT : T.heap = h) (hd : decode c.code pc = .ok (.getfield index, 3))
    (w : (Cond.fieldLink own index R0 n d).before a0 Z = true ∨ (Cond.fieldLinkNest own index R0 n d host).before a0 Z = true) (via : Via Z R0 O n d) (F : Fld Z h a O n d v)
    (k : own_K0 p l e R s m args below meth c P locs cells slots h (pc + 3) Ls (v :: rest)) : own_Go p e below P T (mkF m pc Ls (.ref a :: rest)) := by
  obtain ⟨T', X', e', st⟩ := getF X hx hZ hown w via eT F (g := mkF m pc Ls (.ref a :: rest)) rfl rfl hd
  exact own_by st (k T' X' e')
theorem own_getS {own R0 O n d host : String} {index : Nat} {v : Value} (X : Stand p l e R s m args below meth c T locs cells slots) (hx : p.tables.exec = Jvm.exec) (hZ : Z.Warmed39 s.vm) (hown : s.vm.findClass own = some m.cls) (eT : T.heap = h) (hd : decode c.code pc = .ok (.getstatic index, 3))
    (w : (Cond.fieldLink own index R0 n d).before a0 Z = true ∨ (Cond.fieldLinkNest own index R0 n d host).before a0 Z = true) (via : Via Z R0 O n d) (F : Sta Z h O n d v)
    (k : own_K0 p l e R s m args below meth c P locs cells slots h (pc + 3) Ls (v :: st)) : own_Go p e below P T (mkF m pc Ls st) := by
  obtain ⟨T', X', e', stp⟩ := getS2 X hx hZ hown w via eT F (g := mkF m pc Ls st) rfl hd
  exact own_by stp (k T' X' e')
theorem own_new {own C : String} {index n : Nat} (X : Stand p l e R s m args below meth c T locs cells slots) (hx : p.tables.exec = Jvm.exec) (hZ : Z.Warmed39 s.vm) (hown : s.vm.findClass own = some m.cls) (eT : T.heap = h) (hd : decode c.code pc = .ok (.new index, 3))
    (w : (Cond.classLink own index C).before a0 Z = true) (wi : (Cond.instantiable C n).before a0 Z = true) (wz : (Cond.initialized C).before a0 Z = true) (hc : cells + 1 ≤ R.cells) (hl : slots + n ≤ R.slots)
    (k : ∀ (T' : State) (h' : Heap) (b : Addr), Stand p l e R s m args below meth c T' locs (cells + 1) (slots + n) → T'.heap = h' → b = h.size → Ext h h' → Exa Z h' b C → (∀ {O nm d : String} {ty : FieldType}, Laid Z a0 C O nm d → parseFieldDescriptor d = some ty → Fld Z h' b O nm d (defaultValue ty)) → own_Go p e below P T' (mkF m (pc + 3) Ls (.ref b :: st))) :
    own_Go p e below P T (mkF m pc Ls st) := by
  obtain ⟨T', h', X', e', E, A, D, -, stp⟩ := newO X hx hZ hown w wi wz eT (g := mkF m pc Ls st) rfl hd hc hl
  exact own_by stp (k T' h' _ X' e' rfl E A D)
theorem own_putF {own R0 O n d host C : String} {index kk : Nat} {ty : FieldType} {a : Addr} {v old : Value} (X : Stand p l e R s m args below meth c T locs cells slots) (hx : p.tables.exec = Jvm.exec) (hZ : Z.Warmed39 s.vm) (hown : s.vm.findClass own = some m.cls) (eT : T.heap = h) (hd : decode c.code pc = .ok (.putfield index, 3))
    (w : (Cond.fieldLink own index R0 n d).before a0 Z = true ∨ (Cond.fieldLinkNest own index R0 n d host).before a0 Z = true) (via : Via Z R0 O n d) (F : Fld Z h a O n d old) (E : Exa Z h a C) (L : (Cond.lays C O n d).before a0 Z = true ∨ ((Cond.laysFinal C O n d).before a0 Z = true ∧ own = O ∧ meth.name = "<init>")) (wi : (Cond.instantiable C kk).before a0 Z = true)
    (hty : parseFieldDescriptor d = some ty) (hn : narrow ty v = v) (hf : fits ty v = true)
    (k : ∀ (T' : State) (h' : Heap), Stand p l e R s m args below meth c T' (locs ++ [⟨a, Jvm.RoadKit.slotOf Z O n d⟩]) cells slots → T'.heap = h' → Wr h h' a (Jvm.RoadKit.slotOf Z O n d) v → own_Go p e below P T' (mkF m (pc + 3) Ls rest)) :
    own_Go p e below P T (mkF m pc Ls (v :: .ref a :: rest)) := by
  obtain ⟨T', h', X', e', W, st⟩ := putF X hx hZ hown w via eT F E L wi hty hn hf (g := mkF m pc Ls (v :: .ref a :: rest)) rfl rfl hd
  exact own_by st (k T' h' X' e' W)
theorem own_newA {aty : ArrayType} {n : Int32} (X : Stand p l e R s m args below meth c T locs cells slots) (hx : p.tables.exec = Jvm.exec) (hZ : Z.Warmed39 s.vm) (eT : T.heap = h) (hd : decode c.code pc = .ok (.newarray aty, 2))
    (w : (Cond.arrayClass (newarray.typeOf aty)).before a0 Z = true) (hn : ¬ n < 0) (cap : Nat) (hcap : n.toNatClampNeg ≤ cap) (hb : cap * 8 ≤ 536870912) (hc : cells + 1 ≤ R.cells) (hl : slots + cap ≤ R.slots)
    (k : ∀ (T' : State) (h' : Heap) (b : Addr) (cA : ClassId), Stand p l e R s m args below meth c T' locs (cells + 1) (slots + cap) → T'.heap = h' → b = h.size → Ext h h' → Arv Z h' b cA (newarray.typeOf aty) n [] (defaultValue (newarray.typeOf aty)) → own_Go p e below P T' (mkF m (pc + 2) Ls (.ref b :: rest))) :
    own_Go p e below P T (mkF m pc Ls (.int n :: rest)) := by
  obtain ⟨T', h', cA, X', e', E, A, stp⟩ := newP X hx hZ w eT (g := mkF m pc Ls (.int n :: rest)) rfl hd rfl hn hcap hb hc hl
  exact own_by stp (k T' h' _ cA X' e' rfl E (Arv.new A hn))
theorem own_ldcI {own : String} {index : Nat} {i : Int32} (X : Stand p l e R s m args below meth c T locs cells slots) (hx : p.tables.exec = Jvm.exec) (hZ : Z.Warmed39 s.vm) (hown : s.vm.findClass own = some m.cls) (hd : decode c.code pc = .ok (.ldc index, 2)) (w : (Cond.constant own index i).before a0 Z = true)
    (k : own_Go p e below P T (mkF m (pc + 2) Ls (.int i :: st))) : own_Go p e below P T (mkF m pc Ls st) :=
  own_by (fun t k => X.ldcInt hx hown (mvT hZ w) (g := mkF m pc Ls st) rfl hd t k) k
theorem own_ldcJ {own : String} {index : Nat} {i : Int64} (X : Stand p l e R s m args below meth c T locs cells slots) (hx : p.tables.exec = Jvm.exec) (hZ : Z.Warmed39 s.vm) (hown : s.vm.findClass own = some m.cls) (hd : decode c.code pc = .ok (.ldc2_w index, 3)) (w : (Cond.constantLong own index i).before a0 Z = true)
    (k : own_Go p e below P T (mkF m (pc + 3) Ls (.long i :: st))) : own_Go p e below P T (mkF m pc Ls st) :=
  own_by (fun t k => X.ldc2Long hx hown (mvT hZ w) (g := mkF m pc Ls st) rfl hd t k) k
end Own
theorem d2_0 : decode jdk_30_method_1_code 0 = .ok (.aload_n 0, 1) := by decide +kernel
theorem d2_1 : decode jdk_30_method_1_code 1 = .ok (.invokespecial 1, 3) := by decide +kernel
theorem d2_4 : decode jdk_30_method_1_code 4 = .ok (.return_, 1) := by decide +kernel
theorem pn_java_lang_Record : plainName "java/lang/Record" = true := by first | (simp [plainName, overriddenIn]; done) | decide +kernel
theorem d1_0 : decode prog_29_method_1_code 0 = .ok (.aload_n 0, 1) := by decide +kernel
theorem d1_1 : decode prog_29_method_1_code 1 = .ok (.invokespecial 1, 3) := by decide +kernel
theorem pd___V : parseMethodDescriptor "()V" = some ⟨[], none⟩ := by decide +kernel
theorem d1_4 : decode prog_29_method_1_code 4 = .ok (.aload_n 0, 1) := by decide +kernel
theorem d1_5 : decode prog_29_method_1_code 5 = .ok (.iload_n 1, 1) := by decide +kernel
theorem d1_6 : decode prog_29_method_1_code 6 = .ok (.putfield 7, 3) := by decide +kernel
theorem d1_9 : decode prog_29_method_1_code 9 = .ok (.aload_n 0, 1) := by decide +kernel
theorem d1_10 : decode prog_29_method_1_code 10 = .ok (.iload_n 2, 1) := by decide +kernel
theorem d1_11 : decode prog_29_method_1_code 11 = .ok (.putfield 13, 3) := by decide +kernel
theorem d1_14 : decode prog_29_method_1_code 14 = .ok (.aload_n 0, 1) := by decide +kernel
theorem d1_15 : decode prog_29_method_1_code 15 = .ok (.iload_n 3, 1) := by decide +kernel
theorem d1_16 : decode prog_29_method_1_code 16 = .ok (.putfield 16, 3) := by decide +kernel
theorem d1_19 : decode prog_29_method_1_code 19 = .ok (.return_, 1) := by decide +kernel
theorem pn_com_example_kissena_kissena_Subdocuments_Subdocument : plainName "com/example/kissena/kissena/Subdocuments$Subdocument" = true := by first | (simp [plainName, overriddenIn]; done) | decide +kernel
theorem d4_0 : decode prog_29_method_2_code 0 = .ok (.aload_n 0, 1) := by decide +kernel
theorem d4_1 : decode prog_29_method_2_code 1 = .ok (.getfield 16, 3) := by decide +kernel
theorem d4_4 : decode prog_29_method_2_code 4 = .ok (.aload_n 0, 1) := by decide +kernel
theorem d4_5 : decode prog_29_method_2_code 5 = .ok (.getfield 13, 3) := by decide +kernel
theorem d4_8 : decode prog_29_method_2_code 8 = .ok (.isub, 1) := by decide +kernel
theorem d4_9 : decode prog_29_method_2_code 9 = .ok (.iconst 1, 1) := by decide +kernel
theorem d4_10 : decode prog_29_method_2_code 10 = .ok (.iadd, 1) := by decide +kernel
theorem d4_11 : decode prog_29_method_2_code 11 = .ok (.ireturn, 1) := by decide +kernel
theorem pd__III_V : parseMethodDescriptor "(III)V" = some ⟨[.int, .int, .int], none⟩ := by decide +kernel
theorem pd___I : parseMethodDescriptor "()I" = some ⟨[], some .int⟩ := by decide +kernel
theorem pn_com_example_kissena_kissena_SubdocumentLengthPinLaw : plainName "com/example/kissena/kissena/SubdocumentLengthPinLaw" = true := by first | (simp [plainName, overriddenIn]; done) | decide +kernel
theorem ef_rmR (m : MethodId) (x0 : Addr) : entryFrame m #[(.ref x0)] 1 = mkF m 0 #[.val (.ref x0)] [] := by first | (simp [entryFrame, mkF, argsToLocals, Value.category]; done) | rfl
set_option maxRecDepth 65536 in
set_option maxHeartbeats 40000000 in
theorem rmR (l : Launch) (Z : State) (a0 : Array Value) (hw : ∀ d ∈ tables_1, d.before a0 Z = true) (ws : List Jvm.Cond) (a1 : Addr) (h0 : Heap)  :
    own_Ct l Z (⟨"java/lang/Record", "<init>", "()V"⟩ : MethodName) jdk_30_method_1_code 1 none ws ({ frames := 1, cells := 0, slots := 0, locals := 12 } : Room) #[(.ref a1)] h0 (fun v h L => v = none ∧ L = [] ∧ h = h0) := by
  refine own_of pn_java_lang_Record ?_
  intro p e s m below meth c s₁ hx hby hml hown hnm hret hlk hZ X0 e0
  rw [ef_rmR]
  refine own_by (T' := s₁) (f' := (mkF m 1 #[.val (.ref a1)] [(.ref a1)])) (fun t k => XS.aloadN X0.here hx rfl (hb hby d2_0) rfl rfl k) ?_
  refine own_init X0 hx hZ hown e0 (hb hby d2_1) 0 (hw _ (List.mem_of_getElem? (i := 12) rfl)) (hw _ (List.mem_of_getElem? (i := 13) rfl)) (hw _ (List.mem_of_getElem? (i := 14) rfl)) (by rw [hml]; rfl) (Nat.le_of_eq rfl) (by decide) (by decide) ?_
  intro T1 X1 e1
  show own_Go p e below _ T1 (mkF m 4 #[.val (.ref a1)] [])
  refine own_retV X1 hx hret hlk (hb hby d2_4) (by decide) (by decide) ?_
  try rw [e1]
  exact ⟨rfl, rfl, rfl⟩
theorem ef_rmI (m : MethodId) (x0 : Addr) (x1 : Int32) (x2 : Int32) (x3 : Int32) : entryFrame m #[(.ref x0), (.int x1), (.int x2), (.int x3)] 4 = mkF m 0 #[.val (.ref x0), .val (.int x1), .val (.int x2), .val (.int x3)] [] := by first | (simp [entryFrame, mkF, argsToLocals, Value.category]; done) | rfl
set_option maxRecDepth 65536 in
set_option maxHeartbeats 40000000 in
theorem rmI (l : Launch) (Z : State) (a0 : Array Value) (hw : ∀ d ∈ tables_1, d.before a0 Z = true) (ws : List Jvm.Cond) (a1 : Addr) (p1 p2 p3 : Int32) (u0 u1 u2 : Value) (h0 : Heap) (n0 : Nat) (Z0 : n0 ≤ h0.size) (g1 : n0 ≤ a1) (E1 : Exa Z h0 a1 "com/example/kissena/kissena/Subdocuments$Subdocument") (F0 : Fld Z h0 a1 "com/example/kissena/kissena/Subdocuments$Subdocument" "number" "I" u0) (F1 : Fld Z h0 a1 "com/example/kissena/kissena/Subdocuments$Subdocument" "start" "I" u1) (F2 : Fld Z h0 a1 "com/example/kissena/kissena/Subdocuments$Subdocument" "end" "I" u2) :
    own_Ct l Z (⟨"com/example/kissena/kissena/Subdocuments$Subdocument", "<init>", "(III)V"⟩ : MethodName) prog_29_method_1_code 4 none ws ({ frames := 2, cells := 0, slots := 0, locals := 40 } : Room) #[(.ref a1), (.int p1), (.int p2), (.int p3)] h0 (fun v h L => v = none ∧ Fr n0 L ∧ Keep h0 h [a1] ∧ Exa Z h a1 "com/example/kissena/kissena/Subdocuments$Subdocument" ∧ Fld Z h a1 "com/example/kissena/kissena/Subdocuments$Subdocument" "start" "I" (.int p2) ∧ Fld Z h a1 "com/example/kissena/kissena/Subdocuments$Subdocument" "end" "I" (.int p3)) := by
  refine own_of pn_com_example_kissena_kissena_Subdocuments_Subdocument ?_
  intro p e s m below meth c s₁ hx hby hml hown hnm hret hlk hZ X0 e0
  have N0 := Fr.nil n0
  have K0 := Keep.refl h0 [a1]
  rw [ef_rmI]
  refine own_by (T' := s₁) (f' := (mkF m 1 #[.val (.ref a1), .val (.int p1), .val (.int p2), .val (.int p3)] [(.ref a1)])) (fun t k => XS.aloadN X0.here hx rfl (hb hby d1_0) rfl rfl k) ?_
  refine own_callN X0 hx hZ hown e0 (hb hby d1_1) [] [] 0 (rmR l Z a0 hw [] a1 h0) (hw _ (List.mem_of_getElem? (i := 7) rfl)) (hw _ (List.mem_of_getElem? (i := 8) rfl)) (hw _ (List.mem_of_getElem? (i := 10) rfl)) (hw _ (List.mem_of_getElem? (i := 11) rfl)) rfl (by decide) pd___V (by rw [hml]; rfl) rfl rfl (Nat.le_of_eq rfl) (by decide) (by decide) (by decide) (by decide) ?_
  rintro T11 _ L11 X11 ⟨rfl, rfl, e11⟩
  show own_Go p e below _ T11 (mkF m 4 #[.val (.ref a1), .val (.int p1), .val (.int p2), .val (.int p3)] [])
  rw [List.append_nil] at X11
  refine own_by (T' := T11) (f' := (mkF m 5 #[.val (.ref a1), .val (.int p1), .val (.int p2), .val (.int p3)] [(.ref a1)])) (fun t k => XS.aloadN X11.here hx rfl (hb hby d1_4) rfl rfl k) ?_
  refine own_by (T' := T11) (f' := (mkF m 6 #[.val (.ref a1), .val (.int p1), .val (.int p2), .val (.int p3)] [(.int p1), (.ref a1)])) (fun t k => XS.iloadN X11.here hx rfl (hb hby d1_5) rfl k) ?_
  refine own_putF (host := "") X11 hx hZ hown e11 (hb hby d1_6) (Or.inl (hw _ (List.mem_of_getElem? (i := 15) rfl))) Via.refl F0 E1 (Or.inr ⟨(hw _ (List.mem_of_getElem? (i := 16) rfl)), rfl, hnm⟩) (hw _ (List.mem_of_getElem? (i := 2) rfl)) (ty := .int) (by decide) rfl rfl ?_
  intro T12 h12 X12 e12 W12
  show own_Go p e below _ T12 (mkF m 9 #[.val (.ref a1), .val (.int p1), .val (.int p2), .val (.int p3)] [])
  have F12 := F0.same W12
  have sz13 : n0 ≤ h12.size := by rw [W12.size]; exact Z0
  have K14 := K0.wr W12 (Or.inl (List.mem_of_getElem? (i := 0) rfl))
  have N12 := Fr.snoc X12 N0 g1
  refine own_by (T' := T12) (f' := (mkF m 10 #[.val (.ref a1), .val (.int p1), .val (.int p2), .val (.int p3)] [(.ref a1)])) (fun t k => XS.aloadN X12.here hx rfl (hb hby d1_9) rfl rfl k) ?_
  refine own_by (T' := T12) (f' := (mkF m 11 #[.val (.ref a1), .val (.int p1), .val (.int p2), .val (.int p3)] [(.int p2), (.ref a1)])) (fun t k => XS.iloadN X12.here hx rfl (hb hby d1_10) rfl k) ?_
  have f15 := (F1.other W12 (Or.inr (slot_ne (Or.inr (hw _ (List.mem_of_getElem? (i := 18) rfl))) (Or.inr (hw _ (List.mem_of_getElem? (i := 16) rfl))) (by decide) (t := .int) (t' := .int) (by decide) (by decide))))
  have f16 := (E1.wr W12)
  refine own_putF (host := "") X12 hx hZ hown e12 (hb hby d1_11) (Or.inl (hw _ (List.mem_of_getElem? (i := 17) rfl))) Via.refl f15 f16 (Or.inr ⟨(hw _ (List.mem_of_getElem? (i := 18) rfl)), rfl, hnm⟩) (hw _ (List.mem_of_getElem? (i := 2) rfl)) (ty := .int) (by decide) rfl rfl ?_
  intro T17 h17 X17 e17 W17
  show own_Go p e below _ T17 (mkF m 14 #[.val (.ref a1), .val (.int p1), .val (.int p2), .val (.int p3)] [])
  have F17 := f15.same W17
  have sz18 : n0 ≤ h17.size := by rw [W17.size]; exact sz13
  have K19 := K14.wr W17 (Or.inl (List.mem_of_getElem? (i := 0) rfl))
  have N17 := Fr.snoc X17 N12 g1
  refine own_by (T' := T17) (f' := (mkF m 15 #[.val (.ref a1), .val (.int p1), .val (.int p2), .val (.int p3)] [(.ref a1)])) (fun t k => XS.aloadN X17.here hx rfl (hb hby d1_14) rfl rfl k) ?_
  refine own_by (T' := T17) (f' := (mkF m 16 #[.val (.ref a1), .val (.int p1), .val (.int p2), .val (.int p3)] [(.int p3), (.ref a1)])) (fun t k => XS.iloadN X17.here hx rfl (hb hby d1_15) rfl k) ?_
  have f20 := ((F2.other W12 (Or.inr (slot_ne (Or.inr (hw _ (List.mem_of_getElem? (i := 20) rfl))) (Or.inr (hw _ (List.mem_of_getElem? (i := 16) rfl))) (by decide) (t := .int) (t' := .int) (by decide) (by decide)))).other W17 (Or.inr (slot_ne (Or.inr (hw _ (List.mem_of_getElem? (i := 20) rfl))) (Or.inr (hw _ (List.mem_of_getElem? (i := 18) rfl))) (by decide) (t := .int) (t' := .int) (by decide) (by decide))))
  have f21 := (f16.wr W17)
  refine own_putF (host := "") X17 hx hZ hown e17 (hb hby d1_16) (Or.inl (hw _ (List.mem_of_getElem? (i := 19) rfl))) Via.refl f20 f21 (Or.inr ⟨(hw _ (List.mem_of_getElem? (i := 20) rfl)), rfl, hnm⟩) (hw _ (List.mem_of_getElem? (i := 2) rfl)) (ty := .int) (by decide) rfl rfl ?_
  intro T22 h22 X22 e22 W22
  show own_Go p e below _ T22 (mkF m 19 #[.val (.ref a1), .val (.int p1), .val (.int p2), .val (.int p3)] [])
  have F22 := f20.same W22
  have sz23 : n0 ≤ h22.size := by rw [W22.size]; exact sz18
  have K24 := K19.wr W22 (Or.inl (List.mem_of_getElem? (i := 0) rfl))
  have N22 := Fr.snoc X22 N17 g1
  have f25 := (f21.wr W22)
  have f26 := (F17.other W22 (Or.inr (slot_ne (Or.inr (hw _ (List.mem_of_getElem? (i := 18) rfl))) (Or.inr (hw _ (List.mem_of_getElem? (i := 20) rfl))) (by decide) (t := .int) (t' := .int) (by decide) (by decide))))
  refine own_retV X22 hx hret hlk (hb hby d1_19) (by decide) (by decide) ?_
  try rw [e22]
  exact ⟨rfl, N22, K24, f25, f26, F22⟩
theorem ef_rmL (m : MethodId) (x0 : Addr) : entryFrame m #[(.ref x0)] 1 = mkF m 0 #[.val (.ref x0)] [] := by first | (simp [entryFrame, mkF, argsToLocals, Value.category]; done) | rfl
set_option maxRecDepth 65536 in
set_option maxHeartbeats 40000000 in
theorem rmL (l : Launch) (Z : State) (a0 : Array Value) (hw : ∀ d ∈ tables_1, d.before a0 Z = true) (ws : List Jvm.Cond) (a1 : Addr) (w1 w2 : Int32) (h0 : Heap) (F1 : Fld Z h0 a1 "com/example/kissena/kissena/Subdocuments$Subdocument" "start" "I" (.int w1)) (F2 : Fld Z h0 a1 "com/example/kissena/kissena/Subdocuments$Subdocument" "end" "I" (.int w2)) :
    own_Ct l Z (⟨"com/example/kissena/kissena/Subdocuments$Subdocument", "length", "()I"⟩ : MethodName) prog_29_method_2_code 1 (some .int) ws ({ frames := 0, cells := 0, slots := 0, locals := 0 } : Room) #[(.ref a1)] h0 (fun v h L => v = some (.int (w2 - w1 + 1)) ∧ L = [] ∧ h = h0) := by
  refine own_of pn_com_example_kissena_kissena_Subdocuments_Subdocument ?_
  intro p e s m below meth c s₁ hx hby hml hown hnm hret hlk hZ X0 e0
  rw [ef_rmL]
  refine own_by (T' := s₁) (f' := (mkF m 1 #[.val (.ref a1)] [(.ref a1)])) (fun t k => XS.aloadN X0.here hx rfl (hb hby d4_0) rfl rfl k) ?_
  refine own_getF (host := "") X0 hx hZ hown e0 (hb hby d4_1) (Or.inl (hw _ (List.mem_of_getElem? (i := 19) rfl))) Via.refl F2 ?_
  intro T11 X11 e11
  show own_Go p e below _ T11 (mkF m 4 #[.val (.ref a1)] [(.int w2)])
  refine own_by (T' := T11) (f' := (mkF m 5 #[.val (.ref a1)] [(.ref a1), (.int w2)])) (fun t k => XS.aloadN X11.here hx rfl (hb hby d4_4) rfl rfl k) ?_
  refine own_getF (host := "") X11 hx hZ hown e11 (hb hby d4_5) (Or.inl (hw _ (List.mem_of_getElem? (i := 17) rfl))) Via.refl F1 ?_
  intro T12 X12 e12
  show own_Go p e below _ T12 (mkF m 8 #[.val (.ref a1)] [(.int w1), (.int w2)])
  refine own_by (T' := T12) (f' := (mkF m 9 #[.val (.ref a1)] [(.int (w2 - w1))])) (fun t k => XS.isub X12.here hx rfl (hb hby d4_8) rfl k) ?_
  refine own_by (T' := T12) (f' := (mkF m 10 #[.val (.ref a1)] [(.int (1 : Int32)), (.int (w2 - w1))])) (fun t k => XS.iconst X12.here hx rfl (hb hby d4_9) k) ?_
  refine own_by (T' := T12) (f' := (mkF m 11 #[.val (.ref a1)] [(.int ((w2 - w1) + (1 : Int32)))])) (fun t k => XS.iadd X12.here hx rfl (hb hby d4_10) rfl k) ?_
  refine own_retI X12 hx hret hlk (hb hby d4_11) (by decide) (by decide) ?_
  try rw [e12]
  exact ⟨rfl, rfl, rfl⟩
theorem own_l1 (s k : Int32) : (s + k - 1) - s + 1 = k := by
  apply Int32.toInt_inj.mp
  have h1 := c_iadd s k; have h2 := c_isub (s + k) 1; have h3 := c_isub (s + k - 1) s; have h4 := c_iadd (s + k - 1 - s) 1
  have e1 : (1 : Int32).toInt = 1 := by decide
  have r := rng32 k; have r' := rng32 (s + k - 1 - s + 1)
  omega
theorem own_l2 (m k : Int32) : (m + k) - (m + 1) + 1 = k := by
  apply Int32.toInt_inj.mp
  have h1 := c_iadd m k; have h2 := c_iadd m 1; have h3 := c_isub (m + k) (m + 1); have h4 := c_iadd (m + k - (m + 1)) 1
  have e1 : (1 : Int32).toInt = 1 := by decide
  have r := rng32 k; have r' := rng32 (m + k - (m + 1) + 1)
  omega
theorem own_l3 (s k q : Int32) : ((s + k - 1) + q) - s + 1 = k + q := by
  apply Int32.toInt_inj.mp
  have h1 := c_iadd s k; have h2 := c_isub (s + k) 1; have h3 := c_iadd (s + k - 1) q; have h4 := c_isub (s + k - 1 + q) s; have h5 := c_iadd (s + k - 1 + q - s) 1; have h6 := c_iadd k q
  have e1 : (1 : Int32).toInt = 1 := by decide
  have r := rng32 (k + q); have r' := rng32 (s + k - 1 + q - s + 1)
  omega
theorem own_l4 (s : Int32) : s - s + 1 = 1 := by
  apply Int32.toInt_inj.mp
  have h1 := c_isub s s; have h2 := c_iadd (s - s) 1
  have e1 : (1 : Int32).toInt = 1 := by decide
  have r := rng32 (s - s + 1)
  omega
theorem ef_rm0 (m : MethodId) (x0 : Int32) (x1 : Int32) (x2 : Int32) (x3 : Int32) : entryFrame m #[(.int x0), (.int x1), (.int x2), (.int x3)] maxLocals = mkF m 0 #[.val (.int x0), .val (.int x1), .val (.int x2), .val (.int x3), .unset, .unset, .unset, .unset, .unset, .unset, .unset, .unset, .unset, .unset, .unset, .unset, .unset] [] := by first | (simp [entryFrame, mkF, argsToLocals, Value.category, maxLocals]; done) | rfl
set_option maxRecDepth 65536 in
set_option maxHeartbeats 40000000 in
theorem rm0 (l : Launch) (Z : State) (a0 : Array Value) (hw : ∀ d ∈ tables_1, d.before a0 Z = true) (ws : List Jvm.Cond) (i0 i1 i2 i3 : Int32) (h0 : Heap) (n0 : Nat) (Z0 : n0 ≤ h0.size) :
    own_Ct l Z x code maxLocals ret ws room_1 #[(.int i0), (.int i1), (.int i2), (.int i3)] h0 (fun v h L => v = some (.int 1) ∧ Fr n0 L) := by
  refine own_of pn_com_example_kissena_kissena_SubdocumentLengthPinLaw ?_
  intro p e s m below meth c s₁ hx hby hml hown hnm hret hlk hZ X0 e0
  have N0 := Fr.nil n0
  rw [ef_rm0]
  refine own_by (T' := s₁) (f' := (mkF m 1 #[.val (.int i0), .val (.int i1), .val (.int i2), .val (.int i3), .unset, .unset, .unset, .unset, .unset, .unset, .unset, .unset, .unset, .unset, .unset, .unset, .unset] [(.int i1)])) (fun t k => XS.iloadN X0.here hx rfl (hb hby at_0) rfl k) ?_
  refine own_by (T' := s₁) (f' := (mkF m 3 #[.val (.int i0), .val (.int i1), .val (.int i2), .val (.int i3), .unset, .unset, .unset, .unset, .unset, .unset, .unset, .unset, .unset, .unset, .unset, .unset, .unset] [(.int (536870911 : Int32)), (.int i1)])) (fun t k => X0.ldcInt hx hown (mvT hZ (hw _ (List.mem_of_getElem? (i := 0) rfl))) (g := (mkF m 1 #[.val (.int i0), .val (.int i1), .val (.int i2), .val (.int i3), .unset, .unset, .unset, .unset, .unset, .unset, .unset, .unset, .unset, .unset, .unset, .unset, .unset] [(.int i1)])) rfl (hb hby at_1) _ k) ?_
  refine own_by (T' := s₁) (f' := (mkF m 4 #[.val (.int i0), .val (.int i1), .val (.int i2), .val (.int i3), .unset, .unset, .unset, .unset, .unset, .unset, .unset, .unset, .unset, .unset, .unset, .unset, .unset] [(.int (i1 &&& (536870911 : Int32)))])) (fun t k => XS.iand X0.here hx rfl (hb hby at_3) rfl k) ?_
  refine own_by (T' := s₁) (f' := (mkF m 5 #[.val (.int i0), .val (.int i1), .val (.int i2), .val (.int i3), .unset, .unset, .unset, .unset, .unset, .unset, .unset, .unset, .unset, .unset, .unset, .unset, .unset] [(.int (1 : Int32)), (.int (i1 &&& (536870911 : Int32)))])) (fun t k => XS.iconst X0.here hx rfl (hb hby at_4) k) ?_
  refine own_by (T' := s₁) (f' := (mkF m 6 #[.val (.int i0), .val (.int i1), .val (.int i2), .val (.int i3), .unset, .unset, .unset, .unset, .unset, .unset, .unset, .unset, .unset, .unset, .unset, .unset, .unset] [(.int ((i1 &&& (536870911 : Int32)) + (1 : Int32)))])) (fun t k => XS.iadd X0.here hx rfl (hb hby at_5) rfl k) ?_
  obtain ⟨vs, hvs⟩ : ∃ z : Int32, z = ((i1 &&& (536870911 : Int32)) + (1 : Int32)) := ⟨_, rfl⟩
  rw [← hvs]
  show own_Go p e below _ s₁ (mkF m 6 #[.val (.int i0), .val (.int i1), .val (.int i2), .val (.int i3), .unset, .unset, .unset, .unset, .unset, .unset, .unset, .unset, .unset, .unset, .unset, .unset, .unset] [(.int vs)])
  refine own_by (T' := s₁) (f' := (mkF m 8 #[.val (.int i0), .val (.int i1), .val (.int i2), .val (.int i3), .val (.int vs), .unset, .unset, .unset, .unset, .unset, .unset, .unset, .unset, .unset, .unset, .unset, .unset] [])) (fun t k => XS.istore X0.here hx rfl (hb hby at_6) rfl (l' := #[.val (.int i0), .val (.int i1), .val (.int i2), .val (.int i3), .val (.int vs), .unset, .unset, .unset, .unset, .unset, .unset, .unset, .unset, .unset, .unset, .unset, .unset]) rfl k) ?_
  refine own_by (T' := s₁) (f' := (mkF m 9 #[.val (.int i0), .val (.int i1), .val (.int i2), .val (.int i3), .val (.int vs), .unset, .unset, .unset, .unset, .unset, .unset, .unset, .unset, .unset, .unset, .unset, .unset] [(.int i2)])) (fun t k => XS.iloadN X0.here hx rfl (hb hby at_8) rfl k) ?_
  refine own_by (T' := s₁) (f' := (mkF m 11 #[.val (.int i0), .val (.int i1), .val (.int i2), .val (.int i3), .val (.int vs), .unset, .unset, .unset, .unset, .unset, .unset, .unset, .unset, .unset, .unset, .unset, .unset] [(.int (536870911 : Int32)), (.int i2)])) (fun t k => X0.ldcInt hx hown (mvT hZ (hw _ (List.mem_of_getElem? (i := 0) rfl))) (g := (mkF m 9 #[.val (.int i0), .val (.int i1), .val (.int i2), .val (.int i3), .val (.int vs), .unset, .unset, .unset, .unset, .unset, .unset, .unset, .unset, .unset, .unset, .unset, .unset] [(.int i2)])) rfl (hb hby at_9) _ k) ?_
  refine own_by (T' := s₁) (f' := (mkF m 12 #[.val (.int i0), .val (.int i1), .val (.int i2), .val (.int i3), .val (.int vs), .unset, .unset, .unset, .unset, .unset, .unset, .unset, .unset, .unset, .unset, .unset, .unset] [(.int (i2 &&& (536870911 : Int32)))])) (fun t k => XS.iand X0.here hx rfl (hb hby at_11) rfl k) ?_
  obtain ⟨vk, hvk⟩ : ∃ z : Int32, z = (i2 &&& (536870911 : Int32)) := ⟨_, rfl⟩
  rw [← hvk]
  show own_Go p e below _ s₁ (mkF m 12 #[.val (.int i0), .val (.int i1), .val (.int i2), .val (.int i3), .val (.int vs), .unset, .unset, .unset, .unset, .unset, .unset, .unset, .unset, .unset, .unset, .unset, .unset] [(.int vk)])
  refine own_by (T' := s₁) (f' := (mkF m 14 #[.val (.int i0), .val (.int i1), .val (.int i2), .val (.int i3), .val (.int vs), .val (.int vk), .unset, .unset, .unset, .unset, .unset, .unset, .unset, .unset, .unset, .unset, .unset] [])) (fun t k => XS.istore X0.here hx rfl (hb hby at_12) rfl (l' := #[.val (.int i0), .val (.int i1), .val (.int i2), .val (.int i3), .val (.int vs), .val (.int vk), .unset, .unset, .unset, .unset, .unset, .unset, .unset, .unset, .unset, .unset, .unset]) rfl k) ?_
  refine own_by (T' := s₁) (f' := (mkF m 15 #[.val (.int i0), .val (.int i1), .val (.int i2), .val (.int i3), .val (.int vs), .val (.int vk), .unset, .unset, .unset, .unset, .unset, .unset, .unset, .unset, .unset, .unset, .unset] [(.int i3)])) (fun t k => XS.iloadN X0.here hx rfl (hb hby at_14) rfl k) ?_
  refine own_by (T' := s₁) (f' := (mkF m 17 #[.val (.int i0), .val (.int i1), .val (.int i2), .val (.int i3), .val (.int vs), .val (.int vk), .unset, .unset, .unset, .unset, .unset, .unset, .unset, .unset, .unset, .unset, .unset] [(.int (536870911 : Int32)), (.int i3)])) (fun t k => X0.ldcInt hx hown (mvT hZ (hw _ (List.mem_of_getElem? (i := 0) rfl))) (g := (mkF m 15 #[.val (.int i0), .val (.int i1), .val (.int i2), .val (.int i3), .val (.int vs), .val (.int vk), .unset, .unset, .unset, .unset, .unset, .unset, .unset, .unset, .unset, .unset, .unset] [(.int i3)])) rfl (hb hby at_15) _ k) ?_
  refine own_by (T' := s₁) (f' := (mkF m 18 #[.val (.int i0), .val (.int i1), .val (.int i2), .val (.int i3), .val (.int vs), .val (.int vk), .unset, .unset, .unset, .unset, .unset, .unset, .unset, .unset, .unset, .unset, .unset] [(.int (i3 &&& (536870911 : Int32)))])) (fun t k => XS.iand X0.here hx rfl (hb hby at_17) rfl k) ?_
  obtain ⟨vq, hvq⟩ : ∃ z : Int32, z = (i3 &&& (536870911 : Int32)) := ⟨_, rfl⟩
  rw [← hvq]
  show own_Go p e below _ s₁ (mkF m 18 #[.val (.int i0), .val (.int i1), .val (.int i2), .val (.int i3), .val (.int vs), .val (.int vk), .unset, .unset, .unset, .unset, .unset, .unset, .unset, .unset, .unset, .unset, .unset] [(.int vq)])
  refine own_by (T' := s₁) (f' := (mkF m 20 #[.val (.int i0), .val (.int i1), .val (.int i2), .val (.int i3), .val (.int vs), .val (.int vk), .val (.int vq), .unset, .unset, .unset, .unset, .unset, .unset, .unset, .unset, .unset, .unset] [])) (fun t k => XS.istore X0.here hx rfl (hb hby at_18) rfl (l' := #[.val (.int i0), .val (.int i1), .val (.int i2), .val (.int i3), .val (.int vs), .val (.int vk), .val (.int vq), .unset, .unset, .unset, .unset, .unset, .unset, .unset, .unset, .unset, .unset]) rfl k) ?_
  refine own_by (T' := s₁) (f' := (mkF m 22 #[.val (.int i0), .val (.int i1), .val (.int i2), .val (.int i3), .val (.int vs), .val (.int vk), .val (.int vq), .unset, .unset, .unset, .unset, .unset, .unset, .unset, .unset, .unset, .unset] [(.int vs)])) (fun t k => XS.iload X0.here hx rfl (hb hby at_20) rfl k) ?_
  refine own_by (T' := s₁) (f' := (mkF m 24 #[.val (.int i0), .val (.int i1), .val (.int i2), .val (.int i3), .val (.int vs), .val (.int vk), .val (.int vq), .unset, .unset, .unset, .unset, .unset, .unset, .unset, .unset, .unset, .unset] [(.int vk), (.int vs)])) (fun t k => XS.iload X0.here hx rfl (hb hby at_22) rfl k) ?_
  refine own_by (T' := s₁) (f' := (mkF m 25 #[.val (.int i0), .val (.int i1), .val (.int i2), .val (.int i3), .val (.int vs), .val (.int vk), .val (.int vq), .unset, .unset, .unset, .unset, .unset, .unset, .unset, .unset, .unset, .unset] [(.int (vs + vk))])) (fun t k => XS.iadd X0.here hx rfl (hb hby at_24) rfl k) ?_
  refine own_by (T' := s₁) (f' := (mkF m 26 #[.val (.int i0), .val (.int i1), .val (.int i2), .val (.int i3), .val (.int vs), .val (.int vk), .val (.int vq), .unset, .unset, .unset, .unset, .unset, .unset, .unset, .unset, .unset, .unset] [(.int (1 : Int32)), (.int (vs + vk))])) (fun t k => XS.iconst X0.here hx rfl (hb hby at_25) k) ?_
  refine own_by (T' := s₁) (f' := (mkF m 27 #[.val (.int i0), .val (.int i1), .val (.int i2), .val (.int i3), .val (.int vs), .val (.int vk), .val (.int vq), .unset, .unset, .unset, .unset, .unset, .unset, .unset, .unset, .unset, .unset] [(.int ((vs + vk) - (1 : Int32)))])) (fun t k => XS.isub X0.here hx rfl (hb hby at_26) rfl k) ?_
  refine own_by (T' := s₁) (f' := (mkF m 29 #[.val (.int i0), .val (.int i1), .val (.int i2), .val (.int i3), .val (.int vs), .val (.int vk), .val (.int vq), .val (.int ((vs + vk) - (1 : Int32))), .unset, .unset, .unset, .unset, .unset, .unset, .unset, .unset, .unset] [])) (fun t k => XS.istore X0.here hx rfl (hb hby at_27) rfl (l' := #[.val (.int i0), .val (.int i1), .val (.int i2), .val (.int i3), .val (.int vs), .val (.int vk), .val (.int vq), .val (.int ((vs + vk) - (1 : Int32))), .unset, .unset, .unset, .unset, .unset, .unset, .unset, .unset, .unset]) rfl k) ?_
  refine own_by (T' := s₁) (f' := (mkF m 31 #[.val (.int i0), .val (.int i1), .val (.int i2), .val (.int i3), .val (.int vs), .val (.int vk), .val (.int vq), .val (.int ((vs + vk) - (1 : Int32))), .unset, .unset, .unset, .unset, .unset, .unset, .unset, .unset, .unset] [(.int ((vs + vk) - (1 : Int32)))])) (fun t k => XS.iload X0.here hx rfl (hb hby at_29) rfl k) ?_
  refine own_by (T' := s₁) (f' := (mkF m 33 #[.val (.int i0), .val (.int i1), .val (.int i2), .val (.int i3), .val (.int vs), .val (.int vk), .val (.int vq), .val (.int ((vs + vk) - (1 : Int32))), .unset, .unset, .unset, .unset, .unset, .unset, .unset, .unset, .unset] [(.int vq), (.int ((vs + vk) - (1 : Int32)))])) (fun t k => XS.iload X0.here hx rfl (hb hby at_31) rfl k) ?_
  refine own_by (T' := s₁) (f' := (mkF m 34 #[.val (.int i0), .val (.int i1), .val (.int i2), .val (.int i3), .val (.int vs), .val (.int vk), .val (.int vq), .val (.int ((vs + vk) - (1 : Int32))), .unset, .unset, .unset, .unset, .unset, .unset, .unset, .unset, .unset] [(.int (((vs + vk) - (1 : Int32)) + vq))])) (fun t k => XS.iadd X0.here hx rfl (hb hby at_33) rfl k) ?_
  refine own_by (T' := s₁) (f' := (mkF m 36 #[.val (.int i0), .val (.int i1), .val (.int i2), .val (.int i3), .val (.int vs), .val (.int vk), .val (.int vq), .val (.int ((vs + vk) - (1 : Int32))), .val (.int (((vs + vk) - (1 : Int32)) + vq)), .unset, .unset, .unset, .unset, .unset, .unset, .unset, .unset] [])) (fun t k => XS.istore X0.here hx rfl (hb hby at_34) rfl (l' := #[.val (.int i0), .val (.int i1), .val (.int i2), .val (.int i3), .val (.int vs), .val (.int vk), .val (.int vq), .val (.int ((vs + vk) - (1 : Int32))), .val (.int (((vs + vk) - (1 : Int32)) + vq)), .unset, .unset, .unset, .unset, .unset, .unset, .unset, .unset]) rfl k) ?_
  refine own_new X0 hx hZ hown e0 (hb hby at_36) (hw _ (List.mem_of_getElem? (i := 1) rfl)) (hw _ (List.mem_of_getElem? (i := 2) rfl)) (hw _ (List.mem_of_getElem? (i := 3) rfl)) (by decide) (by decide) ?_
  intro T1 h1 b1 X1 e1 g1 E1 A1 D1
  have gn1 : n0 ≤ b1 := by rw [g1]; exact Z0
  show own_Go p e below _ T1 (mkF m 39 #[.val (.int i0), .val (.int i1), .val (.int i2), .val (.int i3), .val (.int vs), .val (.int vk), .val (.int vq), .val (.int ((vs + vk) - (1 : Int32))), .val (.int (((vs + vk) - (1 : Int32)) + vq)), .unset, .unset, .unset, .unset, .unset, .unset, .unset, .unset] [(.ref b1)])
  have F1_number : Fld Z h1 b1 "com/example/kissena/kissena/Subdocuments$Subdocument" "number" "I" (.int (0 : Int32)) := D1 (Or.inr (hw _ (List.mem_of_getElem? (i := 16) rfl))) (ty := .int) (by decide)
  have F1_start : Fld Z h1 b1 "com/example/kissena/kissena/Subdocuments$Subdocument" "start" "I" (.int (0 : Int32)) := D1 (Or.inr (hw _ (List.mem_of_getElem? (i := 18) rfl))) (ty := .int) (by decide)
  have F1_end : Fld Z h1 b1 "com/example/kissena/kissena/Subdocuments$Subdocument" "end" "I" (.int (0 : Int32)) := D1 (Or.inr (hw _ (List.mem_of_getElem? (i := 20) rfl))) (ty := .int) (by decide)
  have sz2 : n0 ≤ h1.size := Nat.le_trans Z0 E1.1
  refine own_by (T' := T1) (f' := (mkF m 40 #[.val (.int i0), .val (.int i1), .val (.int i2), .val (.int i3), .val (.int vs), .val (.int vk), .val (.int vq), .val (.int ((vs + vk) - (1 : Int32))), .val (.int (((vs + vk) - (1 : Int32)) + vq)), .unset, .unset, .unset, .unset, .unset, .unset, .unset, .unset] [(.ref b1), (.ref b1)])) (fun t k => XS.dup X1.here hx rfl (hb hby at_39) rfl rfl k) ?_
  refine own_by (T' := T1) (f' := (mkF m 41 #[.val (.int i0), .val (.int i1), .val (.int i2), .val (.int i3), .val (.int vs), .val (.int vk), .val (.int vq), .val (.int ((vs + vk) - (1 : Int32))), .val (.int (((vs + vk) - (1 : Int32)) + vq)), .unset, .unset, .unset, .unset, .unset, .unset, .unset, .unset] [(.int i0), (.ref b1), (.ref b1)])) (fun t k => XS.iloadN X1.here hx rfl (hb hby at_40) rfl k) ?_
  refine own_by (T' := T1) (f' := (mkF m 43 #[.val (.int i0), .val (.int i1), .val (.int i2), .val (.int i3), .val (.int vs), .val (.int vk), .val (.int vq), .val (.int ((vs + vk) - (1 : Int32))), .val (.int (((vs + vk) - (1 : Int32)) + vq)), .unset, .unset, .unset, .unset, .unset, .unset, .unset, .unset] [(.int vs), (.int i0), (.ref b1), (.ref b1)])) (fun t k => XS.iload X1.here hx rfl (hb hby at_41) rfl k) ?_
  refine own_by (T' := T1) (f' := (mkF m 45 #[.val (.int i0), .val (.int i1), .val (.int i2), .val (.int i3), .val (.int vs), .val (.int vk), .val (.int vq), .val (.int ((vs + vk) - (1 : Int32))), .val (.int (((vs + vk) - (1 : Int32)) + vq)), .unset, .unset, .unset, .unset, .unset, .unset, .unset, .unset] [(.int ((vs + vk) - (1 : Int32))), (.int vs), (.int i0), (.ref b1), (.ref b1)])) (fun t k => XS.iload X1.here hx rfl (hb hby at_43) rfl k) ?_
  refine own_callN X1 hx hZ hown e1 (hb hby at_45) [(.int i0), (.int vs), (.int ((vs + vk) - (1 : Int32)))] [(.ref b1)] 1 (rmI l Z a0 hw [] b1 i0 vs ((vs + vk) - (1 : Int32)) _ _ _ h1 n0 sz2 gn1 A1 F1_number F1_start F1_end) (hw _ (List.mem_of_getElem? (i := 4) rfl)) (hw _ (List.mem_of_getElem? (i := 5) rfl)) (hw _ (List.mem_of_getElem? (i := 3) rfl)) (hw _ (List.mem_of_getElem? (i := 6) rfl)) rfl (by decide) pd__III_V (by rw [hml]; rfl) rfl rfl (Nat.le_of_eq rfl) (by decide) (by decide) (by decide) (by decide) ?_
  rintro T3 _ L3 X3 ⟨rfl, N3q, K3, A3, F3, G3⟩
  show own_Go p e below _ T3 (mkF m 48 #[.val (.int i0), .val (.int i1), .val (.int i2), .val (.int i3), .val (.int vs), .val (.int vk), .val (.int vq), .val (.int ((vs + vk) - (1 : Int32))), .val (.int (((vs + vk) - (1 : Int32)) + vq)), .unset, .unset, .unset, .unset, .unset, .unset, .unset, .unset] [(.ref b1)])
  have N3 := Fr.app N0 N3q
  have sz4 : n0 ≤ T3.heap.size := Nat.le_trans sz2 K3.1
  refine own_by (T' := T3) (f' := (mkF m 50 #[.val (.int i0), .val (.int i1), .val (.int i2), .val (.int i3), .val (.int vs), .val (.int vk), .val (.int vq), .val (.int ((vs + vk) - (1 : Int32))), .val (.int (((vs + vk) - (1 : Int32)) + vq)), .val (.ref b1), .unset, .unset, .unset, .unset, .unset, .unset, .unset] [])) (fun t k => XS.astore X3.here hx rfl (hb hby at_48) rfl rfl (l' := #[.val (.int i0), .val (.int i1), .val (.int i2), .val (.int i3), .val (.int vs), .val (.int vk), .val (.int vq), .val (.int ((vs + vk) - (1 : Int32))), .val (.int (((vs + vk) - (1 : Int32)) + vq)), .val (.ref b1), .unset, .unset, .unset, .unset, .unset, .unset, .unset]) rfl k) ?_
  refine own_new X3 hx hZ hown rfl (hb hby at_50) (hw _ (List.mem_of_getElem? (i := 1) rfl)) (hw _ (List.mem_of_getElem? (i := 2) rfl)) (hw _ (List.mem_of_getElem? (i := 3) rfl)) (by decide) (by decide) ?_
  intro T5 h5 b5 X5 e5 g5 E5 A5 D5
  have ne5_b1 : b1 ≠ b5 := Nat.ne_of_lt (by rw [g5]; exact A3.lt)
  have gn5 : n0 ≤ b5 := by rw [g5]; exact sz4
  show own_Go p e below _ T5 (mkF m 53 #[.val (.int i0), .val (.int i1), .val (.int i2), .val (.int i3), .val (.int vs), .val (.int vk), .val (.int vq), .val (.int ((vs + vk) - (1 : Int32))), .val (.int (((vs + vk) - (1 : Int32)) + vq)), .val (.ref b1), .unset, .unset, .unset, .unset, .unset, .unset, .unset] [(.ref b5)])
  have F5_number : Fld Z h5 b5 "com/example/kissena/kissena/Subdocuments$Subdocument" "number" "I" (.int (0 : Int32)) := D5 (Or.inr (hw _ (List.mem_of_getElem? (i := 16) rfl))) (ty := .int) (by decide)
  have F5_start : Fld Z h5 b5 "com/example/kissena/kissena/Subdocuments$Subdocument" "start" "I" (.int (0 : Int32)) := D5 (Or.inr (hw _ (List.mem_of_getElem? (i := 18) rfl))) (ty := .int) (by decide)
  have F5_end : Fld Z h5 b5 "com/example/kissena/kissena/Subdocuments$Subdocument" "end" "I" (.int (0 : Int32)) := D5 (Or.inr (hw _ (List.mem_of_getElem? (i := 20) rfl))) (ty := .int) (by decide)
  have sz6 : n0 ≤ h5.size := Nat.le_trans sz4 E5.1
  refine own_by (T' := T5) (f' := (mkF m 54 #[.val (.int i0), .val (.int i1), .val (.int i2), .val (.int i3), .val (.int vs), .val (.int vk), .val (.int vq), .val (.int ((vs + vk) - (1 : Int32))), .val (.int (((vs + vk) - (1 : Int32)) + vq)), .val (.ref b1), .unset, .unset, .unset, .unset, .unset, .unset, .unset] [(.ref b5), (.ref b5)])) (fun t k => XS.dup X5.here hx rfl (hb hby at_53) rfl rfl k) ?_
  refine own_by (T' := T5) (f' := (mkF m 55 #[.val (.int i0), .val (.int i1), .val (.int i2), .val (.int i3), .val (.int vs), .val (.int vk), .val (.int vq), .val (.int ((vs + vk) - (1 : Int32))), .val (.int (((vs + vk) - (1 : Int32)) + vq)), .val (.ref b1), .unset, .unset, .unset, .unset, .unset, .unset, .unset] [(.int i0), (.ref b5), (.ref b5)])) (fun t k => XS.iloadN X5.here hx rfl (hb hby at_54) rfl k) ?_
  refine own_by (T' := T5) (f' := (mkF m 57 #[.val (.int i0), .val (.int i1), .val (.int i2), .val (.int i3), .val (.int vs), .val (.int vk), .val (.int vq), .val (.int ((vs + vk) - (1 : Int32))), .val (.int (((vs + vk) - (1 : Int32)) + vq)), .val (.ref b1), .unset, .unset, .unset, .unset, .unset, .unset, .unset] [(.int ((vs + vk) - (1 : Int32))), (.int i0), (.ref b5), (.ref b5)])) (fun t k => XS.iload X5.here hx rfl (hb hby at_55) rfl k) ?_
  refine own_by (T' := T5) (f' := (mkF m 58 #[.val (.int i0), .val (.int i1), .val (.int i2), .val (.int i3), .val (.int vs), .val (.int vk), .val (.int vq), .val (.int ((vs + vk) - (1 : Int32))), .val (.int (((vs + vk) - (1 : Int32)) + vq)), .val (.ref b1), .unset, .unset, .unset, .unset, .unset, .unset, .unset] [(.int (1 : Int32)), (.int ((vs + vk) - (1 : Int32))), (.int i0), (.ref b5), (.ref b5)])) (fun t k => XS.iconst X5.here hx rfl (hb hby at_57) k) ?_
  refine own_by (T' := T5) (f' := (mkF m 59 #[.val (.int i0), .val (.int i1), .val (.int i2), .val (.int i3), .val (.int vs), .val (.int vk), .val (.int vq), .val (.int ((vs + vk) - (1 : Int32))), .val (.int (((vs + vk) - (1 : Int32)) + vq)), .val (.ref b1), .unset, .unset, .unset, .unset, .unset, .unset, .unset] [(.int (((vs + vk) - (1 : Int32)) + (1 : Int32))), (.int i0), (.ref b5), (.ref b5)])) (fun t k => XS.iadd X5.here hx rfl (hb hby at_58) rfl k) ?_
  refine own_by (T' := T5) (f' := (mkF m 61 #[.val (.int i0), .val (.int i1), .val (.int i2), .val (.int i3), .val (.int vs), .val (.int vk), .val (.int vq), .val (.int ((vs + vk) - (1 : Int32))), .val (.int (((vs + vk) - (1 : Int32)) + vq)), .val (.ref b1), .unset, .unset, .unset, .unset, .unset, .unset, .unset] [(.int (((vs + vk) - (1 : Int32)) + vq)), (.int (((vs + vk) - (1 : Int32)) + (1 : Int32))), (.int i0), (.ref b5), (.ref b5)])) (fun t k => XS.iload X5.here hx rfl (hb hby at_59) rfl k) ?_
  refine own_callN X5 hx hZ hown e5 (hb hby at_61) [(.int i0), (.int (((vs + vk) - (1 : Int32)) + (1 : Int32))), (.int (((vs + vk) - (1 : Int32)) + vq))] [(.ref b5)] 1 (rmI l Z a0 hw [] b5 i0 (((vs + vk) - (1 : Int32)) + (1 : Int32)) (((vs + vk) - (1 : Int32)) + vq) _ _ _ h5 n0 sz6 gn5 A5 F5_number F5_start F5_end) (hw _ (List.mem_of_getElem? (i := 4) rfl)) (hw _ (List.mem_of_getElem? (i := 5) rfl)) (hw _ (List.mem_of_getElem? (i := 3) rfl)) (hw _ (List.mem_of_getElem? (i := 6) rfl)) rfl (by decide) pd__III_V (by rw [hml]; rfl) rfl rfl (Nat.le_of_eq rfl) (by decide) (by decide) (by decide) (by decide) ?_
  rintro T7 _ L7 X7 ⟨rfl, N7q, K7, A7, F7, G7⟩
  show own_Go p e below _ T7 (mkF m 64 #[.val (.int i0), .val (.int i1), .val (.int i2), .val (.int i3), .val (.int vs), .val (.int vk), .val (.int vq), .val (.int ((vs + vk) - (1 : Int32))), .val (.int (((vs + vk) - (1 : Int32)) + vq)), .val (.ref b1), .unset, .unset, .unset, .unset, .unset, .unset, .unset] [(.ref b5)])
  have N7 := Fr.app N3 N7q
  have sz8 : n0 ≤ T7.heap.size := Nat.le_trans sz6 K7.1
  refine own_by (T' := T7) (f' := (mkF m 66 #[.val (.int i0), .val (.int i1), .val (.int i2), .val (.int i3), .val (.int vs), .val (.int vk), .val (.int vq), .val (.int ((vs + vk) - (1 : Int32))), .val (.int (((vs + vk) - (1 : Int32)) + vq)), .val (.ref b1), .val (.ref b5), .unset, .unset, .unset, .unset, .unset, .unset] [])) (fun t k => XS.astore X7.here hx rfl (hb hby at_64) rfl rfl (l' := #[.val (.int i0), .val (.int i1), .val (.int i2), .val (.int i3), .val (.int vs), .val (.int vk), .val (.int vq), .val (.int ((vs + vk) - (1 : Int32))), .val (.int (((vs + vk) - (1 : Int32)) + vq)), .val (.ref b1), .val (.ref b5), .unset, .unset, .unset, .unset, .unset, .unset]) rfl k) ?_
  refine own_new X7 hx hZ hown rfl (hb hby at_66) (hw _ (List.mem_of_getElem? (i := 1) rfl)) (hw _ (List.mem_of_getElem? (i := 2) rfl)) (hw _ (List.mem_of_getElem? (i := 3) rfl)) (by decide) (by decide) ?_
  intro T9 h9 b9 X9 e9 g9 E9 A9 D9
  have f10 := ((A3.ext E5).keep K7)
  have ne9_b1 : b1 ≠ b9 := Nat.ne_of_lt (by rw [g9]; exact f10.lt)
  have ne9_b5 : b5 ≠ b9 := Nat.ne_of_lt (by rw [g9]; exact A7.lt)
  have gn9 : n0 ≤ b9 := by rw [g9]; exact sz8
  show own_Go p e below _ T9 (mkF m 69 #[.val (.int i0), .val (.int i1), .val (.int i2), .val (.int i3), .val (.int vs), .val (.int vk), .val (.int vq), .val (.int ((vs + vk) - (1 : Int32))), .val (.int (((vs + vk) - (1 : Int32)) + vq)), .val (.ref b1), .val (.ref b5), .unset, .unset, .unset, .unset, .unset, .unset] [(.ref b9)])
  have F9_number : Fld Z h9 b9 "com/example/kissena/kissena/Subdocuments$Subdocument" "number" "I" (.int (0 : Int32)) := D9 (Or.inr (hw _ (List.mem_of_getElem? (i := 16) rfl))) (ty := .int) (by decide)
  have F9_start : Fld Z h9 b9 "com/example/kissena/kissena/Subdocuments$Subdocument" "start" "I" (.int (0 : Int32)) := D9 (Or.inr (hw _ (List.mem_of_getElem? (i := 18) rfl))) (ty := .int) (by decide)
  have F9_end : Fld Z h9 b9 "com/example/kissena/kissena/Subdocuments$Subdocument" "end" "I" (.int (0 : Int32)) := D9 (Or.inr (hw _ (List.mem_of_getElem? (i := 20) rfl))) (ty := .int) (by decide)
  have sz11 : n0 ≤ h9.size := Nat.le_trans sz8 E9.1
  refine own_by (T' := T9) (f' := (mkF m 70 #[.val (.int i0), .val (.int i1), .val (.int i2), .val (.int i3), .val (.int vs), .val (.int vk), .val (.int vq), .val (.int ((vs + vk) - (1 : Int32))), .val (.int (((vs + vk) - (1 : Int32)) + vq)), .val (.ref b1), .val (.ref b5), .unset, .unset, .unset, .unset, .unset, .unset] [(.ref b9), (.ref b9)])) (fun t k => XS.dup X9.here hx rfl (hb hby at_69) rfl rfl k) ?_
  refine own_by (T' := T9) (f' := (mkF m 71 #[.val (.int i0), .val (.int i1), .val (.int i2), .val (.int i3), .val (.int vs), .val (.int vk), .val (.int vq), .val (.int ((vs + vk) - (1 : Int32))), .val (.int (((vs + vk) - (1 : Int32)) + vq)), .val (.ref b1), .val (.ref b5), .unset, .unset, .unset, .unset, .unset, .unset] [(.int i0), (.ref b9), (.ref b9)])) (fun t k => XS.iloadN X9.here hx rfl (hb hby at_70) rfl k) ?_
  refine own_by (T' := T9) (f' := (mkF m 73 #[.val (.int i0), .val (.int i1), .val (.int i2), .val (.int i3), .val (.int vs), .val (.int vk), .val (.int vq), .val (.int ((vs + vk) - (1 : Int32))), .val (.int (((vs + vk) - (1 : Int32)) + vq)), .val (.ref b1), .val (.ref b5), .unset, .unset, .unset, .unset, .unset, .unset] [(.int vs), (.int i0), (.ref b9), (.ref b9)])) (fun t k => XS.iload X9.here hx rfl (hb hby at_71) rfl k) ?_
  refine own_by (T' := T9) (f' := (mkF m 75 #[.val (.int i0), .val (.int i1), .val (.int i2), .val (.int i3), .val (.int vs), .val (.int vk), .val (.int vq), .val (.int ((vs + vk) - (1 : Int32))), .val (.int (((vs + vk) - (1 : Int32)) + vq)), .val (.ref b1), .val (.ref b5), .unset, .unset, .unset, .unset, .unset, .unset] [(.int (((vs + vk) - (1 : Int32)) + vq)), (.int vs), (.int i0), (.ref b9), (.ref b9)])) (fun t k => XS.iload X9.here hx rfl (hb hby at_73) rfl k) ?_
  refine own_callN X9 hx hZ hown e9 (hb hby at_75) [(.int i0), (.int vs), (.int (((vs + vk) - (1 : Int32)) + vq))] [(.ref b9)] 1 (rmI l Z a0 hw [] b9 i0 vs (((vs + vk) - (1 : Int32)) + vq) _ _ _ h9 n0 sz11 gn9 A9 F9_number F9_start F9_end) (hw _ (List.mem_of_getElem? (i := 4) rfl)) (hw _ (List.mem_of_getElem? (i := 5) rfl)) (hw _ (List.mem_of_getElem? (i := 3) rfl)) (hw _ (List.mem_of_getElem? (i := 6) rfl)) rfl (by decide) pd__III_V (by rw [hml]; rfl) rfl rfl (Nat.le_of_eq rfl) (by decide) (by decide) (by decide) (by decide) ?_
  rintro T12 _ L12 X12 ⟨rfl, N12q, K12, A12, F12, G12⟩
  show own_Go p e below _ T12 (mkF m 78 #[.val (.int i0), .val (.int i1), .val (.int i2), .val (.int i3), .val (.int vs), .val (.int vk), .val (.int vq), .val (.int ((vs + vk) - (1 : Int32))), .val (.int (((vs + vk) - (1 : Int32)) + vq)), .val (.ref b1), .val (.ref b5), .unset, .unset, .unset, .unset, .unset, .unset] [(.ref b9)])
  have N12 := Fr.app N7 N12q
  have sz13 : n0 ≤ T12.heap.size := Nat.le_trans sz11 K12.1
  refine own_by (T' := T12) (f' := (mkF m 80 #[.val (.int i0), .val (.int i1), .val (.int i2), .val (.int i3), .val (.int vs), .val (.int vk), .val (.int vq), .val (.int ((vs + vk) - (1 : Int32))), .val (.int (((vs + vk) - (1 : Int32)) + vq)), .val (.ref b1), .val (.ref b5), .val (.ref b9), .unset, .unset, .unset, .unset, .unset] [])) (fun t k => XS.astore X12.here hx rfl (hb hby at_78) rfl rfl (l' := #[.val (.int i0), .val (.int i1), .val (.int i2), .val (.int i3), .val (.int vs), .val (.int vk), .val (.int vq), .val (.int ((vs + vk) - (1 : Int32))), .val (.int (((vs + vk) - (1 : Int32)) + vq)), .val (.ref b1), .val (.ref b5), .val (.ref b9), .unset, .unset, .unset, .unset, .unset]) rfl k) ?_
  refine own_new X12 hx hZ hown rfl (hb hby at_80) (hw _ (List.mem_of_getElem? (i := 1) rfl)) (hw _ (List.mem_of_getElem? (i := 2) rfl)) (hw _ (List.mem_of_getElem? (i := 3) rfl)) (by decide) (by decide) ?_
  intro T14 h14 b14 X14 e14 g14 E14 A14 D14
  have f15 := ((f10.ext E9).keep K12)
  have ne14_b1 : b1 ≠ b14 := Nat.ne_of_lt (by rw [g14]; exact f15.lt)
  have f16 := ((A7.ext E9).keep K12)
  have ne14_b5 : b5 ≠ b14 := Nat.ne_of_lt (by rw [g14]; exact f16.lt)
  have ne14_b9 : b9 ≠ b14 := Nat.ne_of_lt (by rw [g14]; exact A12.lt)
  have gn14 : n0 ≤ b14 := by rw [g14]; exact sz13
  show own_Go p e below _ T14 (mkF m 83 #[.val (.int i0), .val (.int i1), .val (.int i2), .val (.int i3), .val (.int vs), .val (.int vk), .val (.int vq), .val (.int ((vs + vk) - (1 : Int32))), .val (.int (((vs + vk) - (1 : Int32)) + vq)), .val (.ref b1), .val (.ref b5), .val (.ref b9), .unset, .unset, .unset, .unset, .unset] [(.ref b14)])
  have F14_number : Fld Z h14 b14 "com/example/kissena/kissena/Subdocuments$Subdocument" "number" "I" (.int (0 : Int32)) := D14 (Or.inr (hw _ (List.mem_of_getElem? (i := 16) rfl))) (ty := .int) (by decide)
  have F14_start : Fld Z h14 b14 "com/example/kissena/kissena/Subdocuments$Subdocument" "start" "I" (.int (0 : Int32)) := D14 (Or.inr (hw _ (List.mem_of_getElem? (i := 18) rfl))) (ty := .int) (by decide)
  have F14_end : Fld Z h14 b14 "com/example/kissena/kissena/Subdocuments$Subdocument" "end" "I" (.int (0 : Int32)) := D14 (Or.inr (hw _ (List.mem_of_getElem? (i := 20) rfl))) (ty := .int) (by decide)
  have sz17 : n0 ≤ h14.size := Nat.le_trans sz13 E14.1
  refine own_by (T' := T14) (f' := (mkF m 84 #[.val (.int i0), .val (.int i1), .val (.int i2), .val (.int i3), .val (.int vs), .val (.int vk), .val (.int vq), .val (.int ((vs + vk) - (1 : Int32))), .val (.int (((vs + vk) - (1 : Int32)) + vq)), .val (.ref b1), .val (.ref b5), .val (.ref b9), .unset, .unset, .unset, .unset, .unset] [(.ref b14), (.ref b14)])) (fun t k => XS.dup X14.here hx rfl (hb hby at_83) rfl rfl k) ?_
  refine own_by (T' := T14) (f' := (mkF m 85 #[.val (.int i0), .val (.int i1), .val (.int i2), .val (.int i3), .val (.int vs), .val (.int vk), .val (.int vq), .val (.int ((vs + vk) - (1 : Int32))), .val (.int (((vs + vk) - (1 : Int32)) + vq)), .val (.ref b1), .val (.ref b5), .val (.ref b9), .unset, .unset, .unset, .unset, .unset] [(.int i0), (.ref b14), (.ref b14)])) (fun t k => XS.iloadN X14.here hx rfl (hb hby at_84) rfl k) ?_
  refine own_by (T' := T14) (f' := (mkF m 87 #[.val (.int i0), .val (.int i1), .val (.int i2), .val (.int i3), .val (.int vs), .val (.int vk), .val (.int vq), .val (.int ((vs + vk) - (1 : Int32))), .val (.int (((vs + vk) - (1 : Int32)) + vq)), .val (.ref b1), .val (.ref b5), .val (.ref b9), .unset, .unset, .unset, .unset, .unset] [(.int vs), (.int i0), (.ref b14), (.ref b14)])) (fun t k => XS.iload X14.here hx rfl (hb hby at_85) rfl k) ?_
  refine own_by (T' := T14) (f' := (mkF m 89 #[.val (.int i0), .val (.int i1), .val (.int i2), .val (.int i3), .val (.int vs), .val (.int vk), .val (.int vq), .val (.int ((vs + vk) - (1 : Int32))), .val (.int (((vs + vk) - (1 : Int32)) + vq)), .val (.ref b1), .val (.ref b5), .val (.ref b9), .unset, .unset, .unset, .unset, .unset] [(.int vs), (.int vs), (.int i0), (.ref b14), (.ref b14)])) (fun t k => XS.iload X14.here hx rfl (hb hby at_87) rfl k) ?_
  refine own_callN X14 hx hZ hown e14 (hb hby at_89) [(.int i0), (.int vs), (.int vs)] [(.ref b14)] 1 (rmI l Z a0 hw [] b14 i0 vs vs _ _ _ h14 n0 sz17 gn14 A14 F14_number F14_start F14_end) (hw _ (List.mem_of_getElem? (i := 4) rfl)) (hw _ (List.mem_of_getElem? (i := 5) rfl)) (hw _ (List.mem_of_getElem? (i := 3) rfl)) (hw _ (List.mem_of_getElem? (i := 6) rfl)) rfl (by decide) pd__III_V (by rw [hml]; rfl) rfl rfl (Nat.le_of_eq rfl) (by decide) (by decide) (by decide) (by decide) ?_
  rintro T18 _ L18 X18 ⟨rfl, N18q, K18, A18, F18, G18⟩
  show own_Go p e below _ T18 (mkF m 92 #[.val (.int i0), .val (.int i1), .val (.int i2), .val (.int i3), .val (.int vs), .val (.int vk), .val (.int vq), .val (.int ((vs + vk) - (1 : Int32))), .val (.int (((vs + vk) - (1 : Int32)) + vq)), .val (.ref b1), .val (.ref b5), .val (.ref b9), .unset, .unset, .unset, .unset, .unset] [(.ref b14)])
  have N18 := Fr.app N12 N18q
  have sz19 : n0 ≤ T18.heap.size := Nat.le_trans sz17 K18.1
  refine own_by (T' := T18) (f' := (mkF m 94 #[.val (.int i0), .val (.int i1), .val (.int i2), .val (.int i3), .val (.int vs), .val (.int vk), .val (.int vq), .val (.int ((vs + vk) - (1 : Int32))), .val (.int (((vs + vk) - (1 : Int32)) + vq)), .val (.ref b1), .val (.ref b5), .val (.ref b9), .val (.ref b14), .unset, .unset, .unset, .unset] [])) (fun t k => XS.astore X18.here hx rfl (hb hby at_92) rfl rfl (l' := #[.val (.int i0), .val (.int i1), .val (.int i2), .val (.int i3), .val (.int vs), .val (.int vk), .val (.int vq), .val (.int ((vs + vk) - (1 : Int32))), .val (.int (((vs + vk) - (1 : Int32)) + vq)), .val (.ref b1), .val (.ref b5), .val (.ref b9), .val (.ref b14), .unset, .unset, .unset, .unset]) rfl k) ?_
  refine own_by (T' := T18) (f' := (mkF m 96 #[.val (.int i0), .val (.int i1), .val (.int i2), .val (.int i3), .val (.int vs), .val (.int vk), .val (.int vq), .val (.int ((vs + vk) - (1 : Int32))), .val (.int (((vs + vk) - (1 : Int32)) + vq)), .val (.ref b1), .val (.ref b5), .val (.ref b9), .val (.ref b14), .unset, .unset, .unset, .unset] [(.ref b1)])) (fun t k => XS.aload X18.here hx rfl (hb hby at_94) rfl rfl k) ?_
  have f20 := ((((((F3.ext E5).keep K7 (ninS ne5_b1 nin0)).ext E9).keep K12 (ninS ne9_b1 nin0)).ext E14).keep K18 (ninS ne14_b1 nin0))
  have f21 := ((((((G3.ext E5).keep K7 (ninS ne5_b1 nin0)).ext E9).keep K12 (ninS ne9_b1 nin0)).ext E14).keep K18 (ninS ne14_b1 nin0))
  have f22 := ((f15.ext E14).keep K18)
  refine own_callV X18 hx hZ hown rfl (hb hby at_96) [] [] 0 (rmL l Z a0 hw [] b1 _ _ T18.heap f20 f21) f22 (hw _ (List.mem_of_getElem? (i := 21) rfl)) (hw _ (List.mem_of_getElem? (i := 22) rfl)) (notFace_of_selects (args := #[]) (mvT hZ (hw _ (List.mem_of_getElem? (i := 24) rfl)))) (hw _ (List.mem_of_getElem? (i := 24) rfl)) (hw _ (List.mem_of_getElem? (i := 23) rfl)) (hw _ (List.mem_of_getElem? (i := 3) rfl)) (hw _ (List.mem_of_getElem? (i := 25) rfl)) (by decide) pd___I (by rw [hml]; rfl) rfl rfl (Nat.le_of_eq rfl) (by decide) (by decide) (by decide) (by decide) ?_
  rintro T23 _ L23 X23 ⟨rfl, rfl, e23⟩
  show own_Go p e below _ T23 (mkF m 99 #[.val (.int i0), .val (.int i1), .val (.int i2), .val (.int i3), .val (.int vs), .val (.int vk), .val (.int vq), .val (.int ((vs + vk) - (1 : Int32))), .val (.int (((vs + vk) - (1 : Int32)) + vq)), .val (.ref b1), .val (.ref b5), .val (.ref b9), .val (.ref b14), .unset, .unset, .unset, .unset] [(.int (((vs + vk) - (1 : Int32)) - vs + 1))])
  rw [List.append_nil] at X23
  refine own_by (T' := T23) (f' := (mkF m 101 #[.val (.int i0), .val (.int i1), .val (.int i2), .val (.int i3), .val (.int vs), .val (.int vk), .val (.int vq), .val (.int ((vs + vk) - (1 : Int32))), .val (.int (((vs + vk) - (1 : Int32)) + vq)), .val (.ref b1), .val (.ref b5), .val (.ref b9), .val (.ref b14), .unset, .unset, .unset, .unset] [(.int vk), (.int (((vs + vk) - (1 : Int32)) - vs + 1))])) (fun t k => XS.iload X23.here hx rfl (hb hby at_99) rfl k) ?_
  have hc101_24 : (((vs + vk) - (1 : Int32)) - vs + 1) = vk := own_l1 _ _
  refine own_by (T' := T23) (f' := (mkF m 104 #[.val (.int i0), .val (.int i1), .val (.int i2), .val (.int i3), .val (.int vs), .val (.int vk), .val (.int vq), .val (.int ((vs + vk) - (1 : Int32))), .val (.int (((vs + vk) - (1 : Int32)) + vq)), .val (.ref b1), .val (.ref b5), .val (.ref b9), .val (.ref b14), .unset, .unset, .unset, .unset] [])) (fun t k => XS.icmpNo X23.here hx rfl (hb hby at_101) rfl (teq hc101_24).2 k) ?_
  refine own_by (T' := T23) (f' := (mkF m 105 #[.val (.int i0), .val (.int i1), .val (.int i2), .val (.int i3), .val (.int vs), .val (.int vk), .val (.int vq), .val (.int ((vs + vk) - (1 : Int32))), .val (.int (((vs + vk) - (1 : Int32)) + vq)), .val (.ref b1), .val (.ref b5), .val (.ref b9), .val (.ref b14), .unset, .unset, .unset, .unset] [(.int (1 : Int32))])) (fun t k => XS.iconst X23.here hx rfl (hb hby at_104) k) ?_
  refine own_by (T' := T23) (f' := (mkF m 109 #[.val (.int i0), .val (.int i1), .val (.int i2), .val (.int i3), .val (.int vs), .val (.int vk), .val (.int vq), .val (.int ((vs + vk) - (1 : Int32))), .val (.int (((vs + vk) - (1 : Int32)) + vq)), .val (.ref b1), .val (.ref b5), .val (.ref b9), .val (.ref b14), .unset, .unset, .unset, .unset] [(.int (1 : Int32))])) (fun t k => XS.goto X23.here hx rfl (pc0 := 105) (pc' := 109) rfl (hb hby at_105) (by decide) (by decide) k) ?_
  refine own_by (T' := T23) (f' := (mkF m 111 #[.val (.int i0), .val (.int i1), .val (.int i2), .val (.int i3), .val (.int vs), .val (.int vk), .val (.int vq), .val (.int ((vs + vk) - (1 : Int32))), .val (.int (((vs + vk) - (1 : Int32)) + vq)), .val (.ref b1), .val (.ref b5), .val (.ref b9), .val (.ref b14), .val (.int (1 : Int32)), .unset, .unset, .unset] [])) (fun t k => XS.istore X23.here hx rfl (hb hby at_109) rfl (l' := #[.val (.int i0), .val (.int i1), .val (.int i2), .val (.int i3), .val (.int vs), .val (.int vk), .val (.int vq), .val (.int ((vs + vk) - (1 : Int32))), .val (.int (((vs + vk) - (1 : Int32)) + vq)), .val (.ref b1), .val (.ref b5), .val (.ref b9), .val (.ref b14), .val (.int (1 : Int32)), .unset, .unset, .unset]) rfl k) ?_
  refine own_by (T' := T23) (f' := (mkF m 113 #[.val (.int i0), .val (.int i1), .val (.int i2), .val (.int i3), .val (.int vs), .val (.int vk), .val (.int vq), .val (.int ((vs + vk) - (1 : Int32))), .val (.int (((vs + vk) - (1 : Int32)) + vq)), .val (.ref b1), .val (.ref b5), .val (.ref b9), .val (.ref b14), .val (.int (1 : Int32)), .unset, .unset, .unset] [(.ref b5)])) (fun t k => XS.aload X23.here hx rfl (hb hby at_111) rfl rfl k) ?_
  have f25 := ((((F7.ext E9).keep K12 (ninS ne9_b5 nin0)).ext E14).keep K18 (ninS ne14_b5 nin0))
  have f26 := ((((G7.ext E9).keep K12 (ninS ne9_b5 nin0)).ext E14).keep K18 (ninS ne14_b5 nin0))
  have f27 := ((f16.ext E14).keep K18)
  refine own_callV X23 hx hZ hown e23 (hb hby at_113) [] [] 0 (rmL l Z a0 hw [] b5 _ _ T18.heap f25 f26) f27 (hw _ (List.mem_of_getElem? (i := 21) rfl)) (hw _ (List.mem_of_getElem? (i := 22) rfl)) (notFace_of_selects (args := #[]) (mvT hZ (hw _ (List.mem_of_getElem? (i := 24) rfl)))) (hw _ (List.mem_of_getElem? (i := 24) rfl)) (hw _ (List.mem_of_getElem? (i := 23) rfl)) (hw _ (List.mem_of_getElem? (i := 3) rfl)) (hw _ (List.mem_of_getElem? (i := 25) rfl)) (by decide) pd___I (by rw [hml]; rfl) rfl rfl (Nat.le_of_eq rfl) (by decide) (by decide) (by decide) (by decide) ?_
  rintro T28 _ L28 X28 ⟨rfl, rfl, e28⟩
  show own_Go p e below _ T28 (mkF m 116 #[.val (.int i0), .val (.int i1), .val (.int i2), .val (.int i3), .val (.int vs), .val (.int vk), .val (.int vq), .val (.int ((vs + vk) - (1 : Int32))), .val (.int (((vs + vk) - (1 : Int32)) + vq)), .val (.ref b1), .val (.ref b5), .val (.ref b9), .val (.ref b14), .val (.int (1 : Int32)), .unset, .unset, .unset] [(.int ((((vs + vk) - (1 : Int32)) + vq) - (((vs + vk) - (1 : Int32)) + (1 : Int32)) + 1))])
  rw [List.append_nil] at X28
  refine own_by (T' := T28) (f' := (mkF m 118 #[.val (.int i0), .val (.int i1), .val (.int i2), .val (.int i3), .val (.int vs), .val (.int vk), .val (.int vq), .val (.int ((vs + vk) - (1 : Int32))), .val (.int (((vs + vk) - (1 : Int32)) + vq)), .val (.ref b1), .val (.ref b5), .val (.ref b9), .val (.ref b14), .val (.int (1 : Int32)), .unset, .unset, .unset] [(.int vq), (.int ((((vs + vk) - (1 : Int32)) + vq) - (((vs + vk) - (1 : Int32)) + (1 : Int32)) + 1))])) (fun t k => XS.iload X28.here hx rfl (hb hby at_116) rfl k) ?_
  have hc118_29 : ((((vs + vk) - (1 : Int32)) + vq) - (((vs + vk) - (1 : Int32)) + (1 : Int32)) + 1) = vq := own_l2 _ _
  refine own_by (T' := T28) (f' := (mkF m 121 #[.val (.int i0), .val (.int i1), .val (.int i2), .val (.int i3), .val (.int vs), .val (.int vk), .val (.int vq), .val (.int ((vs + vk) - (1 : Int32))), .val (.int (((vs + vk) - (1 : Int32)) + vq)), .val (.ref b1), .val (.ref b5), .val (.ref b9), .val (.ref b14), .val (.int (1 : Int32)), .unset, .unset, .unset] [])) (fun t k => XS.icmpNo X28.here hx rfl (hb hby at_118) rfl (teq hc118_29).2 k) ?_
  refine own_by (T' := T28) (f' := (mkF m 122 #[.val (.int i0), .val (.int i1), .val (.int i2), .val (.int i3), .val (.int vs), .val (.int vk), .val (.int vq), .val (.int ((vs + vk) - (1 : Int32))), .val (.int (((vs + vk) - (1 : Int32)) + vq)), .val (.ref b1), .val (.ref b5), .val (.ref b9), .val (.ref b14), .val (.int (1 : Int32)), .unset, .unset, .unset] [(.int (1 : Int32))])) (fun t k => XS.iconst X28.here hx rfl (hb hby at_121) k) ?_
  refine own_by (T' := T28) (f' := (mkF m 126 #[.val (.int i0), .val (.int i1), .val (.int i2), .val (.int i3), .val (.int vs), .val (.int vk), .val (.int vq), .val (.int ((vs + vk) - (1 : Int32))), .val (.int (((vs + vk) - (1 : Int32)) + vq)), .val (.ref b1), .val (.ref b5), .val (.ref b9), .val (.ref b14), .val (.int (1 : Int32)), .unset, .unset, .unset] [(.int (1 : Int32))])) (fun t k => XS.goto X28.here hx rfl (pc0 := 122) (pc' := 126) rfl (hb hby at_122) (by decide) (by decide) k) ?_
  refine own_by (T' := T28) (f' := (mkF m 128 #[.val (.int i0), .val (.int i1), .val (.int i2), .val (.int i3), .val (.int vs), .val (.int vk), .val (.int vq), .val (.int ((vs + vk) - (1 : Int32))), .val (.int (((vs + vk) - (1 : Int32)) + vq)), .val (.ref b1), .val (.ref b5), .val (.ref b9), .val (.ref b14), .val (.int (1 : Int32)), .val (.int (1 : Int32)), .unset, .unset] [])) (fun t k => XS.istore X28.here hx rfl (hb hby at_126) rfl (l' := #[.val (.int i0), .val (.int i1), .val (.int i2), .val (.int i3), .val (.int vs), .val (.int vk), .val (.int vq), .val (.int ((vs + vk) - (1 : Int32))), .val (.int (((vs + vk) - (1 : Int32)) + vq)), .val (.ref b1), .val (.ref b5), .val (.ref b9), .val (.ref b14), .val (.int (1 : Int32)), .val (.int (1 : Int32)), .unset, .unset]) rfl k) ?_
  refine own_by (T' := T28) (f' := (mkF m 130 #[.val (.int i0), .val (.int i1), .val (.int i2), .val (.int i3), .val (.int vs), .val (.int vk), .val (.int vq), .val (.int ((vs + vk) - (1 : Int32))), .val (.int (((vs + vk) - (1 : Int32)) + vq)), .val (.ref b1), .val (.ref b5), .val (.ref b9), .val (.ref b14), .val (.int (1 : Int32)), .val (.int (1 : Int32)), .unset, .unset] [(.ref b9)])) (fun t k => XS.aload X28.here hx rfl (hb hby at_128) rfl rfl k) ?_
  have f30 := ((F12.ext E14).keep K18 (ninS ne14_b9 nin0))
  have f31 := ((G12.ext E14).keep K18 (ninS ne14_b9 nin0))
  have f32 := ((A12.ext E14).keep K18)
  refine own_callV X28 hx hZ hown e28 (hb hby at_130) [] [] 0 (rmL l Z a0 hw [] b9 _ _ T18.heap f30 f31) f32 (hw _ (List.mem_of_getElem? (i := 21) rfl)) (hw _ (List.mem_of_getElem? (i := 22) rfl)) (notFace_of_selects (args := #[]) (mvT hZ (hw _ (List.mem_of_getElem? (i := 24) rfl)))) (hw _ (List.mem_of_getElem? (i := 24) rfl)) (hw _ (List.mem_of_getElem? (i := 23) rfl)) (hw _ (List.mem_of_getElem? (i := 3) rfl)) (hw _ (List.mem_of_getElem? (i := 25) rfl)) (by decide) pd___I (by rw [hml]; rfl) rfl rfl (Nat.le_of_eq rfl) (by decide) (by decide) (by decide) (by decide) ?_
  rintro T33 _ L33 X33 ⟨rfl, rfl, e33⟩
  show own_Go p e below _ T33 (mkF m 133 #[.val (.int i0), .val (.int i1), .val (.int i2), .val (.int i3), .val (.int vs), .val (.int vk), .val (.int vq), .val (.int ((vs + vk) - (1 : Int32))), .val (.int (((vs + vk) - (1 : Int32)) + vq)), .val (.ref b1), .val (.ref b5), .val (.ref b9), .val (.ref b14), .val (.int (1 : Int32)), .val (.int (1 : Int32)), .unset, .unset] [(.int ((((vs + vk) - (1 : Int32)) + vq) - vs + 1))])
  rw [List.append_nil] at X33
  refine own_by (T' := T33) (f' := (mkF m 135 #[.val (.int i0), .val (.int i1), .val (.int i2), .val (.int i3), .val (.int vs), .val (.int vk), .val (.int vq), .val (.int ((vs + vk) - (1 : Int32))), .val (.int (((vs + vk) - (1 : Int32)) + vq)), .val (.ref b1), .val (.ref b5), .val (.ref b9), .val (.ref b14), .val (.int (1 : Int32)), .val (.int (1 : Int32)), .unset, .unset] [(.int vk), (.int ((((vs + vk) - (1 : Int32)) + vq) - vs + 1))])) (fun t k => XS.iload X33.here hx rfl (hb hby at_133) rfl k) ?_
  refine own_by (T' := T33) (f' := (mkF m 137 #[.val (.int i0), .val (.int i1), .val (.int i2), .val (.int i3), .val (.int vs), .val (.int vk), .val (.int vq), .val (.int ((vs + vk) - (1 : Int32))), .val (.int (((vs + vk) - (1 : Int32)) + vq)), .val (.ref b1), .val (.ref b5), .val (.ref b9), .val (.ref b14), .val (.int (1 : Int32)), .val (.int (1 : Int32)), .unset, .unset] [(.int vq), (.int vk), (.int ((((vs + vk) - (1 : Int32)) + vq) - vs + 1))])) (fun t k => XS.iload X33.here hx rfl (hb hby at_135) rfl k) ?_
  refine own_by (T' := T33) (f' := (mkF m 138 #[.val (.int i0), .val (.int i1), .val (.int i2), .val (.int i3), .val (.int vs), .val (.int vk), .val (.int vq), .val (.int ((vs + vk) - (1 : Int32))), .val (.int (((vs + vk) - (1 : Int32)) + vq)), .val (.ref b1), .val (.ref b5), .val (.ref b9), .val (.ref b14), .val (.int (1 : Int32)), .val (.int (1 : Int32)), .unset, .unset] [(.int (vk + vq)), (.int ((((vs + vk) - (1 : Int32)) + vq) - vs + 1))])) (fun t k => XS.iadd X33.here hx rfl (hb hby at_137) rfl k) ?_
  have hc138_34 : ((((vs + vk) - (1 : Int32)) + vq) - vs + 1) = (vk + vq) := own_l3 _ _ _
  refine own_by (T' := T33) (f' := (mkF m 141 #[.val (.int i0), .val (.int i1), .val (.int i2), .val (.int i3), .val (.int vs), .val (.int vk), .val (.int vq), .val (.int ((vs + vk) - (1 : Int32))), .val (.int (((vs + vk) - (1 : Int32)) + vq)), .val (.ref b1), .val (.ref b5), .val (.ref b9), .val (.ref b14), .val (.int (1 : Int32)), .val (.int (1 : Int32)), .unset, .unset] [])) (fun t k => XS.icmpNo X33.here hx rfl (hb hby at_138) rfl (teq hc138_34).2 k) ?_
  refine own_by (T' := T33) (f' := (mkF m 142 #[.val (.int i0), .val (.int i1), .val (.int i2), .val (.int i3), .val (.int vs), .val (.int vk), .val (.int vq), .val (.int ((vs + vk) - (1 : Int32))), .val (.int (((vs + vk) - (1 : Int32)) + vq)), .val (.ref b1), .val (.ref b5), .val (.ref b9), .val (.ref b14), .val (.int (1 : Int32)), .val (.int (1 : Int32)), .unset, .unset] [(.int (1 : Int32))])) (fun t k => XS.iconst X33.here hx rfl (hb hby at_141) k) ?_
  refine own_by (T' := T33) (f' := (mkF m 146 #[.val (.int i0), .val (.int i1), .val (.int i2), .val (.int i3), .val (.int vs), .val (.int vk), .val (.int vq), .val (.int ((vs + vk) - (1 : Int32))), .val (.int (((vs + vk) - (1 : Int32)) + vq)), .val (.ref b1), .val (.ref b5), .val (.ref b9), .val (.ref b14), .val (.int (1 : Int32)), .val (.int (1 : Int32)), .unset, .unset] [(.int (1 : Int32))])) (fun t k => XS.goto X33.here hx rfl (pc0 := 142) (pc' := 146) rfl (hb hby at_142) (by decide) (by decide) k) ?_
  refine own_by (T' := T33) (f' := (mkF m 148 #[.val (.int i0), .val (.int i1), .val (.int i2), .val (.int i3), .val (.int vs), .val (.int vk), .val (.int vq), .val (.int ((vs + vk) - (1 : Int32))), .val (.int (((vs + vk) - (1 : Int32)) + vq)), .val (.ref b1), .val (.ref b5), .val (.ref b9), .val (.ref b14), .val (.int (1 : Int32)), .val (.int (1 : Int32)), .val (.int (1 : Int32)), .unset] [])) (fun t k => XS.istore X33.here hx rfl (hb hby at_146) rfl (l' := #[.val (.int i0), .val (.int i1), .val (.int i2), .val (.int i3), .val (.int vs), .val (.int vk), .val (.int vq), .val (.int ((vs + vk) - (1 : Int32))), .val (.int (((vs + vk) - (1 : Int32)) + vq)), .val (.ref b1), .val (.ref b5), .val (.ref b9), .val (.ref b14), .val (.int (1 : Int32)), .val (.int (1 : Int32)), .val (.int (1 : Int32)), .unset]) rfl k) ?_
  refine own_by (T' := T33) (f' := (mkF m 150 #[.val (.int i0), .val (.int i1), .val (.int i2), .val (.int i3), .val (.int vs), .val (.int vk), .val (.int vq), .val (.int ((vs + vk) - (1 : Int32))), .val (.int (((vs + vk) - (1 : Int32)) + vq)), .val (.ref b1), .val (.ref b5), .val (.ref b9), .val (.ref b14), .val (.int (1 : Int32)), .val (.int (1 : Int32)), .val (.int (1 : Int32)), .unset] [(.ref b14)])) (fun t k => XS.aload X33.here hx rfl (hb hby at_148) rfl rfl k) ?_
  refine own_callV X33 hx hZ hown e33 (hb hby at_150) [] [] 0 (rmL l Z a0 hw [] b14 _ _ T18.heap F18 G18) A18 (hw _ (List.mem_of_getElem? (i := 21) rfl)) (hw _ (List.mem_of_getElem? (i := 22) rfl)) (notFace_of_selects (args := #[]) (mvT hZ (hw _ (List.mem_of_getElem? (i := 24) rfl)))) (hw _ (List.mem_of_getElem? (i := 24) rfl)) (hw _ (List.mem_of_getElem? (i := 23) rfl)) (hw _ (List.mem_of_getElem? (i := 3) rfl)) (hw _ (List.mem_of_getElem? (i := 25) rfl)) (by decide) pd___I (by rw [hml]; rfl) rfl rfl (Nat.le_of_eq rfl) (by decide) (by decide) (by decide) (by decide) ?_
  rintro T35 _ L35 X35 ⟨rfl, rfl, e35⟩
  show own_Go p e below _ T35 (mkF m 153 #[.val (.int i0), .val (.int i1), .val (.int i2), .val (.int i3), .val (.int vs), .val (.int vk), .val (.int vq), .val (.int ((vs + vk) - (1 : Int32))), .val (.int (((vs + vk) - (1 : Int32)) + vq)), .val (.ref b1), .val (.ref b5), .val (.ref b9), .val (.ref b14), .val (.int (1 : Int32)), .val (.int (1 : Int32)), .val (.int (1 : Int32)), .unset] [(.int (vs - vs + 1))])
  rw [List.append_nil] at X35
  refine own_by (T' := T35) (f' := (mkF m 154 #[.val (.int i0), .val (.int i1), .val (.int i2), .val (.int i3), .val (.int vs), .val (.int vk), .val (.int vq), .val (.int ((vs + vk) - (1 : Int32))), .val (.int (((vs + vk) - (1 : Int32)) + vq)), .val (.ref b1), .val (.ref b5), .val (.ref b9), .val (.ref b14), .val (.int (1 : Int32)), .val (.int (1 : Int32)), .val (.int (1 : Int32)), .unset] [(.int (1 : Int32)), (.int (vs - vs + 1))])) (fun t k => XS.iconst X35.here hx rfl (hb hby at_153) k) ?_
  have hc154_36 : (vs - vs + 1) = (1 : Int32) := own_l4 _
  refine own_by (T' := T35) (f' := (mkF m 157 #[.val (.int i0), .val (.int i1), .val (.int i2), .val (.int i3), .val (.int vs), .val (.int vk), .val (.int vq), .val (.int ((vs + vk) - (1 : Int32))), .val (.int (((vs + vk) - (1 : Int32)) + vq)), .val (.ref b1), .val (.ref b5), .val (.ref b9), .val (.ref b14), .val (.int (1 : Int32)), .val (.int (1 : Int32)), .val (.int (1 : Int32)), .unset] [])) (fun t k => XS.icmpNo X35.here hx rfl (hb hby at_154) rfl (teq hc154_36).2 k) ?_
  refine own_by (T' := T35) (f' := (mkF m 158 #[.val (.int i0), .val (.int i1), .val (.int i2), .val (.int i3), .val (.int vs), .val (.int vk), .val (.int vq), .val (.int ((vs + vk) - (1 : Int32))), .val (.int (((vs + vk) - (1 : Int32)) + vq)), .val (.ref b1), .val (.ref b5), .val (.ref b9), .val (.ref b14), .val (.int (1 : Int32)), .val (.int (1 : Int32)), .val (.int (1 : Int32)), .unset] [(.int (1 : Int32))])) (fun t k => XS.iconst X35.here hx rfl (hb hby at_157) k) ?_
  refine own_by (T' := T35) (f' := (mkF m 162 #[.val (.int i0), .val (.int i1), .val (.int i2), .val (.int i3), .val (.int vs), .val (.int vk), .val (.int vq), .val (.int ((vs + vk) - (1 : Int32))), .val (.int (((vs + vk) - (1 : Int32)) + vq)), .val (.ref b1), .val (.ref b5), .val (.ref b9), .val (.ref b14), .val (.int (1 : Int32)), .val (.int (1 : Int32)), .val (.int (1 : Int32)), .unset] [(.int (1 : Int32))])) (fun t k => XS.goto X35.here hx rfl (pc0 := 158) (pc' := 162) rfl (hb hby at_158) (by decide) (by decide) k) ?_
  refine own_by (T' := T35) (f' := (mkF m 164 #[.val (.int i0), .val (.int i1), .val (.int i2), .val (.int i3), .val (.int vs), .val (.int vk), .val (.int vq), .val (.int ((vs + vk) - (1 : Int32))), .val (.int (((vs + vk) - (1 : Int32)) + vq)), .val (.ref b1), .val (.ref b5), .val (.ref b9), .val (.ref b14), .val (.int (1 : Int32)), .val (.int (1 : Int32)), .val (.int (1 : Int32)), .val (.int (1 : Int32))] [])) (fun t k => XS.istore X35.here hx rfl (hb hby at_162) rfl (l' := #[.val (.int i0), .val (.int i1), .val (.int i2), .val (.int i3), .val (.int vs), .val (.int vk), .val (.int vq), .val (.int ((vs + vk) - (1 : Int32))), .val (.int (((vs + vk) - (1 : Int32)) + vq)), .val (.ref b1), .val (.ref b5), .val (.ref b9), .val (.ref b14), .val (.int (1 : Int32)), .val (.int (1 : Int32)), .val (.int (1 : Int32)), .val (.int (1 : Int32))]) rfl k) ?_
  refine own_by (T' := T35) (f' := (mkF m 166 #[.val (.int i0), .val (.int i1), .val (.int i2), .val (.int i3), .val (.int vs), .val (.int vk), .val (.int vq), .val (.int ((vs + vk) - (1 : Int32))), .val (.int (((vs + vk) - (1 : Int32)) + vq)), .val (.ref b1), .val (.ref b5), .val (.ref b9), .val (.ref b14), .val (.int (1 : Int32)), .val (.int (1 : Int32)), .val (.int (1 : Int32)), .val (.int (1 : Int32))] [(.int (1 : Int32))])) (fun t k => XS.iload X35.here hx rfl (hb hby at_164) rfl k) ?_
  refine own_by (T' := T35) (f' := (mkF m 169 #[.val (.int i0), .val (.int i1), .val (.int i2), .val (.int i3), .val (.int vs), .val (.int vk), .val (.int vq), .val (.int ((vs + vk) - (1 : Int32))), .val (.int (((vs + vk) - (1 : Int32)) + vq)), .val (.ref b1), .val (.ref b5), .val (.ref b9), .val (.ref b14), .val (.int (1 : Int32)), .val (.int (1 : Int32)), .val (.int (1 : Int32)), .val (.int (1 : Int32))] [])) (fun t k => XS.ifNo X35.here hx rfl (hb hby at_166) rfl ((if0 _ _).trans (feq (by decide)).1) k) ?_
  refine own_by (T' := T35) (f' := (mkF m 171 #[.val (.int i0), .val (.int i1), .val (.int i2), .val (.int i3), .val (.int vs), .val (.int vk), .val (.int vq), .val (.int ((vs + vk) - (1 : Int32))), .val (.int (((vs + vk) - (1 : Int32)) + vq)), .val (.ref b1), .val (.ref b5), .val (.ref b9), .val (.ref b14), .val (.int (1 : Int32)), .val (.int (1 : Int32)), .val (.int (1 : Int32)), .val (.int (1 : Int32))] [(.int (1 : Int32))])) (fun t k => XS.iload X35.here hx rfl (hb hby at_169) rfl k) ?_
  refine own_by (T' := T35) (f' := (mkF m 174 #[.val (.int i0), .val (.int i1), .val (.int i2), .val (.int i3), .val (.int vs), .val (.int vk), .val (.int vq), .val (.int ((vs + vk) - (1 : Int32))), .val (.int (((vs + vk) - (1 : Int32)) + vq)), .val (.ref b1), .val (.ref b5), .val (.ref b9), .val (.ref b14), .val (.int (1 : Int32)), .val (.int (1 : Int32)), .val (.int (1 : Int32)), .val (.int (1 : Int32))] [])) (fun t k => XS.ifNo X35.here hx rfl (hb hby at_171) rfl ((if0 _ _).trans (feq (by decide)).1) k) ?_
  refine own_by (T' := T35) (f' := (mkF m 176 #[.val (.int i0), .val (.int i1), .val (.int i2), .val (.int i3), .val (.int vs), .val (.int vk), .val (.int vq), .val (.int ((vs + vk) - (1 : Int32))), .val (.int (((vs + vk) - (1 : Int32)) + vq)), .val (.ref b1), .val (.ref b5), .val (.ref b9), .val (.ref b14), .val (.int (1 : Int32)), .val (.int (1 : Int32)), .val (.int (1 : Int32)), .val (.int (1 : Int32))] [(.int (1 : Int32))])) (fun t k => XS.iload X35.here hx rfl (hb hby at_174) rfl k) ?_
  refine own_by (T' := T35) (f' := (mkF m 179 #[.val (.int i0), .val (.int i1), .val (.int i2), .val (.int i3), .val (.int vs), .val (.int vk), .val (.int vq), .val (.int ((vs + vk) - (1 : Int32))), .val (.int (((vs + vk) - (1 : Int32)) + vq)), .val (.ref b1), .val (.ref b5), .val (.ref b9), .val (.ref b14), .val (.int (1 : Int32)), .val (.int (1 : Int32)), .val (.int (1 : Int32)), .val (.int (1 : Int32))] [])) (fun t k => XS.ifNo X35.here hx rfl (hb hby at_176) rfl ((if0 _ _).trans (feq (by decide)).1) k) ?_
  refine own_by (T' := T35) (f' := (mkF m 181 #[.val (.int i0), .val (.int i1), .val (.int i2), .val (.int i3), .val (.int vs), .val (.int vk), .val (.int vq), .val (.int ((vs + vk) - (1 : Int32))), .val (.int (((vs + vk) - (1 : Int32)) + vq)), .val (.ref b1), .val (.ref b5), .val (.ref b9), .val (.ref b14), .val (.int (1 : Int32)), .val (.int (1 : Int32)), .val (.int (1 : Int32)), .val (.int (1 : Int32))] [(.int (1 : Int32))])) (fun t k => XS.iload X35.here hx rfl (hb hby at_179) rfl k) ?_
  refine own_by (T' := T35) (f' := (mkF m 184 #[.val (.int i0), .val (.int i1), .val (.int i2), .val (.int i3), .val (.int vs), .val (.int vk), .val (.int vq), .val (.int ((vs + vk) - (1 : Int32))), .val (.int (((vs + vk) - (1 : Int32)) + vq)), .val (.ref b1), .val (.ref b5), .val (.ref b9), .val (.ref b14), .val (.int (1 : Int32)), .val (.int (1 : Int32)), .val (.int (1 : Int32)), .val (.int (1 : Int32))] [])) (fun t k => XS.ifNo X35.here hx rfl (hb hby at_181) rfl ((if0 _ _).trans (feq (by decide)).1) k) ?_
  refine own_by (T' := T35) (f' := (mkF m 185 #[.val (.int i0), .val (.int i1), .val (.int i2), .val (.int i3), .val (.int vs), .val (.int vk), .val (.int vq), .val (.int ((vs + vk) - (1 : Int32))), .val (.int (((vs + vk) - (1 : Int32)) + vq)), .val (.ref b1), .val (.ref b5), .val (.ref b9), .val (.ref b14), .val (.int (1 : Int32)), .val (.int (1 : Int32)), .val (.int (1 : Int32)), .val (.int (1 : Int32))] [(.int (1 : Int32))])) (fun t k => XS.iconst X35.here hx rfl (hb hby at_184) k) ?_
  refine own_by (T' := T35) (f' := (mkF m 189 #[.val (.int i0), .val (.int i1), .val (.int i2), .val (.int i3), .val (.int vs), .val (.int vk), .val (.int vq), .val (.int ((vs + vk) - (1 : Int32))), .val (.int (((vs + vk) - (1 : Int32)) + vq)), .val (.ref b1), .val (.ref b5), .val (.ref b9), .val (.ref b14), .val (.int (1 : Int32)), .val (.int (1 : Int32)), .val (.int (1 : Int32)), .val (.int (1 : Int32))] [(.int (1 : Int32))])) (fun t k => XS.goto X35.here hx rfl (pc0 := 185) (pc' := 189) rfl (hb hby at_185) (by decide) (by decide) k) ?_
  refine own_retZ X35 hx hret hlk (hb hby at_189) (Or.inr rfl) (by decide) (by decide) ?_
  try rw [e35]
  exact ⟨rfl, N18⟩
set_option maxRecDepth 65536 in
set_option maxHeartbeats 40000000 in
theorem comes_1 {Post : Tables → Env → Array Value → State → Outcome → State → Prop} (hpost : ∀ tb e args s v u, (limb_1_1.after args s (.returned v) u = true ∧ limb_1_2.after args s (.returned v) u = true ∧ True) → FrameEnd s (.returned v) u (Jvm.fieldLocs frame_1_writes args s ++ Jvm.arrayLocs frame_1_arrays args s ++ Jvm.staticLocs frame_1_statics s) 16 128 → Post tb e args s (.returned v) u) :
    ArmFor flags0 classFile x code maxLocals ret World_1 tables_1 room_1 Calls_1 rest_1 Pre_1 Post := by
  intro l hfl _ _ p e ha hc hk s m args below hf hA hF happ hP
  obtain ⟨hcalls, hrest, hpre⟩ := hP
  obtain ⟨-, -, -, hnamed, -, -, -, hat⟩ := (Spec.applies_iff hf).mp happ
  obtain ⟨hg, hn⟩ := and_e (Cond.before_iff.mp (show (Jvm.Cond.and given_1 narrow_1).before args s = true from hpre))
  obtain ⟨gc, gr0⟩ := and_e hg
  obtain ⟨ga0, gr1⟩ := and_e gr0
  obtain ⟨ga1, gr2⟩ := and_e gr1
  obtain ⟨ga2, gr3⟩ := and_e gr2
  obtain ⟨w0, w1, w2, w3, rfl⟩ : ∃ w0 w1 w2 w3 : Value, args = #[w0, w1, w2, w3] := by
    have hs : args.size = 4 := by simpa [Cond.value, given_1] using gc
    obtain ⟨L⟩ := args
    match L, hs with
    | [w0, w1, w2, w3], _ => exact ⟨w0, w1, w2, w3, rfl⟩
  have hw := fun d (hd : d ∈ tables_1) => atoms_spec (ws := Jvm.Cond.code x code maxLocals ret :: tables_1) hat d (List.mem_cons_of_mem _ hd)
  have hfit : Fit s := fun {y c} hc i hi => by
    obtain ⟨ha, rfl⟩ := Array.getElem?_eq_some_iff.mp hc
    have q := List.all_eq_true.mp ((Array.all_eq_true_iff_forall_mem.mp hF) _ (Array.getElem_mem ha)) i (List.mem_range.mpr hi)
    simpa [Array.getElem?_eq_getElem hi] using q
  obtain ⟨i0, ei0⟩ := is_v ga0
  obtain rfl : w0 = (.int i0) := Option.some.inj ei0
  obtain ⟨i1, ei1⟩ := is_v ga1
  obtain rfl : w1 = (.int i1) := Option.some.inj ei1
  obtain ⟨i2, ei2⟩ := is_v ga2
  obtain rfl : w2 = (.int i2) := Option.some.inj ei2
  obtain ⟨i3, ei3⟩ := is_v gr3
  obtain rfl : w3 = (.int i3) := Option.some.inj ei3
  obtain ⟨n, o, h1, h2, h3, _, L, rfl, ⟨rfl, N⟩, hq⟩ := rm0 l s _ hw tables_1 i0 i1 i2 i3 s.heap s.heap.size (Nat.le_refl _) p e ha hc hk s m _ below hf ((Spec.applies_iff_loose hf).mp happ).1 ⟨rfl, State.Warmed39.refl s, rfl⟩ trivial
  refine ⟨n, _, h1, h2, h3, hpost _ _ _ _ _ _ ⟨Cond.after_iff.mpr rfl, Cond.after_iff.mpr (eq_i res_at (Term.int_eval (1)) rfl), trivial⟩ ⟨hq.1, hq.2.1, (hq.2.2.sift fun y hy => Or.inr (N y hy)).mono (by decide) (by decide)⟩⟩
theorem main_1_1 : Claimed_1_1 := comes_1 fun _ _ _ _ _ _ h hF => ⟨h.1, hF⟩
theorem main_1_2 : Claimed_1_2 := comes_1 fun _ _ _ _ _ _ h hF => ⟨h.2.1, hF⟩
end Jvm.Pilot.@@N@@
namespace Jvm.Pilot.@@N@@
open Jvm Jvm.ClassFile Sem Op Lib Jvm.Free Jvm.Stand Jvm.Pilot.@@N@@.Jvm.D
/-! MADE BY PROGRAM (witnessworld.py) out of the Statement's table words and the real class files: 10 classes; the members and pool entries that the words name. The judged class is class 1, her method 1. -/
namespace start1
open Jvm.ClassFile
def u (s : String) : CpInfo := .utf8 (stringToUtf16 s)
/-- a pool by its gaps: so many unusable entries, then the entry; so many at the end -/
def gap : Nat → List CpInfo → List CpInfo
  | 0, r => r
  | n + 1, r => .unusable :: gap n r
def poolList (es : List (Nat × CpInfo)) (last : Nat) : List CpInfo := es.foldr (fun e r => gap e.1 (e.2 :: r)) (gap last [])
def pool (es : List (Nat × CpInfo)) (last : Nat) : Array CpInfo := ⟨poolList es last⟩
def fileOf (pool : Array CpInfo) (this : Nat) (attrs : Array Attribute := #[]) (ms : Array MethodInfo := #[]) (fl : Nat := 33) (sup : Nat := 0) (ifs : Array Nat := #[]) (fds : Array FieldInfo := #[]) : ClassFile where
  minorVersion := 0
  majorVersion := 65
  constantPool := pool
  accessFlags := fl
  thisClass := this
  superClass := sup
  interfaces := ifs
  fields := fds
  methods := ms
  attributes := attrs
def plain (name : String) (sup : Option ClassId) : Class where
  name := name
  kind := .ordinary
  loader := none
  accessFlags := 33
  super := sup
  interfaces := #[]
  cf := none
  fields := #[]
  methods := #[]
  instanceTypes := #[]
  staticTypes := #[]
  resolved := #[]
  callSites := []
  init := .initialized
  statics := none
  mirror := none

def pool0 : Array CpInfo := pool [(5, u "<init>"), (0, u "()V"), (1, .class_ 10), (1, u "java/lang/Object")] 113

def k0c0 : Code := { maxStack := 0, maxLocals := 1, code := object_method_1_code, exceptionTable := #[], attributes := #[] }
def k0m0 : Method := { name := "<init>", desc := "()V", sig := { parameters := [], returnType := none }, accessFlags := 1, code := some k0c0 }
/-- java/lang/Object -/
def k0 : Class := { plain "java/lang/Object" none with
  accessFlags := 33
  interfaces := #[]
  cf := some (fileOf pool0 8 #[] #[{ accessFlags := 1, nameIndex := 5, descriptorIndex := 6, attributes := #[] }] 33 0 #[] #[])
  fields := #[]
  methods := #[k0m0]
  instanceTypes := #[]
  staticTypes := #[]
  resolved := Array.replicate 124 none
  statics := none }

def pool1 : Array CpInfo := pool [(2, .class_ 4), (1, u "java/lang/Object"), (0, u "<init>"), (0, u "()V"), (0, .integer 536870911), (0, .class_ 9), (0, u "com/example/kissena/kissena/Subdocuments$Subdocument"), (0, .methodref 8 11), (0, .nameAndType 5 12), (0, u "(III)V"), (0, .methodref 8 14), (0, .nameAndType 15 16), (0, u "length"), (0, u "()I"), (0, .class_ 18), (0, u "com/example/kissena/kissena/SubdocumentLengthPinLaw"), (2, u "law"), (0, u "(IIII)Z")] 7

def k1m0 : Method := { name := "<init>", desc := "()V", sig := { parameters := [], returnType := none }, accessFlags := 2, code := none }
def k1c1 : Code := { maxStack := 5, maxLocals := 17, code := code, exceptionTable := #[], attributes := #[] }
def k1m1 : Method := { name := "law", desc := "(IIII)Z", sig := { parameters := [.int, .int, .int, .int], returnType := some .boolean }, accessFlags := 9, code := some k1c1 }
/-- com/example/kissena/kissena/SubdocumentLengthPinLaw -/
def k1 : Class := { plain "com/example/kissena/kissena/SubdocumentLengthPinLaw" (some 0) with
  accessFlags := 49
  interfaces := #[]
  cf := some (fileOf pool1 17 #[] #[{ accessFlags := 2, nameIndex := 5, descriptorIndex := 6, attributes := #[] }, { accessFlags := 9, nameIndex := 21, descriptorIndex := 22, attributes := #[] }] 49 2 #[] #[])
  fields := #[]
  methods := #[k1m0, k1m1]
  instanceTypes := #[]
  staticTypes := #[]
  resolved := Array.replicate 30 none
  statics := none }

def pool2 : Array CpInfo := pool [(1, .methodref 2 3), (0, .class_ 4), (0, .nameAndType 5 6), (0, u "java/lang/Object"), (0, u "<init>"), (0, u "()V"), (0, .class_ 8), (0, u "java/lang/Record")] 13

def k2c0 : Code := { maxStack := 1, maxLocals := 1, code := jdk_30_method_1_code, exceptionTable := #[], attributes := #[] }
def k2m0 : Method := { name := "<init>", desc := "()V", sig := { parameters := [], returnType := none }, accessFlags := 4, code := some k2c0 }
/-- java/lang/Record -/
def k2 : Class := { plain "java/lang/Record" (some 0) with
  accessFlags := 1057
  interfaces := #[]
  cf := some (fileOf pool2 7 #[] #[{ accessFlags := 4, nameIndex := 5, descriptorIndex := 6, attributes := #[] }] 1057 2 #[] #[])
  fields := #[]
  methods := #[k2m0]
  instanceTypes := #[]
  staticTypes := #[]
  resolved := Array.replicate 22 none
  statics := none }

def pool3 : Array CpInfo := pool [(1, .methodref 2 3), (0, .class_ 4), (0, .nameAndType 5 6), (0, u "java/lang/Record"), (0, u "<init>"), (0, u "()V"), (0, .fieldref 8 9), (0, .class_ 10), (0, .nameAndType 11 12), (0, u "com/example/kissena/kissena/Subdocuments$Subdocument"), (0, u "number"), (0, u "I"), (0, .fieldref 8 14), (0, .nameAndType 15 12), (0, u "start"), (0, .fieldref 8 17), (0, .nameAndType 18 12), (0, u "end"), (18, u "(III)V"), (3, u "length"), (0, u "()I"), (9, .class_ 53), (0, u "com/example/kissena/kissena/Subdocuments")] 21

def k3c0 : Code := { maxStack := 2, maxLocals := 4, code := prog_29_method_1_code, exceptionTable := #[], attributes := #[] }
def k3m0 : Method := { name := "<init>", desc := "(III)V", sig := { parameters := [.int, .int, .int], returnType := none }, accessFlags := 0, code := some k3c0 }
def k3c1 : Code := { maxStack := 2, maxLocals := 1, code := prog_29_method_2_code, exceptionTable := #[], attributes := #[] }
def k3m1 : Method := { name := "length", desc := "()I", sig := { parameters := [], returnType := some .int }, accessFlags := 0, code := some k3c1 }
/-- com/example/kissena/kissena/Subdocuments$Subdocument -/
def k3 : Class := { plain "com/example/kissena/kissena/Subdocuments$Subdocument" (some 2) with
  accessFlags := 48
  interfaces := #[]
  cf := some (fileOf pool3 8 #[.nestHost 52] #[{ accessFlags := 0, nameIndex := 5, descriptorIndex := 37, attributes := #[] }, { accessFlags := 0, nameIndex := 41, descriptorIndex := 42, attributes := #[] }] 48 2 #[] #[{ accessFlags := 18, nameIndex := 11, descriptorIndex := 12, attributes := #[] }, { accessFlags := 18, nameIndex := 15, descriptorIndex := 12, attributes := #[] }, { accessFlags := 18, nameIndex := 18, descriptorIndex := 12, attributes := #[] }])
  fields := #[{ name := "number", type := .int, accessFlags := 18, slot := 0, constantValue := 0 }, { name := "start", type := .int, accessFlags := 18, slot := 1, constantValue := 0 }, { name := "end", type := .int, accessFlags := 18, slot := 2, constantValue := 0 }]
  methods := #[k3m0, k3m1]
  instanceTypes := #[.int, .int, .int]
  staticTypes := #[]
  resolved := Array.replicate 75 none
  statics := none }

def pool4 : Array CpInfo := pool [(1, u "java/lang/Cloneable"), (0, .class_ 1), (0, u "java/lang/Object"), (0, .class_ 3)] 3

/-- java/lang/Cloneable -/
def k4 : Class := { plain "java/lang/Cloneable" (some 0) with
  accessFlags := 1537
  interfaces := #[]
  cf := some (fileOf pool4 2 #[] #[] 1537 4 #[] #[])
  fields := #[]
  methods := #[]
  instanceTypes := #[]
  staticTypes := #[]
  resolved := Array.replicate 8 none
  statics := none }

def pool5 : Array CpInfo := pool [(1, u "java/io/Serializable"), (0, .class_ 1), (0, u "java/lang/Object"), (0, .class_ 3)] 3

/-- java/io/Serializable -/
def k5 : Class := { plain "java/io/Serializable" (some 0) with
  accessFlags := 1537
  interfaces := #[]
  cf := some (fileOf pool5 2 #[] #[] 1537 4 #[] #[])
  fields := #[]
  methods := #[]
  instanceTypes := #[]
  staticTypes := #[]
  resolved := Array.replicate 8 none
  statics := none }

/-- the primitive byte -/
def k6 : Class := { plain "byte" none with kind := .primitive 'B', accessFlags := 0x411 }
/-- [B -/
def k7 : Class := { plain "[B" (some 0) with kind := .array 6 .byte, interfaces := #[4, 5], accessFlags := 1041 }

/-- the primitive int -/
def k8 : Class := { plain "int" none with kind := .primitive 'I', accessFlags := 0x411 }
/-- [I -/
def k9 : Class := { plain "[I" (some 0) with kind := .array 8 .int, interfaces := #[4, 5], accessFlags := 1041 }

def heap : Heap := #[]
def classes : Array Class := #[k0, k1, k2, k3, k4, k5, k6, k7, k8, k9]
def interned : List (Array UInt16 × Addr) := []
def slotsUsed : Nat := 0
def theMethod : MethodId := ⟨1, 1⟩
def args0 : Array Value := #[.int 5, .int 6, .int 7, .int 8]
def aboutOver (below : List Frame) : State where
  vm := { classes := classes, interned := interned.toArray }
  heap := heap
  slotsUsed := slotsUsed
  threads := #[{ frames := .invoking theMethod args0 :: below }]
def below0 : List Frame := [.native { method := ⟨0, 0⟩, args := #[] }]
def about1 : State := aboutOver below0
def p0 : Program := .bare "" "" ""
def e0 : Env := launch0.env 0 0 0
theorem w_frames : about1.frames = Frame.invoking theMethod args0 :: below0 := rfl
set_option maxRecDepth 65536 in
theorem w_args : argsFit about1.vm theMethod args0 = true := by decide +kernel
set_option maxRecDepth 65536 in
theorem w_heap : heapFits about1 = true := by decide +kernel
set_option maxRecDepth 65536 in
theorem w_runnable : about1.curStatus? = some .runnable := by decide +kernel
set_option maxRecDepth 65536 in
theorem w_alone : about1.alone = true := by decide +kernel
set_option maxRecDepth 65536 in
theorem w_named : about1.methodNamed? x = some theMethod := by decide +kernel
set_option maxRecDepth 65536 in
theorem w_hears : about1.hears theMethod below0 = true := by decide +kernel
set_option maxRecDepth 65536 in
theorem w_ripe : about1.ripe theMethod args0 below0 = true := by decide +kernel
theorem w_running : about1.status = .running := rfl
set_option maxRecDepth 65536 in
theorem w_room : about1.hasRoom e0.platform room_1 = true :=
  launch0.hasRoom_least _ room_1 (by decide +kernel) (by decide +kernel) (by decide +kernel) (by decide +kernel) (by decide +kernel) (by decide +kernel)
theorem allAtoms_all (ts : List Jvm.Cond) (a : Array Jvm.Value) (st : Jvm.State) : (allAtoms ts).before a st = ts.all (fun c => c.before a st) := by
  induction ts with
  | nil => rfl
  | cons c t ih =>
    show (Jvm.Cond.and c (allAtoms t)).before a st = _
    rw [Jvm.Cond.before_and, ih, List.all_cons]
def words1 : List Jvm.Cond := Jvm.Cond.code x code maxLocals ret :: tables_1
/-- a 'code' word, met by the world's own term for the bytes: nothing is compared byte by byte -/
theorem code_word {y : MethodName} {bytes : ByteArray} {mx : Nat} {rt : Option FieldType} {a : Array Value} {s : State} {m : MethodId} {meth : Method} {c : Code} (h1 : s.methodNamed? y = some m) (h2 : s.vm.method? m = some meth) (h3 : meth.code = some c) (h4 : c.code = bytes)
    (h5 : (c.maxLocals == mx && c.exceptionTable.isEmpty && decide (c.maxStack ≤ mostOperands) && decide (meth.sig.returnType = rt) && !meth.locks && decide (parseMethodDescriptor y.desc = some meth.sig)) = true) : (Jvm.Cond.code y bytes mx rt).before a s = true := by
  simp only [Bool.and_eq_true, beq_iff_eq, Bool.not_eq_true', decide_eq_true_eq] at h5
  obtain ⟨⟨⟨⟨⟨g1, g2⟩, g3⟩, g4⟩, g5⟩, g6⟩ := h5
  simp [Cond.before, Cond.holds, Cond.value, h1, h2, h3, h4, g1, g2, g3, g4, g5, g6]
def isCode : Jvm.Cond → Bool
  | .code _ _ _ _ => true
  | _ => false
theorem all_split {L : List Jvm.Cond} {P : Jvm.Cond → Bool} (h1 : L.all (fun c => isCode c || P c) = true) (h2 : ∀ c ∈ L.filter isCode, P c = true) : L.all P = true := by
  refine List.all_eq_true.mpr fun c hc => ?_
  have h := List.all_eq_true.mp h1 c hc
  rcases Bool.eq_false_or_eq_true (isCode c) with hi | hi
  · exact h2 c (List.mem_filter.mpr ⟨hc, hi⟩)
  · simpa [hi] using h
set_option maxRecDepth 65536 in
theorem w_c0 : (Jvm.Cond.code x code maxLocals ret).before args0 about1 = true := code_word (m := ⟨1, 1⟩) (meth := k1m1) (c := k1c1) (by decide +kernel) rfl rfl rfl (by decide +kernel)
set_option maxRecDepth 65536 in
theorem w_c1 : (Jvm.Cond.code ({ cls := "com/example/kissena/kissena/Subdocuments$Subdocument", name := "<init>", desc := "(III)V" } : Jvm.MethodName) prog_29_method_1_code (4 : Nat) (Option.none : Option Jvm.ClassFile.FieldType)).before args0 about1 = true := code_word (m := ⟨3, 0⟩) (meth := k3m0) (c := k3c0) (by decide +kernel) rfl rfl rfl (by decide +kernel)
set_option maxRecDepth 65536 in
theorem w_c2 : (Jvm.Cond.code ({ cls := "java/lang/Record", name := "<init>", desc := "()V" } : Jvm.MethodName) jdk_30_method_1_code (1 : Nat) (Option.none : Option Jvm.ClassFile.FieldType)).before args0 about1 = true := code_word (m := ⟨2, 0⟩) (meth := k2m0) (c := k2c0) (by decide +kernel) rfl rfl rfl (by decide +kernel)
set_option maxRecDepth 65536 in
theorem w_c3 : (Jvm.Cond.code ({ cls := "java/lang/Object", name := "<init>", desc := "()V" } : Jvm.MethodName) object_method_1_code (1 : Nat) (Option.none : Option Jvm.ClassFile.FieldType)).before args0 about1 = true := code_word (m := ⟨0, 0⟩) (meth := k0m0) (c := k0c0) (by decide +kernel) rfl rfl rfl (by decide +kernel)
set_option maxRecDepth 65536 in
theorem w_c4 : (Jvm.Cond.code ({ cls := "com/example/kissena/kissena/Subdocuments$Subdocument", name := "length", desc := "()I" } : Jvm.MethodName) prog_29_method_2_code (1 : Nat) (Option.some Jvm.ClassFile.FieldType.int)).before args0 about1 = true := code_word (m := ⟨3, 1⟩) (meth := k3m1) (c := k3c1) (by decide +kernel) rfl rfl rfl (by decide +kernel)
def codes1 : List Jvm.Cond := [Jvm.Cond.code x code maxLocals ret, Jvm.Cond.code ({ cls := "com/example/kissena/kissena/Subdocuments$Subdocument", name := "<init>", desc := "(III)V" } : Jvm.MethodName) prog_29_method_1_code (4 : Nat) (Option.none : Option Jvm.ClassFile.FieldType), Jvm.Cond.code ({ cls := "java/lang/Record", name := "<init>", desc := "()V" } : Jvm.MethodName) jdk_30_method_1_code (1 : Nat) (Option.none : Option Jvm.ClassFile.FieldType), Jvm.Cond.code ({ cls := "java/lang/Object", name := "<init>", desc := "()V" } : Jvm.MethodName) object_method_1_code (1 : Nat) (Option.none : Option Jvm.ClassFile.FieldType), Jvm.Cond.code ({ cls := "com/example/kissena/kissena/Subdocuments$Subdocument", name := "length", desc := "()I" } : Jvm.MethodName) prog_29_method_2_code (1 : Nat) (Option.some Jvm.ClassFile.FieldType.int)]
set_option maxRecDepth 65536 in
theorem codes_eq : words1.filter isCode = codes1 := rfl
theorem w_codes : ∀ c ∈ words1.filter isCode, c.before args0 about1 = true := by
  rw [codes_eq]
  intro c hc
  simp only [codes1, List.mem_cons, List.not_mem_nil, or_false] at hc
  rcases hc with rfl | rfl | rfl | rfl | rfl
  · exact w_c0
  · exact w_c1
  · exact w_c2
  · exact w_c3
  · exact w_c4
set_option maxRecDepth 65536 in
theorem w_t1 : (words1.take 24).all (fun c => isCode c || c.before args0 about1) = true := by decide +kernel
set_option maxRecDepth 65536 in
theorem w_t2 : (words1.drop 24).all (fun c => isCode c || c.before args0 about1) = true := by decide +kernel
theorem w_tables : (allAtoms (Jvm.Cond.code x code maxLocals ret :: tables_1)).before args0 about1 = true := by
  rw [allAtoms_all]
  show words1.all (fun c => c.before args0 about1) = true
  refine all_split ?_ w_codes
  rw [← List.take_append_drop 24 words1, List.all_append, w_t1, w_t2]
  rfl
set_option maxRecDepth 65536 in
theorem w_case : (Jvm.Cond.and given_1 narrow_1).before args0 about1 = true := by decide +kernel
theorem w_applies : (headSpec (Jvm.Cond.code x code maxLocals ret :: tables_1) room_1).applies x e0.platform about1 = true :=
  (Spec.applies_iff w_frames).mpr ⟨w_running, w_runnable, w_alone, w_named, w_hears, w_ripe, w_room, w_tables⟩
theorem atStart : AtStart classFile x code maxLocals ret World_1 tables_1 room_1 Calls_1 rest_1 Pre_1 launch0 p0 e0 about1 theMethod args0 below0 :=
  ⟨lists_1, trivial, launch0.admits_env _ _ _, launch0.least_env, fairChoices_fair.cas, fairChoices_fair.clock, w_frames, w_args, w_heap, w_applies, trivial, trivial, w_case⟩
end start1
theorem witness_1 : WitnessClaimed_1 := ⟨start1.p0, start1.e0, start1.about1, start1.theMethod, start1.args0, start1.below0, start1.atStart⟩
end Jvm.Pilot.@@N@@
