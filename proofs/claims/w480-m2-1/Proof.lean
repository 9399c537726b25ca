import JvmDerived
import JvmDerived.Pilot.@@N@@Statement
import JvmDerived.Pilot.@@N@@Code
set_option linter.unusedVariables false
set_option linter.unusedSimpArgs false
namespace Jvm.Pilot.@@N@@
open Jvm Jvm.ClassFile Sem Op Lib Jvm.Free Jvm.Stand Jvm.LawKit Jvm.RoadKit Bundle Jvm.Pilot.@@N@@.Jvm.D
section Own
variable {p : Program} {l : Launch} {e : Env} {R : Room} {s : State} {m : MethodId} {args : Array Value} {below : List Frame} {meth : Method} {c : Code} {T : State} {locs : List Loc} {cells slots : Nat} {Z : State} {a0 : Array Value} {h : Heap} {P : State → Outcome → Prop} {pc : Nat} {Ls : Array Slot} {rest st : List Value}
/-- from T, with f on top, the run comes to an end of which P holds -/
def own_Go (p : Program) (e : Env) (below : List Frame) (P : State → Outcome → Prop) (T : State) (f : JFrame) : Prop :=
  ∃ t o, Steps p.tables e below (T.setTop f) t ∧ t.status = .running ∧ Ended t below o ∧ P t o
theorem own_by {T' : State} {f f' : JFrame} (st : ∀ t, Steps p.tables e below (T'.setTop f') t → Steps p.tables e below (T.setTop f) t) (k : own_Go p e below P T' f') : own_Go p e below P T f := by
  obtain ⟨t, o, h1, h2⟩ := k
  exact ⟨t, o, st _ h1, h2⟩
/-- a method's end: what it returns, the heap, what it wrote -/
def own_Ends (s : State) (rm : Room) (Q : Option Value → Heap → List Loc → Prop) (t : State) (o : Outcome) : Prop := ∃ v L, o = .returned v ∧ Q v t.heap L ∧ FrameEnd s o t L rm.cells rm.slots
/-- a body's contract, at one list of arguments and one heap -/
def own_Ct (l : Launch) (Z : State) (y : MethodName) (bytes : ByteArray) (mx : Nat) (rt : Option FieldType) (ws : List Jvm.Cond) (rm : Room) (as' : Array Value) (h0 : Heap) (Q : Option Value → Heap → List Loc → Prop) : Prop :=
  MetFree l y (head1 (Jvm.Cond.code y bytes mx rt :: ws) rm) (fun a U => a = as' ∧ Z.Warmed39 U.vm ∧ U.heap = h0) (fun _ _ _ _ _ => True) (fun _ U o U' => own_Ends U rm Q U' o)
theorem own_of {y : MethodName} {bytes : ByteArray} {mx : Nat} {rt : Option FieldType} {ws : List Jvm.Cond} {rm : Room} {as' : Array Value} {h0 : Heap} {Q : Option Value → Heap → List Loc → Prop} (hpl : plainName y.cls = true)
    (body : ∀ (p : Program) (e : Env) (s : State) (m : MethodId) (below : List Frame) (meth : Method) (c : Code) (s₁ : State), p.tables.exec = Jvm.exec → c.code = bytes → c.maxLocals = mx → s.vm.findClass y.cls = some m.cls → meth.name = y.name → meth.sig.returnType = rt → meth.locks = false → Z.Warmed39 s.vm →
      Stand p l e rm s m as' below meth c s₁ [] 0 0 → s₁.heap = h0 → own_Go p e below (own_Ends s rm Q) s₁ (entryFrame m as' mx)) : own_Ct l Z y bytes mx rt ws rm as' h0 Q := by
  refine MetFree.of_bodySF (plainFor_of_name hpl) hisR ?_
  intro p e s m args below meth c s₁ Bd hml hP hK
  obtain ⟨rfl, hZ, hh⟩ := hP
  exact body p e s m below meth c s₁ Bd.exec Bd.bytes hml (findClass_of_methodNamed Bd.named) (name_of_methodNamed Bd.named Bd.method).1 Bd.returns Bd.notSynchronized hZ (Stand.of_body Bd) (by rw [← hh, Bd.state]; rfl)
theorem own_ret {rm : Room} {Q : Option Value → Heap → List Loc → Prop} {t : FieldType} {w : Value} {i : Instr} (X : Stand p l e R s m args below meth c T locs cells slots) (hx : p.tables.exec = Jvm.exec) (hret : meth.sig.returnType = some t) (hlk : meth.locks = false) (hd : decode c.code pc = .ok (i, 1)) (hn : narrow t w = w)
    (hi : (i = .ireturn ∧ (t = .int ∨ t = .boolean ∨ t = .byte ∨ t = .char ∨ t = .short) ∧ ∃ z, w = .int z) ∨ (i = .lreturn ∧ t = .long ∧ ∃ z, w = .long z) ∨ (i = .dreturn ∧ t = .double ∧ ∃ z, w = .double z) ∨ (i = .freturn ∧ t = .float ∧ ∃ z, w = .float z) ∨ (i = .areturn ∧ t.isReference = true ∧ w.isRef = true))
    (hc : cells ≤ rm.cells) (hs : slots ≤ rm.slots) (hq : Q (some w) T.heap locs) : own_Go p e below (own_Ends s rm Q) T (mkF m pc Ls (w :: rest)) := by
  obtain ⟨fs, hr, hrun, hended, hW, hsame⟩ := X.leave (v := some w) (fun h => by rw [hret] at h; cases h) hlk
  exact ⟨_, _, retOut X hx hret hn hi hd hr, hrun, hended, _, _, rfl, hq, ⟨_, rfl⟩, hW, hsame.mono hc hs⟩
theorem own_retI {rm : Room} {Q : Option Value → Heap → List Loc → Prop} {w : Int32} (X : Stand p l e R s m args below meth c T locs cells slots) (hx : p.tables.exec = Jvm.exec) (hret : meth.sig.returnType = some .int) (hlk : meth.locks = false) (hd : decode c.code pc = .ok (.ireturn, 1)) 
    (hc : cells ≤ rm.cells) (hs : slots ≤ rm.slots) (hq : Q (some (.int w)) T.heap locs) : own_Go p e below (own_Ends s rm Q) T (mkF m pc Ls (.int w :: rest)) :=
  own_ret X hx hret hlk hd rfl (Or.inl ⟨rfl, Or.inl rfl, _, rfl⟩) hc hs hq
theorem own_retZ {rm : Room} {Q : Option Value → Heap → List Loc → Prop} {w : Int32} (X : Stand p l e R s m args below meth c T locs cells slots) (hx : p.tables.exec = Jvm.exec) (hret : meth.sig.returnType = some .boolean) (hlk : meth.locks = false) (hd : decode c.code pc = .ok (.ireturn, 1)) (hw : w = 0 ∨ w = 1)
    (hc : cells ≤ rm.cells) (hs : slots ≤ rm.slots) (hq : Q (some (.int w)) T.heap locs) : own_Go p e below (own_Ends s rm Q) T (mkF m pc Ls (.int w :: rest)) :=
  own_ret X hx hret hlk hd (by rcases hw with rfl | rfl <;> rfl) (Or.inl ⟨rfl, Or.inr (Or.inl rfl), _, rfl⟩) hc hs hq
theorem own_retJ {rm : Room} {Q : Option Value → Heap → List Loc → Prop} {w : Int64} (X : Stand p l e R s m args below meth c T locs cells slots) (hx : p.tables.exec = Jvm.exec) (hret : meth.sig.returnType = some .long) (hlk : meth.locks = false) (hd : decode c.code pc = .ok (.lreturn, 1)) 
    (hc : cells ≤ rm.cells) (hs : slots ≤ rm.slots) (hq : Q (some (.long w)) T.heap locs) : own_Go p e below (own_Ends s rm Q) T (mkF m pc Ls (.long w :: rest)) :=
  own_ret X hx hret hlk hd rfl (Or.inr (Or.inl ⟨rfl, rfl, _, rfl⟩)) hc hs hq
theorem own_retA {rm : Room} {Q : Option Value → Heap → List Loc → Prop} {w : Value} {t : FieldType} (X : Stand p l e R s m args below meth c T locs cells slots) (hx : p.tables.exec = Jvm.exec) (hret : meth.sig.returnType = some t) (hlk : meth.locks = false) (hd : decode c.code pc = .ok (.areturn, 1)) (ht : t.isReference = true) (hn : narrow t w = w) (hw : w.isRef = true)
    (hc : cells ≤ rm.cells) (hs : slots ≤ rm.slots) (hq : Q (some w) T.heap locs) : own_Go p e below (own_Ends s rm Q) T (mkF m pc Ls (w :: rest)) :=
  own_ret X hx hret hlk hd hn (Or.inr (Or.inr (Or.inr (Or.inr ⟨rfl, ht, hw⟩)))) hc hs hq
theorem own_retV {rm : Room} {Q : Option Value → Heap → List Loc → Prop} (X : Stand p l e R s m args below meth c T locs cells slots) (hx : p.tables.exec = Jvm.exec) (hret : meth.sig.returnType = none) (hlk : meth.locks = false) (hd : decode c.code pc = .ok (.return_, 1))
    (hc : cells ≤ rm.cells) (hs : slots ≤ rm.slots) (hq : Q none T.heap locs) : own_Go p e below (own_Ends s rm Q) T (mkF m pc Ls []) := by
  obtain ⟨fs, hr, hrun, hended, hW, hsame⟩ := X.leave (v := none) (fun _ => rfl) hlk
  exact ⟨_, _, X.returnOut hx hret hd hr, hrun, hended, _, _, rfl, hq, ⟨_, rfl⟩, hW, hsame.mono hc hs⟩
abbrev own_K (p : Program) (l : Launch) (e : Env) (R : Room) (s : State) (m : MethodId) (args : Array Value) (below : List Frame) (meth : Method) (c : Code) (P : State → Outcome → Prop) (locs : List Loc) (cells slots : Nat) (rm : Room) (Q : Option Value → Heap → List Loc → Prop) (pc : Nat) (Ls : Array Slot) (rest : List Value) : Prop :=
  ∀ (T' : State) (v : Option Value) (L : List Loc), Stand p l e R s m args below meth c T' (locs ++ L) (cells + rm.cells) (slots + rm.slots) → Q v T'.heap L → own_Go p e below P T' (mkF m pc Ls (v.toList ++ rest))
theorem own_callS {own : String} {index : Nat} {y : MethodName} {bytes : ByteArray} {maxL : Nat} {ret : Option FieldType} {rm : Room} {Q : Option Value → Heap → List Loc → Prop} {ps : List FieldType} {r : Option FieldType} (X : Stand p l e R s m args below meth c T locs cells slots) (hx : p.tables.exec = Jvm.exec) (hZ : Z.Warmed39 s.vm) (hown : s.vm.findClass own = some m.cls) (eT : T.heap = h) (hd : decode c.code pc = .ok (.invokestatic index, 3))
    (argsL rest : List Value) (W : Nat) (C : own_Ct l Z y bytes maxL ret [] rm argsL.toArray h Q) (w1 : (Cond.methodLink own index y).before a0 Z = true) (w2 : (Cond.static y).before a0 Z = true) (w3 : (Cond.initialized y.cls).before a0 Z = true) (w4 : (Cond.code y bytes maxL ret).before a0 Z = true)
    (hy : y.cls ≠ "java/lang/invoke/MethodHandle" ∧ y.cls ≠ "java/lang/invoke/VarHandle") (hpd : parseMethodDescriptor y.desc = some ⟨ps, r⟩) (hsize : Ls.size = c.maxLocals) (hlen : argsL.length = ps.length) (hst : st = argsL.reverse ++ rest)
    (hW : (rest.map fun v => v.category).sum ≤ W) (hf : rm.frames + 1 ≤ R.frames) (hl : W + (maxL + 11) + rm.locals ≤ R.locals) (hc : cells + rm.cells ≤ R.cells) (hs : slots + rm.slots ≤ R.slots)
    (k : own_K p l e R s m args below meth c P locs cells slots rm Q (pc + 3) Ls rest) : own_Go p e below P T (mkF m pc Ls st) := by
  obtain ⟨v, _, ⟨T', L', k', n'⟩, -, X', ⟨Lc, hQ, l', y', z'⟩, stp⟩ := Jvm.LawKit.callS X hx (y := y) hown (mvT hZ w1) (mvT hZ w2) (mvT hZ w3) (mvT hZ w4) hy (backOf (W := W) (Q := Q) C hZ w4 w3 hf hl) (g := mkF m pc Ls st) rfl hsize (argsL := argsL) (rest := rest) (lenOf hpd hlen) hst (by show 2 * 0 + _ ≤ _; omega) hd (fun _ _ => ⟨rfl, eT, hc, hs⟩)
  dsimp only [Pt.U, Pt.locs, Pt.cells, Pt.slots] at X' l' y' z' stp hQ
  subst l' y' z'
  exact own_by stp (k T' v Lc X' hQ)
theorem own_callN {own : String} {index : Nat} {y : MethodName} {bytes : ByteArray} {maxL : Nat} {rm : Room} {Q : Option Value → Heap → List Loc → Prop} {ps : List FieldType} {r : Option FieldType} {a : Addr} (X : Stand p l e R s m args below meth c T locs cells slots) (hx : p.tables.exec = Jvm.exec) (hZ : Z.Warmed39 s.vm) (hown : s.vm.findClass own = some m.cls) (eT : T.heap = h) (hd : decode c.code pc = .ok (.invokespecial index, 3))
    (argsL rest : List Value) (W : Nat) (C : own_Ct l Z y bytes maxL none [] rm (.ref a :: argsL).toArray h Q) (w1 : (Cond.methodLink own index y).before a0 Z = true) (w2 : (Cond.instanceMethod y).before a0 Z = true) (w3 : (Cond.initialized y.cls).before a0 Z = true) (w4 : (Cond.code y bytes maxL none).before a0 Z = true)
    (hyi : y.name = "<init>") (hy : y.cls ≠ "java/lang/invoke/MethodHandle" ∧ y.cls ≠ "java/lang/invoke/VarHandle") (hpd : parseMethodDescriptor y.desc = some ⟨ps, r⟩) (hsize : Ls.size = c.maxLocals) (hlen : argsL.length = ps.length) (hst : st = argsL.reverse ++ .ref a :: rest)
    (hW : (rest.map fun v => v.category).sum ≤ W) (hf : rm.frames + 1 ≤ R.frames) (hl : W + (maxL + 11) + rm.locals ≤ R.locals) (hc : cells + rm.cells ≤ R.cells) (hs : slots + rm.slots ≤ R.slots)
    (k : own_K p l e R s m args below meth c P locs cells slots rm Q (pc + 3) Ls rest) : own_Go p e below P T (mkF m pc Ls st) := by
  obtain ⟨v, _, ⟨T', L', k', n'⟩, -, X', ⟨Lc, hQ, l', y', z'⟩, stp⟩ := X.specialBack hx (y := y) hyi hown (mvT hZ w1) (mvT hZ w2) (mvT hZ w4) hy (backOf (W := W) (Q := Q) C hZ w4 w3 hf hl) (g := mkF m pc Ls st) rfl hsize (Steps.refl _) (a := a) (argsL := argsL) (rest := rest) (lenOf hpd hlen) hst (by show 2 * 0 + _ ≤ _; omega) hd (fun _ _ => ⟨rfl, eT, hc, hs⟩)
  dsimp only [Pt.U, Pt.locs, Pt.cells, Pt.slots] at X' l' y' z' stp hQ
  subst l' y' z'
  exact own_by (fun _ k => stp.trans k) (k T' v Lc X' hQ)
theorem own_callV {own : String} {index : Nat} {C0 : String} {y z : MethodName} {bytes : ByteArray} {maxL : Nat} {ret : Option FieldType} {rm : Room} {Q : Option Value → Heap → List Loc → Prop} {ps : List FieldType} {r : Option FieldType} {a : Addr} (X : Stand p l e R s m args below meth c T locs cells slots) (hx : p.tables.exec = Jvm.exec) (hZ : Z.Warmed39 s.vm) (hown : s.vm.findClass own = some m.cls) (eT : T.heap = h) (hd : decode c.code pc = .ok (.invokevirtual index, 3))
    (argsL rest : List Value) (W : Nat) (C : own_Ct l Z z bytes maxL ret [] rm (.ref a :: argsL).toArray h Q) (E : Exa Z h a C0) (w1 : (Cond.methodLink own index y).before a0 Z = true) (w0 : (Cond.declares y).before a0 Z = true) (nf : NotFace s y) (ws : (Cond.selects C0 y z).before a0 Z = true) (w2 : (Cond.instanceMethod z).before a0 Z = true) (w3 : (Cond.initialized z.cls).before a0 Z = true) (w4 : (Cond.code z bytes maxL ret).before a0 Z = true)
    (hy : y.cls ≠ "java/lang/invoke/MethodHandle" ∧ y.cls ≠ "java/lang/invoke/VarHandle") (hpd : parseMethodDescriptor y.desc = some ⟨ps, r⟩) (hsize : Ls.size = c.maxLocals) (hlen : argsL.length = ps.length) (hst : st = argsL.reverse ++ .ref a :: rest)
    (hW : (rest.map fun v => v.category).sum ≤ W) (hf : rm.frames + 1 ≤ R.frames) (hl : W + (maxL + 11) + rm.locals ≤ R.locals) (hc : cells + rm.cells ≤ R.cells) (hs : slots + rm.slots ≤ R.slots)
    (k : own_K p l e R s m args below meth c P locs cells slots rm Q (pc + 3) Ls rest) : own_Go p e below P T (mkF m pc Ls st) := by
  obtain ⟨cq, kq, qa, qb, qc⟩ := isOf hZ eT E
  obtain ⟨v, _, ⟨T', L', k', n'⟩, -, X', ⟨Lc, hQ, l', y', z'⟩, stp⟩ := X.virtualBack hx (y := y) (z := z) hown (mvT hZ w1) (mvT hZ w0) nf (mvT hZ ws) (mvT hZ w2) hy (backOf (W := W) (Q := Q) C hZ w4 w3 hf hl) qa qc (g := mkF m pc Ls st) rfl hsize (Steps.refl _) (argsL := argsL) (rest := rest) (lenOf hpd hlen) hst (by show 2 * 0 + _ ≤ _; omega) hd (fun _ _ => ⟨rfl, eT, hc, hs⟩)
  dsimp only [Pt.U, Pt.locs, Pt.cells, Pt.slots] at X' l' y' z' stp hQ
  subst l' y' z'
  exact own_by (fun _ k => stp.trans k) (k T' v Lc X' hQ)
theorem own_callP {own : String} {index : Nat} {C0 : String} {y : MethodName} {bytes : ByteArray} {maxL : Nat} {ret : Option FieldType} {rm : Room} {Q : Option Value → Heap → List Loc → Prop} {ps : List FieldType} {r : Option FieldType} {a : Addr} (X : Stand p l e R s m args below meth c T locs cells slots) (hx : p.tables.exec = Jvm.exec) (hZ : Z.Warmed39 s.vm) (hown : s.vm.findClass own = some m.cls) (eT : T.heap = h) (hd : decode c.code pc = .ok (.invokevirtual index, 3))
    (argsL rest : List Value) (W : Nat) (C : own_Ct l Z y bytes maxL ret [] rm (.ref a :: argsL).toArray h Q) (E : Exa Z h a C0) (w1 : (Cond.methodLink own index y).before a0 Z = true) (w2 : (Cond.instanceMethod y).before a0 Z = true) (ws : (Cond.selects y.cls y y).before a0 Z = true) (wp : (Cond.privateMethod y).before a0 Z = true) (w3 : (Cond.initialized y.cls).before a0 Z = true) (w4 : (Cond.code y bytes maxL ret).before a0 Z = true)
    (hy : y.cls ≠ "java/lang/invoke/MethodHandle" ∧ y.cls ≠ "java/lang/invoke/VarHandle") (hpd : parseMethodDescriptor y.desc = some ⟨ps, r⟩) (hsize : Ls.size = c.maxLocals) (hlen : argsL.length = ps.length) (hst : st = argsL.reverse ++ .ref a :: rest)
    (hW : (rest.map fun v => v.category).sum ≤ W) (hf : rm.frames + 1 ≤ R.frames) (hl : W + (maxL + 11) + rm.locals ≤ R.locals) (hc : cells + rm.cells ≤ R.cells) (hs : slots + rm.slots ≤ R.slots)
    (k : own_K p l e R s m args below meth c P locs cells slots rm Q (pc + 3) Ls rest) : own_Go p e below P T (mkF m pc Ls st) := by
  obtain ⟨cq, q1, q2⟩ := E.cell
  obtain ⟨v, _, ⟨T', L', k', n'⟩, -, X', ⟨Lc, hQ, l', y', z'⟩, stp⟩ := X.privateBack hx (y := y) hown (mvT hZ w1) (mvT hZ w2) (mvT hZ ws) (Cond.privateMethod_at (mvP hZ wp (args := #[]))) (mvT hZ w4) hy (backOf (W := W) (Q := Q) C hZ w4 w3 hf hl) (g := mkF m pc Ls st) rfl hsize (Steps.refl _) (a := a) (by rw [eT]; exact q1) q2 (argsL := argsL) (rest := rest) (lenOf hpd hlen) hst (by show 2 * 0 + _ ≤ _; omega) hd (fun _ _ => ⟨rfl, eT, hc, hs⟩)
  dsimp only [Pt.U, Pt.locs, Pt.cells, Pt.slots] at X' l' y' z' stp hQ
  subst l' y' z'
  exact own_by (fun _ k => stp.trans k) (k T' v Lc X' hQ)
abbrev own_K0 (p : Program) (l : Launch) (e : Env) (R : Room) (s : State) (m : MethodId) (args : Array Value) (below : List Frame) (meth : Method) (c : Code) (P : State → Outcome → Prop) (locs : List Loc) (cells slots : Nat) (h : Heap) (pc : Nat) (Ls : Array Slot) (st : List Value) : Prop :=
  ∀ (T' : State), Stand p l e R s m args below meth c T' locs cells slots → T'.heap = h → own_Go p e below P T' (mkF m pc Ls st)
theorem own_init {own : String} {index : Nat} {a : Addr} (X : Stand p l e R s m args below meth c T locs cells slots) (hx : p.tables.exec = Jvm.exec) (hZ : Z.Warmed39 s.vm) (hown : s.vm.findClass own = some m.cls) (eT : T.heap = h) (hd : decode c.code pc = .ok (.invokespecial index, 3)) (W : Nat)
    (w1 : (Cond.methodLink own index Lib.objectInit).before a0 Z = true) (w2 : (Cond.instanceMethod Lib.objectInit).before a0 Z = true) (w3 : (Cond.code Lib.objectInit ⟨#[0xb1]⟩ 1 none).before a0 Z = true) (hsize : Ls.size = c.maxLocals) (hW : (rest.map fun v => v.category).sum ≤ W) (hf : 1 ≤ R.frames) (hl : W + 12 ≤ R.locals)
    (k : own_K0 p l e R s m args below meth c P locs cells slots h (pc + 3) Ls rest) : own_Go p e below P T (mkF m pc Ls (.ref a :: rest)) := by
  obtain ⟨T', X', e', st⟩ := initO X hx hZ hown w1 w2 w3 eT (g := mkF m pc Ls (.ref a :: rest)) rfl hsize rfl hd hf (W := W) (by show 2 * 0 + _ ≤ _; omega) hl
  exact own_by st (k T' X' e')
theorem own_getF {own R0 O n d host : String} {index : Nat} {a : Addr} {v : Value} (X : Stand p l e R s m args below meth c T locs cells slots) (hx : p.tables.exec = Jvm.exec) (hZ : Z.Warmed39 s.vm) (hown : s.vm.findClass own = some m.cls) (eT : T.heap = h) (hd : decode c.code pc = .ok (.getfield index, 3))
    (w : (Cond.fieldLink own index R0 n d).before a0 Z = true ∨ (Cond.fieldLinkNest own index R0 n d host).before a0 Z = true) (via : Via Z R0 O n d) (F : Fld Z h a O n d v)
    (k : own_K0 p l e R s m args below meth c P locs cells slots h (pc + 3) Ls (v :: rest)) : own_Go p e below P T (mkF m pc Ls (.ref a :: rest)) := by
  obtain ⟨T', X', e', st⟩ := getF X hx hZ hown w via eT F (g := mkF m pc Ls (.ref a :: rest)) rfl rfl hd
  exact own_by st (k T' X' e')
theorem own_getS {own R0 O n d host : String} {index : Nat} {v : Value} (X : Stand p l e R s m args below meth c T locs cells slots) (hx : p.tables.exec = Jvm.exec) (hZ : Z.Warmed39 s.vm) (hown : s.vm.findClass own = some m.cls) (eT : T.heap = h) (hd : decode c.code pc = .ok (.getstatic index, 3))
    (w : (Cond.fieldLink own index R0 n d).before a0 Z = true ∨ (Cond.fieldLinkNest own index R0 n d host).before a0 Z = true) (via : Via Z R0 O n d) (F : Sta Z h O n d v)
    (k : own_K0 p l e R s m args below meth c P locs cells slots h (pc + 3) Ls (v :: st)) : own_Go p e below P T (mkF m pc Ls st) := by
  obtain ⟨T', X', e', stp⟩ := getS2 X hx hZ hown w via eT F (g := mkF m pc Ls st) rfl hd
  exact own_by stp (k T' X' e')
theorem own_new {own C : String} {index n : Nat} (X : Stand p l e R s m args below meth c T locs cells slots) (hx : p.tables.exec = Jvm.exec) (hZ : Z.Warmed39 s.vm) (hown : s.vm.findClass own = some m.cls) (eT : T.heap = h) (hd : decode c.code pc = .ok (.new index, 3))
    (w : (Cond.classLink own index C).before a0 Z = true) (wi : (Cond.instantiable C n).before a0 Z = true) (wz : (Cond.initialized C).before a0 Z = true) (hc : cells + 1 ≤ R.cells) (hl : slots + n ≤ R.slots)
    (k : ∀ (T' : State) (h' : Heap) (b : Addr), Stand p l e R s m args below meth c T' locs (cells + 1) (slots + n) → T'.heap = h' → b = h.size → Ext h h' → Exa Z h' b C → (∀ {O nm d : String} {ty : FieldType}, Laid Z a0 C O nm d → parseFieldDescriptor d = some ty → Fld Z h' b O nm d (defaultValue ty)) → own_Go p e below P T' (mkF m (pc + 3) Ls (.ref b :: st))) :
    own_Go p e below P T (mkF m pc Ls st) := by
  obtain ⟨T', h', X', e', E, A, D, -, stp⟩ := newO X hx hZ hown w wi wz eT (g := mkF m pc Ls st) rfl hd hc hl
  exact own_by stp (k T' h' _ X' e' rfl E A D)
theorem own_putF {own R0 O n d host C : String} {index kk : Nat} {ty : FieldType} {a : Addr} {v old : Value} (X : Stand p l e R s m args below meth c T locs cells slots) (hx : p.tables.exec = Jvm.exec) (hZ : Z.Warmed39 s.vm) (hown : s.vm.findClass own = some m.cls) (eT : T.heap = h) (hd : decode c.code pc = .ok (.putfield index, 3))
    (w : (Cond.fieldLink own index R0 n d).before a0 Z = true ∨ (Cond.fieldLinkNest own index R0 n d host).before a0 Z = true) (via : Via Z R0 O n d) (F : Fld Z h a O n d old) (E : Exa Z h a C) (L : (Cond.lays C O n d).before a0 Z = true ∨ ((Cond.laysFinal C O n d).before a0 Z = true ∧ own = O ∧ meth.name = "<init>")) (wi : (Cond.instantiable C kk).before a0 Z = true)
    (hty : parseFieldDescriptor d = some ty) (hn : narrow ty v = v) (hf : fits ty v = true)
    (k : ∀ (T' : State) (h' : Heap), Stand p l e R s m args below meth c T' (locs ++ [⟨a, Jvm.RoadKit.slotOf Z O n d⟩]) cells slots → T'.heap = h' → Wr h h' a (Jvm.RoadKit.slotOf Z O n d) v → own_Go p e below P T' (mkF m (pc + 3) Ls rest)) :
    own_Go p e below P T (mkF m pc Ls (v :: .ref a :: rest)) := by
  obtain ⟨T', h', X', e', W, st⟩ := putF X hx hZ hown w via eT F E L wi hty hn hf (g := mkF m pc Ls (v :: .ref a :: rest)) rfl rfl hd
  exact own_by st (k T' h' X' e' W)
theorem own_newA {aty : ArrayType} {n : Int32} (X : Stand p l e R s m args below meth c T locs cells slots) (hx : p.tables.exec = Jvm.exec) (hZ : Z.Warmed39 s.vm) (eT : T.heap = h) (hd : decode c.code pc = .ok (.newarray aty, 2))
    (w : (Cond.arrayClass (newarray.typeOf aty)).before a0 Z = true) (hn : ¬ n < 0) (cap : Nat) (hcap : n.toNatClampNeg ≤ cap) (hb : cap * 8 ≤ 536870912) (hc : cells + 1 ≤ R.cells) (hl : slots + cap ≤ R.slots)
    (k : ∀ (T' : State) (h' : Heap) (b : Addr) (cA : ClassId), Stand p l e R s m args below meth c T' locs (cells + 1) (slots + cap) → T'.heap = h' → b = h.size → Ext h h' → Arv Z h' b cA (newarray.typeOf aty) n [] (defaultValue (newarray.typeOf aty)) → own_Go p e below P T' (mkF m (pc + 2) Ls (.ref b :: rest))) :
    own_Go p e below P T (mkF m pc Ls (.int n :: rest)) := by
  obtain ⟨T', h', cA, X', e', E, A, stp⟩ := newP X hx hZ w eT (g := mkF m pc Ls (.int n :: rest)) rfl hd rfl hn hcap hb hc hl
  exact own_by stp (k T' h' _ cA X' e' rfl E (Arv.new A hn))
theorem own_ldcI {own : String} {index : Nat} {i : Int32} (X : Stand p l e R s m args below meth c T locs cells slots) (hx : p.tables.exec = Jvm.exec) (hZ : Z.Warmed39 s.vm) (hown : s.vm.findClass own = some m.cls) (hd : decode c.code pc = .ok (.ldc index, 2)) (w : (Cond.constant own index i).before a0 Z = true)
    (k : own_Go p e below P T (mkF m (pc + 2) Ls (.int i :: st))) : own_Go p e below P T (mkF m pc Ls st) :=
  own_by (fun t k => X.ldcInt hx hown (mvT hZ w) (g := mkF m pc Ls st) rfl hd t k) k
theorem own_ldcJ {own : String} {index : Nat} {i : Int64} (X : Stand p l e R s m args below meth c T locs cells slots) (hx : p.tables.exec = Jvm.exec) (hZ : Z.Warmed39 s.vm) (hown : s.vm.findClass own = some m.cls) (hd : decode c.code pc = .ok (.ldc2_w index, 3)) (w : (Cond.constantLong own index i).before a0 Z = true)
    (k : own_Go p e below P T (mkF m (pc + 3) Ls (.long i :: st))) : own_Go p e below P T (mkF m pc Ls st) :=
  own_by (fun t k => X.ldc2Long hx hown (mvT hZ w) (g := mkF m pc Ls st) rfl hd t k) k
end Own
theorem d2_0 : decode jdk_30_method_1_code 0 = .ok (.aload_n 0, 1) := by decide +kernel
theorem d2_1 : decode jdk_30_method_1_code 1 = .ok (.invokespecial 1, 3) := by decide +kernel
theorem d2_4 : decode jdk_30_method_1_code 4 = .ok (.return_, 1) := by decide +kernel
theorem pn_java_lang_Record : plainName "java/lang/Record" = true := by first | (simp [plainName, overriddenIn]; done) | decide +kernel
theorem d1_0 : decode prog_2_method_1_code 0 = .ok (.aload_n 0, 1) := by decide +kernel
theorem d1_1 : decode prog_2_method_1_code 1 = .ok (.invokespecial 1, 3) := by decide +kernel
theorem pd___V : parseMethodDescriptor "()V" = some ⟨[], none⟩ := by decide +kernel
theorem d1_4 : decode prog_2_method_1_code 4 = .ok (.aload_n 0, 1) := by decide +kernel
theorem d1_5 : decode prog_2_method_1_code 5 = .ok (.lload_n 1, 1) := by decide +kernel
theorem d1_6 : decode prog_2_method_1_code 6 = .ok (.putfield 7, 3) := by decide +kernel
theorem d1_9 : decode prog_2_method_1_code 9 = .ok (.aload_n 0, 1) := by decide +kernel
theorem d1_10 : decode prog_2_method_1_code 10 = .ok (.lload_n 3, 1) := by decide +kernel
theorem d1_11 : decode prog_2_method_1_code 11 = .ok (.putfield 13, 3) := by decide +kernel
theorem d1_14 : decode prog_2_method_1_code 14 = .ok (.aload_n 0, 1) := by decide +kernel
theorem d1_15 : decode prog_2_method_1_code 15 = .ok (.dload 5, 2) := by decide +kernel
theorem d1_17 : decode prog_2_method_1_code 17 = .ok (.putfield 16, 3) := by decide +kernel
theorem d1_20 : decode prog_2_method_1_code 20 = .ok (.return_, 1) := by decide +kernel
theorem pn_com_example_kissena_kissena_BeliefStatistics_Term : plainName "com/example/kissena/kissena/BeliefStatistics$Term" = true := by first | (simp [plainName, overriddenIn]; done) | decide +kernel
theorem d4_0 : decode prog_2_method_2_code 0 = .ok (.new 8, 3) := by decide +kernel
theorem d4_3 : decode prog_2_method_2_code 3 = .ok (.dup, 1) := by decide +kernel
theorem d4_4 : decode prog_2_method_2_code 4 = .ok (.aload_n 0, 1) := by decide +kernel
theorem d4_5 : decode prog_2_method_2_code 5 = .ok (.getfield 7, 3) := by decide +kernel
theorem d4_8 : decode prog_2_method_2_code 8 = .ok (.aload_n 1, 1) := by decide +kernel
theorem d4_9 : decode prog_2_method_2_code 9 = .ok (.getfield 7, 3) := by decide +kernel
theorem d4_12 : decode prog_2_method_2_code 12 = .ok (.ladd, 1) := by decide +kernel
theorem d4_13 : decode prog_2_method_2_code 13 = .ok (.aload_n 0, 1) := by decide +kernel
theorem d4_14 : decode prog_2_method_2_code 14 = .ok (.getfield 13, 3) := by decide +kernel
theorem d4_17 : decode prog_2_method_2_code 17 = .ok (.aload_n 1, 1) := by decide +kernel
theorem d4_18 : decode prog_2_method_2_code 18 = .ok (.getfield 13, 3) := by decide +kernel
theorem d4_21 : decode prog_2_method_2_code 21 = .ok (.ladd, 1) := by decide +kernel
theorem d4_22 : decode prog_2_method_2_code 22 = .ok (.aload_n 0, 1) := by decide +kernel
theorem d4_23 : decode prog_2_method_2_code 23 = .ok (.getfield 16, 3) := by decide +kernel
theorem d4_26 : decode prog_2_method_2_code 26 = .ok (.aload_n 1, 1) := by decide +kernel
theorem d4_27 : decode prog_2_method_2_code 27 = .ok (.getfield 16, 3) := by decide +kernel
theorem d4_30 : decode prog_2_method_2_code 30 = .ok (.dadd, 1) := by decide +kernel
theorem d4_31 : decode prog_2_method_2_code 31 = .ok (.invokespecial 20, 3) := by decide +kernel
theorem pd__JJD_V : parseMethodDescriptor "(JJD)V" = some ⟨[.long, .long, .double], none⟩ := by decide +kernel
theorem d4_34 : decode prog_2_method_2_code 34 = .ok (.areturn, 1) := by decide +kernel
theorem d5_0 : decode prog_2_method_6_code 0 = .ok (.aload_n 0, 1) := by decide +kernel
theorem d5_1 : decode prog_2_method_6_code 1 = .ok (.getfield 7, 3) := by decide +kernel
theorem d5_4 : decode prog_2_method_6_code 4 = .ok (.lreturn, 1) := by decide +kernel
theorem d6_0 : decode prog_2_method_7_code 0 = .ok (.aload_n 0, 1) := by decide +kernel
theorem d6_1 : decode prog_2_method_7_code 1 = .ok (.getfield 13, 3) := by decide +kernel
theorem d6_4 : decode prog_2_method_7_code 4 = .ok (.lreturn, 1) := by decide +kernel
theorem d7_0 : decode prog_2_method_8_code 0 = .ok (.aload_n 0, 1) := by decide +kernel
theorem d7_1 : decode prog_2_method_8_code 1 = .ok (.getfield 16, 3) := by decide +kernel
theorem d7_4 : decode prog_2_method_8_code 4 = .ok (.dreturn, 1) := by decide +kernel
theorem pd__Lcom_example_kissena_kissena_BeliefStatistics_Term__Lcom_example_kissena_kissena_BeliefStatistics_Term_ : parseMethodDescriptor "(Lcom/example/kissena/kissena/BeliefStatistics$Term;)Lcom/example/kissena/kissena/BeliefStatistics$Term;" = some ⟨[(.object "com/example/kissena/kissena/BeliefStatistics$Term")], some (.object "com/example/kissena/kissena/BeliefStatistics$Term")⟩ := by decide +kernel
theorem pd___J : parseMethodDescriptor "()J" = some ⟨[], some .long⟩ := by decide +kernel
theorem pd___D : parseMethodDescriptor "()D" = some ⟨[], some .double⟩ := by decide +kernel
theorem pn_com_example_kissena_kissena_TermPlusPinLaw : plainName "com/example/kissena/kissena/TermPlusPinLaw" = true := by first | (simp [plainName, overriddenIn]; done) | decide +kernel
theorem ef_rmR (m : MethodId) (x0 : Addr) : entryFrame m #[(.ref x0)] 1 = mkF m 0 #[.val (.ref x0)] [] := by first | (simp [entryFrame, mkF, argsToLocals, Value.category]; done) | rfl
set_option maxRecDepth 65536 in
set_option maxHeartbeats 40000000 in
theorem rmR (l : Launch) (Z : State) (a0 : Array Value) (hw : ∀ d ∈ tables_1, d.before a0 Z = true) (ws : List Jvm.Cond) (a1 : Addr) (h0 : Heap)  :
    own_Ct l Z (⟨"java/lang/Record", "<init>", "()V"⟩ : MethodName) jdk_30_method_1_code 1 none ws ({ frames := 1, cells := 0, slots := 0, locals := 12 } : Room) #[(.ref a1)] h0 (fun v h L => v = none ∧ L = [] ∧ h = h0) := by
  refine own_of pn_java_lang_Record ?_
  intro p e s m below meth c s₁ hx hby hml hown hnm hret hlk hZ X0 e0
  rw [ef_rmR]
  refine own_by (T' := s₁) (f' := (mkF m 1 #[.val (.ref a1)] [(.ref a1)])) (fun t k => XS.aloadN X0.here hx rfl (hb hby d2_0) rfl rfl k) ?_
  refine own_init X0 hx hZ hown e0 (hb hby d2_1) 0 (hw _ (List.mem_of_getElem? (i := 11) rfl)) (hw _ (List.mem_of_getElem? (i := 12) rfl)) (hw _ (List.mem_of_getElem? (i := 13) rfl)) (by rw [hml]; rfl) (Nat.le_of_eq rfl) (by decide) (by decide) ?_
  intro T1 X1 e1
  show own_Go p e below _ T1 (mkF m 4 #[.val (.ref a1)] [])
  refine own_retV X1 hx hret hlk (hb hby d2_4) (by decide) (by decide) ?_
  try rw [e1]
  exact ⟨rfl, rfl, rfl⟩
theorem ef_rmI (m : MethodId) (x0 : Addr) (x1 : Int64) (x2 : Int64) (x3 : UInt64) : entryFrame m #[(.ref x0), (.long x1), (.long x2), (.double x3)] 7 = mkF m 0 #[.val (.ref x0), .val (.long x1), .second, .val (.long x2), .second, .val (.double x3), .second] [] := by first | (simp [entryFrame, mkF, argsToLocals, Value.category]; done) | rfl
set_option maxRecDepth 65536 in
set_option maxHeartbeats 40000000 in
theorem rmI (l : Launch) (Z : State) (a0 : Array Value) (hw : ∀ d ∈ tables_1, d.before a0 Z = true) (ws : List Jvm.Cond) (a1 : Addr) (p1 p2 : Int64) (p3 : UInt64) (u0 u1 u2 : Value) (h0 : Heap) (n0 : Nat) (Z0 : n0 ≤ h0.size) (g1 : n0 ≤ a1) (E1 : Exa Z h0 a1 "com/example/kissena/kissena/BeliefStatistics$Term") (F0 : Fld Z h0 a1 "com/example/kissena/kissena/BeliefStatistics$Term" "documents" "J" u0) (F1 : Fld Z h0 a1 "com/example/kissena/kissena/BeliefStatistics$Term" "occurrences" "J" u1) (F2 : Fld Z h0 a1 "com/example/kissena/kissena/BeliefStatistics$Term" "beliefs" "D" u2) :
    own_Ct l Z (⟨"com/example/kissena/kissena/BeliefStatistics$Term", "<init>", "(JJD)V"⟩ : MethodName) prog_2_method_1_code 7 none ws ({ frames := 2, cells := 0, slots := 0, locals := 40 } : Room) #[(.ref a1), (.long p1), (.long p2), (.double p3)] h0 (fun v h L => v = none ∧ Fr n0 L ∧ Keep h0 h [a1] ∧ Exa Z h a1 "com/example/kissena/kissena/BeliefStatistics$Term" ∧ Fld Z h a1 "com/example/kissena/kissena/BeliefStatistics$Term" "documents" "J" (.long p1) ∧ Fld Z h a1 "com/example/kissena/kissena/BeliefStatistics$Term" "occurrences" "J" (.long p2) ∧ Fld Z h a1 "com/example/kissena/kissena/BeliefStatistics$Term" "beliefs" "D" (.double p3)) := by
  refine own_of pn_com_example_kissena_kissena_BeliefStatistics_Term ?_
  intro p e s m below meth c s₁ hx hby hml hown hnm hret hlk hZ X0 e0
  have N0 := Fr.nil n0
  have K0 := Keep.refl h0 [a1]
  rw [ef_rmI]
  refine own_by (T' := s₁) (f' := (mkF m 1 #[.val (.ref a1), .val (.long p1), .second, .val (.long p2), .second, .val (.double p3), .second] [(.ref a1)])) (fun t k => XS.aloadN X0.here hx rfl (hb hby d1_0) rfl rfl k) ?_
  refine own_callN X0 hx hZ hown e0 (hb hby d1_1) [] [] 0 (rmR l Z a0 hw [] a1 h0) (hw _ (List.mem_of_getElem? (i := 6) rfl)) (hw _ (List.mem_of_getElem? (i := 7) rfl)) (hw _ (List.mem_of_getElem? (i := 9) rfl)) (hw _ (List.mem_of_getElem? (i := 10) rfl)) rfl (by decide) pd___V (by rw [hml]; rfl) rfl rfl (Nat.le_of_eq rfl) (by decide) (by decide) (by decide) (by decide) ?_
  rintro T11 _ L11 X11 ⟨rfl, rfl, e11⟩
  show own_Go p e below _ T11 (mkF m 4 #[.val (.ref a1), .val (.long p1), .second, .val (.long p2), .second, .val (.double p3), .second] [])
  rw [List.append_nil] at X11
  refine own_by (T' := T11) (f' := (mkF m 5 #[.val (.ref a1), .val (.long p1), .second, .val (.long p2), .second, .val (.double p3), .second] [(.ref a1)])) (fun t k => XS.aloadN X11.here hx rfl (hb hby d1_4) rfl rfl k) ?_
  refine own_by (T' := T11) (f' := (mkF m 6 #[.val (.ref a1), .val (.long p1), .second, .val (.long p2), .second, .val (.double p3), .second] [(.long p1), (.ref a1)])) (fun t k => XS.lloadN X11.here hx rfl (hb hby d1_5) rfl k) ?_
  refine own_putF (host := "") X11 hx hZ hown e11 (hb hby d1_6) (Or.inl (hw _ (List.mem_of_getElem? (i := 14) rfl))) Via.refl F0 E1 (Or.inr ⟨(hw _ (List.mem_of_getElem? (i := 15) rfl)), rfl, hnm⟩) (hw _ (List.mem_of_getElem? (i := 1) rfl)) (ty := .long) (by decide) rfl rfl ?_
  intro T12 h12 X12 e12 W12
  show own_Go p e below _ T12 (mkF m 9 #[.val (.ref a1), .val (.long p1), .second, .val (.long p2), .second, .val (.double p3), .second] [])
  have F12 := F0.same W12
  have sz13 : n0 ≤ h12.size := by rw [W12.size]; exact Z0
  have K14 := K0.wr W12 (Or.inl (List.mem_of_getElem? (i := 0) rfl))
  have N12 := Fr.snoc X12 N0 g1
  refine own_by (T' := T12) (f' := (mkF m 10 #[.val (.ref a1), .val (.long p1), .second, .val (.long p2), .second, .val (.double p3), .second] [(.ref a1)])) (fun t k => XS.aloadN X12.here hx rfl (hb hby d1_9) rfl rfl k) ?_
  refine own_by (T' := T12) (f' := (mkF m 11 #[.val (.ref a1), .val (.long p1), .second, .val (.long p2), .second, .val (.double p3), .second] [(.long p2), (.ref a1)])) (fun t k => XS.lloadN X12.here hx rfl (hb hby d1_10) rfl k) ?_
  have f15 := (F1.other W12 (Or.inr (slot_ne (Or.inr (hw _ (List.mem_of_getElem? (i := 17) rfl))) (Or.inr (hw _ (List.mem_of_getElem? (i := 15) rfl))) (by decide) (t := .long) (t' := .long) (by decide) (by decide))))
  have f16 := (E1.wr W12)
  refine own_putF (host := "") X12 hx hZ hown e12 (hb hby d1_11) (Or.inl (hw _ (List.mem_of_getElem? (i := 16) rfl))) Via.refl f15 f16 (Or.inr ⟨(hw _ (List.mem_of_getElem? (i := 17) rfl)), rfl, hnm⟩) (hw _ (List.mem_of_getElem? (i := 1) rfl)) (ty := .long) (by decide) rfl rfl ?_
  intro T17 h17 X17 e17 W17
  show own_Go p e below _ T17 (mkF m 14 #[.val (.ref a1), .val (.long p1), .second, .val (.long p2), .second, .val (.double p3), .second] [])
  have F17 := f15.same W17
  have sz18 : n0 ≤ h17.size := by rw [W17.size]; exact sz13
  have K19 := K14.wr W17 (Or.inl (List.mem_of_getElem? (i := 0) rfl))
  have N17 := Fr.snoc X17 N12 g1
  refine own_by (T' := T17) (f' := (mkF m 15 #[.val (.ref a1), .val (.long p1), .second, .val (.long p2), .second, .val (.double p3), .second] [(.ref a1)])) (fun t k => XS.aloadN X17.here hx rfl (hb hby d1_14) rfl rfl k) ?_
  refine own_by (T' := T17) (f' := (mkF m 17 #[.val (.ref a1), .val (.long p1), .second, .val (.long p2), .second, .val (.double p3), .second] [(.double p3), (.ref a1)])) (fun t k => XS.dload X17.here hx rfl (hb hby d1_15) rfl k) ?_
  have f20 := ((F2.other W12 (Or.inr (slot_ne (Or.inr (hw _ (List.mem_of_getElem? (i := 19) rfl))) (Or.inr (hw _ (List.mem_of_getElem? (i := 15) rfl))) (by decide) (t := .double) (t' := .long) (by decide) (by decide)))).other W17 (Or.inr (slot_ne (Or.inr (hw _ (List.mem_of_getElem? (i := 19) rfl))) (Or.inr (hw _ (List.mem_of_getElem? (i := 17) rfl))) (by decide) (t := .double) (t' := .long) (by decide) (by decide))))
  have f21 := (f16.wr W17)
  refine own_putF (host := "") X17 hx hZ hown e17 (hb hby d1_17) (Or.inl (hw _ (List.mem_of_getElem? (i := 18) rfl))) Via.refl f20 f21 (Or.inr ⟨(hw _ (List.mem_of_getElem? (i := 19) rfl)), rfl, hnm⟩) (hw _ (List.mem_of_getElem? (i := 1) rfl)) (ty := .double) (by decide) rfl rfl ?_
  intro T22 h22 X22 e22 W22
  show own_Go p e below _ T22 (mkF m 20 #[.val (.ref a1), .val (.long p1), .second, .val (.long p2), .second, .val (.double p3), .second] [])
  have F22 := f20.same W22
  have sz23 : n0 ≤ h22.size := by rw [W22.size]; exact sz18
  have K24 := K19.wr W22 (Or.inl (List.mem_of_getElem? (i := 0) rfl))
  have N22 := Fr.snoc X22 N17 g1
  have f25 := (f21.wr W22)
  have f26 := ((F12.other W17 (Or.inr (slot_ne (Or.inr (hw _ (List.mem_of_getElem? (i := 15) rfl))) (Or.inr (hw _ (List.mem_of_getElem? (i := 17) rfl))) (by decide) (t := .long) (t' := .long) (by decide) (by decide)))).other W22 (Or.inr (slot_ne (Or.inr (hw _ (List.mem_of_getElem? (i := 15) rfl))) (Or.inr (hw _ (List.mem_of_getElem? (i := 19) rfl))) (by decide) (t := .long) (t' := .double) (by decide) (by decide))))
  have f27 := (F17.other W22 (Or.inr (slot_ne (Or.inr (hw _ (List.mem_of_getElem? (i := 17) rfl))) (Or.inr (hw _ (List.mem_of_getElem? (i := 19) rfl))) (by decide) (t := .long) (t' := .double) (by decide) (by decide))))
  refine own_retV X22 hx hret hlk (hb hby d1_20) (by decide) (by decide) ?_
  try rw [e22]
  exact ⟨rfl, N22, K24, f25, f26, f27, F22⟩
theorem ef_rmP (m : MethodId) (x0 : Addr) (x1 : Addr) : entryFrame m #[(.ref x0), (.ref x1)] 2 = mkF m 0 #[.val (.ref x0), .val (.ref x1)] [] := by first | (simp [entryFrame, mkF, argsToLocals, Value.category]; done) | rfl
set_option maxRecDepth 65536 in
set_option maxHeartbeats 40000000 in
theorem rmP (l : Launch) (Z : State) (a0 : Array Value) (hw : ∀ d ∈ tables_1, d.before a0 Z = true) (ws : List Jvm.Cond) (a1 a2 : Addr) (p0 p1 q0 q1 : Int64) (p2 q2 : UInt64) (h0 : Heap) (n0 : Nat) (Z0 : n0 ≤ h0.size) (hnn : Jvm.Free.Fl.NoNaN64 (FP.dadd p2 q2)) (F0 : Fld Z h0 a1 "com/example/kissena/kissena/BeliefStatistics$Term" "documents" "J" (.long p0)) (F1 : Fld Z h0 a1 "com/example/kissena/kissena/BeliefStatistics$Term" "occurrences" "J" (.long p1)) (F2 : Fld Z h0 a1 "com/example/kissena/kissena/BeliefStatistics$Term" "beliefs" "D" (.double p2)) (G0 : Fld Z h0 a2 "com/example/kissena/kissena/BeliefStatistics$Term" "documents" "J" (.long q0)) (G1 : Fld Z h0 a2 "com/example/kissena/kissena/BeliefStatistics$Term" "occurrences" "J" (.long q1)) (G2 : Fld Z h0 a2 "com/example/kissena/kissena/BeliefStatistics$Term" "beliefs" "D" (.double q2)) :
    own_Ct l Z (⟨"com/example/kissena/kissena/BeliefStatistics$Term", "plus", "(Lcom/example/kissena/kissena/BeliefStatistics$Term;)Lcom/example/kissena/kissena/BeliefStatistics$Term;"⟩ : MethodName) prog_2_method_2_code 2 (some (.object "com/example/kissena/kissena/BeliefStatistics$Term")) ws ({ frames := 3, cells := 1, slots := 3, locals := 80 } : Room) #[(.ref a1), (.ref a2)] h0 (fun v h L => ∃ b : Addr, v = some (.ref b) ∧ Fr n0 L ∧ Keep h0 h [] ∧ Exa Z h b "com/example/kissena/kissena/BeliefStatistics$Term" ∧ Fld Z h b "com/example/kissena/kissena/BeliefStatistics$Term" "documents" "J" (.long (p0 + q0)) ∧ Fld Z h b "com/example/kissena/kissena/BeliefStatistics$Term" "occurrences" "J" (.long (p1 + q1)) ∧ Fld Z h b "com/example/kissena/kissena/BeliefStatistics$Term" "beliefs" "D" (.double (FP.dadd p2 q2))) := by
  refine own_of pn_com_example_kissena_kissena_BeliefStatistics_Term ?_
  intro p e s m below meth c s₁ hx hby hml hown hnm hret hlk hZ X0 e0
  have N0 := Fr.nil n0
  have K0 := Keep.refl h0 []
  rw [ef_rmP]
  refine own_new X0 hx hZ hown e0 (hb hby d4_0) (hw _ (List.mem_of_getElem? (i := 25) rfl)) (hw _ (List.mem_of_getElem? (i := 1) rfl)) (hw _ (List.mem_of_getElem? (i := 2) rfl)) (by decide) (by decide) ?_
  intro T11 h11 b11 X11 e11 g11 E11 A11 D11
  have ne11_a1 : a1 ≠ b11 := Nat.ne_of_lt (by rw [g11]; exact F0.lt)
  have ne11_a2 : a2 ≠ b11 := Nat.ne_of_lt (by rw [g11]; exact G0.lt)
  have gn11 : n0 ≤ b11 := by rw [g11]; exact Z0
  have gh11 : h0.size ≤ b11 := by rw [g11]; exact K0.1
  show own_Go p e below _ T11 (mkF m 3 #[.val (.ref a1), .val (.ref a2)] [(.ref b11)])
  have F11_documents : Fld Z h11 b11 "com/example/kissena/kissena/BeliefStatistics$Term" "documents" "J" (.long (0 : Int64)) := D11 (Or.inr (hw _ (List.mem_of_getElem? (i := 15) rfl))) (ty := .long) (by decide)
  have F11_occurrences : Fld Z h11 b11 "com/example/kissena/kissena/BeliefStatistics$Term" "occurrences" "J" (.long (0 : Int64)) := D11 (Or.inr (hw _ (List.mem_of_getElem? (i := 17) rfl))) (ty := .long) (by decide)
  have F11_beliefs : Fld Z h11 b11 "com/example/kissena/kissena/BeliefStatistics$Term" "beliefs" "D" (.double 0) := D11 (Or.inr (hw _ (List.mem_of_getElem? (i := 19) rfl))) (ty := .double) (by decide)
  have sz12 : n0 ≤ h11.size := Nat.le_trans Z0 E11.1
  have K13 := K0.ext E11
  refine own_by (T' := T11) (f' := (mkF m 4 #[.val (.ref a1), .val (.ref a2)] [(.ref b11), (.ref b11)])) (fun t k => XS.dup X11.here hx rfl (hb hby d4_3) rfl rfl k) ?_
  refine own_by (T' := T11) (f' := (mkF m 5 #[.val (.ref a1), .val (.ref a2)] [(.ref a1), (.ref b11), (.ref b11)])) (fun t k => XS.aloadN X11.here hx rfl (hb hby d4_4) rfl rfl k) ?_
  have f14 := (F0.ext E11)
  refine own_getF (host := "") X11 hx hZ hown e11 (hb hby d4_5) (Or.inl (hw _ (List.mem_of_getElem? (i := 14) rfl))) Via.refl f14 ?_
  intro T15 X15 e15
  show own_Go p e below _ T15 (mkF m 8 #[.val (.ref a1), .val (.ref a2)] [(.long p0), (.ref b11), (.ref b11)])
  refine own_by (T' := T15) (f' := (mkF m 9 #[.val (.ref a1), .val (.ref a2)] [(.ref a2), (.long p0), (.ref b11), (.ref b11)])) (fun t k => XS.aloadN X15.here hx rfl (hb hby d4_8) rfl rfl k) ?_
  have f16 := (G0.ext E11)
  refine own_getF (host := "") X15 hx hZ hown e15 (hb hby d4_9) (Or.inl (hw _ (List.mem_of_getElem? (i := 14) rfl))) Via.refl f16 ?_
  intro T17 X17 e17
  show own_Go p e below _ T17 (mkF m 12 #[.val (.ref a1), .val (.ref a2)] [(.long q0), (.long p0), (.ref b11), (.ref b11)])
  refine own_by (T' := T17) (f' := (mkF m 13 #[.val (.ref a1), .val (.ref a2)] [(.long (p0 + q0)), (.ref b11), (.ref b11)])) (fun t k => XS.ladd X17.here hx rfl (hb hby d4_12) rfl k) ?_
  refine own_by (T' := T17) (f' := (mkF m 14 #[.val (.ref a1), .val (.ref a2)] [(.ref a1), (.long (p0 + q0)), (.ref b11), (.ref b11)])) (fun t k => XS.aloadN X17.here hx rfl (hb hby d4_13) rfl rfl k) ?_
  have f18 := (F1.ext E11)
  refine own_getF (host := "") X17 hx hZ hown e17 (hb hby d4_14) (Or.inl (hw _ (List.mem_of_getElem? (i := 16) rfl))) Via.refl f18 ?_
  intro T19 X19 e19
  show own_Go p e below _ T19 (mkF m 17 #[.val (.ref a1), .val (.ref a2)] [(.long p1), (.long (p0 + q0)), (.ref b11), (.ref b11)])
  refine own_by (T' := T19) (f' := (mkF m 18 #[.val (.ref a1), .val (.ref a2)] [(.ref a2), (.long p1), (.long (p0 + q0)), (.ref b11), (.ref b11)])) (fun t k => XS.aloadN X19.here hx rfl (hb hby d4_17) rfl rfl k) ?_
  have f20 := (G1.ext E11)
  refine own_getF (host := "") X19 hx hZ hown e19 (hb hby d4_18) (Or.inl (hw _ (List.mem_of_getElem? (i := 16) rfl))) Via.refl f20 ?_
  intro T21 X21 e21
  show own_Go p e below _ T21 (mkF m 21 #[.val (.ref a1), .val (.ref a2)] [(.long q1), (.long p1), (.long (p0 + q0)), (.ref b11), (.ref b11)])
  refine own_by (T' := T21) (f' := (mkF m 22 #[.val (.ref a1), .val (.ref a2)] [(.long (p1 + q1)), (.long (p0 + q0)), (.ref b11), (.ref b11)])) (fun t k => XS.ladd X21.here hx rfl (hb hby d4_21) rfl k) ?_
  refine own_by (T' := T21) (f' := (mkF m 23 #[.val (.ref a1), .val (.ref a2)] [(.ref a1), (.long (p1 + q1)), (.long (p0 + q0)), (.ref b11), (.ref b11)])) (fun t k => XS.aloadN X21.here hx rfl (hb hby d4_22) rfl rfl k) ?_
  have f22 := (F2.ext E11)
  refine own_getF (host := "") X21 hx hZ hown e21 (hb hby d4_23) (Or.inl (hw _ (List.mem_of_getElem? (i := 18) rfl))) Via.refl f22 ?_
  intro T23 X23 e23
  show own_Go p e below _ T23 (mkF m 26 #[.val (.ref a1), .val (.ref a2)] [(.double p2), (.long (p1 + q1)), (.long (p0 + q0)), (.ref b11), (.ref b11)])
  refine own_by (T' := T23) (f' := (mkF m 27 #[.val (.ref a1), .val (.ref a2)] [(.ref a2), (.double p2), (.long (p1 + q1)), (.long (p0 + q0)), (.ref b11), (.ref b11)])) (fun t k => XS.aloadN X23.here hx rfl (hb hby d4_26) rfl rfl k) ?_
  have f24 := (G2.ext E11)
  refine own_getF (host := "") X23 hx hZ hown e23 (hb hby d4_27) (Or.inl (hw _ (List.mem_of_getElem? (i := 18) rfl))) Via.refl f24 ?_
  intro T25 X25 e25
  show own_Go p e below _ T25 (mkF m 30 #[.val (.ref a1), .val (.ref a2)] [(.double q2), (.double p2), (.long (p1 + q1)), (.long (p0 + q0)), (.ref b11), (.ref b11)])
  refine own_by (T' := T25) (f' := (mkF m 31 #[.val (.ref a1), .val (.ref a2)] [(.double (FP.dadd p2 q2)), (.long (p1 + q1)), (.long (p0 + q0)), (.ref b11), (.ref b11)])) (fun t k => XS.daddS X25.here hx rfl (hb hby d4_30) rfl hnn rfl k) ?_
  refine own_callN X25 hx hZ hown e25 (hb hby d4_31) [(.long (p0 + q0)), (.long (p1 + q1)), (.double (FP.dadd p2 q2))] [(.ref b11)] 1 (rmI l Z a0 hw [] b11 (p0 + q0) (p1 + q1) (FP.dadd p2 q2) _ _ _ h11 n0 sz12 gn11 A11 F11_documents F11_occurrences F11_beliefs) (hw _ (List.mem_of_getElem? (i := 26) rfl)) (hw _ (List.mem_of_getElem? (i := 4) rfl)) (hw _ (List.mem_of_getElem? (i := 2) rfl)) (hw _ (List.mem_of_getElem? (i := 5) rfl)) rfl (by decide) pd__JJD_V (by rw [hml]; rfl) rfl rfl (Nat.le_of_eq rfl) (by decide) (by decide) (by decide) (by decide) ?_
  rintro T26 _ L26 X26 ⟨rfl, N26q, K26, A26, F26a, F26b, F26c⟩
  show own_Go p e below _ T26 (mkF m 34 #[.val (.ref a1), .val (.ref a2)] [(.ref b11)])
  have N26 := Fr.app N0 N26q
  have sz27 : n0 ≤ T26.heap.size := Nat.le_trans sz12 K26.1
  have K28 := K13.trans K26 (allS (Or.inr gh11) all0)
  refine own_retA X26 hx hret hlk (hb hby d4_34) rfl rfl rfl (by decide) (by decide) ?_
  exact ⟨b11, rfl, N26, K28, A26, F26a, F26b, F26c⟩
theorem ef_rm_documents (m : MethodId) (x0 : Addr) : entryFrame m #[(.ref x0)] 1 = mkF m 0 #[.val (.ref x0)] [] := by first | (simp [entryFrame, mkF, argsToLocals, Value.category]; done) | rfl
set_option maxRecDepth 65536 in
set_option maxHeartbeats 40000000 in
theorem rm_documents (l : Launch) (Z : State) (a0 : Array Value) (hw : ∀ d ∈ tables_1, d.before a0 Z = true) (ws : List Jvm.Cond) (a1 : Addr) (w1 : Int64) (h0 : Heap) (F1 : Fld Z h0 a1 "com/example/kissena/kissena/BeliefStatistics$Term" "documents" "J" (.long w1)) :
    own_Ct l Z (⟨"com/example/kissena/kissena/BeliefStatistics$Term", "documents", "()J"⟩ : MethodName) prog_2_method_6_code 1 (some .long) ws ({ frames := 0, cells := 0, slots := 0, locals := 0 } : Room) #[(.ref a1)] h0 (fun v h L => v = some (.long w1) ∧ L = [] ∧ h = h0) := by
  refine own_of pn_com_example_kissena_kissena_BeliefStatistics_Term ?_
  intro p e s m below meth c s₁ hx hby hml hown hnm hret hlk hZ X0 e0
  rw [ef_rm_documents]
  refine own_by (T' := s₁) (f' := (mkF m 1 #[.val (.ref a1)] [(.ref a1)])) (fun t k => XS.aloadN X0.here hx rfl (hb hby d5_0) rfl rfl k) ?_
  refine own_getF (host := "") X0 hx hZ hown e0 (hb hby d5_1) (Or.inl (hw _ (List.mem_of_getElem? (i := 14) rfl))) Via.refl F1 ?_
  intro T11 X11 e11
  show own_Go p e below _ T11 (mkF m 4 #[.val (.ref a1)] [(.long w1)])
  refine own_retJ X11 hx hret hlk (hb hby d5_4) (by decide) (by decide) ?_
  try rw [e11]
  exact ⟨rfl, rfl, rfl⟩
theorem ef_rm_occurrences (m : MethodId) (x0 : Addr) : entryFrame m #[(.ref x0)] 1 = mkF m 0 #[.val (.ref x0)] [] := by first | (simp [entryFrame, mkF, argsToLocals, Value.category]; done) | rfl
set_option maxRecDepth 65536 in
set_option maxHeartbeats 40000000 in
theorem rm_occurrences (l : Launch) (Z : State) (a0 : Array Value) (hw : ∀ d ∈ tables_1, d.before a0 Z = true) (ws : List Jvm.Cond) (a1 : Addr) (w1 : Int64) (h0 : Heap) (F1 : Fld Z h0 a1 "com/example/kissena/kissena/BeliefStatistics$Term" "occurrences" "J" (.long w1)) :
    own_Ct l Z (⟨"com/example/kissena/kissena/BeliefStatistics$Term", "occurrences", "()J"⟩ : MethodName) prog_2_method_7_code 1 (some .long) ws ({ frames := 0, cells := 0, slots := 0, locals := 0 } : Room) #[(.ref a1)] h0 (fun v h L => v = some (.long w1) ∧ L = [] ∧ h = h0) := by
  refine own_of pn_com_example_kissena_kissena_BeliefStatistics_Term ?_
  intro p e s m below meth c s₁ hx hby hml hown hnm hret hlk hZ X0 e0
  rw [ef_rm_occurrences]
  refine own_by (T' := s₁) (f' := (mkF m 1 #[.val (.ref a1)] [(.ref a1)])) (fun t k => XS.aloadN X0.here hx rfl (hb hby d6_0) rfl rfl k) ?_
  refine own_getF (host := "") X0 hx hZ hown e0 (hb hby d6_1) (Or.inl (hw _ (List.mem_of_getElem? (i := 16) rfl))) Via.refl F1 ?_
  intro T11 X11 e11
  show own_Go p e below _ T11 (mkF m 4 #[.val (.ref a1)] [(.long w1)])
  refine own_retJ X11 hx hret hlk (hb hby d6_4) (by decide) (by decide) ?_
  try rw [e11]
  exact ⟨rfl, rfl, rfl⟩
theorem ef_rm_beliefs (m : MethodId) (x0 : Addr) : entryFrame m #[(.ref x0)] 1 = mkF m 0 #[.val (.ref x0)] [] := by first | (simp [entryFrame, mkF, argsToLocals, Value.category]; done) | rfl
set_option maxRecDepth 65536 in
set_option maxHeartbeats 40000000 in
theorem rm_beliefs (l : Launch) (Z : State) (a0 : Array Value) (hw : ∀ d ∈ tables_1, d.before a0 Z = true) (ws : List Jvm.Cond) (a1 : Addr) (w1 : UInt64) (h0 : Heap) (F1 : Fld Z h0 a1 "com/example/kissena/kissena/BeliefStatistics$Term" "beliefs" "D" (.double w1)) :
    own_Ct l Z (⟨"com/example/kissena/kissena/BeliefStatistics$Term", "beliefs", "()D"⟩ : MethodName) prog_2_method_8_code 1 (some .double) ws ({ frames := 0, cells := 0, slots := 0, locals := 0 } : Room) #[(.ref a1)] h0 (fun v h L => v = some (.double w1) ∧ L = [] ∧ h = h0) := by
  refine own_of pn_com_example_kissena_kissena_BeliefStatistics_Term ?_
  intro p e s m below meth c s₁ hx hby hml hown hnm hret hlk hZ X0 e0
  rw [ef_rm_beliefs]
  refine own_by (T' := s₁) (f' := (mkF m 1 #[.val (.ref a1)] [(.ref a1)])) (fun t k => XS.aloadN X0.here hx rfl (hb hby d7_0) rfl rfl k) ?_
  refine own_getF (host := "") X0 hx hZ hown e0 (hb hby d7_1) (Or.inl (hw _ (List.mem_of_getElem? (i := 18) rfl))) Via.refl F1 ?_
  intro T11 X11 e11
  show own_Go p e below _ T11 (mkF m 4 #[.val (.ref a1)] [(.double w1)])
  refine own_ret X11 hx hret hlk (hb hby d7_4) rfl (Or.inr (Or.inr (Or.inl ⟨rfl, rfl, _, rfl⟩))) (by decide) (by decide) ?_
  try rw [e11]
  exact ⟨rfl, rfl, rfl⟩
theorem own_b53 (x : Int32) : B53 x.toInt64 := by
  have h := c_i2l x
  have r := rng32 x
  exact ⟨by omega, by omega⟩
theorem own_sum (x y : Int32) : FP.dadd (FP.i2d x) (FP.i2d y) = FP.l2d (x.toInt64 + y.toInt64) := by rw [i2d_w, i2d_w, dadd_w (own_b53 x) (own_b53 y)]
theorem own_nn {x y : Int32} : Jvm.Free.Fl.NoNaN64 (FP.dadd (FP.i2d x) (FP.i2d y)) := nn_w (own_sum x y)
theorem own_cmp (x y : Int32) : cmpValue (FP.dcmp (FP.dadd (FP.i2d x) (FP.i2d y)) (FP.l2d (x.toInt64 + y.toInt64))) .l = 0 := by rw [own_sum]; exact dcmpV_self (nn_w rfl) _
theorem ef_rm0 (m : MethodId) (x0 : Int64) (x1 : Int64) (x2 : Int64) (x3 : Int64) (x4 : Int32) (x5 : Int32) : entryFrame m #[(.long x0), (.long x1), (.long x2), (.long x3), (.int x4), (.int x5)] maxLocals = mkF m 0 #[.val (.long x0), .second, .val (.long x1), .second, .val (.long x2), .second, .val (.long x3), .second, .val (.int x4), .val (.int x5), .unset, .unset, .unset, .unset, .unset, .unset, .unset, .unset, .unset] [] := by first | (simp [entryFrame, mkF, argsToLocals, Value.category, maxLocals]; done) | rfl
set_option maxRecDepth 65536 in
set_option maxHeartbeats 40000000 in
theorem rm0 (l : Launch) (Z : State) (a0 : Array Value) (hw : ∀ d ∈ tables_1, d.before a0 Z = true) (ws : List Jvm.Cond) (i0 i1 i2 i3 : Int64) (i4 i5 : Int32) (h0 : Heap) (n0 : Nat) (Z0 : n0 ≤ h0.size) :
    own_Ct l Z x code maxLocals ret ws room_1 #[(.long i0), (.long i1), (.long i2), (.long i3), (.int i4), (.int i5)] h0 (fun v h L => v = some (.int 1) ∧ Fr n0 L) := by
  refine own_of pn_com_example_kissena_kissena_TermPlusPinLaw ?_
  intro p e s m below meth c s₁ hx hby hml hown hnm hret hlk hZ X0 e0
  have N0 := Fr.nil n0
  rw [ef_rm0]
  refine own_new X0 hx hZ hown e0 (hb hby at_0) (hw _ (List.mem_of_getElem? (i := 0) rfl)) (hw _ (List.mem_of_getElem? (i := 1) rfl)) (hw _ (List.mem_of_getElem? (i := 2) rfl)) (by decide) (by decide) ?_
  intro T1 h1 b1 X1 e1 g1 E1 A1 D1
  have gn1 : n0 ≤ b1 := by rw [g1]; exact Z0
  show own_Go p e below _ T1 (mkF m 3 #[.val (.long i0), .second, .val (.long i1), .second, .val (.long i2), .second, .val (.long i3), .second, .val (.int i4), .val (.int i5), .unset, .unset, .unset, .unset, .unset, .unset, .unset, .unset, .unset] [(.ref b1)])
  have F1_documents : Fld Z h1 b1 "com/example/kissena/kissena/BeliefStatistics$Term" "documents" "J" (.long (0 : Int64)) := D1 (Or.inr (hw _ (List.mem_of_getElem? (i := 15) rfl))) (ty := .long) (by decide)
  have F1_occurrences : Fld Z h1 b1 "com/example/kissena/kissena/BeliefStatistics$Term" "occurrences" "J" (.long (0 : Int64)) := D1 (Or.inr (hw _ (List.mem_of_getElem? (i := 17) rfl))) (ty := .long) (by decide)
  have F1_beliefs : Fld Z h1 b1 "com/example/kissena/kissena/BeliefStatistics$Term" "beliefs" "D" (.double 0) := D1 (Or.inr (hw _ (List.mem_of_getElem? (i := 19) rfl))) (ty := .double) (by decide)
  have sz2 : n0 ≤ h1.size := Nat.le_trans Z0 E1.1
  refine own_by (T' := T1) (f' := (mkF m 4 #[.val (.long i0), .second, .val (.long i1), .second, .val (.long i2), .second, .val (.long i3), .second, .val (.int i4), .val (.int i5), .unset, .unset, .unset, .unset, .unset, .unset, .unset, .unset, .unset] [(.ref b1), (.ref b1)])) (fun t k => XS.dup X1.here hx rfl (hb hby at_3) rfl rfl k) ?_
  refine own_by (T' := T1) (f' := (mkF m 5 #[.val (.long i0), .second, .val (.long i1), .second, .val (.long i2), .second, .val (.long i3), .second, .val (.int i4), .val (.int i5), .unset, .unset, .unset, .unset, .unset, .unset, .unset, .unset, .unset] [(.long i0), (.ref b1), (.ref b1)])) (fun t k => XS.lloadN X1.here hx rfl (hb hby at_4) rfl k) ?_
  refine own_by (T' := T1) (f' := (mkF m 6 #[.val (.long i0), .second, .val (.long i1), .second, .val (.long i2), .second, .val (.long i3), .second, .val (.int i4), .val (.int i5), .unset, .unset, .unset, .unset, .unset, .unset, .unset, .unset, .unset] [(.long i1), (.long i0), (.ref b1), (.ref b1)])) (fun t k => XS.lloadN X1.here hx rfl (hb hby at_5) rfl k) ?_
  refine own_by (T' := T1) (f' := (mkF m 8 #[.val (.long i0), .second, .val (.long i1), .second, .val (.long i2), .second, .val (.long i3), .second, .val (.int i4), .val (.int i5), .unset, .unset, .unset, .unset, .unset, .unset, .unset, .unset, .unset] [(.int i4), (.long i1), (.long i0), (.ref b1), (.ref b1)])) (fun t k => XS.iload X1.here hx rfl (hb hby at_6) rfl k) ?_
  refine own_by (T' := T1) (f' := (mkF m 9 #[.val (.long i0), .second, .val (.long i1), .second, .val (.long i2), .second, .val (.long i3), .second, .val (.int i4), .val (.int i5), .unset, .unset, .unset, .unset, .unset, .unset, .unset, .unset, .unset] [(.double (FP.i2d i4)), (.long i1), (.long i0), (.ref b1), (.ref b1)])) (fun t k => XS.i2dS X1.here hx rfl (hb hby at_8) rfl rfl k) ?_
  refine own_callN X1 hx hZ hown e1 (hb hby at_9) [(.long i0), (.long i1), (.double (FP.i2d i4))] [(.ref b1)] 1 (rmI l Z a0 hw [] b1 i0 i1 (FP.i2d i4) _ _ _ h1 n0 sz2 gn1 A1 F1_documents F1_occurrences F1_beliefs) (hw _ (List.mem_of_getElem? (i := 3) rfl)) (hw _ (List.mem_of_getElem? (i := 4) rfl)) (hw _ (List.mem_of_getElem? (i := 2) rfl)) (hw _ (List.mem_of_getElem? (i := 5) rfl)) rfl (by decide) pd__JJD_V (by rw [hml]; rfl) rfl rfl (Nat.le_of_eq rfl) (by decide) (by decide) (by decide) (by decide) ?_
  rintro T3 _ L3 X3 ⟨rfl, N3q, K3, A3, F3a, F3b, F3c⟩
  show own_Go p e below _ T3 (mkF m 12 #[.val (.long i0), .second, .val (.long i1), .second, .val (.long i2), .second, .val (.long i3), .second, .val (.int i4), .val (.int i5), .unset, .unset, .unset, .unset, .unset, .unset, .unset, .unset, .unset] [(.ref b1)])
  have N3 := Fr.app N0 N3q
  have sz4 : n0 ≤ T3.heap.size := Nat.le_trans sz2 K3.1
  refine own_by (T' := T3) (f' := (mkF m 14 #[.val (.long i0), .second, .val (.long i1), .second, .val (.long i2), .second, .val (.long i3), .second, .val (.int i4), .val (.int i5), .val (.ref b1), .unset, .unset, .unset, .unset, .unset, .unset, .unset, .unset] [])) (fun t k => XS.astore X3.here hx rfl (hb hby at_12) rfl rfl (l' := #[.val (.long i0), .second, .val (.long i1), .second, .val (.long i2), .second, .val (.long i3), .second, .val (.int i4), .val (.int i5), .val (.ref b1), .unset, .unset, .unset, .unset, .unset, .unset, .unset, .unset]) rfl k) ?_
  refine own_new X3 hx hZ hown rfl (hb hby at_14) (hw _ (List.mem_of_getElem? (i := 0) rfl)) (hw _ (List.mem_of_getElem? (i := 1) rfl)) (hw _ (List.mem_of_getElem? (i := 2) rfl)) (by decide) (by decide) ?_
  intro T5 h5 b5 X5 e5 g5 E5 A5 D5
  have ne5_b1 : b1 ≠ b5 := Nat.ne_of_lt (by rw [g5]; exact A3.lt)
  have gn5 : n0 ≤ b5 := by rw [g5]; exact sz4
  show own_Go p e below _ T5 (mkF m 17 #[.val (.long i0), .second, .val (.long i1), .second, .val (.long i2), .second, .val (.long i3), .second, .val (.int i4), .val (.int i5), .val (.ref b1), .unset, .unset, .unset, .unset, .unset, .unset, .unset, .unset] [(.ref b5)])
  have F5_documents : Fld Z h5 b5 "com/example/kissena/kissena/BeliefStatistics$Term" "documents" "J" (.long (0 : Int64)) := D5 (Or.inr (hw _ (List.mem_of_getElem? (i := 15) rfl))) (ty := .long) (by decide)
  have F5_occurrences : Fld Z h5 b5 "com/example/kissena/kissena/BeliefStatistics$Term" "occurrences" "J" (.long (0 : Int64)) := D5 (Or.inr (hw _ (List.mem_of_getElem? (i := 17) rfl))) (ty := .long) (by decide)
  have F5_beliefs : Fld Z h5 b5 "com/example/kissena/kissena/BeliefStatistics$Term" "beliefs" "D" (.double 0) := D5 (Or.inr (hw _ (List.mem_of_getElem? (i := 19) rfl))) (ty := .double) (by decide)
  have sz6 : n0 ≤ h5.size := Nat.le_trans sz4 E5.1
  refine own_by (T' := T5) (f' := (mkF m 18 #[.val (.long i0), .second, .val (.long i1), .second, .val (.long i2), .second, .val (.long i3), .second, .val (.int i4), .val (.int i5), .val (.ref b1), .unset, .unset, .unset, .unset, .unset, .unset, .unset, .unset] [(.ref b5), (.ref b5)])) (fun t k => XS.dup X5.here hx rfl (hb hby at_17) rfl rfl k) ?_
  refine own_by (T' := T5) (f' := (mkF m 20 #[.val (.long i0), .second, .val (.long i1), .second, .val (.long i2), .second, .val (.long i3), .second, .val (.int i4), .val (.int i5), .val (.ref b1), .unset, .unset, .unset, .unset, .unset, .unset, .unset, .unset] [(.long i2), (.ref b5), (.ref b5)])) (fun t k => XS.lload X5.here hx rfl (hb hby at_18) rfl k) ?_
  refine own_by (T' := T5) (f' := (mkF m 22 #[.val (.long i0), .second, .val (.long i1), .second, .val (.long i2), .second, .val (.long i3), .second, .val (.int i4), .val (.int i5), .val (.ref b1), .unset, .unset, .unset, .unset, .unset, .unset, .unset, .unset] [(.long i3), (.long i2), (.ref b5), (.ref b5)])) (fun t k => XS.lload X5.here hx rfl (hb hby at_20) rfl k) ?_
  refine own_by (T' := T5) (f' := (mkF m 24 #[.val (.long i0), .second, .val (.long i1), .second, .val (.long i2), .second, .val (.long i3), .second, .val (.int i4), .val (.int i5), .val (.ref b1), .unset, .unset, .unset, .unset, .unset, .unset, .unset, .unset] [(.int i5), (.long i3), (.long i2), (.ref b5), (.ref b5)])) (fun t k => XS.iload X5.here hx rfl (hb hby at_22) rfl k) ?_
  refine own_by (T' := T5) (f' := (mkF m 25 #[.val (.long i0), .second, .val (.long i1), .second, .val (.long i2), .second, .val (.long i3), .second, .val (.int i4), .val (.int i5), .val (.ref b1), .unset, .unset, .unset, .unset, .unset, .unset, .unset, .unset] [(.double (FP.i2d i5)), (.long i3), (.long i2), (.ref b5), (.ref b5)])) (fun t k => XS.i2dS X5.here hx rfl (hb hby at_24) rfl rfl k) ?_
  refine own_callN X5 hx hZ hown e5 (hb hby at_25) [(.long i2), (.long i3), (.double (FP.i2d i5))] [(.ref b5)] 1 (rmI l Z a0 hw [] b5 i2 i3 (FP.i2d i5) _ _ _ h5 n0 sz6 gn5 A5 F5_documents F5_occurrences F5_beliefs) (hw _ (List.mem_of_getElem? (i := 3) rfl)) (hw _ (List.mem_of_getElem? (i := 4) rfl)) (hw _ (List.mem_of_getElem? (i := 2) rfl)) (hw _ (List.mem_of_getElem? (i := 5) rfl)) rfl (by decide) pd__JJD_V (by rw [hml]; rfl) rfl rfl (Nat.le_of_eq rfl) (by decide) (by decide) (by decide) (by decide) ?_
  rintro T7 _ L7 X7 ⟨rfl, N7q, K7, A7, F7a, F7b, F7c⟩
  show own_Go p e below _ T7 (mkF m 28 #[.val (.long i0), .second, .val (.long i1), .second, .val (.long i2), .second, .val (.long i3), .second, .val (.int i4), .val (.int i5), .val (.ref b1), .unset, .unset, .unset, .unset, .unset, .unset, .unset, .unset] [(.ref b5)])
  have N7 := Fr.app N3 N7q
  have sz8 : n0 ≤ T7.heap.size := Nat.le_trans sz6 K7.1
  refine own_by (T' := T7) (f' := (mkF m 30 #[.val (.long i0), .second, .val (.long i1), .second, .val (.long i2), .second, .val (.long i3), .second, .val (.int i4), .val (.int i5), .val (.ref b1), .val (.ref b5), .unset, .unset, .unset, .unset, .unset, .unset, .unset] [])) (fun t k => XS.astore X7.here hx rfl (hb hby at_28) rfl rfl (l' := #[.val (.long i0), .second, .val (.long i1), .second, .val (.long i2), .second, .val (.long i3), .second, .val (.int i4), .val (.int i5), .val (.ref b1), .val (.ref b5), .unset, .unset, .unset, .unset, .unset, .unset, .unset]) rfl k) ?_
  refine own_by (T' := T7) (f' := (mkF m 32 #[.val (.long i0), .second, .val (.long i1), .second, .val (.long i2), .second, .val (.long i3), .second, .val (.int i4), .val (.int i5), .val (.ref b1), .val (.ref b5), .unset, .unset, .unset, .unset, .unset, .unset, .unset] [(.ref b1)])) (fun t k => XS.aload X7.here hx rfl (hb hby at_30) rfl rfl k) ?_
  refine own_by (T' := T7) (f' := (mkF m 34 #[.val (.long i0), .second, .val (.long i1), .second, .val (.long i2), .second, .val (.long i3), .second, .val (.int i4), .val (.int i5), .val (.ref b1), .val (.ref b5), .unset, .unset, .unset, .unset, .unset, .unset, .unset] [(.ref b5), (.ref b1)])) (fun t k => XS.aload X7.here hx rfl (hb hby at_32) rfl rfl k) ?_
  have f9 := ((F3a.ext E5).keep K7 (ninS ne5_b1 nin0))
  have f10 := ((F3b.ext E5).keep K7 (ninS ne5_b1 nin0))
  have f11 := ((F3c.ext E5).keep K7 (ninS ne5_b1 nin0))
  have f12 := ((A3.ext E5).keep K7)
  refine own_callV X7 hx hZ hown rfl (hb hby at_34) [(.ref b5)] [] 0 (rmP l Z a0 hw [] b1 b5 _ _ _ _ _ _ T7.heap n0 sz8 own_nn f9 f10 f11 F7a F7b F7c) f12 (hw _ (List.mem_of_getElem? (i := 20) rfl)) (hw _ (List.mem_of_getElem? (i := 21) rfl)) (notFace_of_selects (args := #[]) (mvT hZ (hw _ (List.mem_of_getElem? (i := 23) rfl)))) (hw _ (List.mem_of_getElem? (i := 23) rfl)) (hw _ (List.mem_of_getElem? (i := 22) rfl)) (hw _ (List.mem_of_getElem? (i := 2) rfl)) (hw _ (List.mem_of_getElem? (i := 24) rfl)) (by decide) pd__Lcom_example_kissena_kissena_BeliefStatistics_Term__Lcom_example_kissena_kissena_BeliefStatistics_Term_ (by rw [hml]; rfl) rfl rfl (Nat.le_of_eq rfl) (by decide) (by decide) (by decide) (by decide) ?_
  rintro T13 _ L13 X13 ⟨b13, rfl, N13q, K13, A13, F13a, F13b, F13c⟩
  show own_Go p e below _ T13 (mkF m 37 #[.val (.long i0), .second, .val (.long i1), .second, .val (.long i2), .second, .val (.long i3), .second, .val (.int i4), .val (.int i5), .val (.ref b1), .val (.ref b5), .unset, .unset, .unset, .unset, .unset, .unset, .unset] [(.ref b13)])
  have N13 := Fr.app N7 N13q
  have sz14 : n0 ≤ T13.heap.size := Nat.le_trans sz8 K13.1
  refine own_by (T' := T13) (f' := (mkF m 39 #[.val (.long i0), .second, .val (.long i1), .second, .val (.long i2), .second, .val (.long i3), .second, .val (.int i4), .val (.int i5), .val (.ref b1), .val (.ref b5), .val (.ref b13), .unset, .unset, .unset, .unset, .unset, .unset] [])) (fun t k => XS.astore X13.here hx rfl (hb hby at_37) rfl rfl (l' := #[.val (.long i0), .second, .val (.long i1), .second, .val (.long i2), .second, .val (.long i3), .second, .val (.int i4), .val (.int i5), .val (.ref b1), .val (.ref b5), .val (.ref b13), .unset, .unset, .unset, .unset, .unset, .unset]) rfl k) ?_
  refine own_by (T' := T13) (f' := (mkF m 40 #[.val (.long i0), .second, .val (.long i1), .second, .val (.long i2), .second, .val (.long i3), .second, .val (.int i4), .val (.int i5), .val (.ref b1), .val (.ref b5), .val (.ref b13), .unset, .unset, .unset, .unset, .unset, .unset] [(.long i0)])) (fun t k => XS.lloadN X13.here hx rfl (hb hby at_39) rfl k) ?_
  refine own_by (T' := T13) (f' := (mkF m 42 #[.val (.long i0), .second, .val (.long i1), .second, .val (.long i2), .second, .val (.long i3), .second, .val (.int i4), .val (.int i5), .val (.ref b1), .val (.ref b5), .val (.ref b13), .unset, .unset, .unset, .unset, .unset, .unset] [(.long i2), (.long i0)])) (fun t k => XS.lload X13.here hx rfl (hb hby at_40) rfl k) ?_
  refine own_by (T' := T13) (f' := (mkF m 43 #[.val (.long i0), .second, .val (.long i1), .second, .val (.long i2), .second, .val (.long i3), .second, .val (.int i4), .val (.int i5), .val (.ref b1), .val (.ref b5), .val (.ref b13), .unset, .unset, .unset, .unset, .unset, .unset] [(.long (i0 + i2))])) (fun t k => XS.ladd X13.here hx rfl (hb hby at_42) rfl k) ?_
  refine own_by (T' := T13) (f' := (mkF m 45 #[.val (.long i0), .second, .val (.long i1), .second, .val (.long i2), .second, .val (.long i3), .second, .val (.int i4), .val (.int i5), .val (.ref b1), .val (.ref b5), .val (.ref b13), .val (.long (i0 + i2)), .second, .unset, .unset, .unset, .unset] [])) (fun t k => XS.lstore X13.here hx rfl (hb hby at_43) rfl (l' := #[.val (.long i0), .second, .val (.long i1), .second, .val (.long i2), .second, .val (.long i3), .second, .val (.int i4), .val (.int i5), .val (.ref b1), .val (.ref b5), .val (.ref b13), .val (.long (i0 + i2)), .second, .unset, .unset, .unset, .unset]) rfl k) ?_
  refine own_by (T' := T13) (f' := (mkF m 46 #[.val (.long i0), .second, .val (.long i1), .second, .val (.long i2), .second, .val (.long i3), .second, .val (.int i4), .val (.int i5), .val (.ref b1), .val (.ref b5), .val (.ref b13), .val (.long (i0 + i2)), .second, .unset, .unset, .unset, .unset] [(.long i1)])) (fun t k => XS.lloadN X13.here hx rfl (hb hby at_45) rfl k) ?_
  refine own_by (T' := T13) (f' := (mkF m 48 #[.val (.long i0), .second, .val (.long i1), .second, .val (.long i2), .second, .val (.long i3), .second, .val (.int i4), .val (.int i5), .val (.ref b1), .val (.ref b5), .val (.ref b13), .val (.long (i0 + i2)), .second, .unset, .unset, .unset, .unset] [(.long i3), (.long i1)])) (fun t k => XS.lload X13.here hx rfl (hb hby at_46) rfl k) ?_
  refine own_by (T' := T13) (f' := (mkF m 49 #[.val (.long i0), .second, .val (.long i1), .second, .val (.long i2), .second, .val (.long i3), .second, .val (.int i4), .val (.int i5), .val (.ref b1), .val (.ref b5), .val (.ref b13), .val (.long (i0 + i2)), .second, .unset, .unset, .unset, .unset] [(.long (i1 + i3))])) (fun t k => XS.ladd X13.here hx rfl (hb hby at_48) rfl k) ?_
  refine own_by (T' := T13) (f' := (mkF m 51 #[.val (.long i0), .second, .val (.long i1), .second, .val (.long i2), .second, .val (.long i3), .second, .val (.int i4), .val (.int i5), .val (.ref b1), .val (.ref b5), .val (.ref b13), .val (.long (i0 + i2)), .second, .val (.long (i1 + i3)), .second, .unset, .unset] [])) (fun t k => XS.lstore X13.here hx rfl (hb hby at_49) rfl (l' := #[.val (.long i0), .second, .val (.long i1), .second, .val (.long i2), .second, .val (.long i3), .second, .val (.int i4), .val (.int i5), .val (.ref b1), .val (.ref b5), .val (.ref b13), .val (.long (i0 + i2)), .second, .val (.long (i1 + i3)), .second, .unset, .unset]) rfl k) ?_
  refine own_by (T' := T13) (f' := (mkF m 53 #[.val (.long i0), .second, .val (.long i1), .second, .val (.long i2), .second, .val (.long i3), .second, .val (.int i4), .val (.int i5), .val (.ref b1), .val (.ref b5), .val (.ref b13), .val (.long (i0 + i2)), .second, .val (.long (i1 + i3)), .second, .unset, .unset] [(.int i4)])) (fun t k => XS.iload X13.here hx rfl (hb hby at_51) rfl k) ?_
  refine own_by (T' := T13) (f' := (mkF m 54 #[.val (.long i0), .second, .val (.long i1), .second, .val (.long i2), .second, .val (.long i3), .second, .val (.int i4), .val (.int i5), .val (.ref b1), .val (.ref b5), .val (.ref b13), .val (.long (i0 + i2)), .second, .val (.long (i1 + i3)), .second, .unset, .unset] [(.long (i4.toInt64))])) (fun t k => XS.i2l X13.here hx rfl (hb hby at_53) rfl k) ?_
  refine own_by (T' := T13) (f' := (mkF m 56 #[.val (.long i0), .second, .val (.long i1), .second, .val (.long i2), .second, .val (.long i3), .second, .val (.int i4), .val (.int i5), .val (.ref b1), .val (.ref b5), .val (.ref b13), .val (.long (i0 + i2)), .second, .val (.long (i1 + i3)), .second, .unset, .unset] [(.int i5), (.long (i4.toInt64))])) (fun t k => XS.iload X13.here hx rfl (hb hby at_54) rfl k) ?_
  refine own_by (T' := T13) (f' := (mkF m 57 #[.val (.long i0), .second, .val (.long i1), .second, .val (.long i2), .second, .val (.long i3), .second, .val (.int i4), .val (.int i5), .val (.ref b1), .val (.ref b5), .val (.ref b13), .val (.long (i0 + i2)), .second, .val (.long (i1 + i3)), .second, .unset, .unset] [(.long (i5.toInt64)), (.long (i4.toInt64))])) (fun t k => XS.i2l X13.here hx rfl (hb hby at_56) rfl k) ?_
  refine own_by (T' := T13) (f' := (mkF m 58 #[.val (.long i0), .second, .val (.long i1), .second, .val (.long i2), .second, .val (.long i3), .second, .val (.int i4), .val (.int i5), .val (.ref b1), .val (.ref b5), .val (.ref b13), .val (.long (i0 + i2)), .second, .val (.long (i1 + i3)), .second, .unset, .unset] [(.long ((i4.toInt64) + (i5.toInt64)))])) (fun t k => XS.ladd X13.here hx rfl (hb hby at_57) rfl k) ?_
  refine own_by (T' := T13) (f' := (mkF m 59 #[.val (.long i0), .second, .val (.long i1), .second, .val (.long i2), .second, .val (.long i3), .second, .val (.int i4), .val (.int i5), .val (.ref b1), .val (.ref b5), .val (.ref b13), .val (.long (i0 + i2)), .second, .val (.long (i1 + i3)), .second, .unset, .unset] [(.double (FP.l2d ((i4.toInt64) + (i5.toInt64))))])) (fun t k => XS.l2dS X13.here hx rfl (hb hby at_58) rfl rfl k) ?_
  refine own_by (T' := T13) (f' := (mkF m 61 #[.val (.long i0), .second, .val (.long i1), .second, .val (.long i2), .second, .val (.long i3), .second, .val (.int i4), .val (.int i5), .val (.ref b1), .val (.ref b5), .val (.ref b13), .val (.long (i0 + i2)), .second, .val (.long (i1 + i3)), .second, .val (.double (FP.l2d ((i4.toInt64) + (i5.toInt64)))), .second] [])) (fun t k => XS.dstore X13.here hx rfl (hb hby at_59) rfl (l' := #[.val (.long i0), .second, .val (.long i1), .second, .val (.long i2), .second, .val (.long i3), .second, .val (.int i4), .val (.int i5), .val (.ref b1), .val (.ref b5), .val (.ref b13), .val (.long (i0 + i2)), .second, .val (.long (i1 + i3)), .second, .val (.double (FP.l2d ((i4.toInt64) + (i5.toInt64)))), .second]) rfl k) ?_
  refine own_by (T' := T13) (f' := (mkF m 63 #[.val (.long i0), .second, .val (.long i1), .second, .val (.long i2), .second, .val (.long i3), .second, .val (.int i4), .val (.int i5), .val (.ref b1), .val (.ref b5), .val (.ref b13), .val (.long (i0 + i2)), .second, .val (.long (i1 + i3)), .second, .val (.double (FP.l2d ((i4.toInt64) + (i5.toInt64)))), .second] [(.ref b13)])) (fun t k => XS.aload X13.here hx rfl (hb hby at_61) rfl rfl k) ?_
  refine own_callV X13 hx hZ hown rfl (hb hby at_63) [] [] 0 (rm_documents l Z a0 hw [] b13 _ T13.heap F13a) A13 (hw _ (List.mem_of_getElem? (i := 27) rfl)) (hw _ (List.mem_of_getElem? (i := 28) rfl)) (notFace_of_selects (args := #[]) (mvT hZ (hw _ (List.mem_of_getElem? (i := 30) rfl)))) (hw _ (List.mem_of_getElem? (i := 30) rfl)) (hw _ (List.mem_of_getElem? (i := 29) rfl)) (hw _ (List.mem_of_getElem? (i := 2) rfl)) (hw _ (List.mem_of_getElem? (i := 31) rfl)) (by decide) pd___J (by rw [hml]; rfl) rfl rfl (Nat.le_of_eq rfl) (by decide) (by decide) (by decide) (by decide) ?_
  rintro T15 _ L15 X15 ⟨rfl, rfl, e15⟩
  show own_Go p e below _ T15 (mkF m 66 #[.val (.long i0), .second, .val (.long i1), .second, .val (.long i2), .second, .val (.long i3), .second, .val (.int i4), .val (.int i5), .val (.ref b1), .val (.ref b5), .val (.ref b13), .val (.long (i0 + i2)), .second, .val (.long (i1 + i3)), .second, .val (.double (FP.l2d ((i4.toInt64) + (i5.toInt64)))), .second] [(.long (i0 + i2))])
  rw [List.append_nil] at X15
  refine own_by (T' := T15) (f' := (mkF m 68 #[.val (.long i0), .second, .val (.long i1), .second, .val (.long i2), .second, .val (.long i3), .second, .val (.int i4), .val (.int i5), .val (.ref b1), .val (.ref b5), .val (.ref b13), .val (.long (i0 + i2)), .second, .val (.long (i1 + i3)), .second, .val (.double (FP.l2d ((i4.toInt64) + (i5.toInt64)))), .second] [(.long (i0 + i2)), (.long (i0 + i2))])) (fun t k => XS.lload X15.here hx rfl (hb hby at_66) rfl k) ?_
  refine own_by (T' := T15) (f' := (mkF m 69 #[.val (.long i0), .second, .val (.long i1), .second, .val (.long i2), .second, .val (.long i3), .second, .val (.int i4), .val (.int i5), .val (.ref b1), .val (.ref b5), .val (.ref b13), .val (.long (i0 + i2)), .second, .val (.long (i1 + i3)), .second, .val (.double (FP.l2d ((i4.toInt64) + (i5.toInt64)))), .second] [(.int (lcmpW (i0 + i2) (i0 + i2)))])) (fun t k => XS.lcmp X15.here hx rfl (hb hby at_68) rfl k) ?_
  have hc69_16 : (i0 + i2) = (i0 + i2) := rfl
  refine own_by (T' := T15) (f' := (mkF m 72 #[.val (.long i0), .second, .val (.long i1), .second, .val (.long i2), .second, .val (.long i3), .second, .val (.int i4), .val (.int i5), .val (.ref b1), .val (.ref b5), .val (.ref b13), .val (.long (i0 + i2)), .second, .val (.long (i1 + i3)), .second, .val (.double (FP.l2d ((i4.toInt64) + (i5.toInt64)))), .second] [])) (fun t k => XS.ifNo X15.here hx rfl (hb hby at_69) rfl ((if0 _ _).trans (teq ((lw_eq _ _).mpr hc69_16)).2) k) ?_
  refine own_by (T' := T15) (f' := (mkF m 74 #[.val (.long i0), .second, .val (.long i1), .second, .val (.long i2), .second, .val (.long i3), .second, .val (.int i4), .val (.int i5), .val (.ref b1), .val (.ref b5), .val (.ref b13), .val (.long (i0 + i2)), .second, .val (.long (i1 + i3)), .second, .val (.double (FP.l2d ((i4.toInt64) + (i5.toInt64)))), .second] [(.ref b13)])) (fun t k => XS.aload X15.here hx rfl (hb hby at_72) rfl rfl k) ?_
  refine own_callV X15 hx hZ hown e15 (hb hby at_74) [] [] 0 (rm_occurrences l Z a0 hw [] b13 _ T13.heap F13b) A13 (hw _ (List.mem_of_getElem? (i := 32) rfl)) (hw _ (List.mem_of_getElem? (i := 33) rfl)) (notFace_of_selects (args := #[]) (mvT hZ (hw _ (List.mem_of_getElem? (i := 35) rfl)))) (hw _ (List.mem_of_getElem? (i := 35) rfl)) (hw _ (List.mem_of_getElem? (i := 34) rfl)) (hw _ (List.mem_of_getElem? (i := 2) rfl)) (hw _ (List.mem_of_getElem? (i := 36) rfl)) (by decide) pd___J (by rw [hml]; rfl) rfl rfl (Nat.le_of_eq rfl) (by decide) (by decide) (by decide) (by decide) ?_
  rintro T17 _ L17 X17 ⟨rfl, rfl, e17⟩
  show own_Go p e below _ T17 (mkF m 77 #[.val (.long i0), .second, .val (.long i1), .second, .val (.long i2), .second, .val (.long i3), .second, .val (.int i4), .val (.int i5), .val (.ref b1), .val (.ref b5), .val (.ref b13), .val (.long (i0 + i2)), .second, .val (.long (i1 + i3)), .second, .val (.double (FP.l2d ((i4.toInt64) + (i5.toInt64)))), .second] [(.long (i1 + i3))])
  rw [List.append_nil] at X17
  refine own_by (T' := T17) (f' := (mkF m 79 #[.val (.long i0), .second, .val (.long i1), .second, .val (.long i2), .second, .val (.long i3), .second, .val (.int i4), .val (.int i5), .val (.ref b1), .val (.ref b5), .val (.ref b13), .val (.long (i0 + i2)), .second, .val (.long (i1 + i3)), .second, .val (.double (FP.l2d ((i4.toInt64) + (i5.toInt64)))), .second] [(.long (i1 + i3)), (.long (i1 + i3))])) (fun t k => XS.lload X17.here hx rfl (hb hby at_77) rfl k) ?_
  refine own_by (T' := T17) (f' := (mkF m 80 #[.val (.long i0), .second, .val (.long i1), .second, .val (.long i2), .second, .val (.long i3), .second, .val (.int i4), .val (.int i5), .val (.ref b1), .val (.ref b5), .val (.ref b13), .val (.long (i0 + i2)), .second, .val (.long (i1 + i3)), .second, .val (.double (FP.l2d ((i4.toInt64) + (i5.toInt64)))), .second] [(.int (lcmpW (i1 + i3) (i1 + i3)))])) (fun t k => XS.lcmp X17.here hx rfl (hb hby at_79) rfl k) ?_
  have hc80_18 : (i1 + i3) = (i1 + i3) := rfl
  refine own_by (T' := T17) (f' := (mkF m 83 #[.val (.long i0), .second, .val (.long i1), .second, .val (.long i2), .second, .val (.long i3), .second, .val (.int i4), .val (.int i5), .val (.ref b1), .val (.ref b5), .val (.ref b13), .val (.long (i0 + i2)), .second, .val (.long (i1 + i3)), .second, .val (.double (FP.l2d ((i4.toInt64) + (i5.toInt64)))), .second] [])) (fun t k => XS.ifNo X17.here hx rfl (hb hby at_80) rfl ((if0 _ _).trans (teq ((lw_eq _ _).mpr hc80_18)).2) k) ?_
  refine own_by (T' := T17) (f' := (mkF m 85 #[.val (.long i0), .second, .val (.long i1), .second, .val (.long i2), .second, .val (.long i3), .second, .val (.int i4), .val (.int i5), .val (.ref b1), .val (.ref b5), .val (.ref b13), .val (.long (i0 + i2)), .second, .val (.long (i1 + i3)), .second, .val (.double (FP.l2d ((i4.toInt64) + (i5.toInt64)))), .second] [(.ref b13)])) (fun t k => XS.aload X17.here hx rfl (hb hby at_83) rfl rfl k) ?_
  refine own_callV X17 hx hZ hown e17 (hb hby at_85) [] [] 0 (rm_beliefs l Z a0 hw [] b13 _ T13.heap F13c) A13 (hw _ (List.mem_of_getElem? (i := 37) rfl)) (hw _ (List.mem_of_getElem? (i := 38) rfl)) (notFace_of_selects (args := #[]) (mvT hZ (hw _ (List.mem_of_getElem? (i := 40) rfl)))) (hw _ (List.mem_of_getElem? (i := 40) rfl)) (hw _ (List.mem_of_getElem? (i := 39) rfl)) (hw _ (List.mem_of_getElem? (i := 2) rfl)) (hw _ (List.mem_of_getElem? (i := 41) rfl)) (by decide) pd___D (by rw [hml]; rfl) rfl rfl (Nat.le_of_eq rfl) (by decide) (by decide) (by decide) (by decide) ?_
  rintro T19 _ L19 X19 ⟨rfl, rfl, e19⟩
  show own_Go p e below _ T19 (mkF m 88 #[.val (.long i0), .second, .val (.long i1), .second, .val (.long i2), .second, .val (.long i3), .second, .val (.int i4), .val (.int i5), .val (.ref b1), .val (.ref b5), .val (.ref b13), .val (.long (i0 + i2)), .second, .val (.long (i1 + i3)), .second, .val (.double (FP.l2d ((i4.toInt64) + (i5.toInt64)))), .second] [(.double (FP.dadd (FP.i2d i4) (FP.i2d i5)))])
  rw [List.append_nil] at X19
  refine own_by (T' := T19) (f' := (mkF m 90 #[.val (.long i0), .second, .val (.long i1), .second, .val (.long i2), .second, .val (.long i3), .second, .val (.int i4), .val (.int i5), .val (.ref b1), .val (.ref b5), .val (.ref b13), .val (.long (i0 + i2)), .second, .val (.long (i1 + i3)), .second, .val (.double (FP.l2d ((i4.toInt64) + (i5.toInt64)))), .second] [(.double (FP.l2d ((i4.toInt64) + (i5.toInt64)))), (.double (FP.dadd (FP.i2d i4) (FP.i2d i5)))])) (fun t k => XS.dload X19.here hx rfl (hb hby at_88) rfl k) ?_
  refine own_by (T' := T19) (f' := (mkF m 91 #[.val (.long i0), .second, .val (.long i1), .second, .val (.long i2), .second, .val (.long i3), .second, .val (.int i4), .val (.int i5), .val (.ref b1), .val (.ref b5), .val (.ref b13), .val (.long (i0 + i2)), .second, .val (.long (i1 + i3)), .second, .val (.double (FP.l2d ((i4.toInt64) + (i5.toInt64)))), .second] [(.int (cmpValue (FP.dcmp (FP.dadd (FP.i2d i4) (FP.i2d i5)) (FP.l2d ((i4.toInt64) + (i5.toInt64)))) .l))])) (fun t k => XS.dcmpS X19.here hx rfl (hb hby at_90) rfl rfl k) ?_
  have hc91_20 : (cmpValue (FP.dcmp (FP.dadd (FP.i2d i4) (FP.i2d i5)) (FP.l2d ((i4.toInt64) + (i5.toInt64)))) .l) = (0 : Int32) := own_cmp _ _
  refine own_by (T' := T19) (f' := (mkF m 94 #[.val (.long i0), .second, .val (.long i1), .second, .val (.long i2), .second, .val (.long i3), .second, .val (.int i4), .val (.int i5), .val (.ref b1), .val (.ref b5), .val (.ref b13), .val (.long (i0 + i2)), .second, .val (.long (i1 + i3)), .second, .val (.double (FP.l2d ((i4.toInt64) + (i5.toInt64)))), .second] [])) (fun t k => XS.ifNo X19.here hx rfl (hb hby at_91) rfl ((if0 _ _).trans (teq hc91_20).2) k) ?_
  refine own_by (T' := T19) (f' := (mkF m 95 #[.val (.long i0), .second, .val (.long i1), .second, .val (.long i2), .second, .val (.long i3), .second, .val (.int i4), .val (.int i5), .val (.ref b1), .val (.ref b5), .val (.ref b13), .val (.long (i0 + i2)), .second, .val (.long (i1 + i3)), .second, .val (.double (FP.l2d ((i4.toInt64) + (i5.toInt64)))), .second] [(.int (1 : Int32))])) (fun t k => XS.iconst X19.here hx rfl (hb hby at_94) k) ?_
  refine own_by (T' := T19) (f' := (mkF m 99 #[.val (.long i0), .second, .val (.long i1), .second, .val (.long i2), .second, .val (.long i3), .second, .val (.int i4), .val (.int i5), .val (.ref b1), .val (.ref b5), .val (.ref b13), .val (.long (i0 + i2)), .second, .val (.long (i1 + i3)), .second, .val (.double (FP.l2d ((i4.toInt64) + (i5.toInt64)))), .second] [(.int (1 : Int32))])) (fun t k => XS.goto X19.here hx rfl (pc0 := 95) (pc' := 99) rfl (hb hby at_95) (by decide) (by decide) k) ?_
  refine own_retZ X19 hx hret hlk (hb hby at_99) (Or.inr rfl) (by decide) (by decide) ?_
  try rw [e19]
  exact ⟨rfl, N13⟩
set_option maxRecDepth 65536 in
set_option maxHeartbeats 40000000 in
theorem comes_1 {Post : Tables → Env → Array Value → State → Outcome → State → Prop} (hpost : ∀ tb e args s v u, (limb_1_1.after args s (.returned v) u = true ∧ limb_1_2.after args s (.returned v) u = true ∧ True) → FrameEnd s (.returned v) u (Jvm.fieldLocs frame_1_writes args s ++ Jvm.arrayLocs frame_1_arrays args s ++ Jvm.staticLocs frame_1_statics s) 16 128 → Post tb e args s (.returned v) u) :
    ArmFor flags0 classFile x code maxLocals ret World_1 tables_1 room_1 Calls_1 rest_1 Pre_1 Post := by
  intro l hfl _ _ p e ha hc hk s m args below hf hA hF happ hP
  obtain ⟨hcalls, hrest, hpre⟩ := hP
  obtain ⟨-, -, -, hnamed, -, -, -, hat⟩ := (Spec.applies_iff hf).mp happ
  obtain ⟨hg, hn⟩ := and_e (Cond.before_iff.mp (show (Jvm.Cond.and given_1 narrow_1).before args s = true from hpre))
  obtain ⟨gc, gr0⟩ := and_e hg
  obtain ⟨ga0, gr1⟩ := and_e gr0
  obtain ⟨ga1, gr2⟩ := and_e gr1
  obtain ⟨ga2, gr3⟩ := and_e gr2
  obtain ⟨ga3, gr4⟩ := and_e gr3
  obtain ⟨ga4, gr5⟩ := and_e gr4
  obtain ⟨w0, w1, w2, w3, w4, w5, rfl⟩ : ∃ w0 w1 w2 w3 w4 w5 : Value, args = #[w0, w1, w2, w3, w4, w5] := by
    have hs : args.size = 6 := by simpa [Cond.value, given_1] using gc
    obtain ⟨L⟩ := args
    match L, hs with
    | [w0, w1, w2, w3, w4, w5], _ => exact ⟨w0, w1, w2, w3, w4, w5, rfl⟩
  have hw := fun d (hd : d ∈ tables_1) => atoms_spec (ws := Jvm.Cond.code x code maxLocals ret :: tables_1) hat d (List.mem_cons_of_mem _ hd)
  have hfit : Fit s := fun {y c} hc i hi => by
    obtain ⟨ha, rfl⟩ := Array.getElem?_eq_some_iff.mp hc
    have q := List.all_eq_true.mp ((Array.all_eq_true_iff_forall_mem.mp hF) _ (Array.getElem_mem ha)) i (List.mem_range.mpr hi)
    simpa [Array.getElem?_eq_getElem hi] using q
  obtain ⟨i0, ei0⟩ := isL_v ga0
  obtain rfl : w0 = (.long i0) := Option.some.inj ei0
  obtain ⟨i1, ei1⟩ := isL_v ga1
  obtain rfl : w1 = (.long i1) := Option.some.inj ei1
  obtain ⟨i2, ei2⟩ := isL_v ga2
  obtain rfl : w2 = (.long i2) := Option.some.inj ei2
  obtain ⟨i3, ei3⟩ := isL_v ga3
  obtain rfl : w3 = (.long i3) := Option.some.inj ei3
  obtain ⟨i4, ei4⟩ := is_v ga4
  obtain rfl : w4 = (.int i4) := Option.some.inj ei4
  obtain ⟨i5, ei5⟩ := is_v gr5
  obtain rfl : w5 = (.int i5) := Option.some.inj ei5
  obtain ⟨n, o, h1, h2, h3, _, L, rfl, ⟨rfl, N⟩, hq⟩ := rm0 l s _ hw tables_1 i0 i1 i2 i3 i4 i5 s.heap s.heap.size (Nat.le_refl _) p e ha hc hk s m _ below hf ((Spec.applies_iff_loose hf).mp happ).1 ⟨rfl, State.Warmed39.refl s, rfl⟩ trivial
  refine ⟨n, _, h1, h2, h3, hpost _ _ _ _ _ _ ⟨Cond.after_iff.mpr rfl, Cond.after_iff.mpr (eq_i res_at (Term.int_eval (1)) rfl), trivial⟩ ⟨hq.1, hq.2.1, (hq.2.2.sift fun y hy => Or.inr (N y hy)).mono (by decide) (by decide)⟩⟩
theorem main_1_1 : Claimed_1_1 := comes_1 fun _ _ _ _ _ _ h hF => ⟨h.1, hF⟩
theorem main_1_2 : Claimed_1_2 := comes_1 fun _ _ _ _ _ _ h hF => ⟨h.2.1, hF⟩
end Jvm.Pilot.@@N@@
namespace Jvm.Pilot.@@N@@
open Jvm Jvm.ClassFile Sem Op Lib Jvm.Free Jvm.Stand Jvm.Pilot.@@N@@.Jvm.D
/-! MADE BY PROGRAM (witnessworld.py) out of the Statement's table words and the real class files: 10 classes; the members and pool entries that the words name. The judged class is class 1, her method 1. -/
namespace start1
open Jvm.ClassFile
def u (s : String) : CpInfo := .utf8 (stringToUtf16 s)
/-- a pool by its gaps: so many unusable entries, then the entry; so many at the end -/
def gap : Nat → List CpInfo → List CpInfo
  | 0, r => r
  | n + 1, r => .unusable :: gap n r
def poolList (es : List (Nat × CpInfo)) (last : Nat) : List CpInfo := es.foldr (fun e r => gap e.1 (e.2 :: r)) (gap last [])
def pool (es : List (Nat × CpInfo)) (last : Nat) : Array CpInfo := ⟨poolList es last⟩
def fileOf (pool : Array CpInfo) (this : Nat) (attrs : Array Attribute := #[]) (ms : Array MethodInfo := #[]) (fl : Nat := 33) (sup : Nat := 0) (ifs : Array Nat := #[]) (fds : Array FieldInfo := #[]) : ClassFile where
  minorVersion := 0
  majorVersion := 65
  constantPool := pool
  accessFlags := fl
  thisClass := this
  superClass := sup
  interfaces := ifs
  fields := fds
  methods := ms
  attributes := attrs
def plain (name : String) (sup : Option ClassId) : Class where
  name := name
  kind := .ordinary
  loader := none
  accessFlags := 33
  super := sup
  interfaces := #[]
  cf := none
  fields := #[]
  methods := #[]
  instanceTypes := #[]
  staticTypes := #[]
  resolved := #[]
  callSites := []
  init := .initialized
  statics := none
  mirror := none

def pool0 : Array CpInfo := pool [(5, u "<init>"), (0, u "()V"), (1, .class_ 10), (1, u "java/lang/Object")] 113

def k0c0 : Code := { maxStack := 0, maxLocals := 1, code := object_method_1_code, exceptionTable := #[], attributes := #[] }
def k0m0 : Method := { name := "<init>", desc := "()V", sig := { parameters := [], returnType := none }, accessFlags := 1, code := some k0c0 }
/-- java/lang/Object -/
def k0 : Class := { plain "java/lang/Object" none with
  accessFlags := 33
  interfaces := #[]
  cf := some (fileOf pool0 8 #[] #[{ accessFlags := 1, nameIndex := 5, descriptorIndex := 6, attributes := #[] }] 33 0 #[] #[])
  fields := #[]
  methods := #[k0m0]
  instanceTypes := #[]
  staticTypes := #[]
  resolved := Array.replicate 124 none
  statics := none }

def pool1 : Array CpInfo := pool [(2, .class_ 4), (1, u "java/lang/Object"), (0, u "<init>"), (0, u "()V"), (0, .class_ 8), (0, u "com/example/kissena/kissena/BeliefStatistics$Term"), (0, .methodref 7 10), (0, .nameAndType 5 11), (0, u "(JJD)V"), (0, .methodref 7 13), (0, .nameAndType 14 15), (0, u "plus"), (0, u "(Lcom/example/kissena/kissena/BeliefStatistics$Term;)Lcom/example/kissena/kissena/BeliefStatistics$Term;"), (0, .methodref 7 17), (0, .nameAndType 18 19), (0, u "documents"), (0, u "()J"), (0, .methodref 7 21), (0, .nameAndType 22 19), (0, u "occurrences"), (0, .methodref 7 24), (0, .nameAndType 25 26), (0, u "beliefs"), (0, u "()D"), (0, .class_ 28), (0, u "com/example/kissena/kissena/TermPlusPinLaw"), (2, u "law"), (0, u "(JJJJII)Z")] 7

def k1m0 : Method := { name := "<init>", desc := "()V", sig := { parameters := [], returnType := none }, accessFlags := 1, code := none }
def k1c1 : Code := { maxStack := 8, maxLocals := 19, code := code, exceptionTable := #[], attributes := #[] }
def k1m1 : Method := { name := "law", desc := "(JJJJII)Z", sig := { parameters := [.long, .long, .long, .long, .int, .int], returnType := some .boolean }, accessFlags := 9, code := some k1c1 }
/-- com/example/kissena/kissena/TermPlusPinLaw -/
def k1 : Class := { plain "com/example/kissena/kissena/TermPlusPinLaw" (some 0) with
  accessFlags := 49
  interfaces := #[]
  cf := some (fileOf pool1 27 #[] #[{ accessFlags := 1, nameIndex := 5, descriptorIndex := 6, attributes := #[] }, { accessFlags := 9, nameIndex := 31, descriptorIndex := 32, attributes := #[] }] 49 2 #[] #[])
  fields := #[]
  methods := #[k1m0, k1m1]
  instanceTypes := #[]
  staticTypes := #[]
  resolved := Array.replicate 40 none
  statics := none }

def pool2 : Array CpInfo := pool [(1, .methodref 2 3), (0, .class_ 4), (0, .nameAndType 5 6), (0, u "java/lang/Object"), (0, u "<init>"), (0, u "()V"), (0, .class_ 8), (0, u "java/lang/Record")] 13

def k2c0 : Code := { maxStack := 1, maxLocals := 1, code := jdk_30_method_1_code, exceptionTable := #[], attributes := #[] }
def k2m0 : Method := { name := "<init>", desc := "()V", sig := { parameters := [], returnType := none }, accessFlags := 4, code := some k2c0 }
/-- java/lang/Record -/
def k2 : Class := { plain "java/lang/Record" (some 0) with
  accessFlags := 1057
  interfaces := #[]
  cf := some (fileOf pool2 7 #[] #[{ accessFlags := 4, nameIndex := 5, descriptorIndex := 6, attributes := #[] }] 1057 2 #[] #[])
  fields := #[]
  methods := #[k2m0]
  instanceTypes := #[]
  staticTypes := #[]
  resolved := Array.replicate 22 none
  statics := none }

def pool3 : Array CpInfo := pool [(1, .methodref 2 3), (0, .class_ 4), (0, .nameAndType 5 6), (0, u "java/lang/Record"), (0, u "<init>"), (0, u "()V"), (0, .fieldref 8 9), (0, .class_ 10), (0, .nameAndType 11 12), (0, u "com/example/kissena/kissena/BeliefStatistics$Term"), (0, u "documents"), (0, u "J"), (0, .fieldref 8 14), (0, .nameAndType 15 12), (0, u "occurrences"), (0, .fieldref 8 17), (0, .nameAndType 18 19), (0, u "beliefs"), (0, u "D"), (0, .methodref 8 21), (0, .nameAndType 5 22), (0, u "(JJD)V"), (15, u "plus"), (0, u "(Lcom/example/kissena/kissena/BeliefStatistics$Term;)Lcom/example/kissena/kissena/BeliefStatistics$Term;"), (3, u "()J"), (0, u "()D"), (3, .class_ 49), (0, u "com/example/kissena/kissena/BeliefStatistics")] 21

def k3c0 : Code := { maxStack := 3, maxLocals := 7, code := prog_2_method_1_code, exceptionTable := #[], attributes := #[] }
def k3m0 : Method := { name := "<init>", desc := "(JJD)V", sig := { parameters := [.long, .long, .double], returnType := none }, accessFlags := 0, code := some k3c0 }
def k3c1 : Code := { maxStack := 10, maxLocals := 2, code := prog_2_method_2_code, exceptionTable := #[], attributes := #[] }
def k3m1 : Method := { name := "plus", desc := "(Lcom/example/kissena/kissena/BeliefStatistics$Term;)Lcom/example/kissena/kissena/BeliefStatistics$Term;", sig := { parameters := [(.object "com/example/kissena/kissena/BeliefStatistics$Term")], returnType := some (.object "com/example/kissena/kissena/BeliefStatistics$Term") }, accessFlags := 0, code := some k3c1 }
def k3c2 : Code := { maxStack := 2, maxLocals := 1, code := prog_2_method_6_code, exceptionTable := #[], attributes := #[] }
def k3m2 : Method := { name := "documents", desc := "()J", sig := { parameters := [], returnType := some .long }, accessFlags := 1, code := some k3c2 }
def k3c3 : Code := { maxStack := 2, maxLocals := 1, code := prog_2_method_7_code, exceptionTable := #[], attributes := #[] }
def k3m3 : Method := { name := "occurrences", desc := "()J", sig := { parameters := [], returnType := some .long }, accessFlags := 1, code := some k3c3 }
def k3c4 : Code := { maxStack := 2, maxLocals := 1, code := prog_2_method_8_code, exceptionTable := #[], attributes := #[] }
def k3m4 : Method := { name := "beliefs", desc := "()D", sig := { parameters := [], returnType := some .double }, accessFlags := 1, code := some k3c4 }
/-- com/example/kissena/kissena/BeliefStatistics$Term -/
def k3 : Class := { plain "com/example/kissena/kissena/BeliefStatistics$Term" (some 2) with
  accessFlags := 48
  interfaces := #[]
  cf := some (fileOf pool3 8 #[.nestHost 48] #[{ accessFlags := 0, nameIndex := 5, descriptorIndex := 22, attributes := #[] }, { accessFlags := 0, nameIndex := 38, descriptorIndex := 39, attributes := #[] }, { accessFlags := 1, nameIndex := 11, descriptorIndex := 43, attributes := #[] }, { accessFlags := 1, nameIndex := 15, descriptorIndex := 43, attributes := #[] }, { accessFlags := 1, nameIndex := 18, descriptorIndex := 44, attributes := #[] }] 48 2 #[] #[{ accessFlags := 18, nameIndex := 11, descriptorIndex := 12, attributes := #[] }, { accessFlags := 18, nameIndex := 15, descriptorIndex := 12, attributes := #[] }, { accessFlags := 18, nameIndex := 18, descriptorIndex := 19, attributes := #[] }])
  fields := #[{ name := "documents", type := .long, accessFlags := 18, slot := 0, constantValue := 0 }, { name := "occurrences", type := .long, accessFlags := 18, slot := 1, constantValue := 0 }, { name := "beliefs", type := .double, accessFlags := 18, slot := 2, constantValue := 0 }]
  methods := #[k3m0, k3m1, k3m2, k3m3, k3m4]
  instanceTypes := #[.long, .long, .double]
  staticTypes := #[]
  resolved := Array.replicate 71 none
  statics := none }

def pool4 : Array CpInfo := pool [(1, u "java/lang/Cloneable"), (0, .class_ 1), (0, u "java/lang/Object"), (0, .class_ 3)] 3

/-- java/lang/Cloneable -/
def k4 : Class := { plain "java/lang/Cloneable" (some 0) with
  accessFlags := 1537
  interfaces := #[]
  cf := some (fileOf pool4 2 #[] #[] 1537 4 #[] #[])
  fields := #[]
  methods := #[]
  instanceTypes := #[]
  staticTypes := #[]
  resolved := Array.replicate 8 none
  statics := none }

def pool5 : Array CpInfo := pool [(1, u "java/io/Serializable"), (0, .class_ 1), (0, u "java/lang/Object"), (0, .class_ 3)] 3

/-- java/io/Serializable -/
def k5 : Class := { plain "java/io/Serializable" (some 0) with
  accessFlags := 1537
  interfaces := #[]
  cf := some (fileOf pool5 2 #[] #[] 1537 4 #[] #[])
  fields := #[]
  methods := #[]
  instanceTypes := #[]
  staticTypes := #[]
  resolved := Array.replicate 8 none
  statics := none }

/-- the primitive byte -/
def k6 : Class := { plain "byte" none with kind := .primitive 'B', accessFlags := 0x411 }
/-- [B -/
def k7 : Class := { plain "[B" (some 0) with kind := .array 6 .byte, interfaces := #[4, 5], accessFlags := 1041 }

/-- the primitive int -/
def k8 : Class := { plain "int" none with kind := .primitive 'I', accessFlags := 0x411 }
/-- [I -/
def k9 : Class := { plain "[I" (some 0) with kind := .array 8 .int, interfaces := #[4, 5], accessFlags := 1041 }

def heap : Heap := #[]
def classes : Array Class := #[k0, k1, k2, k3, k4, k5, k6, k7, k8, k9]
def interned : List (Array UInt16 × Addr) := []
def slotsUsed : Nat := 0
def theMethod : MethodId := ⟨1, 1⟩
def args0 : Array Value := #[.long 5, .long 6, .long 7, .long 8, .int 3, .int 4]
def aboutOver (below : List Frame) : State where
  vm := { classes := classes, interned := interned.toArray }
  heap := heap
  slotsUsed := slotsUsed
  threads := #[{ frames := .invoking theMethod args0 :: below }]
def below0 : List Frame := [.native { method := ⟨0, 0⟩, args := #[] }]
def about1 : State := aboutOver below0
def p0 : Program := .bare "" "" ""
def e0 : Env := launch0.env 0 0 0
theorem w_frames : about1.frames = Frame.invoking theMethod args0 :: below0 := rfl
set_option maxRecDepth 65536 in
theorem w_args : argsFit about1.vm theMethod args0 = true := by decide +kernel
set_option maxRecDepth 65536 in
theorem w_heap : heapFits about1 = true := by decide +kernel
set_option maxRecDepth 65536 in
theorem w_runnable : about1.curStatus? = some .runnable := by decide +kernel
set_option maxRecDepth 65536 in
theorem w_alone : about1.alone = true := by decide +kernel
set_option maxRecDepth 65536 in
theorem w_named : about1.methodNamed? x = some theMethod := by decide +kernel
set_option maxRecDepth 65536 in
theorem w_hears : about1.hears theMethod below0 = true := by decide +kernel
set_option maxRecDepth 65536 in
theorem w_ripe : about1.ripe theMethod args0 below0 = true := by decide +kernel
theorem w_running : about1.status = .running := rfl
set_option maxRecDepth 65536 in
theorem w_room : about1.hasRoom e0.platform room_1 = true :=
  launch0.hasRoom_least _ room_1 (by decide +kernel) (by decide +kernel) (by decide +kernel) (by decide +kernel) (by decide +kernel) (by decide +kernel)
theorem allAtoms_all (ts : List Jvm.Cond) (a : Array Jvm.Value) (st : Jvm.State) : (allAtoms ts).before a st = ts.all (fun c => c.before a st) := by
  induction ts with
  | nil => rfl
  | cons c t ih =>
    show (Jvm.Cond.and c (allAtoms t)).before a st = _
    rw [Jvm.Cond.before_and, ih, List.all_cons]
def words1 : List Jvm.Cond := Jvm.Cond.code x code maxLocals ret :: tables_1
/-- a 'code' word, met by the world's own term for the bytes: nothing is compared byte by byte -/
theorem code_word {y : MethodName} {bytes : ByteArray} {mx : Nat} {rt : Option FieldType} {a : Array Value} {s : State} {m : MethodId} {meth : Method} {c : Code} (h1 : s.methodNamed? y = some m) (h2 : s.vm.method? m = some meth) (h3 : meth.code = some c) (h4 : c.code = bytes)
    (h5 : (c.maxLocals == mx && c.exceptionTable.isEmpty && decide (c.maxStack ≤ mostOperands) && decide (meth.sig.returnType = rt) && !meth.locks && decide (parseMethodDescriptor y.desc = some meth.sig)) = true) : (Jvm.Cond.code y bytes mx rt).before a s = true := by
  simp only [Bool.and_eq_true, beq_iff_eq, Bool.not_eq_true', decide_eq_true_eq] at h5
  obtain ⟨⟨⟨⟨⟨g1, g2⟩, g3⟩, g4⟩, g5⟩, g6⟩ := h5
  simp [Cond.before, Cond.holds, Cond.value, h1, h2, h3, h4, g1, g2, g3, g4, g5, g6]
def isCode : Jvm.Cond → Bool
  | .code _ _ _ _ => true
  | _ => false
theorem all_split {L : List Jvm.Cond} {P : Jvm.Cond → Bool} (h1 : L.all (fun c => isCode c || P c) = true) (h2 : ∀ c ∈ L.filter isCode, P c = true) : L.all P = true := by
  refine List.all_eq_true.mpr fun c hc => ?_
  have h := List.all_eq_true.mp h1 c hc
  rcases Bool.eq_false_or_eq_true (isCode c) with hi | hi
  · exact h2 c (List.mem_filter.mpr ⟨hc, hi⟩)
  · simpa [hi] using h
set_option maxRecDepth 65536 in
theorem w_c0 : (Jvm.Cond.code x code maxLocals ret).before args0 about1 = true := code_word (m := ⟨1, 1⟩) (meth := k1m1) (c := k1c1) (by decide +kernel) rfl rfl rfl (by decide +kernel)
set_option maxRecDepth 65536 in
theorem w_c1 : (Jvm.Cond.code ({ cls := "com/example/kissena/kissena/BeliefStatistics$Term", name := "<init>", desc := "(JJD)V" } : Jvm.MethodName) prog_2_method_1_code (7 : Nat) (Option.none : Option Jvm.ClassFile.FieldType)).before args0 about1 = true := code_word (m := ⟨3, 0⟩) (meth := k3m0) (c := k3c0) (by decide +kernel) rfl rfl rfl (by decide +kernel)
set_option maxRecDepth 65536 in
theorem w_c2 : (Jvm.Cond.code ({ cls := "java/lang/Record", name := "<init>", desc := "()V" } : Jvm.MethodName) jdk_30_method_1_code (1 : Nat) (Option.none : Option Jvm.ClassFile.FieldType)).before args0 about1 = true := code_word (m := ⟨2, 0⟩) (meth := k2m0) (c := k2c0) (by decide +kernel) rfl rfl rfl (by decide +kernel)
set_option maxRecDepth 65536 in
theorem w_c3 : (Jvm.Cond.code ({ cls := "java/lang/Object", name := "<init>", desc := "()V" } : Jvm.MethodName) object_method_1_code (1 : Nat) (Option.none : Option Jvm.ClassFile.FieldType)).before args0 about1 = true := code_word (m := ⟨0, 0⟩) (meth := k0m0) (c := k0c0) (by decide +kernel) rfl rfl rfl (by decide +kernel)
set_option maxRecDepth 65536 in
theorem w_c4 : (Jvm.Cond.code ({ cls := "com/example/kissena/kissena/BeliefStatistics$Term", name := "plus", desc := "(Lcom/example/kissena/kissena/BeliefStatistics$Term;)Lcom/example/kissena/kissena/BeliefStatistics$Term;" } : Jvm.MethodName) prog_2_method_2_code (2 : Nat) (Option.some (Jvm.ClassFile.FieldType.object "com/example/kissena/kissena/BeliefStatistics$Term"))).before args0 about1 = true := code_word (m := ⟨3, 1⟩) (meth := k3m1) (c := k3c1) (by decide +kernel) rfl rfl rfl (by decide +kernel)
set_option maxRecDepth 65536 in
theorem w_c5 : (Jvm.Cond.code ({ cls := "com/example/kissena/kissena/BeliefStatistics$Term", name := "documents", desc := "()J" } : Jvm.MethodName) prog_2_method_6_code (1 : Nat) (Option.some Jvm.ClassFile.FieldType.long)).before args0 about1 = true := code_word (m := ⟨3, 2⟩) (meth := k3m2) (c := k3c2) (by decide +kernel) rfl rfl rfl (by decide +kernel)
set_option maxRecDepth 65536 in
theorem w_c6 : (Jvm.Cond.code ({ cls := "com/example/kissena/kissena/BeliefStatistics$Term", name := "occurrences", desc := "()J" } : Jvm.MethodName) prog_2_method_7_code (1 : Nat) (Option.some Jvm.ClassFile.FieldType.long)).before args0 about1 = true := code_word (m := ⟨3, 3⟩) (meth := k3m3) (c := k3c3) (by decide +kernel) rfl rfl rfl (by decide +kernel)
set_option maxRecDepth 65536 in
theorem w_c7 : (Jvm.Cond.code ({ cls := "com/example/kissena/kissena/BeliefStatistics$Term", name := "beliefs", desc := "()D" } : Jvm.MethodName) prog_2_method_8_code (1 : Nat) (Option.some Jvm.ClassFile.FieldType.double)).before args0 about1 = true := code_word (m := ⟨3, 4⟩) (meth := k3m4) (c := k3c4) (by decide +kernel) rfl rfl rfl (by decide +kernel)
def codes1 : List Jvm.Cond := [Jvm.Cond.code x code maxLocals ret, Jvm.Cond.code ({ cls := "com/example/kissena/kissena/BeliefStatistics$Term", name := "<init>", desc := "(JJD)V" } : Jvm.MethodName) prog_2_method_1_code (7 : Nat) (Option.none : Option Jvm.ClassFile.FieldType), Jvm.Cond.code ({ cls := "java/lang/Record", name := "<init>", desc := "()V" } : Jvm.MethodName) jdk_30_method_1_code (1 : Nat) (Option.none : Option Jvm.ClassFile.FieldType), Jvm.Cond.code ({ cls := "java/lang/Object", name := "<init>", desc := "()V" } : Jvm.MethodName) object_method_1_code (1 : Nat) (Option.none : Option Jvm.ClassFile.FieldType), Jvm.Cond.code ({ cls := "com/example/kissena/kissena/BeliefStatistics$Term", name := "plus", desc := "(Lcom/example/kissena/kissena/BeliefStatistics$Term;)Lcom/example/kissena/kissena/BeliefStatistics$Term;" } : Jvm.MethodName) prog_2_method_2_code (2 : Nat) (Option.some (Jvm.ClassFile.FieldType.object "com/example/kissena/kissena/BeliefStatistics$Term")), Jvm.Cond.code ({ cls := "com/example/kissena/kissena/BeliefStatistics$Term", name := "documents", desc := "()J" } : Jvm.MethodName) prog_2_method_6_code (1 : Nat) (Option.some Jvm.ClassFile.FieldType.long), Jvm.Cond.code ({ cls := "com/example/kissena/kissena/BeliefStatistics$Term", name := "occurrences", desc := "()J" } : Jvm.MethodName) prog_2_method_7_code (1 : Nat) (Option.some Jvm.ClassFile.FieldType.long), Jvm.Cond.code ({ cls := "com/example/kissena/kissena/BeliefStatistics$Term", name := "beliefs", desc := "()D" } : Jvm.MethodName) prog_2_method_8_code (1 : Nat) (Option.some Jvm.ClassFile.FieldType.double)]
set_option maxRecDepth 65536 in
theorem codes_eq : words1.filter isCode = codes1 := rfl
theorem w_codes : ∀ c ∈ words1.filter isCode, c.before args0 about1 = true := by
  rw [codes_eq]
  intro c hc
  simp only [codes1, List.mem_cons, List.not_mem_nil, or_false] at hc
  rcases hc with rfl | rfl | rfl | rfl | rfl | rfl | rfl | rfl
  · exact w_c0
  · exact w_c1
  · exact w_c2
  · exact w_c3
  · exact w_c4
  · exact w_c5
  · exact w_c6
  · exact w_c7
set_option maxRecDepth 65536 in
theorem w_t1 : (words1.take 24).all (fun c => isCode c || c.before args0 about1) = true := by decide +kernel
set_option maxRecDepth 65536 in
theorem w_t2 : (words1.drop 24).all (fun c => isCode c || c.before args0 about1) = true := by decide +kernel
theorem w_tables : (allAtoms (Jvm.Cond.code x code maxLocals ret :: tables_1)).before args0 about1 = true := by
  rw [allAtoms_all]
  show words1.all (fun c => c.before args0 about1) = true
  refine all_split ?_ w_codes
  rw [← List.take_append_drop 24 words1, List.all_append, w_t1, w_t2]
  rfl
set_option maxRecDepth 65536 in
theorem w_case : (Jvm.Cond.and given_1 narrow_1).before args0 about1 = true := by decide +kernel
theorem w_applies : (headSpec (Jvm.Cond.code x code maxLocals ret :: tables_1) room_1).applies x e0.platform about1 = true :=
  (Spec.applies_iff w_frames).mpr ⟨w_running, w_runnable, w_alone, w_named, w_hears, w_ripe, w_room, w_tables⟩
theorem atStart : AtStart classFile x code maxLocals ret World_1 tables_1 room_1 Calls_1 rest_1 Pre_1 launch0 p0 e0 about1 theMethod args0 below0 :=
  ⟨lists_1, trivial, launch0.admits_env _ _ _, launch0.least_env, fairChoices_fair.cas, fairChoices_fair.clock, w_frames, w_args, w_heap, w_applies, trivial, trivial, w_case⟩
end start1
theorem witness_1 : WitnessClaimed_1 := ⟨start1.p0, start1.e0, start1.about1, start1.theMethod, start1.args0, start1.below0, start1.atStart⟩
end Jvm.Pilot.@@N@@
