import JvmDerived
import JvmDerived.Pilot.@@N@@Statement
import JvmDerived.Pilot.@@N@@Code
set_option linter.unusedVariables false
set_option linter.unusedSimpArgs false
namespace Jvm.Pilot.@@N@@
open Jvm Jvm.ClassFile Sem Op Lib Jvm.Free Jvm.Stand Jvm.LawKit Jvm.RoadKit Bundle Jvm.Pilot.@@N@@.Jvm.D
section Own
variable {p : Program} {l : Launch} {e : Env} {R : Room} {s : State} {m : MethodId} {args : Array Value} {below : List Frame} {meth : Method} {c : Code} {T : State} {locs : List Loc} {cells slots : Nat} {Z : State} {a0 : Array Value} {h : Heap} {P : State → Outcome → Prop} {pc : Nat} {Ls : Array Slot} {rest st : List Value}
/-- from T, with f on top, the run comes to an end of which P holds -/
def own_Go (p : Program) (e : Env) (below : List Frame) (P : State → Outcome → Prop) (T : State) (f : JFrame) : Prop :=
  ∃ t o, Steps p.tables e below (T.setTop f) t ∧ t.status = .running ∧ Ended t below o ∧ P t o
theorem own_by {T' : State} {f f' : JFrame} (st : ∀ t, Steps p.tables e below (T'.setTop f') t → Steps p.tables e below (T.setTop f) t) (k : own_Go p e below P T' f') : own_Go p e below P T f := by
  obtain ⟨t, o, h1, h2⟩ := k
  exact ⟨t, o, st _ h1, h2⟩
/-- a method's end: what it returns, the heap, what it wrote -/
def own_Ends (s : State) (rm : Room) (Q : Option Value → Heap → List Loc → Prop) (t : State) (o : Outcome) : Prop := ∃ v L, o = .returned v ∧ Q v t.heap L ∧ FrameEnd s o t L rm.cells rm.slots
/-- a body's contract, at one list of arguments and one heap -/
def own_Ct (l : Launch) (Z : State) (y : MethodName) (bytes : ByteArray) (mx : Nat) (rt : Option FieldType) (ws : List Jvm.Cond) (rm : Room) (as' : Array Value) (h0 : Heap) (Q : Option Value → Heap → List Loc → Prop) : Prop :=
  MetFree l y (head1 (Jvm.Cond.code y bytes mx rt :: ws) rm) (fun a U => a = as' ∧ Z.Warmed39 U.vm ∧ U.heap = h0) (fun _ _ _ _ _ => True) (fun _ U o U' => own_Ends U rm Q U' o)
theorem own_of {y : MethodName} {bytes : ByteArray} {mx : Nat} {rt : Option FieldType} {ws : List Jvm.Cond} {rm : Room} {as' : Array Value} {h0 : Heap} {Q : Option Value → Heap → List Loc → Prop} (hpl : plainName y.cls = true)
    (body : ∀ (p : Program) (e : Env) (s : State) (m : MethodId) (below : List Frame) (meth : Method) (c : Code) (s₁ : State), p.tables.exec = Jvm.exec → c.code = bytes → c.maxLocals = mx → s.vm.findClass y.cls = some m.cls → meth.name = y.name → meth.sig.returnType = rt → meth.locks = false → Z.Warmed39 s.vm →
      Stand p l e rm s m as' below meth c s₁ [] 0 0 → s₁.heap = h0 → own_Go p e below (own_Ends s rm Q) s₁ (entryFrame m as' mx)) : own_Ct l Z y bytes mx rt ws rm as' h0 Q := by
  refine MetFree.of_bodySF (plainFor_of_name hpl) hisR ?_
  intro p e s m args below meth c s₁ Bd hml hP hK
  obtain ⟨rfl, hZ, hh⟩ := hP
  exact body p e s m below meth c s₁ Bd.exec Bd.bytes hml (findClass_of_methodNamed Bd.named) (name_of_methodNamed Bd.named Bd.method).1 Bd.returns Bd.notSynchronized hZ (Stand.of_body Bd) (by rw [← hh, Bd.state]; rfl)
theorem own_ret {rm : Room} {Q : Option Value → Heap → List Loc → Prop} {t : FieldType} {w : Value} {i : Instr} (X : Stand p l e R s m args below meth c T locs cells slots) (hx : p.tables.exec = Jvm.exec) (hret : meth.sig.returnType = some t) (hlk : meth.locks = false) (hd : decode c.code pc = .ok (i, 1)) (hn : narrow t w = w)
    (hi : (i = .ireturn ∧ (t = .int ∨ t = .boolean ∨ t = .byte ∨ t = .char ∨ t = .short) ∧ ∃ z, w = .int z) ∨ (i = .lreturn ∧ t = .long ∧ ∃ z, w = .long z) ∨ (i = .dreturn ∧ t = .double ∧ ∃ z, w = .double z) ∨ (i = .freturn ∧ t = .float ∧ ∃ z, w = .float z) ∨ (i = .areturn ∧ t.isReference = true ∧ w.isRef = true))
    (hc : cells ≤ rm.cells) (hs : slots ≤ rm.slots) (hq : Q (some w) T.heap locs) : own_Go p e below (own_Ends s rm Q) T (mkF m pc Ls (w :: rest)) := by
  obtain ⟨fs, hr, hrun, hended, hW, hsame⟩ := X.leave (v := some w) (fun h => by rw [hret] at h; cases h) hlk
  exact ⟨_, _, retOut X hx hret hn hi hd hr, hrun, hended, _, _, rfl, hq, ⟨_, rfl⟩, hW, hsame.mono hc hs⟩
theorem own_retI {rm : Room} {Q : Option Value → Heap → List Loc → Prop} {w : Int32} (X : Stand p l e R s m args below meth c T locs cells slots) (hx : p.tables.exec = Jvm.exec) (hret : meth.sig.returnType = some .int) (hlk : meth.locks = false) (hd : decode c.code pc = .ok (.ireturn, 1)) 
    (hc : cells ≤ rm.cells) (hs : slots ≤ rm.slots) (hq : Q (some (.int w)) T.heap locs) : own_Go p e below (own_Ends s rm Q) T (mkF m pc Ls (.int w :: rest)) :=
  own_ret X hx hret hlk hd rfl (Or.inl ⟨rfl, Or.inl rfl, _, rfl⟩) hc hs hq
theorem own_retZ {rm : Room} {Q : Option Value → Heap → List Loc → Prop} {w : Int32} (X : Stand p l e R s m args below meth c T locs cells slots) (hx : p.tables.exec = Jvm.exec) (hret : meth.sig.returnType = some .boolean) (hlk : meth.locks = false) (hd : decode c.code pc = .ok (.ireturn, 1)) (hw : w = 0 ∨ w = 1)
    (hc : cells ≤ rm.cells) (hs : slots ≤ rm.slots) (hq : Q (some (.int w)) T.heap locs) : own_Go p e below (own_Ends s rm Q) T (mkF m pc Ls (.int w :: rest)) :=
  own_ret X hx hret hlk hd (by rcases hw with rfl | rfl <;> rfl) (Or.inl ⟨rfl, Or.inr (Or.inl rfl), _, rfl⟩) hc hs hq
theorem own_retJ {rm : Room} {Q : Option Value → Heap → List Loc → Prop} {w : Int64} (X : Stand p l e R s m args below meth c T locs cells slots) (hx : p.tables.exec = Jvm.exec) (hret : meth.sig.returnType = some .long) (hlk : meth.locks = false) (hd : decode c.code pc = .ok (.lreturn, 1)) 
    (hc : cells ≤ rm.cells) (hs : slots ≤ rm.slots) (hq : Q (some (.long w)) T.heap locs) : own_Go p e below (own_Ends s rm Q) T (mkF m pc Ls (.long w :: rest)) :=
  own_ret X hx hret hlk hd rfl (Or.inr (Or.inl ⟨rfl, rfl, _, rfl⟩)) hc hs hq
theorem own_retA {rm : Room} {Q : Option Value → Heap → List Loc → Prop} {w : Value} {t : FieldType} (X : Stand p l e R s m args below meth c T locs cells slots) (hx : p.tables.exec = Jvm.exec) (hret : meth.sig.returnType = some t) (hlk : meth.locks = false) (hd : decode c.code pc = .ok (.areturn, 1)) (ht : t.isReference = true) (hn : narrow t w = w) (hw : w.isRef = true)
    (hc : cells ≤ rm.cells) (hs : slots ≤ rm.slots) (hq : Q (some w) T.heap locs) : own_Go p e below (own_Ends s rm Q) T (mkF m pc Ls (w :: rest)) :=
  own_ret X hx hret hlk hd hn (Or.inr (Or.inr (Or.inr (Or.inr ⟨rfl, ht, hw⟩)))) hc hs hq
theorem own_retV {rm : Room} {Q : Option Value → Heap → List Loc → Prop} (X : Stand p l e R s m args below meth c T locs cells slots) (hx : p.tables.exec = Jvm.exec) (hret : meth.sig.returnType = none) (hlk : meth.locks = false) (hd : decode c.code pc = .ok (.return_, 1))
    (hc : cells ≤ rm.cells) (hs : slots ≤ rm.slots) (hq : Q none T.heap locs) : own_Go p e below (own_Ends s rm Q) T (mkF m pc Ls []) := by
  obtain ⟨fs, hr, hrun, hended, hW, hsame⟩ := X.leave (v := none) (fun _ => rfl) hlk
  exact ⟨_, _, X.returnOut hx hret hd hr, hrun, hended, _, _, rfl, hq, ⟨_, rfl⟩, hW, hsame.mono hc hs⟩
abbrev own_K (p : Program) (l : Launch) (e : Env) (R : Room) (s : State) (m : MethodId) (args : Array Value) (below : List Frame) (meth : Method) (c : Code) (P : State → Outcome → Prop) (locs : List Loc) (cells slots : Nat) (rm : Room) (Q : Option Value → Heap → List Loc → Prop) (pc : Nat) (Ls : Array Slot) (rest : List Value) : Prop :=
  ∀ (T' : State) (v : Option Value) (L : List Loc), Stand p l e R s m args below meth c T' (locs ++ L) (cells + rm.cells) (slots + rm.slots) → Q v T'.heap L → own_Go p e below P T' (mkF m pc Ls (v.toList ++ rest))
theorem own_callS {own : String} {index : Nat} {y : MethodName} {bytes : ByteArray} {maxL : Nat} {ret : Option FieldType} {rm : Room} {Q : Option Value → Heap → List Loc → Prop} {ps : List FieldType} {r : Option FieldType} (X : Stand p l e R s m args below meth c T locs cells slots) (hx : p.tables.exec = Jvm.exec) (hZ : Z.Warmed39 s.vm) (hown : s.vm.findClass own = some m.cls) (eT : T.heap = h) (hd : decode c.code pc = .ok (.invokestatic index, 3))
    (argsL rest : List Value) (W : Nat) (C : own_Ct l Z y bytes maxL ret [] rm argsL.toArray h Q) (w1 : (Cond.methodLink own index y).before a0 Z = true) (w2 : (Cond.static y).before a0 Z = true) (w3 : (Cond.initialized y.cls).before a0 Z = true) (w4 : (Cond.code y bytes maxL ret).before a0 Z = true)
    (hy : y.cls ≠ "java/lang/invoke/MethodHandle" ∧ y.cls ≠ "java/lang/invoke/VarHandle") (hpd : parseMethodDescriptor y.desc = some ⟨ps, r⟩) (hsize : Ls.size = c.maxLocals) (hlen : argsL.length = ps.length) (hst : st = argsL.reverse ++ rest)
    (hW : (rest.map fun v => v.category).sum ≤ W) (hf : rm.frames + 1 ≤ R.frames) (hl : W + (maxL + 11) + rm.locals ≤ R.locals) (hc : cells + rm.cells ≤ R.cells) (hs : slots + rm.slots ≤ R.slots)
    (k : own_K p l e R s m args below meth c P locs cells slots rm Q (pc + 3) Ls rest) : own_Go p e below P T (mkF m pc Ls st) := by
  obtain ⟨v, _, ⟨T', L', k', n'⟩, -, X', ⟨Lc, hQ, l', y', z'⟩, stp⟩ := Jvm.LawKit.callS X hx (y := y) hown (mvT hZ w1) (mvT hZ w2) (mvT hZ w3) (mvT hZ w4) hy (backOf (W := W) (Q := Q) C hZ w4 w3 hf hl) (g := mkF m pc Ls st) rfl hsize (argsL := argsL) (rest := rest) (lenOf hpd hlen) hst (by show 2 * 0 + _ ≤ _; omega) hd (fun _ _ => ⟨rfl, eT, hc, hs⟩)
  dsimp only [Pt.U, Pt.locs, Pt.cells, Pt.slots] at X' l' y' z' stp hQ
  subst l' y' z'
  exact own_by stp (k T' v Lc X' hQ)
theorem own_callN {own : String} {index : Nat} {y : MethodName} {bytes : ByteArray} {maxL : Nat} {rm : Room} {Q : Option Value → Heap → List Loc → Prop} {ps : List FieldType} {r : Option FieldType} {a : Addr} (X : Stand p l e R s m args below meth c T locs cells slots) (hx : p.tables.exec = Jvm.exec) (hZ : Z.Warmed39 s.vm) (hown : s.vm.findClass own = some m.cls) (eT : T.heap = h) (hd : decode c.code pc = .ok (.invokespecial index, 3))
    (argsL rest : List Value) (W : Nat) (C : own_Ct l Z y bytes maxL none [] rm (.ref a :: argsL).toArray h Q) (w1 : (Cond.methodLink own index y).before a0 Z = true) (w2 : (Cond.instanceMethod y).before a0 Z = true) (w3 : (Cond.initialized y.cls).before a0 Z = true) (w4 : (Cond.code y bytes maxL none).before a0 Z = true)
    (hyi : y.name = "<init>") (hy : y.cls ≠ "java/lang/invoke/MethodHandle" ∧ y.cls ≠ "java/lang/invoke/VarHandle") (hpd : parseMethodDescriptor y.desc = some ⟨ps, r⟩) (hsize : Ls.size = c.maxLocals) (hlen : argsL.length = ps.length) (hst : st = argsL.reverse ++ .ref a :: rest)
    (hW : (rest.map fun v => v.category).sum ≤ W) (hf : rm.frames + 1 ≤ R.frames) (hl : W + (maxL + 11) + rm.locals ≤ R.locals) (hc : cells + rm.cells ≤ R.cells) (hs : slots + rm.slots ≤ R.slots)
    (k : own_K p l e R s m args below meth c P locs cells slots rm Q (pc + 3) Ls rest) : own_Go p e below P T (mkF m pc Ls st) := by
  obtain ⟨v, _, ⟨T', L', k', n'⟩, -, X', ⟨Lc, hQ, l', y', z'⟩, stp⟩ := X.specialBack hx (y := y) hyi hown (mvT hZ w1) (mvT hZ w2) (mvT hZ w4) hy (backOf (W := W) (Q := Q) C hZ w4 w3 hf hl) (g := mkF m pc Ls st) rfl hsize (Steps.refl _) (a := a) (argsL := argsL) (rest := rest) (lenOf hpd hlen) hst (by show 2 * 0 + _ ≤ _; omega) hd (fun _ _ => ⟨rfl, eT, hc, hs⟩)
  dsimp only [Pt.U, Pt.locs, Pt.cells, Pt.slots] at X' l' y' z' stp hQ
  subst l' y' z'
  exact own_by (fun _ k => stp.trans k) (k T' v Lc X' hQ)
theorem own_callV {own : String} {index : Nat} {C0 : String} {y z : MethodName} {bytes : ByteArray} {maxL : Nat} {ret : Option FieldType} {rm : Room} {Q : Option Value → Heap → List Loc → Prop} {ps : List FieldType} {r : Option FieldType} {a : Addr} (X : Stand p l e R s m args below meth c T locs cells slots) (hx : p.tables.exec = Jvm.exec) (hZ : Z.Warmed39 s.vm) (hown : s.vm.findClass own = some m.cls) (eT : T.heap = h) (hd : decode c.code pc = .ok (.invokevirtual index, 3))
    (argsL rest : List Value) (W : Nat) (C : own_Ct l Z z bytes maxL ret [] rm (.ref a :: argsL).toArray h Q) (E : Exa Z h a C0) (w1 : (Cond.methodLink own index y).before a0 Z = true) (w0 : (Cond.declares y).before a0 Z = true) (nf : NotFace s y) (ws : (Cond.selects C0 y z).before a0 Z = true) (w2 : (Cond.instanceMethod z).before a0 Z = true) (w3 : (Cond.initialized z.cls).before a0 Z = true) (w4 : (Cond.code z bytes maxL ret).before a0 Z = true)
    (hy : y.cls ≠ "java/lang/invoke/MethodHandle" ∧ y.cls ≠ "java/lang/invoke/VarHandle") (hpd : parseMethodDescriptor y.desc = some ⟨ps, r⟩) (hsize : Ls.size = c.maxLocals) (hlen : argsL.length = ps.length) (hst : st = argsL.reverse ++ .ref a :: rest)
    (hW : (rest.map fun v => v.category).sum ≤ W) (hf : rm.frames + 1 ≤ R.frames) (hl : W + (maxL + 11) + rm.locals ≤ R.locals) (hc : cells + rm.cells ≤ R.cells) (hs : slots + rm.slots ≤ R.slots)
    (k : own_K p l e R s m args below meth c P locs cells slots rm Q (pc + 3) Ls rest) : own_Go p e below P T (mkF m pc Ls st) := by
  obtain ⟨cq, kq, qa, qb, qc⟩ := isOf hZ eT E
  obtain ⟨v, _, ⟨T', L', k', n'⟩, -, X', ⟨Lc, hQ, l', y', z'⟩, stp⟩ := X.virtualBack hx (y := y) (z := z) hown (mvT hZ w1) (mvT hZ w0) nf (mvT hZ ws) (mvT hZ w2) hy (backOf (W := W) (Q := Q) C hZ w4 w3 hf hl) qa qc (g := mkF m pc Ls st) rfl hsize (Steps.refl _) (argsL := argsL) (rest := rest) (lenOf hpd hlen) hst (by show 2 * 0 + _ ≤ _; omega) hd (fun _ _ => ⟨rfl, eT, hc, hs⟩)
  dsimp only [Pt.U, Pt.locs, Pt.cells, Pt.slots] at X' l' y' z' stp hQ
  subst l' y' z'
  exact own_by (fun _ k => stp.trans k) (k T' v Lc X' hQ)
theorem own_callP {own : String} {index : Nat} {C0 : String} {y : MethodName} {bytes : ByteArray} {maxL : Nat} {ret : Option FieldType} {rm : Room} {Q : Option Value → Heap → List Loc → Prop} {ps : List FieldType} {r : Option FieldType} {a : Addr} (X : Stand p l e R s m args below meth c T locs cells slots) (hx : p.tables.exec = Jvm.exec) (hZ : Z.Warmed39 s.vm) (hown : s.vm.findClass own = some m.cls) (eT : T.heap = h) (hd : decode c.code pc = .ok (.invokevirtual index, 3))
    (argsL rest : List Value) (W : Nat) (C : own_Ct l Z y bytes maxL ret [] rm (.ref a :: argsL).toArray h Q) (E : Exa Z h a C0) (w1 : (Cond.methodLink own index y).before a0 Z = true) (w2 : (Cond.instanceMethod y).before a0 Z = true) (ws : (Cond.selects y.cls y y).before a0 Z = true) (wp : (Cond.privateMethod y).before a0 Z = true) (w3 : (Cond.initialized y.cls).before a0 Z = true) (w4 : (Cond.code y bytes maxL ret).before a0 Z = true)
    (hy : y.cls ≠ "java/lang/invoke/MethodHandle" ∧ y.cls ≠ "java/lang/invoke/VarHandle") (hpd : parseMethodDescriptor y.desc = some ⟨ps, r⟩) (hsize : Ls.size = c.maxLocals) (hlen : argsL.length = ps.length) (hst : st = argsL.reverse ++ .ref a :: rest)
    (hW : (rest.map fun v => v.category).sum ≤ W) (hf : rm.frames + 1 ≤ R.frames) (hl : W + (maxL + 11) + rm.locals ≤ R.locals) (hc : cells + rm.cells ≤ R.cells) (hs : slots + rm.slots ≤ R.slots)
    (k : own_K p l e R s m args below meth c P locs cells slots rm Q (pc + 3) Ls rest) : own_Go p e below P T (mkF m pc Ls st) := by
  obtain ⟨cq, q1, q2⟩ := E.cell
  obtain ⟨v, _, ⟨T', L', k', n'⟩, -, X', ⟨Lc, hQ, l', y', z'⟩, stp⟩ := X.privateBack hx (y := y) hown (mvT hZ w1) (mvT hZ w2) (mvT hZ ws) (Cond.privateMethod_at (mvP hZ wp (args := #[]))) (mvT hZ w4) hy (backOf (W := W) (Q := Q) C hZ w4 w3 hf hl) (g := mkF m pc Ls st) rfl hsize (Steps.refl _) (a := a) (by rw [eT]; exact q1) q2 (argsL := argsL) (rest := rest) (lenOf hpd hlen) hst (by show 2 * 0 + _ ≤ _; omega) hd (fun _ _ => ⟨rfl, eT, hc, hs⟩)
  dsimp only [Pt.U, Pt.locs, Pt.cells, Pt.slots] at X' l' y' z' stp hQ
  subst l' y' z'
  exact own_by (fun _ k => stp.trans k) (k T' v Lc X' hQ)
abbrev own_K0 (p : Program) (l : Launch) (e : Env) (R : Room) (s : State) (m : MethodId) (args : Array Value) (below : List Frame) (meth : Method) (c : Code) (P : State → Outcome → Prop) (locs : List Loc) (cells slots : Nat) (h : Heap) (pc : Nat) (Ls : Array Slot) (st : List Value) : Prop :=
  ∀ (T' : State), Stand p l e R s m args below meth c T' locs cells slots → T'.heap = h → own_Go p e below P T' (mkF m pc Ls st)
theorem own_init {own : String} {index : Nat} {a : Addr} (X : Stand p l e R s m args below meth c T locs cells slots) (hx : p.tables.exec = Jvm.exec) (hZ : Z.Warmed39 s.vm) (hown : s.vm.findClass own = some m.cls) (eT : T.heap = h) (hd : decode c.code pc = .ok (.invokespecial index, 3)) (W : Nat)
    (w1 : (Cond.methodLink own index Lib.objectInit).before a0 Z = true) (w2 : (Cond.instanceMethod Lib.objectInit).before a0 Z = true) (w3 : (Cond.code Lib.objectInit ⟨#[0xb1]⟩ 1 none).before a0 Z = true) (hsize : Ls.size = c.maxLocals) (hW : (rest.map fun v => v.category).sum ≤ W) (hf : 1 ≤ R.frames) (hl : W + 12 ≤ R.locals)
    (k : own_K0 p l e R s m args below meth c P locs cells slots h (pc + 3) Ls rest) : own_Go p e below P T (mkF m pc Ls (.ref a :: rest)) := by
  obtain ⟨T', X', e', st⟩ := initO X hx hZ hown w1 w2 w3 eT (g := mkF m pc Ls (.ref a :: rest)) rfl hsize rfl hd hf (W := W) (by show 2 * 0 + _ ≤ _; omega) hl
  exact own_by st (k T' X' e')
theorem own_getF {own R0 O n d host : String} {index : Nat} {a : Addr} {v : Value} (X : Stand p l e R s m args below meth c T locs cells slots) (hx : p.tables.exec = Jvm.exec) (hZ : Z.Warmed39 s.vm) (hown : s.vm.findClass own = some m.cls) (eT : T.heap = h) (hd : decode c.code pc = .ok (.getfield index, 3))
    (w : (Cond.fieldLink own index R0 n d).before a0 Z = true ∨ (Cond.fieldLinkNest own index R0 n d host).before a0 Z = true) (via : Via Z R0 O n d) (F : Fld Z h a O n d v)
    (k : own_K0 p l e R s m args below meth c P locs cells slots h (pc + 3) Ls (v :: rest)) : own_Go p e below P T (mkF m pc Ls (.ref a :: rest)) := by
  obtain ⟨T', X', e', st⟩ := getF X hx hZ hown w via eT F (g := mkF m pc Ls (.ref a :: rest)) rfl rfl hd
  exact own_by st (k T' X' e')
theorem own_getS {own R0 O n d host : String} {index : Nat} {v : Value} (X : Stand p l e R s m args below meth c T locs cells slots) (hx : p.tables.exec = Jvm.exec) (hZ : Z.Warmed39 s.vm) (hown : s.vm.findClass own = some m.cls) (eT : T.heap = h) (hd : decode c.code pc = .ok (.getstatic index, 3))
    (w : (Cond.fieldLink own index R0 n d).before a0 Z = true ∨ (Cond.fieldLinkNest own index R0 n d host).before a0 Z = true) (via : Via Z R0 O n d) (F : Sta Z h O n d v)
    (k : own_K0 p l e R s m args below meth c P locs cells slots h (pc + 3) Ls (v :: st)) : own_Go p e below P T (mkF m pc Ls st) := by
  obtain ⟨T', X', e', stp⟩ := getS2 X hx hZ hown w via eT F (g := mkF m pc Ls st) rfl hd
  exact own_by stp (k T' X' e')
theorem own_new {own C : String} {index n : Nat} (X : Stand p l e R s m args below meth c T locs cells slots) (hx : p.tables.exec = Jvm.exec) (hZ : Z.Warmed39 s.vm) (hown : s.vm.findClass own = some m.cls) (eT : T.heap = h) (hd : decode c.code pc = .ok (.new index, 3))
    (w : (Cond.classLink own index C).before a0 Z = true) (wi : (Cond.instantiable C n).before a0 Z = true) (wz : (Cond.initialized C).before a0 Z = true) (hc : cells + 1 ≤ R.cells) (hl : slots + n ≤ R.slots)
    (k : ∀ (T' : State) (h' : Heap) (b : Addr), Stand p l e R s m args below meth c T' locs (cells + 1) (slots + n) → T'.heap = h' → b = h.size → Ext h h' → Exa Z h' b C → (∀ {O nm d : String} {ty : FieldType}, Laid Z a0 C O nm d → parseFieldDescriptor d = some ty → Fld Z h' b O nm d (defaultValue ty)) → own_Go p e below P T' (mkF m (pc + 3) Ls (.ref b :: st))) :
    own_Go p e below P T (mkF m pc Ls st) := by
  obtain ⟨T', h', X', e', E, A, D, -, stp⟩ := newO X hx hZ hown w wi wz eT (g := mkF m pc Ls st) rfl hd hc hl
  exact own_by stp (k T' h' _ X' e' rfl E A D)
theorem own_putF {own R0 O n d host C : String} {index kk : Nat} {ty : FieldType} {a : Addr} {v old : Value} (X : Stand p l e R s m args below meth c T locs cells slots) (hx : p.tables.exec = Jvm.exec) (hZ : Z.Warmed39 s.vm) (hown : s.vm.findClass own = some m.cls) (eT : T.heap = h) (hd : decode c.code pc = .ok (.putfield index, 3))
    (w : (Cond.fieldLink own index R0 n d).before a0 Z = true ∨ (Cond.fieldLinkNest own index R0 n d host).before a0 Z = true) (via : Via Z R0 O n d) (F : Fld Z h a O n d old) (E : Exa Z h a C) (L : (Cond.lays C O n d).before a0 Z = true ∨ ((Cond.laysFinal C O n d).before a0 Z = true ∧ own = O ∧ meth.name = "<init>")) (wi : (Cond.instantiable C kk).before a0 Z = true)
    (hty : parseFieldDescriptor d = some ty) (hn : narrow ty v = v) (hf : fits ty v = true)
    (k : ∀ (T' : State) (h' : Heap), Stand p l e R s m args below meth c T' (locs ++ [⟨a, Jvm.RoadKit.slotOf Z O n d⟩]) cells slots → T'.heap = h' → Wr h h' a (Jvm.RoadKit.slotOf Z O n d) v → own_Go p e below P T' (mkF m (pc + 3) Ls rest)) :
    own_Go p e below P T (mkF m pc Ls (v :: .ref a :: rest)) := by
  obtain ⟨T', h', X', e', W, st⟩ := putF X hx hZ hown w via eT F E L wi hty hn hf (g := mkF m pc Ls (v :: .ref a :: rest)) rfl rfl hd
  exact own_by st (k T' h' X' e' W)
theorem own_newA {aty : ArrayType} {n : Int32} (X : Stand p l e R s m args below meth c T locs cells slots) (hx : p.tables.exec = Jvm.exec) (hZ : Z.Warmed39 s.vm) (eT : T.heap = h) (hd : decode c.code pc = .ok (.newarray aty, 2))
    (w : (Cond.arrayClass (newarray.typeOf aty)).before a0 Z = true) (hn : ¬ n < 0) (cap : Nat) (hcap : n.toNatClampNeg ≤ cap) (hb : cap * 8 ≤ 536870912) (hc : cells + 1 ≤ R.cells) (hl : slots + cap ≤ R.slots)
    (k : ∀ (T' : State) (h' : Heap) (b : Addr) (cA : ClassId), Stand p l e R s m args below meth c T' locs (cells + 1) (slots + cap) → T'.heap = h' → b = h.size → Ext h h' → Arv Z h' b cA (newarray.typeOf aty) n [] (defaultValue (newarray.typeOf aty)) → own_Go p e below P T' (mkF m (pc + 2) Ls (.ref b :: rest))) :
    own_Go p e below P T (mkF m pc Ls (.int n :: rest)) := by
  obtain ⟨T', h', cA, X', e', E, A, stp⟩ := newP X hx hZ w eT (g := mkF m pc Ls (.int n :: rest)) rfl hd rfl hn hcap hb hc hl
  exact own_by stp (k T' h' _ cA X' e' rfl E (Arv.new A hn))
theorem own_ldcI {own : String} {index : Nat} {i : Int32} (X : Stand p l e R s m args below meth c T locs cells slots) (hx : p.tables.exec = Jvm.exec) (hZ : Z.Warmed39 s.vm) (hown : s.vm.findClass own = some m.cls) (hd : decode c.code pc = .ok (.ldc index, 2)) (w : (Cond.constant own index i).before a0 Z = true)
    (k : own_Go p e below P T (mkF m (pc + 2) Ls (.int i :: st))) : own_Go p e below P T (mkF m pc Ls st) :=
  own_by (fun t k => X.ldcInt hx hown (mvT hZ w) (g := mkF m pc Ls st) rfl hd t k) k
theorem own_ldcJ {own : String} {index : Nat} {i : Int64} (X : Stand p l e R s m args below meth c T locs cells slots) (hx : p.tables.exec = Jvm.exec) (hZ : Z.Warmed39 s.vm) (hown : s.vm.findClass own = some m.cls) (hd : decode c.code pc = .ok (.ldc2_w index, 3)) (w : (Cond.constantLong own index i).before a0 Z = true)
    (k : own_Go p e below P T (mkF m (pc + 3) Ls (.long i :: st))) : own_Go p e below P T (mkF m pc Ls st) :=
  own_by (fun t k => X.ldc2Long hx hown (mvT hZ w) (g := mkF m pc Ls st) rfl hd t k) k
end Own
theorem d2_0 : decode jdk_30_method_1_code 0 = .ok (.aload_n 0, 1) := by decide +kernel
theorem d2_1 : decode jdk_30_method_1_code 1 = .ok (.invokespecial 1, 3) := by decide +kernel
theorem d2_4 : decode jdk_30_method_1_code 4 = .ok (.return_, 1) := by decide +kernel
theorem pn_java_lang_Record : plainName "java/lang/Record" = true := by first | (simp [plainName, overriddenIn]; done) | decide +kernel
theorem d1_0 : decode prog_5_method_1_code 0 = .ok (.aload_n 0, 1) := by decide +kernel
theorem d1_1 : decode prog_5_method_1_code 1 = .ok (.invokespecial 1, 3) := by decide +kernel
theorem pd___V : parseMethodDescriptor "()V" = some ⟨[], none⟩ := by decide +kernel
theorem d1_4 : decode prog_5_method_1_code 4 = .ok (.iload_n 1, 1) := by decide +kernel
theorem d1_5 : decode prog_5_method_1_code 5 = .ok (.iconst (-1), 1) := by decide +kernel
theorem d1_6 : decode prog_5_method_1_code 6 = .ok (.if_icmp .lt 9, 3) := by decide +kernel
theorem d1_9 : decode prog_5_method_1_code 9 = .ok (.iload_n 1, 1) := by decide +kernel
theorem d1_10 : decode prog_5_method_1_code 10 = .ok (.bipush 13, 2) := by decide +kernel
theorem d1_12 : decode prog_5_method_1_code 12 = .ok (.if_icmp .le 23, 3) := by decide +kernel
theorem d1_15 : decode prog_5_method_1_code 15 = .ok (.iload_n 1, 1) := by decide +kernel
theorem d1_16 : decode prog_5_method_1_code 16 = .ok (.bipush 15, 2) := by decide +kernel
theorem d1_18 : decode prog_5_method_1_code 18 = .ok (.if_icmp .eq 17, 3) := by decide +kernel
theorem d1_35 : decode prog_5_method_1_code 35 = .ok (.aload_n 0, 1) := by decide +kernel
theorem d1_36 : decode prog_5_method_1_code 36 = .ok (.iload_n 1, 1) := by decide +kernel
theorem d1_37 : decode prog_5_method_1_code 37 = .ok (.putfield 18, 3) := by decide +kernel
theorem d1_40 : decode prog_5_method_1_code 40 = .ok (.return_, 1) := by decide +kernel
theorem pn_com_example_tablee_tablee_rules_cards_KaelCard : plainName "com/example/tablee/tablee/rules/cards/KaelCard" = true := by first | (simp [plainName, overriddenIn]; done) | decide +kernel
theorem d4_0 : decode prog_5_method_5_code 0 = .ok (.aload_n 0, 1) := by decide +kernel
theorem d4_1 : decode prog_5_method_5_code 1 = .ok (.getfield 18, 3) := by decide +kernel
theorem d4_4 : decode prog_5_method_5_code 4 = .ok (.bipush 15, 2) := by decide +kernel
theorem d4_6 : decode prog_5_method_5_code 6 = .ok (.if_icmp .ne 7, 3) := by decide +kernel
theorem d4_9 : decode prog_5_method_5_code 9 = .ok (.iconst 1, 1) := by decide +kernel
theorem d4_10 : decode prog_5_method_5_code 10 = .ok (.goto 4, 3) := by decide +kernel
theorem d4_14 : decode prog_5_method_5_code 14 = .ok (.ireturn, 1) := by decide +kernel
theorem d4_13 : decode prog_5_method_5_code 13 = .ok (.iconst 0, 1) := by decide +kernel
theorem pd__I_V : parseMethodDescriptor "(I)V" = some ⟨[.int], none⟩ := by decide +kernel
theorem pd___Z : parseMethodDescriptor "()Z" = some ⟨[], some .boolean⟩ := by decide +kernel
theorem pn_com_example_tablee_tablee_rules_cards_KaelCardIsPassePinLaw : plainName "com/example/tablee/tablee/rules/cards/KaelCardIsPassePinLaw" = true := by first | (simp [plainName, overriddenIn]; done) | decide +kernel
theorem ef_rmR (m : MethodId) (x0 : Addr) : entryFrame m #[(.ref x0)] 1 = mkF m 0 #[.val (.ref x0)] [] := by first | (simp [entryFrame, mkF, argsToLocals, Value.category]; done) | rfl
set_option maxRecDepth 65536 in
set_option maxHeartbeats 40000000 in
theorem rmR (l : Launch) (Z : State) (a0 : Array Value) (hw : ∀ d ∈ tables_1, d.before a0 Z = true) (ws : List Jvm.Cond) (a1 : Addr) (h0 : Heap)  :
    own_Ct l Z (⟨"java/lang/Record", "<init>", "()V"⟩ : MethodName) jdk_30_method_1_code 1 none ws ({ frames := 1, cells := 0, slots := 0, locals := 12 } : Room) #[(.ref a1)] h0 (fun v h L => v = none ∧ L = [] ∧ h = h0) := by
  refine own_of pn_java_lang_Record ?_
  intro p e s m below meth c s₁ hx hby hml hown hnm hret hlk hZ X0 e0
  rw [ef_rmR]
  refine own_by (T' := s₁) (f' := (mkF m 1 #[.val (.ref a1)] [(.ref a1)])) (fun t k => XS.aloadN X0.here hx rfl (hb hby d2_0) rfl rfl k) ?_
  refine own_init X0 hx hZ hown e0 (hb hby d2_1) 0 (hw _ (List.mem_of_getElem? (i := 12) rfl)) (hw _ (List.mem_of_getElem? (i := 13) rfl)) (hw _ (List.mem_of_getElem? (i := 14) rfl)) (by rw [hml]; rfl) (Nat.le_of_eq rfl) (by decide) (by decide) ?_
  intro T1 X1 e1
  show own_Go p e below _ T1 (mkF m 4 #[.val (.ref a1)] [])
  refine own_retV X1 hx hret hlk (hb hby d2_4) (by decide) (by decide) ?_
  try rw [e1]
  exact ⟨rfl, rfl, rfl⟩
theorem ef_rmA (m : MethodId) (x0 : Addr) (x1 : Int32) : entryFrame m #[(.ref x0), (.int x1)] 2 = mkF m 0 #[.val (.ref x0), .val (.int x1)] [] := by first | (simp [entryFrame, mkF, argsToLocals, Value.category]; done) | rfl
set_option maxRecDepth 65536 in
set_option maxHeartbeats 40000000 in
theorem rmA (l : Launch) (Z : State) (a0 : Array Value) (hw : ∀ d ∈ tables_1, d.before a0 Z = true) (ws : List Jvm.Cond) (a1 : Addr)  (u1 : Value) (h0 : Heap)  (n0 : Nat) (Z0 : n0 ≤ h0.size) (g1 : n0 ≤ a1) (E1 : Exa Z h0 a1 "com/example/tablee/tablee/rules/cards/KaelCard") (F1 : Fld Z h0 a1 "com/example/tablee/tablee/rules/cards/KaelCard" "value" "I" u1) :
    own_Ct l Z (⟨"com/example/tablee/tablee/rules/cards/KaelCard", "<init>", "(I)V"⟩ : MethodName) prog_5_method_1_code 2 none ws ({ frames := 2, cells := 0, slots := 0, locals := 40 } : Room) #[(.ref a1), (.int (15 : Int32))] h0 (fun v h L => v = none ∧ Fr n0 L ∧ Keep h0 h [a1] ∧ Exa Z h a1 "com/example/tablee/tablee/rules/cards/KaelCard" ∧ Fld Z h a1 "com/example/tablee/tablee/rules/cards/KaelCard" "value" "I" (.int (15 : Int32))) := by
  refine own_of pn_com_example_tablee_tablee_rules_cards_KaelCard ?_
  intro p e s m below meth c s₁ hx hby hml hown hnm hret hlk hZ X0 e0
  have N0 := Fr.nil n0
  have K0 := Keep.refl h0 [a1]
  rw [ef_rmA]
  refine own_by (T' := s₁) (f' := (mkF m 1 #[.val (.ref a1), .val (.int (15 : Int32))] [(.ref a1)])) (fun t k => XS.aloadN X0.here hx rfl (hb hby d1_0) rfl rfl k) ?_
  refine own_callN X0 hx hZ hown e0 (hb hby d1_1) [] [] 0 (rmR l Z a0 hw [] a1 h0) (hw _ (List.mem_of_getElem? (i := 7) rfl)) (hw _ (List.mem_of_getElem? (i := 8) rfl)) (hw _ (List.mem_of_getElem? (i := 10) rfl)) (hw _ (List.mem_of_getElem? (i := 11) rfl)) rfl (by decide) pd___V (by rw [hml]; rfl) rfl rfl (Nat.le_of_eq rfl) (by decide) (by decide) (by decide) (by decide) ?_
  rintro T1 _ L1 X1 ⟨rfl, rfl, e1⟩
  show own_Go p e below _ T1 (mkF m 4 #[.val (.ref a1), .val (.int (15 : Int32))] [])
  rw [List.append_nil] at X1
  refine own_by (T' := T1) (f' := (mkF m 5 #[.val (.ref a1), .val (.int (15 : Int32))] [(.int (15 : Int32))])) (fun t k => XS.iloadN X1.here hx rfl (hb hby d1_4) rfl k) ?_
  refine own_by (T' := T1) (f' := (mkF m 6 #[.val (.ref a1), .val (.int (15 : Int32))] [(.int (-1 : Int32)), (.int (15 : Int32))])) (fun t k => XS.iconst X1.here hx rfl (hb hby d1_5) k) ?_
  refine own_by (T' := T1) (f' := (mkF m 9 #[.val (.ref a1), .val (.int (15 : Int32))] [])) (fun t k => XS.icmpNo X1.here hx rfl (hb hby d1_6) rfl (flt (by decide)).1 k) ?_
  refine own_by (T' := T1) (f' := (mkF m 10 #[.val (.ref a1), .val (.int (15 : Int32))] [(.int (15 : Int32))])) (fun t k => XS.iloadN X1.here hx rfl (hb hby d1_9) rfl k) ?_
  refine own_by (T' := T1) (f' := (mkF m 12 #[.val (.ref a1), .val (.int (15 : Int32))] [(.int (13 : Int32)), (.int (15 : Int32))])) (fun t k => XS.bipush X1.here hx rfl (hb hby d1_10) k) ?_
  refine own_by (T' := T1) (f' := (mkF m 15 #[.val (.ref a1), .val (.int (15 : Int32))] [])) (fun t k => XS.icmpNo X1.here hx rfl (hb hby d1_12) rfl (tlt (by decide)).2.2.2 k) ?_
  refine own_by (T' := T1) (f' := (mkF m 16 #[.val (.ref a1), .val (.int (15 : Int32))] [(.int (15 : Int32))])) (fun t k => XS.iloadN X1.here hx rfl (hb hby d1_15) rfl k) ?_
  refine own_by (T' := T1) (f' := (mkF m 18 #[.val (.ref a1), .val (.int (15 : Int32))] [(.int (15 : Int32)), (.int (15 : Int32))])) (fun t k => XS.bipush X1.here hx rfl (hb hby d1_16) k) ?_
  refine own_by (T' := T1) (f' := (mkF m 35 #[.val (.ref a1), .val (.int (15 : Int32))] [])) (fun t k => XS.icmpYes X1.here hx rfl (pc0 := 18) (pc' := 35) rfl (hb hby d1_18) rfl (teq (by decide)).1 (by decide) (by decide) k) ?_
  refine own_by (T' := T1) (f' := (mkF m 36 #[.val (.ref a1), .val (.int (15 : Int32))] [(.ref a1)])) (fun t k => XS.aloadN X1.here hx rfl (hb hby d1_35) rfl rfl k) ?_
  refine own_by (T' := T1) (f' := (mkF m 37 #[.val (.ref a1), .val (.int (15 : Int32))] [(.int (15 : Int32)), (.ref a1)])) (fun t k => XS.iloadN X1.here hx rfl (hb hby d1_36) rfl k) ?_
  refine own_putF (host := "") X1 hx hZ hown e1 (hb hby d1_37) (Or.inl (hw _ (List.mem_of_getElem? (i := 15) rfl))) Via.refl F1 E1 (Or.inr ⟨(hw _ (List.mem_of_getElem? (i := 16) rfl)), rfl, hnm⟩) (hw _ (List.mem_of_getElem? (i := 2) rfl)) (ty := .int) (by decide) rfl rfl ?_
  intro T2 h2 X2 e2 W2
  show own_Go p e below _ T2 (mkF m 40 #[.val (.ref a1), .val (.int (15 : Int32))] [])
  have F2 := F1.same W2
  have sz3 : n0 ≤ h2.size := by rw [W2.size]; exact Z0
  have K4 := K0.wr W2 (Or.inl (List.mem_of_getElem? (i := 0) rfl))
  have N2 := Fr.snoc X2 N0 g1
  have f5 := (E1.wr W2)
  refine own_retV X2 hx hret hlk (hb hby d1_40) (by decide) (by decide) ?_
  try rw [e2]
  exact ⟨rfl, N2, K4, f5, F2⟩
theorem ef_rmB (m : MethodId) (x0 : Addr) (x1 : Int32) : entryFrame m #[(.ref x0), (.int x1)] 2 = mkF m 0 #[.val (.ref x0), .val (.int x1)] [] := by first | (simp [entryFrame, mkF, argsToLocals, Value.category]; done) | rfl
set_option maxRecDepth 65536 in
set_option maxHeartbeats 40000000 in
theorem rmB (l : Launch) (Z : State) (a0 : Array Value) (hw : ∀ d ∈ tables_1, d.before a0 Z = true) (ws : List Jvm.Cond) (a1 : Addr) (p2 : Int32) (u1 : Value) (h0 : Heap) (hp1 : ¬ (p2 < (-1 : Int32))) (hp2 : ¬ ((13 : Int32) < p2)) (n0 : Nat) (Z0 : n0 ≤ h0.size) (g1 : n0 ≤ a1) (E1 : Exa Z h0 a1 "com/example/tablee/tablee/rules/cards/KaelCard") (F1 : Fld Z h0 a1 "com/example/tablee/tablee/rules/cards/KaelCard" "value" "I" u1) :
    own_Ct l Z (⟨"com/example/tablee/tablee/rules/cards/KaelCard", "<init>", "(I)V"⟩ : MethodName) prog_5_method_1_code 2 none ws ({ frames := 2, cells := 0, slots := 0, locals := 40 } : Room) #[(.ref a1), (.int p2)] h0 (fun v h L => v = none ∧ Fr n0 L ∧ Keep h0 h [a1] ∧ Exa Z h a1 "com/example/tablee/tablee/rules/cards/KaelCard" ∧ Fld Z h a1 "com/example/tablee/tablee/rules/cards/KaelCard" "value" "I" (.int p2)) := by
  refine own_of pn_com_example_tablee_tablee_rules_cards_KaelCard ?_
  intro p e s m below meth c s₁ hx hby hml hown hnm hret hlk hZ X0 e0
  have N0 := Fr.nil n0
  have K0 := Keep.refl h0 [a1]
  rw [ef_rmB]
  refine own_by (T' := s₁) (f' := (mkF m 1 #[.val (.ref a1), .val (.int p2)] [(.ref a1)])) (fun t k => XS.aloadN X0.here hx rfl (hb hby d1_0) rfl rfl k) ?_
  refine own_callN X0 hx hZ hown e0 (hb hby d1_1) [] [] 0 (rmR l Z a0 hw [] a1 h0) (hw _ (List.mem_of_getElem? (i := 7) rfl)) (hw _ (List.mem_of_getElem? (i := 8) rfl)) (hw _ (List.mem_of_getElem? (i := 10) rfl)) (hw _ (List.mem_of_getElem? (i := 11) rfl)) rfl (by decide) pd___V (by rw [hml]; rfl) rfl rfl (Nat.le_of_eq rfl) (by decide) (by decide) (by decide) (by decide) ?_
  rintro T1 _ L1 X1 ⟨rfl, rfl, e1⟩
  show own_Go p e below _ T1 (mkF m 4 #[.val (.ref a1), .val (.int p2)] [])
  rw [List.append_nil] at X1
  refine own_by (T' := T1) (f' := (mkF m 5 #[.val (.ref a1), .val (.int p2)] [(.int p2)])) (fun t k => XS.iloadN X1.here hx rfl (hb hby d1_4) rfl k) ?_
  refine own_by (T' := T1) (f' := (mkF m 6 #[.val (.ref a1), .val (.int p2)] [(.int (-1 : Int32)), (.int p2)])) (fun t k => XS.iconst X1.here hx rfl (hb hby d1_5) k) ?_
  have hc6_2 : ¬ (p2 < (-1 : Int32)) := hp1
  refine own_by (T' := T1) (f' := (mkF m 9 #[.val (.ref a1), .val (.int p2)] [])) (fun t k => XS.icmpNo X1.here hx rfl (hb hby d1_6) rfl (flt hc6_2).1 k) ?_
  refine own_by (T' := T1) (f' := (mkF m 10 #[.val (.ref a1), .val (.int p2)] [(.int p2)])) (fun t k => XS.iloadN X1.here hx rfl (hb hby d1_9) rfl k) ?_
  refine own_by (T' := T1) (f' := (mkF m 12 #[.val (.ref a1), .val (.int p2)] [(.int (13 : Int32)), (.int p2)])) (fun t k => XS.bipush X1.here hx rfl (hb hby d1_10) k) ?_
  have hc12_3 : ¬ ((13 : Int32) < p2) := hp2
  refine own_by (T' := T1) (f' := (mkF m 35 #[.val (.ref a1), .val (.int p2)] [])) (fun t k => XS.icmpYes X1.here hx rfl (pc0 := 12) (pc' := 35) rfl (hb hby d1_12) rfl (flt hc12_3).2.2.2 (by decide) (by decide) k) ?_
  refine own_by (T' := T1) (f' := (mkF m 36 #[.val (.ref a1), .val (.int p2)] [(.ref a1)])) (fun t k => XS.aloadN X1.here hx rfl (hb hby d1_35) rfl rfl k) ?_
  refine own_by (T' := T1) (f' := (mkF m 37 #[.val (.ref a1), .val (.int p2)] [(.int p2), (.ref a1)])) (fun t k => XS.iloadN X1.here hx rfl (hb hby d1_36) rfl k) ?_
  refine own_putF (host := "") X1 hx hZ hown e1 (hb hby d1_37) (Or.inl (hw _ (List.mem_of_getElem? (i := 15) rfl))) Via.refl F1 E1 (Or.inr ⟨(hw _ (List.mem_of_getElem? (i := 16) rfl)), rfl, hnm⟩) (hw _ (List.mem_of_getElem? (i := 2) rfl)) (ty := .int) (by decide) rfl rfl ?_
  intro T4 h4 X4 e4 W4
  show own_Go p e below _ T4 (mkF m 40 #[.val (.ref a1), .val (.int p2)] [])
  have F4 := F1.same W4
  have sz5 : n0 ≤ h4.size := by rw [W4.size]; exact Z0
  have K6 := K0.wr W4 (Or.inl (List.mem_of_getElem? (i := 0) rfl))
  have N4 := Fr.snoc X4 N0 g1
  have f7 := (E1.wr W4)
  refine own_retV X4 hx hret hlk (hb hby d1_40) (by decide) (by decide) ?_
  try rw [e4]
  exact ⟨rfl, N4, K6, f7, F4⟩
theorem ef_rmP (m : MethodId) (x0 : Addr) : entryFrame m #[(.ref x0)] 1 = mkF m 0 #[.val (.ref x0)] [] := by first | (simp [entryFrame, mkF, argsToLocals, Value.category]; done) | rfl
set_option maxRecDepth 65536 in
set_option maxHeartbeats 40000000 in
theorem rmP (l : Launch) (Z : State) (a0 : Array Value) (hw : ∀ d ∈ tables_1, d.before a0 Z = true) (ws : List Jvm.Cond) (a1 : Addr) (w1 : Int32) (h0 : Heap) (F1 : Fld Z h0 a1 "com/example/tablee/tablee/rules/cards/KaelCard" "value" "I" (.int w1)) :
    own_Ct l Z (⟨"com/example/tablee/tablee/rules/cards/KaelCard", "isPasse", "()Z"⟩ : MethodName) prog_5_method_5_code 1 (some .boolean) ws ({ frames := 0, cells := 0, slots := 0, locals := 0 } : Room) #[(.ref a1)] h0 (fun v h L => v = some (.int (if w1 = (15 : Int32) then 1 else 0)) ∧ L = [] ∧ h = h0) := by
  refine own_of pn_com_example_tablee_tablee_rules_cards_KaelCard ?_
  intro p e s m below meth c s₁ hx hby hml hown hnm hret hlk hZ X0 e0
  rw [ef_rmP]
  refine own_by (T' := s₁) (f' := (mkF m 1 #[.val (.ref a1)] [(.ref a1)])) (fun t k => XS.aloadN X0.here hx rfl (hb hby d4_0) rfl rfl k) ?_
  refine own_getF (host := "") X0 hx hZ hown e0 (hb hby d4_1) (Or.inl (hw _ (List.mem_of_getElem? (i := 15) rfl))) Via.refl F1 ?_
  intro T1 X1 e1
  show own_Go p e below _ T1 (mkF m 4 #[.val (.ref a1)] [(.int w1)])
  refine own_by (T' := T1) (f' := (mkF m 6 #[.val (.ref a1)] [(.int (15 : Int32)), (.int w1)])) (fun t k => XS.bipush X1.here hx rfl (hb hby d4_4) k) ?_
  by_cases hc6_2 : w1 = (15 : Int32)
  · have _ := X1
    refine own_by (T' := T1) (f' := (mkF m 9 #[.val (.ref a1)] [])) (fun t k => XS.icmpNo X1.here hx rfl (hb hby d4_6) rfl (teq hc6_2).2 k) ?_
    refine own_by (T' := T1) (f' := (mkF m 10 #[.val (.ref a1)] [(.int (1 : Int32))])) (fun t k => XS.iconst X1.here hx rfl (hb hby d4_9) k) ?_
    refine own_by (T' := T1) (f' := (mkF m 14 #[.val (.ref a1)] [(.int (1 : Int32))])) (fun t k => XS.goto X1.here hx rfl (pc0 := 10) (pc' := 14) rfl (hb hby d4_10) (by decide) (by decide) k) ?_
    refine own_retZ X1 hx hret hlk (hb hby d4_14) (Or.inr rfl) (by decide) (by decide) ?_
    try rw [e1]
    exact ⟨by rw [if_pos hc6_2], rfl, rfl⟩
  · have _ := X1
    refine own_by (T' := T1) (f' := (mkF m 13 #[.val (.ref a1)] [])) (fun t k => XS.icmpYes X1.here hx rfl (pc0 := 6) (pc' := 13) rfl (hb hby d4_6) rfl (feq hc6_2).2 (by decide) (by decide) k) ?_
    refine own_by (T' := T1) (f' := (mkF m 14 #[.val (.ref a1)] [(.int (0 : Int32))])) (fun t k => XS.iconst X1.here hx rfl (hb hby d4_13) k) ?_
    refine own_retZ X1 hx hret hlk (hb hby d4_14) (Or.inl rfl) (by decide) (by decide) ?_
    try rw [e1]
    exact ⟨by rw [if_neg hc6_2], rfl, rfl⟩
theorem own_k (x : Int32) : 0 ≤ ((x &&& 2147483647) % 16).toInt ∧ ((x &&& 2147483647) % 16).toInt < 16 := by
  have h1 := c_mask x 2147483647 31 (by decide) (by decide)
  have h2 := (c_irem (x &&& 2147483647) 16 16 (by decide)).1
  omega
theorem own_lo {k : Int32} (h : 0 ≤ k.toInt) (h' : k.toInt < 16) : ¬ (k - 1 < (-1 : Int32)) := by
  rw [Int32.lt_iff_toInt_lt]
  have h1 := c_isub k 1
  have r := rng32 (k - 1)
  have e1 : (1 : Int32).toInt = 1 := by decide
  have e2 : (-1 : Int32).toInt = -1 := by decide
  omega
theorem own_hi {k : Int32} (h : 0 ≤ k.toInt) (h' : k.toInt < 16) (hn : ¬ k = 15) : ¬ ((13 : Int32) < k - 1) ∧ ¬ (k - 1 = 15) := by
  have h1 := c_isub k 1
  have r := rng32 (k - 1)
  have e1 : (1 : Int32).toInt = 1 := by decide
  have e2 : (13 : Int32).toInt = 13 := by decide
  have e3 : (15 : Int32).toInt = 15 := by decide
  have e4 : ¬ k.toInt = 15 := fun q => hn (Int32.toInt_inj.mp (by rw [q, e3]))
  refine ⟨?_, fun q => ?_⟩
  · rw [Int32.lt_iff_toInt_lt]; omega
  · rw [← Int32.toInt_inj, e3] at q; omega
theorem ef_rm0 (m : MethodId) (x0 : Int32) : entryFrame m #[(.int x0)] maxLocals = mkF m 0 #[.val (.int x0), .unset, .unset, .unset, .unset] [] := by first | (simp [entryFrame, mkF, argsToLocals, Value.category, maxLocals]; done) | rfl
set_option maxRecDepth 65536 in
set_option maxHeartbeats 40000000 in
theorem rm0 (l : Launch) (Z : State) (a0 : Array Value) (hw : ∀ d ∈ tables_1, d.before a0 Z = true) (ws : List Jvm.Cond) (i0 : Int32) (h0 : Heap) (n0 : Nat) (Z0 : n0 ≤ h0.size) :
    own_Ct l Z x code maxLocals ret ws room_1 #[(.int i0)] h0 (fun v h L => v = some (.int 1) ∧ Fr n0 L) := by
  refine own_of pn_com_example_tablee_tablee_rules_cards_KaelCardIsPassePinLaw ?_
  intro p e s m below meth c s₁ hx hby hml hown hnm hret hlk hZ X0 e0
  have N0 := Fr.nil n0
  rw [ef_rm0]
  refine own_by (T' := s₁) (f' := (mkF m 1 #[.val (.int i0), .unset, .unset, .unset, .unset] [(.int i0)])) (fun t k => XS.iloadN X0.here hx rfl (hb hby at_0) rfl k) ?_
  refine own_by (T' := s₁) (f' := (mkF m 3 #[.val (.int i0), .unset, .unset, .unset, .unset] [(.int (2147483647 : Int32)), (.int i0)])) (fun t k => X0.ldcInt hx hown (mvT hZ (hw _ (List.mem_of_getElem? (i := 0) rfl))) (g := (mkF m 1 #[.val (.int i0), .unset, .unset, .unset, .unset] [(.int i0)])) rfl (hb hby at_1) _ k) ?_
  refine own_by (T' := s₁) (f' := (mkF m 4 #[.val (.int i0), .unset, .unset, .unset, .unset] [(.int (i0 &&& (2147483647 : Int32)))])) (fun t k => XS.iand X0.here hx rfl (hb hby at_3) rfl k) ?_
  refine own_by (T' := s₁) (f' := (mkF m 6 #[.val (.int i0), .unset, .unset, .unset, .unset] [(.int (16 : Int32)), (.int (i0 &&& (2147483647 : Int32)))])) (fun t k => XS.bipush X0.here hx rfl (hb hby at_4) k) ?_
  refine own_by (T' := s₁) (f' := (mkF m 7 #[.val (.int i0), .unset, .unset, .unset, .unset] [(.int ((i0 &&& (2147483647 : Int32)) % (16 : Int32)))])) (fun t k => iremM X0 hx rfl (hb hby at_6) rfl (by decide) k) ?_
  obtain ⟨v0, hv0⟩ : ∃ z : Int32, z = ((i0 &&& (2147483647 : Int32)) % (16 : Int32)) := ⟨_, rfl⟩
  rw [← hv0]
  show own_Go p e below _ s₁ (mkF m 7 #[.val (.int i0), .unset, .unset, .unset, .unset] [(.int v0)])
  have hk0 : 0 ≤ v0.toInt := by rw [hv0]; exact (own_k _).1
  have hk1 : v0.toInt < 16 := by rw [hv0]; exact (own_k _).2
  refine own_by (T' := s₁) (f' := (mkF m 8 #[.val (.int i0), .val (.int v0), .unset, .unset, .unset] [])) (fun t k => XS.istoreN X0.here hx rfl (hb hby at_7) rfl (l' := #[.val (.int i0), .val (.int v0), .unset, .unset, .unset]) rfl k) ?_
  refine own_by (T' := s₁) (f' := (mkF m 9 #[.val (.int i0), .val (.int v0), .unset, .unset, .unset] [(.int v0)])) (fun t k => XS.iloadN X0.here hx rfl (hb hby at_8) rfl k) ?_
  refine own_by (T' := s₁) (f' := (mkF m 11 #[.val (.int i0), .val (.int v0), .unset, .unset, .unset] [(.int (15 : Int32)), (.int v0)])) (fun t k => XS.bipush X0.here hx rfl (hb hby at_9) k) ?_
  by_cases hc11_1 : v0 = (15 : Int32)
  · have _ := X0
    refine own_by (T' := s₁) (f' := (mkF m 14 #[.val (.int i0), .val (.int v0), .unset, .unset, .unset] [])) (fun t k => XS.icmpNo X0.here hx rfl (hb hby at_11) rfl (teq hc11_1).2 k) ?_
    refine own_by (T' := s₁) (f' := (mkF m 16 #[.val (.int i0), .val (.int v0), .unset, .unset, .unset] [(.int (15 : Int32))])) (fun t k => XS.bipush X0.here hx rfl (hb hby at_14) k) ?_
    refine own_by (T' := s₁) (f' := (mkF m 17 #[.val (.int i0), .val (.int v0), .val (.int (15 : Int32)), .unset, .unset] [])) (fun t k => XS.istoreN X0.here hx rfl (hb hby at_16) rfl (l' := #[.val (.int i0), .val (.int v0), .val (.int (15 : Int32)), .unset, .unset]) rfl k) ?_
    refine own_by (T' := s₁) (f' := (mkF m 24 #[.val (.int i0), .val (.int v0), .val (.int (15 : Int32)), .unset, .unset] [])) (fun t k => XS.goto X0.here hx rfl (pc0 := 17) (pc' := 24) rfl (hb hby at_17) (by decide) (by decide) k) ?_
    refine own_by (T' := s₁) (f' := (mkF m 25 #[.val (.int i0), .val (.int v0), .val (.int (15 : Int32)), .unset, .unset] [(.int v0)])) (fun t k => XS.iloadN X0.here hx rfl (hb hby at_24) rfl k) ?_
    refine own_by (T' := s₁) (f' := (mkF m 27 #[.val (.int i0), .val (.int v0), .val (.int (15 : Int32)), .unset, .unset] [(.int (15 : Int32)), (.int v0)])) (fun t k => XS.bipush X0.here hx rfl (hb hby at_25) k) ?_
    refine own_by (T' := s₁) (f' := (mkF m 30 #[.val (.int i0), .val (.int v0), .val (.int (15 : Int32)), .unset, .unset] [])) (fun t k => XS.icmpNo X0.here hx rfl (hb hby at_27) rfl (teq hc11_1).2 k) ?_
    refine own_by (T' := s₁) (f' := (mkF m 31 #[.val (.int i0), .val (.int v0), .val (.int (15 : Int32)), .unset, .unset] [(.int (1 : Int32))])) (fun t k => XS.iconst X0.here hx rfl (hb hby at_30) k) ?_
    refine own_by (T' := s₁) (f' := (mkF m 35 #[.val (.int i0), .val (.int v0), .val (.int (15 : Int32)), .unset, .unset] [(.int (1 : Int32))])) (fun t k => XS.goto X0.here hx rfl (pc0 := 31) (pc' := 35) rfl (hb hby at_31) (by decide) (by decide) k) ?_
    refine own_by (T' := s₁) (f' := (mkF m 36 #[.val (.int i0), .val (.int v0), .val (.int (15 : Int32)), .val (.int (1 : Int32)), .unset] [])) (fun t k => XS.istoreN X0.here hx rfl (hb hby at_35) rfl (l' := #[.val (.int i0), .val (.int v0), .val (.int (15 : Int32)), .val (.int (1 : Int32)), .unset]) rfl k) ?_
    refine own_new X0 hx hZ hown e0 (hb hby at_36) (hw _ (List.mem_of_getElem? (i := 1) rfl)) (hw _ (List.mem_of_getElem? (i := 2) rfl)) (hw _ (List.mem_of_getElem? (i := 3) rfl)) (by decide) (by decide) ?_
    intro T2 h2 b2 X2 e2 g2 E2 A2 D2
    have gn2 : n0 ≤ b2 := by rw [g2]; exact Z0
    show own_Go p e below _ T2 (mkF m 39 #[.val (.int i0), .val (.int v0), .val (.int (15 : Int32)), .val (.int (1 : Int32)), .unset] [(.ref b2)])
    have F2_value : Fld Z h2 b2 "com/example/tablee/tablee/rules/cards/KaelCard" "value" "I" (.int (0 : Int32)) := D2 (Or.inr (hw _ (List.mem_of_getElem? (i := 16) rfl))) (ty := .int) (by decide)
    have sz3 : n0 ≤ h2.size := Nat.le_trans Z0 E2.1
    refine own_by (T' := T2) (f' := (mkF m 40 #[.val (.int i0), .val (.int v0), .val (.int (15 : Int32)), .val (.int (1 : Int32)), .unset] [(.ref b2), (.ref b2)])) (fun t k => XS.dup X2.here hx rfl (hb hby at_39) rfl rfl k) ?_
    refine own_by (T' := T2) (f' := (mkF m 41 #[.val (.int i0), .val (.int v0), .val (.int (15 : Int32)), .val (.int (1 : Int32)), .unset] [(.int (15 : Int32)), (.ref b2), (.ref b2)])) (fun t k => XS.iloadN X2.here hx rfl (hb hby at_40) rfl k) ?_
    refine own_callN X2 hx hZ hown e2 (hb hby at_41) [(.int (15 : Int32))] [(.ref b2)] 1 (rmA l Z a0 hw [] b2 _ h2 n0 sz3 gn2 A2 F2_value) (hw _ (List.mem_of_getElem? (i := 4) rfl)) (hw _ (List.mem_of_getElem? (i := 5) rfl)) (hw _ (List.mem_of_getElem? (i := 3) rfl)) (hw _ (List.mem_of_getElem? (i := 6) rfl)) rfl (by decide) pd__I_V (by rw [hml]; rfl) rfl rfl (Nat.le_of_eq rfl) (by decide) (by decide) (by decide) (by decide) ?_
    rintro T4 _ L4 X4 ⟨rfl, N4q, K4, A4, F4⟩
    show own_Go p e below _ T4 (mkF m 44 #[.val (.int i0), .val (.int v0), .val (.int (15 : Int32)), .val (.int (1 : Int32)), .unset] [(.ref b2)])
    have N4 := Fr.app N0 N4q
    have sz5 : n0 ≤ T4.heap.size := Nat.le_trans sz3 K4.1
    refine own_by (T' := T4) (f' := (mkF m 46 #[.val (.int i0), .val (.int v0), .val (.int (15 : Int32)), .val (.int (1 : Int32)), .val (.ref b2)] [])) (fun t k => XS.astore X4.here hx rfl (hb hby at_44) rfl rfl (l' := #[.val (.int i0), .val (.int v0), .val (.int (15 : Int32)), .val (.int (1 : Int32)), .val (.ref b2)]) rfl k) ?_
    refine own_by (T' := T4) (f' := (mkF m 48 #[.val (.int i0), .val (.int v0), .val (.int (15 : Int32)), .val (.int (1 : Int32)), .val (.ref b2)] [(.ref b2)])) (fun t k => XS.aload X4.here hx rfl (hb hby at_46) rfl rfl k) ?_
    refine own_callV X4 hx hZ hown rfl (hb hby at_48) [] [] 0 (rmP l Z a0 hw [] b2 _ T4.heap F4) A4 (hw _ (List.mem_of_getElem? (i := 17) rfl)) (hw _ (List.mem_of_getElem? (i := 18) rfl)) (notFace_of_selects (args := #[]) (mvT hZ (hw _ (List.mem_of_getElem? (i := 20) rfl)))) (hw _ (List.mem_of_getElem? (i := 20) rfl)) (hw _ (List.mem_of_getElem? (i := 19) rfl)) (hw _ (List.mem_of_getElem? (i := 3) rfl)) (hw _ (List.mem_of_getElem? (i := 21) rfl)) (by decide) pd___Z (by rw [hml]; rfl) rfl rfl (Nat.le_of_eq rfl) (by decide) (by decide) (by decide) (by decide) ?_
    rintro T6 _ L6 X6 ⟨rfl, rfl, e6⟩
    show own_Go p e below _ T6 (mkF m 51 #[.val (.int i0), .val (.int v0), .val (.int (15 : Int32)), .val (.int (1 : Int32)), .val (.ref b2)] [(.int (if (15 : Int32) = (15 : Int32) then 1 else 0))])
    rw [List.append_nil] at X6
    rw [if_pos rfl]
    show own_Go p e below _ T6 (mkF m 51 #[.val (.int i0), .val (.int v0), .val (.int (15 : Int32)), .val (.int (1 : Int32)), .val (.ref b2)] [(.int (1 : Int32))])
    refine own_by (T' := T6) (f' := (mkF m 52 #[.val (.int i0), .val (.int v0), .val (.int (15 : Int32)), .val (.int (1 : Int32)), .val (.ref b2)] [(.int (1 : Int32)), (.int (1 : Int32))])) (fun t k => XS.iloadN X6.here hx rfl (hb hby at_51) rfl k) ?_
    refine own_by (T' := T6) (f' := (mkF m 55 #[.val (.int i0), .val (.int v0), .val (.int (15 : Int32)), .val (.int (1 : Int32)), .val (.ref b2)] [])) (fun t k => XS.icmpNo X6.here hx rfl (hb hby at_52) rfl (teq (by decide)).2 k) ?_
    refine own_by (T' := T6) (f' := (mkF m 56 #[.val (.int i0), .val (.int v0), .val (.int (15 : Int32)), .val (.int (1 : Int32)), .val (.ref b2)] [(.int (1 : Int32))])) (fun t k => XS.iconst X6.here hx rfl (hb hby at_55) k) ?_
    refine own_by (T' := T6) (f' := (mkF m 60 #[.val (.int i0), .val (.int v0), .val (.int (15 : Int32)), .val (.int (1 : Int32)), .val (.ref b2)] [(.int (1 : Int32))])) (fun t k => XS.goto X6.here hx rfl (pc0 := 56) (pc' := 60) rfl (hb hby at_56) (by decide) (by decide) k) ?_
    refine own_retZ X6 hx hret hlk (hb hby at_60) (Or.inr rfl) (by decide) (by decide) ?_
    try rw [e6]
    exact ⟨rfl, N4⟩
  · have _ := X0
    refine own_by (T' := s₁) (f' := (mkF m 20 #[.val (.int i0), .val (.int v0), .unset, .unset, .unset] [])) (fun t k => XS.icmpYes X0.here hx rfl (pc0 := 11) (pc' := 20) rfl (hb hby at_11) rfl (feq hc11_1).2 (by decide) (by decide) k) ?_
    refine own_by (T' := s₁) (f' := (mkF m 21 #[.val (.int i0), .val (.int v0), .unset, .unset, .unset] [(.int v0)])) (fun t k => XS.iloadN X0.here hx rfl (hb hby at_20) rfl k) ?_
    refine own_by (T' := s₁) (f' := (mkF m 22 #[.val (.int i0), .val (.int v0), .unset, .unset, .unset] [(.int (1 : Int32)), (.int v0)])) (fun t k => XS.iconst X0.here hx rfl (hb hby at_21) k) ?_
    refine own_by (T' := s₁) (f' := (mkF m 23 #[.val (.int i0), .val (.int v0), .unset, .unset, .unset] [(.int (v0 - (1 : Int32)))])) (fun t k => XS.isub X0.here hx rfl (hb hby at_22) rfl k) ?_
    refine own_by (T' := s₁) (f' := (mkF m 24 #[.val (.int i0), .val (.int v0), .val (.int (v0 - (1 : Int32))), .unset, .unset] [])) (fun t k => XS.istoreN X0.here hx rfl (hb hby at_23) rfl (l' := #[.val (.int i0), .val (.int v0), .val (.int (v0 - (1 : Int32))), .unset, .unset]) rfl k) ?_
    refine own_by (T' := s₁) (f' := (mkF m 25 #[.val (.int i0), .val (.int v0), .val (.int (v0 - (1 : Int32))), .unset, .unset] [(.int v0)])) (fun t k => XS.iloadN X0.here hx rfl (hb hby at_24) rfl k) ?_
    refine own_by (T' := s₁) (f' := (mkF m 27 #[.val (.int i0), .val (.int v0), .val (.int (v0 - (1 : Int32))), .unset, .unset] [(.int (15 : Int32)), (.int v0)])) (fun t k => XS.bipush X0.here hx rfl (hb hby at_25) k) ?_
    refine own_by (T' := s₁) (f' := (mkF m 34 #[.val (.int i0), .val (.int v0), .val (.int (v0 - (1 : Int32))), .unset, .unset] [])) (fun t k => XS.icmpYes X0.here hx rfl (pc0 := 27) (pc' := 34) rfl (hb hby at_27) rfl (feq hc11_1).2 (by decide) (by decide) k) ?_
    refine own_by (T' := s₁) (f' := (mkF m 35 #[.val (.int i0), .val (.int v0), .val (.int (v0 - (1 : Int32))), .unset, .unset] [(.int (0 : Int32))])) (fun t k => XS.iconst X0.here hx rfl (hb hby at_34) k) ?_
    refine own_by (T' := s₁) (f' := (mkF m 36 #[.val (.int i0), .val (.int v0), .val (.int (v0 - (1 : Int32))), .val (.int (0 : Int32)), .unset] [])) (fun t k => XS.istoreN X0.here hx rfl (hb hby at_35) rfl (l' := #[.val (.int i0), .val (.int v0), .val (.int (v0 - (1 : Int32))), .val (.int (0 : Int32)), .unset]) rfl k) ?_
    refine own_new X0 hx hZ hown e0 (hb hby at_36) (hw _ (List.mem_of_getElem? (i := 1) rfl)) (hw _ (List.mem_of_getElem? (i := 2) rfl)) (hw _ (List.mem_of_getElem? (i := 3) rfl)) (by decide) (by decide) ?_
    intro T7 h7 b7 X7 e7 g7 E7 A7 D7
    have gn7 : n0 ≤ b7 := by rw [g7]; exact Z0
    show own_Go p e below _ T7 (mkF m 39 #[.val (.int i0), .val (.int v0), .val (.int (v0 - (1 : Int32))), .val (.int (0 : Int32)), .unset] [(.ref b7)])
    have F7_value : Fld Z h7 b7 "com/example/tablee/tablee/rules/cards/KaelCard" "value" "I" (.int (0 : Int32)) := D7 (Or.inr (hw _ (List.mem_of_getElem? (i := 16) rfl))) (ty := .int) (by decide)
    have sz8 : n0 ≤ h7.size := Nat.le_trans Z0 E7.1
    refine own_by (T' := T7) (f' := (mkF m 40 #[.val (.int i0), .val (.int v0), .val (.int (v0 - (1 : Int32))), .val (.int (0 : Int32)), .unset] [(.ref b7), (.ref b7)])) (fun t k => XS.dup X7.here hx rfl (hb hby at_39) rfl rfl k) ?_
    refine own_by (T' := T7) (f' := (mkF m 41 #[.val (.int i0), .val (.int v0), .val (.int (v0 - (1 : Int32))), .val (.int (0 : Int32)), .unset] [(.int (v0 - (1 : Int32))), (.ref b7), (.ref b7)])) (fun t k => XS.iloadN X7.here hx rfl (hb hby at_40) rfl k) ?_
    refine own_callN X7 hx hZ hown e7 (hb hby at_41) [(.int (v0 - (1 : Int32)))] [(.ref b7)] 1 (rmB l Z a0 hw [] b7 (v0 - (1 : Int32)) _ h7 (own_lo hk0 hk1) (own_hi hk0 hk1 hc11_1).1 n0 sz8 gn7 A7 F7_value) (hw _ (List.mem_of_getElem? (i := 4) rfl)) (hw _ (List.mem_of_getElem? (i := 5) rfl)) (hw _ (List.mem_of_getElem? (i := 3) rfl)) (hw _ (List.mem_of_getElem? (i := 6) rfl)) rfl (by decide) pd__I_V (by rw [hml]; rfl) rfl rfl (Nat.le_of_eq rfl) (by decide) (by decide) (by decide) (by decide) ?_
    rintro T9 _ L9 X9 ⟨rfl, N9q, K9, A9, F9⟩
    show own_Go p e below _ T9 (mkF m 44 #[.val (.int i0), .val (.int v0), .val (.int (v0 - (1 : Int32))), .val (.int (0 : Int32)), .unset] [(.ref b7)])
    have N9 := Fr.app N0 N9q
    have sz10 : n0 ≤ T9.heap.size := Nat.le_trans sz8 K9.1
    refine own_by (T' := T9) (f' := (mkF m 46 #[.val (.int i0), .val (.int v0), .val (.int (v0 - (1 : Int32))), .val (.int (0 : Int32)), .val (.ref b7)] [])) (fun t k => XS.astore X9.here hx rfl (hb hby at_44) rfl rfl (l' := #[.val (.int i0), .val (.int v0), .val (.int (v0 - (1 : Int32))), .val (.int (0 : Int32)), .val (.ref b7)]) rfl k) ?_
    refine own_by (T' := T9) (f' := (mkF m 48 #[.val (.int i0), .val (.int v0), .val (.int (v0 - (1 : Int32))), .val (.int (0 : Int32)), .val (.ref b7)] [(.ref b7)])) (fun t k => XS.aload X9.here hx rfl (hb hby at_46) rfl rfl k) ?_
    refine own_callV X9 hx hZ hown rfl (hb hby at_48) [] [] 0 (rmP l Z a0 hw [] b7 _ T9.heap F9) A9 (hw _ (List.mem_of_getElem? (i := 17) rfl)) (hw _ (List.mem_of_getElem? (i := 18) rfl)) (notFace_of_selects (args := #[]) (mvT hZ (hw _ (List.mem_of_getElem? (i := 20) rfl)))) (hw _ (List.mem_of_getElem? (i := 20) rfl)) (hw _ (List.mem_of_getElem? (i := 19) rfl)) (hw _ (List.mem_of_getElem? (i := 3) rfl)) (hw _ (List.mem_of_getElem? (i := 21) rfl)) (by decide) pd___Z (by rw [hml]; rfl) rfl rfl (Nat.le_of_eq rfl) (by decide) (by decide) (by decide) (by decide) ?_
    rintro T11 _ L11 X11 ⟨rfl, rfl, e11⟩
    show own_Go p e below _ T11 (mkF m 51 #[.val (.int i0), .val (.int v0), .val (.int (v0 - (1 : Int32))), .val (.int (0 : Int32)), .val (.ref b7)] [(.int (if (v0 - (1 : Int32)) = (15 : Int32) then 1 else 0))])
    rw [List.append_nil] at X11
    rw [if_neg (own_hi hk0 hk1 hc11_1).2]
    show own_Go p e below _ T11 (mkF m 51 #[.val (.int i0), .val (.int v0), .val (.int (v0 - (1 : Int32))), .val (.int (0 : Int32)), .val (.ref b7)] [(.int (0 : Int32))])
    refine own_by (T' := T11) (f' := (mkF m 52 #[.val (.int i0), .val (.int v0), .val (.int (v0 - (1 : Int32))), .val (.int (0 : Int32)), .val (.ref b7)] [(.int (0 : Int32)), (.int (0 : Int32))])) (fun t k => XS.iloadN X11.here hx rfl (hb hby at_51) rfl k) ?_
    refine own_by (T' := T11) (f' := (mkF m 55 #[.val (.int i0), .val (.int v0), .val (.int (v0 - (1 : Int32))), .val (.int (0 : Int32)), .val (.ref b7)] [])) (fun t k => XS.icmpNo X11.here hx rfl (hb hby at_52) rfl (teq (by decide)).2 k) ?_
    refine own_by (T' := T11) (f' := (mkF m 56 #[.val (.int i0), .val (.int v0), .val (.int (v0 - (1 : Int32))), .val (.int (0 : Int32)), .val (.ref b7)] [(.int (1 : Int32))])) (fun t k => XS.iconst X11.here hx rfl (hb hby at_55) k) ?_
    refine own_by (T' := T11) (f' := (mkF m 60 #[.val (.int i0), .val (.int v0), .val (.int (v0 - (1 : Int32))), .val (.int (0 : Int32)), .val (.ref b7)] [(.int (1 : Int32))])) (fun t k => XS.goto X11.here hx rfl (pc0 := 56) (pc' := 60) rfl (hb hby at_56) (by decide) (by decide) k) ?_
    refine own_retZ X11 hx hret hlk (hb hby at_60) (Or.inr rfl) (by decide) (by decide) ?_
    try rw [e11]
    exact ⟨rfl, N9⟩
set_option maxRecDepth 65536 in
set_option maxHeartbeats 40000000 in
theorem comes_1 {Post : Tables → Env → Array Value → State → Outcome → State → Prop} (hpost : ∀ tb e args s v u, (limb_1_1.after args s (.returned v) u = true ∧ limb_1_2.after args s (.returned v) u = true ∧ True) → FrameEnd s (.returned v) u (Jvm.fieldLocs frame_1_writes args s ++ Jvm.arrayLocs frame_1_arrays args s ++ Jvm.staticLocs frame_1_statics s) 16 128 → Post tb e args s (.returned v) u) :
    ArmFor flags0 classFile x code maxLocals ret World_1 tables_1 room_1 Calls_1 rest_1 Pre_1 Post := by
  intro l hfl _ _ p e ha hc hk s m args below hf hA hF happ hP
  obtain ⟨hcalls, hrest, hpre⟩ := hP
  obtain ⟨-, -, -, hnamed, -, -, -, hat⟩ := (Spec.applies_iff hf).mp happ
  obtain ⟨hg, hn⟩ := and_e (Cond.before_iff.mp (show (Jvm.Cond.and given_1 narrow_1).before args s = true from hpre))
  obtain ⟨gc, gr0⟩ := and_e hg
  obtain ⟨w0, rfl⟩ : ∃ w0 : Value, args = #[w0] := by
    have hs : args.size = 1 := by simpa [Cond.value, given_1] using gc
    obtain ⟨L⟩ := args
    match L, hs with
    | [w0], _ => exact ⟨w0, rfl⟩
  have hw := fun d (hd : d ∈ tables_1) => atoms_spec (ws := Jvm.Cond.code x code maxLocals ret :: tables_1) hat d (List.mem_cons_of_mem _ hd)
  have hfit : Fit s := fun {y c} hc i hi => by
    obtain ⟨ha, rfl⟩ := Array.getElem?_eq_some_iff.mp hc
    have q := List.all_eq_true.mp ((Array.all_eq_true_iff_forall_mem.mp hF) _ (Array.getElem_mem ha)) i (List.mem_range.mpr hi)
    simpa [Array.getElem?_eq_getElem hi] using q
  obtain ⟨i0, ei0⟩ := is_v gr0
  obtain rfl : w0 = (.int i0) := Option.some.inj ei0
  obtain ⟨n, o, h1, h2, h3, _, L, rfl, ⟨rfl, N⟩, hq⟩ := rm0 l s _ hw tables_1 i0 s.heap s.heap.size (Nat.le_refl _) p e ha hc hk s m _ below hf ((Spec.applies_iff_loose hf).mp happ).1 ⟨rfl, State.Warmed39.refl s, rfl⟩ trivial
  refine ⟨n, _, h1, h2, h3, hpost _ _ _ _ _ _ ⟨Cond.after_iff.mpr rfl, Cond.after_iff.mpr (eq_i res_at (Term.int_eval (1)) rfl), trivial⟩ ⟨hq.1, hq.2.1, (hq.2.2.sift fun y hy => Or.inr (N y hy)).mono (by decide) (by decide)⟩⟩
theorem main_1_1 : Claimed_1_1 := comes_1 fun _ _ _ _ _ _ h hF => ⟨h.1, hF⟩
theorem main_1_2 : Claimed_1_2 := comes_1 fun _ _ _ _ _ _ h hF => ⟨h.2.1, hF⟩
end Jvm.Pilot.@@N@@
namespace Jvm.Pilot.@@N@@
open Jvm Jvm.ClassFile Sem Op Lib Jvm.Free Jvm.Stand Jvm.Pilot.@@N@@.Jvm.D
/-! MADE BY PROGRAM (witnessworld.py) out of the Statement's table words and the real class files: 10 classes; the members and pool entries that the words name. The judged class is class 1, her method 1. -/
namespace start1
open Jvm.ClassFile
def u (s : String) : CpInfo := .utf8 (stringToUtf16 s)
/-- a pool by its gaps: so many unusable entries, then the entry; so many at the end -/
def gap : Nat → List CpInfo → List CpInfo
  | 0, r => r
  | n + 1, r => .unusable :: gap n r
def poolList (es : List (Nat × CpInfo)) (last : Nat) : List CpInfo := es.foldr (fun e r => gap e.1 (e.2 :: r)) (gap last [])
def pool (es : List (Nat × CpInfo)) (last : Nat) : Array CpInfo := ⟨poolList es last⟩
def fileOf (pool : Array CpInfo) (this : Nat) (attrs : Array Attribute := #[]) (ms : Array MethodInfo := #[]) (fl : Nat := 33) (sup : Nat := 0) (ifs : Array Nat := #[]) (fds : Array FieldInfo := #[]) : ClassFile where
  minorVersion := 0
  majorVersion := 65
  constantPool := pool
  accessFlags := fl
  thisClass := this
  superClass := sup
  interfaces := ifs
  fields := fds
  methods := ms
  attributes := attrs
def plain (name : String) (sup : Option ClassId) : Class where
  name := name
  kind := .ordinary
  loader := none
  accessFlags := 33
  super := sup
  interfaces := #[]
  cf := none
  fields := #[]
  methods := #[]
  instanceTypes := #[]
  staticTypes := #[]
  resolved := #[]
  callSites := []
  init := .initialized
  statics := none
  mirror := none

def pool0 : Array CpInfo := pool [(5, u "<init>"), (0, u "()V"), (1, .class_ 10), (1, u "java/lang/Object")] 113

def k0c0 : Code := { maxStack := 0, maxLocals := 1, code := object_method_1_code, exceptionTable := #[], attributes := #[] }
def k0m0 : Method := { name := "<init>", desc := "()V", sig := { parameters := [], returnType := none }, accessFlags := 1, code := some k0c0 }
/-- java/lang/Object -/
def k0 : Class := { plain "java/lang/Object" none with
  accessFlags := 33
  interfaces := #[]
  cf := some (fileOf pool0 8 #[] #[{ accessFlags := 1, nameIndex := 5, descriptorIndex := 6, attributes := #[] }] 33 0 #[] #[])
  fields := #[]
  methods := #[k0m0]
  instanceTypes := #[]
  staticTypes := #[]
  resolved := Array.replicate 124 none
  statics := none }

def pool1 : Array CpInfo := pool [(2, .class_ 4), (1, u "java/lang/Object"), (0, u "<init>"), (0, u "()V"), (0, .integer 2147483647), (0, .class_ 9), (0, u "com/example/tablee/tablee/rules/cards/KaelCard"), (0, .methodref 8 11), (0, .nameAndType 5 12), (0, u "(I)V"), (0, .methodref 8 14), (0, .nameAndType 15 16), (0, u "isPasse"), (0, u "()Z"), (0, .class_ 18), (0, u "com/example/tablee/tablee/rules/cards/KaelCardIsPassePinLaw"), (2, u "law"), (0, u "(I)Z")] 3

def k1m0 : Method := { name := "<init>", desc := "()V", sig := { parameters := [], returnType := none }, accessFlags := 2, code := none }
def k1c1 : Code := { maxStack := 3, maxLocals := 5, code := code, exceptionTable := #[], attributes := #[] }
def k1m1 : Method := { name := "law", desc := "(I)Z", sig := { parameters := [.int], returnType := some .boolean }, accessFlags := 9, code := some k1c1 }
/-- com/example/tablee/tablee/rules/cards/KaelCardIsPassePinLaw -/
def k1 : Class := { plain "com/example/tablee/tablee/rules/cards/KaelCardIsPassePinLaw" (some 0) with
  accessFlags := 49
  interfaces := #[]
  cf := some (fileOf pool1 17 #[] #[{ accessFlags := 2, nameIndex := 5, descriptorIndex := 6, attributes := #[] }, { accessFlags := 9, nameIndex := 21, descriptorIndex := 22, attributes := #[] }] 49 2 #[] #[])
  fields := #[]
  methods := #[k1m0, k1m1]
  instanceTypes := #[]
  staticTypes := #[]
  resolved := Array.replicate 26 none
  statics := none }

def pool2 : Array CpInfo := pool [(1, .methodref 2 3), (0, .class_ 4), (0, .nameAndType 5 6), (0, u "java/lang/Object"), (0, u "<init>"), (0, u "()V"), (0, .class_ 8), (0, u "java/lang/Record")] 13

def k2c0 : Code := { maxStack := 1, maxLocals := 1, code := jdk_30_method_1_code, exceptionTable := #[], attributes := #[] }
def k2m0 : Method := { name := "<init>", desc := "()V", sig := { parameters := [], returnType := none }, accessFlags := 4, code := some k2c0 }
/-- java/lang/Record -/
def k2 : Class := { plain "java/lang/Record" (some 0) with
  accessFlags := 1057
  interfaces := #[]
  cf := some (fileOf pool2 7 #[] #[{ accessFlags := 4, nameIndex := 5, descriptorIndex := 6, attributes := #[] }] 1057 2 #[] #[])
  fields := #[]
  methods := #[k2m0]
  instanceTypes := #[]
  staticTypes := #[]
  resolved := Array.replicate 22 none
  statics := none }

def pool3 : Array CpInfo := pool [(1, .methodref 2 3), (0, .class_ 4), (0, .nameAndType 5 6), (0, u "java/lang/Record"), (0, u "<init>"), (0, u "()V"), (0, .class_ 8), (0, u "com/example/tablee/tablee/rules/cards/KaelCard"), (9, .fieldref 7 19), (0, .nameAndType 20 21), (0, u "value"), (0, u "I"), (10, u "BY_CODE"), (0, u "Ljava/util/Map;"), (23, u "()Z"), (16, u "DECK"), (0, u "Ljava/util/List;"), (2, u "isPasse"), (16, u "(I)V"), (33, u "LOWEST"), (2, u "HIGHEST"), (1, u "PASSE_VALUE"), (1, u "PASSE_CODE"), (0, u "Ljava/lang/String;")] 46

def k3c0 : Code := { maxStack := 3, maxLocals := 2, code := prog_5_method_1_code, exceptionTable := #[], attributes := #[] }
def k3m0 : Method := { name := "<init>", desc := "(I)V", sig := { parameters := [.int], returnType := none }, accessFlags := 1, code := some k3c0 }
def k3c1 : Code := { maxStack := 2, maxLocals := 1, code := prog_5_method_5_code, exceptionTable := #[], attributes := #[] }
def k3m1 : Method := { name := "isPasse", desc := "()Z", sig := { parameters := [], returnType := some .boolean }, accessFlags := 1, code := some k3c1 }
/-- com/example/tablee/tablee/rules/cards/KaelCard -/
def k3 : Class := { plain "com/example/tablee/tablee/rules/cards/KaelCard" (some 2) with
  accessFlags := 49
  interfaces := #[]
  cf := some (fileOf pool3 7 #[] #[{ accessFlags := 1, nameIndex := 5, descriptorIndex := 95, attributes := #[] }, { accessFlags := 1, nameIndex := 78, descriptorIndex := 57, attributes := #[] }] 49 2 #[] #[{ accessFlags := 18, nameIndex := 20, descriptorIndex := 21, attributes := #[] }, { accessFlags := 26, nameIndex := 129, descriptorIndex := 21, attributes := #[] }, { accessFlags := 26, nameIndex := 132, descriptorIndex := 21, attributes := #[] }, { accessFlags := 26, nameIndex := 134, descriptorIndex := 21, attributes := #[] }, { accessFlags := 26, nameIndex := 136, descriptorIndex := 137, attributes := #[] }, { accessFlags := 26, nameIndex := 74, descriptorIndex := 75, attributes := #[] }, { accessFlags := 26, nameIndex := 32, descriptorIndex := 33, attributes := #[] }])
  fields := #[{ name := "value", type := .int, accessFlags := 18, slot := 0, constantValue := 0 }, { name := "LOWEST", type := .int, accessFlags := 26, slot := 0, constantValue := 0 }, { name := "HIGHEST", type := .int, accessFlags := 26, slot := 1, constantValue := 0 }, { name := "PASSE_VALUE", type := .int, accessFlags := 26, slot := 2, constantValue := 0 }, { name := "PASSE_CODE", type := (.object "java/lang/String"), accessFlags := 26, slot := 3, constantValue := 0 }, { name := "DECK", type := (.object "java/util/List"), accessFlags := 26, slot := 4, constantValue := 0 }, { name := "BY_CODE", type := (.object "java/util/Map"), accessFlags := 26, slot := 5, constantValue := 0 }]
  methods := #[k3m0, k3m1]
  instanceTypes := #[.int]
  staticTypes := #[.int, .int, .int, (.object "java/lang/String"), (.object "java/util/List"), (.object "java/util/Map")]
  resolved := Array.replicate 184 none
  statics := none }

def pool4 : Array CpInfo := pool [(1, u "java/lang/Cloneable"), (0, .class_ 1), (0, u "java/lang/Object"), (0, .class_ 3)] 3

/-- java/lang/Cloneable -/
def k4 : Class := { plain "java/lang/Cloneable" (some 0) with
  accessFlags := 1537
  interfaces := #[]
  cf := some (fileOf pool4 2 #[] #[] 1537 4 #[] #[])
  fields := #[]
  methods := #[]
  instanceTypes := #[]
  staticTypes := #[]
  resolved := Array.replicate 8 none
  statics := none }

def pool5 : Array CpInfo := pool [(1, u "java/io/Serializable"), (0, .class_ 1), (0, u "java/lang/Object"), (0, .class_ 3)] 3

/-- java/io/Serializable -/
def k5 : Class := { plain "java/io/Serializable" (some 0) with
  accessFlags := 1537
  interfaces := #[]
  cf := some (fileOf pool5 2 #[] #[] 1537 4 #[] #[])
  fields := #[]
  methods := #[]
  instanceTypes := #[]
  staticTypes := #[]
  resolved := Array.replicate 8 none
  statics := none }

/-- the primitive byte -/
def k6 : Class := { plain "byte" none with kind := .primitive 'B', accessFlags := 0x411 }
/-- [B -/
def k7 : Class := { plain "[B" (some 0) with kind := .array 6 .byte, interfaces := #[4, 5], accessFlags := 1041 }

/-- the primitive int -/
def k8 : Class := { plain "int" none with kind := .primitive 'I', accessFlags := 0x411 }
/-- [I -/
def k9 : Class := { plain "[I" (some 0) with kind := .array 8 .int, interfaces := #[4, 5], accessFlags := 1041 }

def heap : Heap := #[]
def classes : Array Class := #[k0, k1, k2, k3, k4, k5, k6, k7, k8, k9]
def interned : List (Array UInt16 × Addr) := []
def slotsUsed : Nat := 0
def theMethod : MethodId := ⟨1, 1⟩
def args0 : Array Value := #[.int 5]
def aboutOver (below : List Frame) : State where
  vm := { classes := classes, interned := interned.toArray }
  heap := heap
  slotsUsed := slotsUsed
  threads := #[{ frames := .invoking theMethod args0 :: below }]
def below0 : List Frame := [.native { method := ⟨0, 0⟩, args := #[] }]
def about1 : State := aboutOver below0
def p0 : Program := .bare "" "" ""
def e0 : Env := launch0.env 0 0 0
theorem w_frames : about1.frames = Frame.invoking theMethod args0 :: below0 := rfl
set_option maxRecDepth 65536 in
theorem w_args : argsFit about1.vm theMethod args0 = true := by decide +kernel
set_option maxRecDepth 65536 in
theorem w_heap : heapFits about1 = true := by decide +kernel
set_option maxRecDepth 65536 in
theorem w_runnable : about1.curStatus? = some .runnable := by decide +kernel
set_option maxRecDepth 65536 in
theorem w_alone : about1.alone = true := by decide +kernel
set_option maxRecDepth 65536 in
theorem w_named : about1.methodNamed? x = some theMethod := by decide +kernel
set_option maxRecDepth 65536 in
theorem w_hears : about1.hears theMethod below0 = true := by decide +kernel
set_option maxRecDepth 65536 in
theorem w_ripe : about1.ripe theMethod args0 below0 = true := by decide +kernel
theorem w_running : about1.status = .running := rfl
set_option maxRecDepth 65536 in
theorem w_room : about1.hasRoom e0.platform room_1 = true :=
  launch0.hasRoom_least _ room_1 (by decide +kernel) (by decide +kernel) (by decide +kernel) (by decide +kernel) (by decide +kernel) (by decide +kernel)
theorem allAtoms_all (ts : List Jvm.Cond) (a : Array Jvm.Value) (st : Jvm.State) : (allAtoms ts).before a st = ts.all (fun c => c.before a st) := by
  induction ts with
  | nil => rfl
  | cons c t ih =>
    show (Jvm.Cond.and c (allAtoms t)).before a st = _
    rw [Jvm.Cond.before_and, ih, List.all_cons]
def words1 : List Jvm.Cond := Jvm.Cond.code x code maxLocals ret :: tables_1
/-- a 'code' word, met by the world's own term for the bytes: nothing is compared byte by byte -/
theorem code_word {y : MethodName} {bytes : ByteArray} {mx : Nat} {rt : Option FieldType} {a : Array Value} {s : State} {m : MethodId} {meth : Method} {c : Code} (h1 : s.methodNamed? y = some m) (h2 : s.vm.method? m = some meth) (h3 : meth.code = some c) (h4 : c.code = bytes)
    (h5 : (c.maxLocals == mx && c.exceptionTable.isEmpty && decide (c.maxStack ≤ mostOperands) && decide (meth.sig.returnType = rt) && !meth.locks && decide (parseMethodDescriptor y.desc = some meth.sig)) = true) : (Jvm.Cond.code y bytes mx rt).before a s = true := by
  simp only [Bool.and_eq_true, beq_iff_eq, Bool.not_eq_true', decide_eq_true_eq] at h5
  obtain ⟨⟨⟨⟨⟨g1, g2⟩, g3⟩, g4⟩, g5⟩, g6⟩ := h5
  simp [Cond.before, Cond.holds, Cond.value, h1, h2, h3, h4, g1, g2, g3, g4, g5, g6]
def isCode : Jvm.Cond → Bool
  | .code _ _ _ _ => true
  | _ => false
theorem all_split {L : List Jvm.Cond} {P : Jvm.Cond → Bool} (h1 : L.all (fun c => isCode c || P c) = true) (h2 : ∀ c ∈ L.filter isCode, P c = true) : L.all P = true := by
  refine List.all_eq_true.mpr fun c hc => ?_
  have h := List.all_eq_true.mp h1 c hc
  rcases Bool.eq_false_or_eq_true (isCode c) with hi | hi
  · exact h2 c (List.mem_filter.mpr ⟨hc, hi⟩)
  · simpa [hi] using h
set_option maxRecDepth 65536 in
theorem w_c0 : (Jvm.Cond.code x code maxLocals ret).before args0 about1 = true := code_word (m := ⟨1, 1⟩) (meth := k1m1) (c := k1c1) (by decide +kernel) rfl rfl rfl (by decide +kernel)
set_option maxRecDepth 65536 in
theorem w_c1 : (Jvm.Cond.code ({ cls := "com/example/tablee/tablee/rules/cards/KaelCard", name := "<init>", desc := "(I)V" } : Jvm.MethodName) prog_5_method_1_code (2 : Nat) (Option.none : Option Jvm.ClassFile.FieldType)).before args0 about1 = true := code_word (m := ⟨3, 0⟩) (meth := k3m0) (c := k3c0) (by decide +kernel) rfl rfl rfl (by decide +kernel)
set_option maxRecDepth 65536 in
theorem w_c2 : (Jvm.Cond.code ({ cls := "java/lang/Record", name := "<init>", desc := "()V" } : Jvm.MethodName) jdk_30_method_1_code (1 : Nat) (Option.none : Option Jvm.ClassFile.FieldType)).before args0 about1 = true := code_word (m := ⟨2, 0⟩) (meth := k2m0) (c := k2c0) (by decide +kernel) rfl rfl rfl (by decide +kernel)
set_option maxRecDepth 65536 in
theorem w_c3 : (Jvm.Cond.code ({ cls := "java/lang/Object", name := "<init>", desc := "()V" } : Jvm.MethodName) object_method_1_code (1 : Nat) (Option.none : Option Jvm.ClassFile.FieldType)).before args0 about1 = true := code_word (m := ⟨0, 0⟩) (meth := k0m0) (c := k0c0) (by decide +kernel) rfl rfl rfl (by decide +kernel)
set_option maxRecDepth 65536 in
theorem w_c4 : (Jvm.Cond.code ({ cls := "com/example/tablee/tablee/rules/cards/KaelCard", name := "isPasse", desc := "()Z" } : Jvm.MethodName) prog_5_method_5_code (1 : Nat) (Option.some Jvm.ClassFile.FieldType.boolean)).before args0 about1 = true := code_word (m := ⟨3, 1⟩) (meth := k3m1) (c := k3c1) (by decide +kernel) rfl rfl rfl (by decide +kernel)
def codes1 : List Jvm.Cond := [Jvm.Cond.code x code maxLocals ret, Jvm.Cond.code ({ cls := "com/example/tablee/tablee/rules/cards/KaelCard", name := "<init>", desc := "(I)V" } : Jvm.MethodName) prog_5_method_1_code (2 : Nat) (Option.none : Option Jvm.ClassFile.FieldType), Jvm.Cond.code ({ cls := "java/lang/Record", name := "<init>", desc := "()V" } : Jvm.MethodName) jdk_30_method_1_code (1 : Nat) (Option.none : Option Jvm.ClassFile.FieldType), Jvm.Cond.code ({ cls := "java/lang/Object", name := "<init>", desc := "()V" } : Jvm.MethodName) object_method_1_code (1 : Nat) (Option.none : Option Jvm.ClassFile.FieldType), Jvm.Cond.code ({ cls := "com/example/tablee/tablee/rules/cards/KaelCard", name := "isPasse", desc := "()Z" } : Jvm.MethodName) prog_5_method_5_code (1 : Nat) (Option.some Jvm.ClassFile.FieldType.boolean)]
set_option maxRecDepth 65536 in
theorem codes_eq : words1.filter isCode = codes1 := rfl
theorem w_codes : ∀ c ∈ words1.filter isCode, c.before args0 about1 = true := by
  rw [codes_eq]
  intro c hc
  simp only [codes1, List.mem_cons, List.not_mem_nil, or_false] at hc
  rcases hc with rfl | rfl | rfl | rfl | rfl
  · exact w_c0
  · exact w_c1
  · exact w_c2
  · exact w_c3
  · exact w_c4
set_option maxRecDepth 65536 in
theorem w_t1 : words1.all (fun c => isCode c || c.before args0 about1) = true := by decide +kernel
theorem w_tables : (allAtoms (Jvm.Cond.code x code maxLocals ret :: tables_1)).before args0 about1 = true := by
  rw [allAtoms_all]
  show words1.all (fun c => c.before args0 about1) = true
  refine all_split ?_ w_codes
  rw [w_t1]
set_option maxRecDepth 65536 in
theorem w_case : (Jvm.Cond.and given_1 narrow_1).before args0 about1 = true := by decide +kernel
theorem w_applies : (headSpec (Jvm.Cond.code x code maxLocals ret :: tables_1) room_1).applies x e0.platform about1 = true :=
  (Spec.applies_iff w_frames).mpr ⟨w_running, w_runnable, w_alone, w_named, w_hears, w_ripe, w_room, w_tables⟩
theorem atStart : AtStart classFile x code maxLocals ret World_1 tables_1 room_1 Calls_1 rest_1 Pre_1 launch0 p0 e0 about1 theMethod args0 below0 :=
  ⟨lists_1, trivial, launch0.admits_env _ _ _, launch0.least_env, fairChoices_fair.cas, fairChoices_fair.clock, w_frames, w_args, w_heap, w_applies, trivial, trivial, w_case⟩
end start1
theorem witness_1 : WitnessClaimed_1 := ⟨start1.p0, start1.e0, start1.about1, start1.theMethod, start1.args0, start1.below0, start1.atStart⟩
end Jvm.Pilot.@@N@@
