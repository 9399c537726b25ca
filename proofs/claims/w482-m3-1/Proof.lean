import JvmDerived
import JvmDerived.Pilot.@@N@@Statement
import JvmDerived.Pilot.@@N@@Code
set_option linter.unusedVariables false
set_option linter.unusedSimpArgs false
namespace Jvm.Pilot.@@N@@
open Jvm Jvm.ClassFile Sem Op Lib Jvm.Free Jvm.Stand Jvm.LawKit Jvm.RoadKit Bundle Jvm.Pilot.@@N@@.Jvm.D
section Own
variable {p : Program} {l : Launch} {e : Env} {R : Room} {s : State} {m : MethodId} {args : Array Value} {below : List Frame} {meth : Method} {c : Code} {T : State} {locs : List Loc} {cells slots : Nat} {Z : State} {a0 : Array Value} {h : Heap} {P : State → Outcome → Prop} {pc : Nat} {Ls : Array Slot} {rest st : List Value}
/-- from T, with f on top, the run comes to an end of which P holds -/
def own_Go (p : Program) (e : Env) (below : List Frame) (P : State → Outcome → Prop) (T : State) (f : JFrame) : Prop :=
  ∃ t o, Steps p.tables e below (T.setTop f) t ∧ t.status = .running ∧ Ended t below o ∧ P t o
theorem own_by {T' : State} {f f' : JFrame} (st : ∀ t, Steps p.tables e below (T'.setTop f') t → Steps p.tables e below (T.setTop f) t) (k : own_Go p e below P T' f') : own_Go p e below P T f := by
  obtain ⟨t, o, h1, h2⟩ := k
  exact ⟨t, o, st _ h1, h2⟩
/-- a method's end: what it returns, the heap, what it wrote -/
def own_Ends (s : State) (rm : Room) (Q : Option Value → Heap → List Loc → Prop) (t : State) (o : Outcome) : Prop := ∃ v L, o = .returned v ∧ Q v t.heap L ∧ FrameEnd s o t L rm.cells rm.slots
/-- a body's contract, at one list of arguments and one heap -/
def own_Ct (l : Launch) (Z : State) (y : MethodName) (bytes : ByteArray) (mx : Nat) (rt : Option FieldType) (ws : List Jvm.Cond) (rm : Room) (as' : Array Value) (h0 : Heap) (Q : Option Value → Heap → List Loc → Prop) : Prop :=
  MetFree l y (head1 (Jvm.Cond.code y bytes mx rt :: ws) rm) (fun a U => a = as' ∧ Z.Warmed39 U.vm ∧ U.heap = h0) (fun _ _ _ _ _ => True) (fun _ U o U' => own_Ends U rm Q U' o)
theorem own_of {y : MethodName} {bytes : ByteArray} {mx : Nat} {rt : Option FieldType} {ws : List Jvm.Cond} {rm : Room} {as' : Array Value} {h0 : Heap} {Q : Option Value → Heap → List Loc → Prop} (hpl : plainName y.cls = true)
    (body : ∀ (p : Program) (e : Env) (s : State) (m : MethodId) (below : List Frame) (meth : Method) (c : Code) (s₁ : State), p.tables.exec = Jvm.exec → c.code = bytes → c.maxLocals = mx → s.vm.findClass y.cls = some m.cls → meth.name = y.name → meth.sig.returnType = rt → meth.locks = false → Z.Warmed39 s.vm →
      Stand p l e rm s m as' below meth c s₁ [] 0 0 → s₁.heap = h0 → own_Go p e below (own_Ends s rm Q) s₁ (entryFrame m as' mx)) : own_Ct l Z y bytes mx rt ws rm as' h0 Q := by
  refine MetFree.of_bodySF (plainFor_of_name hpl) hisR ?_
  intro p e s m args below meth c s₁ Bd hml hP hK
  obtain ⟨rfl, hZ, hh⟩ := hP
  exact body p e s m below meth c s₁ Bd.exec Bd.bytes hml (findClass_of_methodNamed Bd.named) (name_of_methodNamed Bd.named Bd.method).1 Bd.returns Bd.notSynchronized hZ (Stand.of_body Bd) (by rw [← hh, Bd.state]; rfl)
theorem own_ret {rm : Room} {Q : Option Value → Heap → List Loc → Prop} {t : FieldType} {w : Value} {i : Instr} (X : Stand p l e R s m args below meth c T locs cells slots) (hx : p.tables.exec = Jvm.exec) (hret : meth.sig.returnType = some t) (hlk : meth.locks = false) (hd : decode c.code pc = .ok (i, 1)) (hn : narrow t w = w)
    (hi : (i = .ireturn ∧ (t = .int ∨ t = .boolean ∨ t = .byte ∨ t = .char ∨ t = .short) ∧ ∃ z, w = .int z) ∨ (i = .lreturn ∧ t = .long ∧ ∃ z, w = .long z) ∨ (i = .dreturn ∧ t = .double ∧ ∃ z, w = .double z) ∨ (i = .freturn ∧ t = .float ∧ ∃ z, w = .float z) ∨ (i = .areturn ∧ t.isReference = true ∧ w.isRef = true))
    (hc : cells ≤ rm.cells) (hs : slots ≤ rm.slots) (hq : Q (some w) T.heap locs) : own_Go p e below (own_Ends s rm Q) T (mkF m pc Ls (w :: rest)) := by
  obtain ⟨fs, hr, hrun, hended, hW, hsame⟩ := X.leave (v := some w) (fun h => by rw [hret] at h; cases h) hlk
  exact ⟨_, _, retOut X hx hret hn hi hd hr, hrun, hended, _, _, rfl, hq, ⟨_, rfl⟩, hW, hsame.mono hc hs⟩
theorem own_retI {rm : Room} {Q : Option Value → Heap → List Loc → Prop} {w : Int32} (X : Stand p l e R s m args below meth c T locs cells slots) (hx : p.tables.exec = Jvm.exec) (hret : meth.sig.returnType = some .int) (hlk : meth.locks = false) (hd : decode c.code pc = .ok (.ireturn, 1)) 
    (hc : cells ≤ rm.cells) (hs : slots ≤ rm.slots) (hq : Q (some (.int w)) T.heap locs) : own_Go p e below (own_Ends s rm Q) T (mkF m pc Ls (.int w :: rest)) :=
  own_ret X hx hret hlk hd rfl (Or.inl ⟨rfl, Or.inl rfl, _, rfl⟩) hc hs hq
theorem own_retZ {rm : Room} {Q : Option Value → Heap → List Loc → Prop} {w : Int32} (X : Stand p l e R s m args below meth c T locs cells slots) (hx : p.tables.exec = Jvm.exec) (hret : meth.sig.returnType = some .boolean) (hlk : meth.locks = false) (hd : decode c.code pc = .ok (.ireturn, 1)) (hw : w = 0 ∨ w = 1)
    (hc : cells ≤ rm.cells) (hs : slots ≤ rm.slots) (hq : Q (some (.int w)) T.heap locs) : own_Go p e below (own_Ends s rm Q) T (mkF m pc Ls (.int w :: rest)) :=
  own_ret X hx hret hlk hd (by rcases hw with rfl | rfl <;> rfl) (Or.inl ⟨rfl, Or.inr (Or.inl rfl), _, rfl⟩) hc hs hq
theorem own_retJ {rm : Room} {Q : Option Value → Heap → List Loc → Prop} {w : Int64} (X : Stand p l e R s m args below meth c T locs cells slots) (hx : p.tables.exec = Jvm.exec) (hret : meth.sig.returnType = some .long) (hlk : meth.locks = false) (hd : decode c.code pc = .ok (.lreturn, 1)) 
    (hc : cells ≤ rm.cells) (hs : slots ≤ rm.slots) (hq : Q (some (.long w)) T.heap locs) : own_Go p e below (own_Ends s rm Q) T (mkF m pc Ls (.long w :: rest)) :=
  own_ret X hx hret hlk hd rfl (Or.inr (Or.inl ⟨rfl, rfl, _, rfl⟩)) hc hs hq
theorem own_retA {rm : Room} {Q : Option Value → Heap → List Loc → Prop} {w : Value} {t : FieldType} (X : Stand p l e R s m args below meth c T locs cells slots) (hx : p.tables.exec = Jvm.exec) (hret : meth.sig.returnType = some t) (hlk : meth.locks = false) (hd : decode c.code pc = .ok (.areturn, 1)) (ht : t.isReference = true) (hn : narrow t w = w) (hw : w.isRef = true)
    (hc : cells ≤ rm.cells) (hs : slots ≤ rm.slots) (hq : Q (some w) T.heap locs) : own_Go p e below (own_Ends s rm Q) T (mkF m pc Ls (w :: rest)) :=
  own_ret X hx hret hlk hd hn (Or.inr (Or.inr (Or.inr (Or.inr ⟨rfl, ht, hw⟩)))) hc hs hq
theorem own_retV {rm : Room} {Q : Option Value → Heap → List Loc → Prop} (X : Stand p l e R s m args below meth c T locs cells slots) (hx : p.tables.exec = Jvm.exec) (hret : meth.sig.returnType = none) (hlk : meth.locks = false) (hd : decode c.code pc = .ok (.return_, 1))
    (hc : cells ≤ rm.cells) (hs : slots ≤ rm.slots) (hq : Q none T.heap locs) : own_Go p e below (own_Ends s rm Q) T (mkF m pc Ls []) := by
  obtain ⟨fs, hr, hrun, hended, hW, hsame⟩ := X.leave (v := none) (fun _ => rfl) hlk
  exact ⟨_, _, X.returnOut hx hret hd hr, hrun, hended, _, _, rfl, hq, ⟨_, rfl⟩, hW, hsame.mono hc hs⟩
abbrev own_K (p : Program) (l : Launch) (e : Env) (R : Room) (s : State) (m : MethodId) (args : Array Value) (below : List Frame) (meth : Method) (c : Code) (P : State → Outcome → Prop) (locs : List Loc) (cells slots : Nat) (rm : Room) (Q : Option Value → Heap → List Loc → Prop) (pc : Nat) (Ls : Array Slot) (rest : List Value) : Prop :=
  ∀ (T' : State) (v : Option Value) (L : List Loc), Stand p l e R s m args below meth c T' (locs ++ L) (cells + rm.cells) (slots + rm.slots) → Q v T'.heap L → own_Go p e below P T' (mkF m pc Ls (v.toList ++ rest))
theorem own_callS {own : String} {index : Nat} {y : MethodName} {bytes : ByteArray} {maxL : Nat} {ret : Option FieldType} {rm : Room} {Q : Option Value → Heap → List Loc → Prop} {ps : List FieldType} {r : Option FieldType} (X : Stand p l e R s m args below meth c T locs cells slots) (hx : p.tables.exec = Jvm.exec) (hZ : Z.Warmed39 s.vm) (hown : s.vm.findClass own = some m.cls) (eT : T.heap = h) (hd : decode c.code pc = .ok (.invokestatic index, 3))
    (argsL rest : List Value) (W : Nat) (C : own_Ct l Z y bytes maxL ret [] rm argsL.toArray h Q) (w1 : (Cond.methodLink own index y).before a0 Z = true) (w2 : (Cond.static y).before a0 Z = true) (w3 : (Cond.initialized y.cls).before a0 Z = true) (w4 : (Cond.code y bytes maxL ret).before a0 Z = true)
    (hy : y.cls ≠ "java/lang/invoke/MethodHandle" ∧ y.cls ≠ "java/lang/invoke/VarHandle") (hpd : parseMethodDescriptor y.desc = some ⟨ps, r⟩) (hsize : Ls.size = c.maxLocals) (hlen : argsL.length = ps.length) (hst : st = argsL.reverse ++ rest)
    (hW : (rest.map fun v => v.category).sum ≤ W) (hf : rm.frames + 1 ≤ R.frames) (hl : W + (maxL + 11) + rm.locals ≤ R.locals) (hc : cells + rm.cells ≤ R.cells) (hs : slots + rm.slots ≤ R.slots)
    (k : own_K p l e R s m args below meth c P locs cells slots rm Q (pc + 3) Ls rest) : own_Go p e below P T (mkF m pc Ls st) := by
  obtain ⟨v, _, ⟨T', L', k', n'⟩, -, X', ⟨Lc, hQ, l', y', z'⟩, stp⟩ := Jvm.LawKit.callS X hx (y := y) hown (mvT hZ w1) (mvT hZ w2) (mvT hZ w3) (mvT hZ w4) hy (backOf (W := W) (Q := Q) C hZ w4 w3 hf hl) (g := mkF m pc Ls st) rfl hsize (argsL := argsL) (rest := rest) (lenOf hpd hlen) hst (by show 2 * 0 + _ ≤ _; omega) hd (fun _ _ => ⟨rfl, eT, hc, hs⟩)
  dsimp only [Pt.U, Pt.locs, Pt.cells, Pt.slots] at X' l' y' z' stp hQ
  subst l' y' z'
  exact own_by stp (k T' v Lc X' hQ)
theorem own_callN {own : String} {index : Nat} {y : MethodName} {bytes : ByteArray} {maxL : Nat} {rm : Room} {Q : Option Value → Heap → List Loc → Prop} {ps : List FieldType} {r : Option FieldType} {a : Addr} (X : Stand p l e R s m args below meth c T locs cells slots) (hx : p.tables.exec = Jvm.exec) (hZ : Z.Warmed39 s.vm) (hown : s.vm.findClass own = some m.cls) (eT : T.heap = h) (hd : decode c.code pc = .ok (.invokespecial index, 3))
    (argsL rest : List Value) (W : Nat) (C : own_Ct l Z y bytes maxL none [] rm (.ref a :: argsL).toArray h Q) (w1 : (Cond.methodLink own index y).before a0 Z = true) (w2 : (Cond.instanceMethod y).before a0 Z = true) (w3 : (Cond.initialized y.cls).before a0 Z = true) (w4 : (Cond.code y bytes maxL none).before a0 Z = true)
    (hyi : y.name = "<init>") (hy : y.cls ≠ "java/lang/invoke/MethodHandle" ∧ y.cls ≠ "java/lang/invoke/VarHandle") (hpd : parseMethodDescriptor y.desc = some ⟨ps, r⟩) (hsize : Ls.size = c.maxLocals) (hlen : argsL.length = ps.length) (hst : st = argsL.reverse ++ .ref a :: rest)
    (hW : (rest.map fun v => v.category).sum ≤ W) (hf : rm.frames + 1 ≤ R.frames) (hl : W + (maxL + 11) + rm.locals ≤ R.locals) (hc : cells + rm.cells ≤ R.cells) (hs : slots + rm.slots ≤ R.slots)
    (k : own_K p l e R s m args below meth c P locs cells slots rm Q (pc + 3) Ls rest) : own_Go p e below P T (mkF m pc Ls st) := by
  obtain ⟨v, _, ⟨T', L', k', n'⟩, -, X', ⟨Lc, hQ, l', y', z'⟩, stp⟩ := X.specialBack hx (y := y) hyi hown (mvT hZ w1) (mvT hZ w2) (mvT hZ w4) hy (backOf (W := W) (Q := Q) C hZ w4 w3 hf hl) (g := mkF m pc Ls st) rfl hsize (Steps.refl _) (a := a) (argsL := argsL) (rest := rest) (lenOf hpd hlen) hst (by show 2 * 0 + _ ≤ _; omega) hd (fun _ _ => ⟨rfl, eT, hc, hs⟩)
  dsimp only [Pt.U, Pt.locs, Pt.cells, Pt.slots] at X' l' y' z' stp hQ
  subst l' y' z'
  exact own_by (fun _ k => stp.trans k) (k T' v Lc X' hQ)
theorem own_callV {own : String} {index : Nat} {C0 : String} {y z : MethodName} {bytes : ByteArray} {maxL : Nat} {ret : Option FieldType} {rm : Room} {Q : Option Value → Heap → List Loc → Prop} {ps : List FieldType} {r : Option FieldType} {a : Addr} (X : Stand p l e R s m args below meth c T locs cells slots) (hx : p.tables.exec = Jvm.exec) (hZ : Z.Warmed39 s.vm) (hown : s.vm.findClass own = some m.cls) (eT : T.heap = h) (hd : decode c.code pc = .ok (.invokevirtual index, 3))
    (argsL rest : List Value) (W : Nat) (C : own_Ct l Z z bytes maxL ret [] rm (.ref a :: argsL).toArray h Q) (E : Exa Z h a C0) (w1 : (Cond.methodLink own index y).before a0 Z = true) (w0 : (Cond.declares y).before a0 Z = true) (nf : NotFace s y) (ws : (Cond.selects C0 y z).before a0 Z = true) (w2 : (Cond.instanceMethod z).before a0 Z = true) (w3 : (Cond.initialized z.cls).before a0 Z = true) (w4 : (Cond.code z bytes maxL ret).before a0 Z = true)
    (hy : y.cls ≠ "java/lang/invoke/MethodHandle" ∧ y.cls ≠ "java/lang/invoke/VarHandle") (hpd : parseMethodDescriptor y.desc = some ⟨ps, r⟩) (hsize : Ls.size = c.maxLocals) (hlen : argsL.length = ps.length) (hst : st = argsL.reverse ++ .ref a :: rest)
    (hW : (rest.map fun v => v.category).sum ≤ W) (hf : rm.frames + 1 ≤ R.frames) (hl : W + (maxL + 11) + rm.locals ≤ R.locals) (hc : cells + rm.cells ≤ R.cells) (hs : slots + rm.slots ≤ R.slots)
    (k : own_K p l e R s m args below meth c P locs cells slots rm Q (pc + 3) Ls rest) : own_Go p e below P T (mkF m pc Ls st) := by
  obtain ⟨cq, kq, qa, qb, qc⟩ := isOf hZ eT E
  obtain ⟨v, _, ⟨T', L', k', n'⟩, -, X', ⟨Lc, hQ, l', y', z'⟩, stp⟩ := X.virtualBack hx (y := y) (z := z) hown (mvT hZ w1) (mvT hZ w0) nf (mvT hZ ws) (mvT hZ w2) hy (backOf (W := W) (Q := Q) C hZ w4 w3 hf hl) qa qc (g := mkF m pc Ls st) rfl hsize (Steps.refl _) (argsL := argsL) (rest := rest) (lenOf hpd hlen) hst (by show 2 * 0 + _ ≤ _; omega) hd (fun _ _ => ⟨rfl, eT, hc, hs⟩)
  dsimp only [Pt.U, Pt.locs, Pt.cells, Pt.slots] at X' l' y' z' stp hQ
  subst l' y' z'
  exact own_by (fun _ k => stp.trans k) (k T' v Lc X' hQ)
theorem own_callP {own : String} {index : Nat} {C0 : String} {y : MethodName} {bytes : ByteArray} {maxL : Nat} {ret : Option FieldType} {rm : Room} {Q : Option Value → Heap → List Loc → Prop} {ps : List FieldType} {r : Option FieldType} {a : Addr} (X : Stand p l e R s m args below meth c T locs cells slots) (hx : p.tables.exec = Jvm.exec) (hZ : Z.Warmed39 s.vm) (hown : s.vm.findClass own = some m.cls) (eT : T.heap = h) (hd : decode c.code pc = .ok (.invokevirtual index, 3))
    (argsL rest : List Value) (W : Nat) (C : own_Ct l Z y bytes maxL ret [] rm (.ref a :: argsL).toArray h Q) (E : Exa Z h a C0) (w1 : (Cond.methodLink own index y).before a0 Z = true) (w2 : (Cond.instanceMethod y).before a0 Z = true) (ws : (Cond.selects y.cls y y).before a0 Z = true) (wp : (Cond.privateMethod y).before a0 Z = true) (w3 : (Cond.initialized y.cls).before a0 Z = true) (w4 : (Cond.code y bytes maxL ret).before a0 Z = true)
    (hy : y.cls ≠ "java/lang/invoke/MethodHandle" ∧ y.cls ≠ "java/lang/invoke/VarHandle") (hpd : parseMethodDescriptor y.desc = some ⟨ps, r⟩) (hsize : Ls.size = c.maxLocals) (hlen : argsL.length = ps.length) (hst : st = argsL.reverse ++ .ref a :: rest)
    (hW : (rest.map fun v => v.category).sum ≤ W) (hf : rm.frames + 1 ≤ R.frames) (hl : W + (maxL + 11) + rm.locals ≤ R.locals) (hc : cells + rm.cells ≤ R.cells) (hs : slots + rm.slots ≤ R.slots)
    (k : own_K p l e R s m args below meth c P locs cells slots rm Q (pc + 3) Ls rest) : own_Go p e below P T (mkF m pc Ls st) := by
  obtain ⟨cq, q1, q2⟩ := E.cell
  obtain ⟨v, _, ⟨T', L', k', n'⟩, -, X', ⟨Lc, hQ, l', y', z'⟩, stp⟩ := X.privateBack hx (y := y) hown (mvT hZ w1) (mvT hZ w2) (mvT hZ ws) (Cond.privateMethod_at (mvP hZ wp (args := #[]))) (mvT hZ w4) hy (backOf (W := W) (Q := Q) C hZ w4 w3 hf hl) (g := mkF m pc Ls st) rfl hsize (Steps.refl _) (a := a) (by rw [eT]; exact q1) q2 (argsL := argsL) (rest := rest) (lenOf hpd hlen) hst (by show 2 * 0 + _ ≤ _; omega) hd (fun _ _ => ⟨rfl, eT, hc, hs⟩)
  dsimp only [Pt.U, Pt.locs, Pt.cells, Pt.slots] at X' l' y' z' stp hQ
  subst l' y' z'
  exact own_by (fun _ k => stp.trans k) (k T' v Lc X' hQ)
abbrev own_K0 (p : Program) (l : Launch) (e : Env) (R : Room) (s : State) (m : MethodId) (args : Array Value) (below : List Frame) (meth : Method) (c : Code) (P : State → Outcome → Prop) (locs : List Loc) (cells slots : Nat) (h : Heap) (pc : Nat) (Ls : Array Slot) (st : List Value) : Prop :=
  ∀ (T' : State), Stand p l e R s m args below meth c T' locs cells slots → T'.heap = h → own_Go p e below P T' (mkF m pc Ls st)
theorem own_init {own : String} {index : Nat} {a : Addr} (X : Stand p l e R s m args below meth c T locs cells slots) (hx : p.tables.exec = Jvm.exec) (hZ : Z.Warmed39 s.vm) (hown : s.vm.findClass own = some m.cls) (eT : T.heap = h) (hd : decode c.code pc = .ok (.invokespecial index, 3)) (W : Nat)
    (w1 : (Cond.methodLink own index Lib.objectInit).before a0 Z = true) (w2 : (Cond.instanceMethod Lib.objectInit).before a0 Z = true) (w3 : (Cond.code Lib.objectInit ⟨#[0xb1]⟩ 1 none).before a0 Z = true) (hsize : Ls.size = c.maxLocals) (hW : (rest.map fun v => v.category).sum ≤ W) (hf : 1 ≤ R.frames) (hl : W + 12 ≤ R.locals)
    (k : own_K0 p l e R s m args below meth c P locs cells slots h (pc + 3) Ls rest) : own_Go p e below P T (mkF m pc Ls (.ref a :: rest)) := by
  obtain ⟨T', X', e', st⟩ := initO X hx hZ hown w1 w2 w3 eT (g := mkF m pc Ls (.ref a :: rest)) rfl hsize rfl hd hf (W := W) (by show 2 * 0 + _ ≤ _; omega) hl
  exact own_by st (k T' X' e')
theorem own_getF {own R0 O n d host : String} {index : Nat} {a : Addr} {v : Value} (X : Stand p l e R s m args below meth c T locs cells slots) (hx : p.tables.exec = Jvm.exec) (hZ : Z.Warmed39 s.vm) (hown : s.vm.findClass own = some m.cls) (eT : T.heap = h) (hd : decode c.code pc = .ok (.getfield index, 3))
    (w : (Cond.fieldLink own index R0 n d).before a0 Z = true ∨ (Cond.fieldLinkNest own index R0 n d host).before a0 Z = true) (via : Via Z R0 O n d) (F : Fld Z h a O n d v)
    (k : own_K0 p l e R s m args below meth c P locs cells slots h (pc + 3) Ls (v :: rest)) : own_Go p e below P T (mkF m pc Ls (.ref a :: rest)) := by
  obtain ⟨T', X', e', st⟩ := getF X hx hZ hown w via eT F (g := mkF m pc Ls (.ref a :: rest)) rfl rfl hd
  exact own_by st (k T' X' e')
theorem own_getS {own R0 O n d host : String} {index : Nat} {v : Value} (X : Stand p l e R s m args below meth c T locs cells slots) (hx : p.tables.exec = Jvm.exec) (hZ : Z.Warmed39 s.vm) (hown : s.vm.findClass own = some m.cls) (eT : T.heap = h) (hd : decode c.code pc = .ok (.getstatic index, 3))
    (w : (Cond.fieldLink own index R0 n d).before a0 Z = true ∨ (Cond.fieldLinkNest own index R0 n d host).before a0 Z = true) (via : Via Z R0 O n d) (F : Sta Z h O n d v)
    (k : own_K0 p l e R s m args below meth c P locs cells slots h (pc + 3) Ls (v :: st)) : own_Go p e below P T (mkF m pc Ls st) := by
  obtain ⟨T', X', e', stp⟩ := getS2 X hx hZ hown w via eT F (g := mkF m pc Ls st) rfl hd
  exact own_by stp (k T' X' e')
theorem own_new {own C : String} {index n : Nat} (X : Stand p l e R s m args below meth c T locs cells slots) (hx : p.tables.exec = Jvm.exec) (hZ : Z.Warmed39 s.vm) (hown : s.vm.findClass own = some m.cls) (eT : T.heap = h) (hd : decode c.code pc = .ok (.new index, 3))
    (w : (Cond.classLink own index C).before a0 Z = true) (wi : (Cond.instantiable C n).before a0 Z = true) (wz : (Cond.initialized C).before a0 Z = true) (hc : cells + 1 ≤ R.cells) (hl : slots + n ≤ R.slots)
    (k : ∀ (T' : State) (h' : Heap) (b : Addr), Stand p l e R s m args below meth c T' locs (cells + 1) (slots + n) → T'.heap = h' → b = h.size → Ext h h' → Exa Z h' b C → (∀ {O nm d : String} {ty : FieldType}, Laid Z a0 C O nm d → parseFieldDescriptor d = some ty → Fld Z h' b O nm d (defaultValue ty)) → own_Go p e below P T' (mkF m (pc + 3) Ls (.ref b :: st))) :
    own_Go p e below P T (mkF m pc Ls st) := by
  obtain ⟨T', h', X', e', E, A, D, -, stp⟩ := newO X hx hZ hown w wi wz eT (g := mkF m pc Ls st) rfl hd hc hl
  exact own_by stp (k T' h' _ X' e' rfl E A D)
theorem own_putF {own R0 O n d host C : String} {index kk : Nat} {ty : FieldType} {a : Addr} {v old : Value} (X : Stand p l e R s m args below meth c T locs cells slots) (hx : p.tables.exec = Jvm.exec) (hZ : Z.Warmed39 s.vm) (hown : s.vm.findClass own = some m.cls) (eT : T.heap = h) (hd : decode c.code pc = .ok (.putfield index, 3))
    (w : (Cond.fieldLink own index R0 n d).before a0 Z = true ∨ (Cond.fieldLinkNest own index R0 n d host).before a0 Z = true) (via : Via Z R0 O n d) (F : Fld Z h a O n d old) (E : Exa Z h a C) (L : (Cond.lays C O n d).before a0 Z = true ∨ ((Cond.laysFinal C O n d).before a0 Z = true ∧ own = O ∧ meth.name = "<init>")) (wi : (Cond.instantiable C kk).before a0 Z = true)
    (hty : parseFieldDescriptor d = some ty) (hn : narrow ty v = v) (hf : fits ty v = true)
    (k : ∀ (T' : State) (h' : Heap), Stand p l e R s m args below meth c T' (locs ++ [⟨a, Jvm.RoadKit.slotOf Z O n d⟩]) cells slots → T'.heap = h' → Wr h h' a (Jvm.RoadKit.slotOf Z O n d) v → own_Go p e below P T' (mkF m (pc + 3) Ls rest)) :
    own_Go p e below P T (mkF m pc Ls (v :: .ref a :: rest)) := by
  obtain ⟨T', h', X', e', W, st⟩ := putF X hx hZ hown w via eT F E L wi hty hn hf (g := mkF m pc Ls (v :: .ref a :: rest)) rfl rfl hd
  exact own_by st (k T' h' X' e' W)
theorem own_newA {aty : ArrayType} {n : Int32} (X : Stand p l e R s m args below meth c T locs cells slots) (hx : p.tables.exec = Jvm.exec) (hZ : Z.Warmed39 s.vm) (eT : T.heap = h) (hd : decode c.code pc = .ok (.newarray aty, 2))
    (w : (Cond.arrayClass (newarray.typeOf aty)).before a0 Z = true) (hn : ¬ n < 0) (cap : Nat) (hcap : n.toNatClampNeg ≤ cap) (hb : cap * 8 ≤ 536870912) (hc : cells + 1 ≤ R.cells) (hl : slots + cap ≤ R.slots)
    (k : ∀ (T' : State) (h' : Heap) (b : Addr) (cA : ClassId), Stand p l e R s m args below meth c T' locs (cells + 1) (slots + cap) → T'.heap = h' → b = h.size → Ext h h' → Arv Z h' b cA (newarray.typeOf aty) n [] (defaultValue (newarray.typeOf aty)) → own_Go p e below P T' (mkF m (pc + 2) Ls (.ref b :: rest))) :
    own_Go p e below P T (mkF m pc Ls (.int n :: rest)) := by
  obtain ⟨T', h', cA, X', e', E, A, stp⟩ := newP X hx hZ w eT (g := mkF m pc Ls (.int n :: rest)) rfl hd rfl hn hcap hb hc hl
  exact own_by stp (k T' h' _ cA X' e' rfl E (Arv.new A hn))
theorem own_ldcI {own : String} {index : Nat} {i : Int32} (X : Stand p l e R s m args below meth c T locs cells slots) (hx : p.tables.exec = Jvm.exec) (hZ : Z.Warmed39 s.vm) (hown : s.vm.findClass own = some m.cls) (hd : decode c.code pc = .ok (.ldc index, 2)) (w : (Cond.constant own index i).before a0 Z = true)
    (k : own_Go p e below P T (mkF m (pc + 2) Ls (.int i :: st))) : own_Go p e below P T (mkF m pc Ls st) :=
  own_by (fun t k => X.ldcInt hx hown (mvT hZ w) (g := mkF m pc Ls st) rfl hd t k) k
theorem own_ldcJ {own : String} {index : Nat} {i : Int64} (X : Stand p l e R s m args below meth c T locs cells slots) (hx : p.tables.exec = Jvm.exec) (hZ : Z.Warmed39 s.vm) (hown : s.vm.findClass own = some m.cls) (hd : decode c.code pc = .ok (.ldc2_w index, 3)) (w : (Cond.constantLong own index i).before a0 Z = true)
    (k : own_Go p e below P T (mkF m (pc + 3) Ls (.long i :: st))) : own_Go p e below P T (mkF m pc Ls st) :=
  own_by (fun t k => X.ldc2Long hx hown (mvT hZ w) (g := mkF m pc Ls st) rfl hd t k) k
theorem own_ns {a : Addr} {C : String} (F : Exa Z h a C) : ∃ c : Cell, h[a]? = some c ∧ c.vm.isStatics = false := by obtain ⟨c, _, h1, -, -, h4, -⟩ := F; exact ⟨c, h1, h4⟩
theorem own_sta_keep {h' : Heap} {C n d : String} {v : Value} {ws : List Addr} (F : Sta Z h C n d v) (K : Keep h h' ws) (q : ∀ x ∈ ws, ∃ c : Cell, h[x]? = some c ∧ c.vm.isStatics = false) : Sta Z h' C n d v := by
  obtain ⟨cf, i, k, f, st, cell, h1, h2, h3, h4, h5, h6, h7⟩ := F
  refine ⟨cf, i, k, f, st, cell, h1, h2, h3, h4, K.2.1 st cell h5 fun z => ?_, h6, h7⟩
  obtain ⟨c, c1, c2⟩ := q st z
  cases h5.symm.trans c1
  rw [h6] at c2; cases c2
end Own
section OwnArr
variable {p : Program} {l : Launch} {e : Env} {R : Room} {s : State} {m : MethodId} {args : Array Value} {below : List Frame} {meth : Method} {c : Code} {T : State} {locs : List Loc} {cells slots : Nat} {Z : State} {a0 : Array Value} {h h' : Heap} {P : State → Outcome → Prop} {pc : Nat} {Ls : Array Slot} {rest st : List Value} {a b : Addr} {ty : FieldType} {n : Nat} {f g : Nat → Int32}
/-- an array of ints (chars, bytes ..): its length, its elements -/
def own_A (Z : State) (h : Heap) (a : Addr) (ty : FieldType) (n : Nat) (f : Nat → Int32) : Prop := ∃ cl : Cell, Arr Z h a cl ty ∧ cl.slots.size = n ∧ n < 2147483648 ∧ ∀ i, i < n → cl.slots[i]? = some (.int (f i))
theorem own_A.lt (F : own_A Z h a ty n f) : a < h.size := by obtain ⟨_, A, -⟩ := F; exact A.lt
theorem own_A.ext (F : own_A Z h a ty n f) (E : Ext h h') : own_A Z h' a ty n f := by obtain ⟨cl, A, r⟩ := F; exact ⟨cl, A.ext E, r⟩
theorem own_A.other {sl : Nat} {v : Value} (F : own_A Z h b ty n f) (W : Wr h h' a sl v) (q : b ≠ a) : own_A Z h' b ty n f := by obtain ⟨cl, A, r⟩ := F; exact ⟨cl, A.other W q, r⟩
theorem own_A.keep {ws : List Addr} (F : own_A Z h a ty n f) (K : Keep h h' ws) (q : a ∉ ws) : own_A Z h' a ty n f := by obtain ⟨cl, A, r⟩ := F; exact ⟨cl, ⟨K.2.1 a cl A.1 q, A.2⟩, r⟩
theorem own_A.small (F : own_A Z h a ty n f) : n < 2147483648 := by obtain ⟨_, _, _, q, _⟩ := F; exact q
theorem own_A.congr (F : own_A Z h a ty n f) (q : ∀ i, i < n → f i = g i) : own_A Z h a ty n g := by
  obtain ⟨cl, A, h1, h2, h3⟩ := F
  exact ⟨cl, A, h1, h2, fun i hi => by rw [h3 i hi, q i hi]⟩
theorem own_A.set {j : Nat} {v : Int32} (F : own_A Z h a ty n f) (W : Wr h h' a j (.int v)) : own_A Z h' a ty n (fun i => if i = j then v else f i) := by
  obtain ⟨cl, A, h1, h2, h3⟩ := F
  have hw : j < cl.slots.size := by obtain ⟨c', q1, -, q3, -⟩ := W; cases q1.symm.trans A.1; exact q3
  refine ⟨_, A.same W, by rw [sz_set]; exact h1, h2, fun i hi => ?_⟩
  by_cases q : i = j
  · subst q; simp [Cell.setSlot, hw]
  · show _ = some (Value.int (if i = j then v else f i))
    rw [if_neg q, ← h3 i hi]; exact Array.getElem?_setIfInBounds_ne (Ne.symm q)
theorem own_clamp {j : Int32} (h0 : 0 ≤ j.toInt) : j.toNatClampNeg = j.toInt.toNat := rfl
theorem own_inb {j : Int32} {k : Nat} (h0 : 0 ≤ j.toInt) (h1 : j.toInt < k) : ¬ (j < 0 ∨ k ≤ j.toNatClampNeg) := by
  rintro (q | q)
  · have := Int32.lt_iff_toInt_lt.mp q
    have e : (0 : Int32).toInt = 0 := by decide
    omega
  · rw [own_clamp h0] at q; omega
theorem own_A.new {k : ClassId} {z : Int32} {v : Int32} (F : Arv Z h a k ty z [] (.int v)) : own_A Z h a ty z.toInt.toNat (fun _ => v) := by
  obtain ⟨cl, A, -, h2, h3, H, -⟩ := F
  have e : z.toNatClampNeg = z.toInt.toNat := rfl
  refine ⟨cl, A, h2.trans e, ?_, fun i hi => ?_⟩
  · have := rng32 z; omega
  · rw [H i (by rw [h2, e]; exact hi)]; rfl
theorem own_alen {j : Int32} (X : Stand p l e R s m args below meth c T locs cells slots) (hx : p.tables.exec = Jvm.exec) (hZ : Z.Warmed39 s.vm) (eT : T.heap = h) (hd : decode c.code pc = .ok (.arraylength, 1)) (F : own_A Z h a ty n f) (hj : j.toInt = n)
    (k : own_Go p e below P T (mkF m (pc + 1) Ls (.int j :: rest))) : own_Go p e below P T (mkF m pc Ls (.ref a :: rest)) := by
  obtain ⟨cl, A, h1, h2, -⟩ := F
  have e1 : cl.slots.size.toInt32 = j := by
    apply Int32.toInt_inj.mp
    rw [hj, h1]; exact Int32.toInt_ofNat_of_lt h2
  refine own_by (fun t k => X.arraylength hx (by rw [eT]; exact A.1) (State.isArrayOf_alike hZ.alike A.2.1) (g := mkF m pc Ls (.ref a :: rest)) rfl rfl hd t k) ?_
  rw [e1]; exact k
theorem own_ldI {j : Int32} (X : Stand p l e R s m args below meth c T locs cells slots) (hx : p.tables.exec = Jvm.exec) (hZ : Z.Warmed39 s.vm) (eT : T.heap = h) (hd : decode c.code pc = .ok (.iaload, 1)) (F : own_A Z h a .int n f) (h0 : 0 ≤ j.toInt) (h1 : j.toInt < n)
    (k : own_Go p e below P T (mkF m (pc + 1) Ls (.int (f j.toInt.toNat) :: rest))) : own_Go p e below P T (mkF m pc Ls (.int j :: .ref a :: rest)) := by
  obtain ⟨cl, A, e1, e2, e3⟩ := F
  exact own_by (fun t k => X.iaload hx (j := j) (v := .int (f j.toInt.toNat)) (by rw [eT]; exact A.1) (State.isArrayOf_alike hZ.alike A.2.1) A.2.2 (by rw [e1]; exact own_inb h0 h1) (e3 j.toInt.toNat (by omega)) (g := mkF m pc Ls (.int j :: .ref a :: rest)) rfl rfl hd t k) k
theorem own_ldC {j : Int32} (X : Stand p l e R s m args below meth c T locs cells slots) (hx : p.tables.exec = Jvm.exec) (hZ : Z.Warmed39 s.vm) (eT : T.heap = h) (hd : decode c.code pc = .ok (.caload, 1)) (F : own_A Z h a .char n f) (h0 : 0 ≤ j.toInt) (h1 : j.toInt < n)
    (k : own_Go p e below P T (mkF m (pc + 1) Ls (.int (f j.toInt.toNat) :: rest))) : own_Go p e below P T (mkF m pc Ls (.int j :: .ref a :: rest)) := by
  obtain ⟨cl, A, e1, e2, e3⟩ := F
  exact own_by (fun t k => X.caload hx (j := j) (v := .int (f j.toInt.toNat)) (by rw [eT]; exact A.1) (State.isArrayOf_alike hZ.alike A.2.1) A.2.2 (by rw [e1]; exact own_inb h0 h1) (e3 j.toInt.toNat (by omega)) (g := mkF m pc Ls (.int j :: .ref a :: rest)) rfl rfl hd t k) k
theorem own_ldB {j : Int32} (X : Stand p l e R s m args below meth c T locs cells slots) (hx : p.tables.exec = Jvm.exec) (hZ : Z.Warmed39 s.vm) (eT : T.heap = h) (hd : decode c.code pc = .ok (.baload, 1)) (F : own_A Z h a .byte n f) (h0 : 0 ≤ j.toInt) (h1 : j.toInt < n)
    (k : own_Go p e below P T (mkF m (pc + 1) Ls (.int (f j.toInt.toNat) :: rest))) : own_Go p e below P T (mkF m pc Ls (.int j :: .ref a :: rest)) := by
  obtain ⟨cl, A, e1, e2, e3⟩ := F
  exact own_by (fun t k => X.baloadBytes hx (j := j) (v := .int (f j.toInt.toNat)) (by rw [eT]; exact A.1) (State.isArrayOf_alike hZ.alike A.2.1) A.2.2 (by rw [e1]; exact own_inb h0 h1) (e3 j.toInt.toNat (by omega)) (g := mkF m pc Ls (.int j :: .ref a :: rest)) rfl rfl hd t k) k
abbrev own_KW (p : Program) (l : Launch) (e : Env) (R : Room) (s : State) (m : MethodId) (args : Array Value) (below : List Frame) (meth : Method) (c : Code) (P : State → Outcome → Prop) (locs : List Loc) (cells slots : Nat) (Z : State) (h : Heap) (a : Addr) (ty : FieldType) (n : Nat) (f : Nat → Int32) (j : Nat) (v : Int32) (pc : Nat) (Ls : Array Slot) (st : List Value) : Prop :=
  ∀ (T' : State) (h' : Heap), Stand p l e R s m args below meth c T' (locs ++ [⟨a, j⟩]) cells slots → T'.heap = h' → Wr h h' a j (.int v) → own_A Z h' a ty n (fun i => if i = j then v else f i) → own_Go p e below P T' (mkF m pc Ls st)
theorem own_stI {j x : Int32} (X : Stand p l e R s m args below meth c T locs cells slots) (hx : p.tables.exec = Jvm.exec) (hZ : Z.Warmed39 s.vm) (eT : T.heap = h) (hd : decode c.code pc = .ok (.iastore, 1)) (F : own_A Z h a .int n f) (h0 : 0 ≤ j.toInt) (h1 : j.toInt < n)
    (k : own_KW p l e R s m args below meth c P locs cells slots Z h a .int n f j.toInt.toNat x (pc + 1) Ls rest) : own_Go p e below P T (mkF m pc Ls (.int x :: .int j :: .ref a :: rest)) := by
  obtain ⟨cl, A, e1, e2, e3⟩ := F
  obtain ⟨T', h', X', e', W, stp⟩ := stI X hx hZ eT A (j := j) (x := x) (by rw [e1]; exact own_inb h0 h1) (g := mkF m pc Ls (.int x :: .int j :: .ref a :: rest)) rfl rfl hd
  exact own_by stp (k T' h' X' e' W (own_A.set ⟨cl, A, e1, e2, e3⟩ W))
theorem own_stC {j x : Int32} (X : Stand p l e R s m args below meth c T locs cells slots) (hx : p.tables.exec = Jvm.exec) (hZ : Z.Warmed39 s.vm) (eT : T.heap = h) (hd : decode c.code pc = .ok (.castore, 1)) (F : own_A Z h a .char n f) (h0 : 0 ≤ j.toInt) (h1 : j.toInt < n)
    (k : own_KW p l e R s m args below meth c P locs cells slots Z h a .char n f j.toInt.toNat (nar .char x) (pc + 1) Ls rest) : own_Go p e below P T (mkF m pc Ls (.int x :: .int j :: .ref a :: rest)) := by
  obtain ⟨cl, A, e1, e2, e3⟩ := F
  obtain ⟨T', h', X', e', W, stp⟩ := stC X hx hZ eT A (j := j) (x := x) (by rw [e1]; exact own_inb h0 h1) (g := mkF m pc Ls (.int x :: .int j :: .ref a :: rest)) rfl rfl hd
  exact own_by stp (k T' h' X' e' W (own_A.set ⟨cl, A, e1, e2, e3⟩ W))
theorem own_stB {j x : Int32} (X : Stand p l e R s m args below meth c T locs cells slots) (hx : p.tables.exec = Jvm.exec) (hZ : Z.Warmed39 s.vm) (eT : T.heap = h) (hd : decode c.code pc = .ok (.bastore, 1)) (F : own_A Z h a .byte n f) (h0 : 0 ≤ j.toInt) (h1 : j.toInt < n)
    (k : own_KW p l e R s m args below meth c P locs cells slots Z h a .byte n f j.toInt.toNat (nar .byte x) (pc + 1) Ls rest) : own_Go p e below P T (mkF m pc Ls (.int x :: .int j :: .ref a :: rest)) := by
  obtain ⟨cl, A, e1, e2, e3⟩ := F
  obtain ⟨T', h', X', e', W, stp⟩ := stB X hx hZ eT A (j := j) (x := x) (by rw [e1]; exact own_inb h0 h1) (g := mkF m pc Ls (.int x :: .int j :: .ref a :: rest)) rfl rfl hd
  exact own_by stp (k T' h' X' e' W (own_A.set ⟨cl, A, e1, e2, e3⟩ W))
theorem own_mkA {aty : ArrayType} {z : Int32} {v : Int32} (X : Stand p l e R s m args below meth c T locs cells slots) (hx : p.tables.exec = Jvm.exec) (hZ : Z.Warmed39 s.vm) (eT : T.heap = h) (hd : decode c.code pc = .ok (.newarray aty, 2))
    (w : (Cond.arrayClass (newarray.typeOf aty)).before a0 Z = true) (hv : defaultValue (newarray.typeOf aty) = .int v) (h0 : 0 ≤ z.toInt) (cap : Nat) (hcap : z.toInt ≤ cap) (hb : cap * 8 ≤ 536870912) (hc : cells + 1 ≤ R.cells) (hl : slots + cap ≤ R.slots)
    (k : ∀ (T' : State) (h' : Heap) (b : Addr), Stand p l e R s m args below meth c T' locs (cells + 1) (slots + cap) → T'.heap = h' → b = h.size → Ext h h' → own_A Z h' b (newarray.typeOf aty) z.toInt.toNat (fun _ => v) → own_Go p e below P T' (mkF m (pc + 2) Ls (.ref b :: rest))) :
    own_Go p e below P T (mkF m pc Ls (.int z :: rest)) := by
  have e0 : (0 : Int32).toInt = 0 := by decide
  refine own_newA X hx hZ eT hd w (fun q => ?_) cap ?_ hb hc hl ?_
  · have := Int32.lt_iff_toInt_lt.mp q; omega
  · rw [own_clamp h0]; omega
  · intro T' h' b' cA X' e' g' E A
    rw [hv] at A
    exact k T' h' b' X' e' g' E (own_A.new A)
end OwnArr
section OwnStr
/-- the first place whose sign is above 255, from i on, of k places -/
def own_fstA (f : Nat → Int32) : Nat → Nat → Nat
  | 0, i => i
  | k + 1, i => if (255 : Int32) < f i then i else own_fstA f k (i + 1)
def own_fst (f : Nat → Int32) (n : Nat) : Nat := own_fstA f n 0
/-- a sign's byte as it is stored -/
def own_b8 (x : Int32) : Int32 := nar .byte x.toInt8.toInt32
theorem own_upd (j : Nat) (φ g : Nat → Int32) (i : Nat) : (if i = j then φ j else if i < j then φ i else g i) = (if i < j + 1 then φ i else g i) := by
  by_cases h : i = j
  · subst h; simp
  · by_cases h2 : i < j
    · rw [if_neg h, if_pos h2, if_pos (by omega)]
    · rw [if_neg h, if_neg h2, if_neg (by omega)]
theorem own_inc {iv : Int32} {j n : Nat} (h : iv.toInt = j) (h1 : j < n) (h2 : n < 2147483648) : (iv + (1 : Int32)).toInt = ((j + 1 : Nat) : Int) := by
  have q := c_iadd iv 1
  have e1 : (1 : Int32).toInt = 1 := by decide
  have r := rng32 (iv + 1)
  omega
theorem own_nz {z : Int32} {n : Nat} (hz : z.toInt = n) (h1 : 1 ≤ n) : ¬ (z = (0 : Int32)) := fun q => by
  rw [q] at hz
  have : (0 : Int32).toInt = 0 := by decide
  omega
theorem own_cd0 (z : Int32) : ((((z - z).toUInt32 >>> ((31 : Int32) &&& 31).toUInt32).toInt32).toInt8.toInt32) = 0 := by rw [Int32.sub_self]; decide
theorem own_fstA_all {f : Nat → Int32} : ∀ (k i : Nat), (∀ q, i ≤ q → q < i + k → ¬ (255 : Int32) < f q) → own_fstA f k i = i + k
  | 0, i, _ => rfl
  | k + 1, i, h => by
    rw [own_fstA, if_neg (h i (Nat.le_refl _) (by omega)), own_fstA_all k (i + 1) (fun q h1 h2 => h q (by omega) (by omega))]; omega
theorem own_fst_all {f : Nat → Int32} {n : Nat} (h : ∀ q, q < n → ¬ (255 : Int32) < f q) : own_fst f n = n := by
  rw [own_fst, own_fstA_all n 0 (fun q _ h2 => h q (by omega))]; omega
theorem own_A.uniq {Z : State} {h : Heap} {a : Addr} {ty ty' : FieldType} {n n' : Nat} {f f' : Nat → Int32} (F : own_A Z h a ty n f) (G : own_A Z h a ty' n' f') : n = n' ∧ ∀ i, i < n → f i = f' i := by
  obtain ⟨c, A, h1, h2, h3⟩ := F
  obtain ⟨c', A', h1', h2', h3'⟩ := G
  cases A.1.symm.trans A'.1
  have e : n = n' := h1.symm.trans h1'
  refine ⟨e, fun i hi => ?_⟩
  have q := (h3 i hi).symm.trans (h3' i (e ▸ hi))
  simpa using q
theorem own_fld_uniq {Z : State} {h : Heap} {a : Addr} {C n d : String} {v w : Value} (F : Fld Z h a C n d v) (G : Fld Z h a C n d w) : v = w := by
  by_cases e : v = w
  · exact e
  · exact absurd rfl (Fld.ne F G e)
/-- the answer of an equals on two arrays -/
def own_eqA (n1 : Nat) (f1 : Nat → Int32) (n2 : Nat) (f2 : Nat → Int32) : Int32 := if n1 = n2 ∧ ∀ i, i < n1 → f1 i = f2 i then 1 else 0
theorem own_eqA_01 (n1 : Nat) (f1 : Nat → Int32) (n2 : Nat) (f2 : Nat → Int32) : own_eqA n1 f1 n2 f2 = 0 ∨ own_eqA n1 f1 n2 f2 = 1 := by unfold own_eqA; split <;> simp
theorem own_eqA_ne {n1 n2 : Nat} {f1 f2 : Nat → Int32} (h : ¬ n1 = n2) : own_eqA n1 f1 n2 f2 = 0 := by unfold own_eqA; rw [if_neg fun q => h q.1]
theorem own_eqA_at {n1 n2 : Nat} {f1 f2 : Nat → Int32} {j : Nat} (hj : j < n1) (h : ¬ f1 j = f2 j) : own_eqA n1 f1 n2 f2 = 0 := by unfold own_eqA; rw [if_neg fun q => h (q.2 j hj)]
theorem own_eqA_all {n1 n2 : Nat} {f1 f2 : Nat → Int32} (e : n1 = n2) (h : ∀ i, i < n1 → f1 i = f2 i) : own_eqA n1 f1 n2 f2 = 1 := by unfold own_eqA; rw [if_pos ⟨e, h⟩]
theorem own_i256 (z : Int32) (h0 : 0 ≤ z.toInt) (h1 : z.toInt < 256) : ∃ k : Fin 256, z = Int32.ofNat k.1 := by
  refine ⟨⟨z.toInt.toNat, by omega⟩, Int32.toInt_inj.mp ?_⟩
  rw [Int32.toInt_ofNat_of_lt (by simp only; omega)]
  simp only; omega
theorem own_b8_tab : ∀ k : Fin 256, ((own_b8 (Int32.ofNat k.1)) &&& (255 : Int32)).toUInt32.toUInt16.toUInt32.toInt32 = Int32.ofNat k.1 := by decide +kernel
/-- the byte read back -/
theorem own_b8_char (x : Int32) (h0 : 0 ≤ x.toInt) (h1 : x.toInt < 256) : ((own_b8 x) &&& (255 : Int32)).toUInt32.toUInt16.toUInt32.toInt32 = x := by
  obtain ⟨k, rfl⟩ := own_i256 x h0 h1
  exact own_b8_tab k
theorem own_b8_inj (x y : Int32) (h0 : 0 ≤ x.toInt) (h1 : x.toInt < 256) (g0 : 0 ≤ y.toInt) (g1 : y.toInt < 256) (e : own_b8 x = own_b8 y) : x = y := by
  rw [← own_b8_char x h0 h1, ← own_b8_char y g0 g1, e]
end OwnStr
section OwnRefs
variable {p : Program} {l : Launch} {e : Env} {R : Room} {s : State} {m : MethodId} {args : Array Value} {below : List Frame} {meth : Method} {c : Code} {T : State} {locs : List Loc} {cells slots : Nat} {Z : State} {a0 : Array Value} {h h' : Heap} {P : State → Outcome → Prop} {pc : Nat} {Ls : Array Slot} {rest st : List Value} {a b : Addr} {ty : FieldType} {k : ClassId} {z : Int32} {vs : List Value} {dv : Value}
theorem own_alenR (X : Stand p l e R s m args below meth c T locs cells slots) (hx : p.tables.exec = Jvm.exec) (hZ : Z.Warmed39 s.vm) (eT : T.heap = h) (hd : decode c.code pc = .ok (.arraylength, 1)) (F : Arv Z h a k ty z vs dv)
    (kk : own_Go p e below P T (mkF m (pc + 1) Ls (.int z :: rest))) : own_Go p e below P T (mkF m pc Ls (.ref a :: rest)) := by
  obtain ⟨cl, A, -, S, N, -, -⟩ := F
  refine own_by (fun t k => X.arraylength hx (by rw [eT]; exact A.1) (State.isArrayOf_alike hZ.alike A.2.1) (g := mkF m pc Ls (.ref a :: rest)) rfl rfl hd t k) ?_
  rw [len_of S N]; exact kk
theorem own_ldR {j : Int32} {v : Value} (X : Stand p l e R s m args below meth c T locs cells slots) (hx : p.tables.exec = Jvm.exec) (hZ : Z.Warmed39 s.vm) (eT : T.heap = h) (hd : decode c.code pc = .ok (.aaload, 1)) (F : Arv Z h a k ty z vs dv) (hty : ty.isReference = true) (hj : ¬ j < 0 ∧ j < z) (hv : vs.getD j.toNatClampNeg dv = v)
    (kk : own_Go p e below P T (mkF m (pc + 1) Ls (v :: rest))) : own_Go p e below P T (mkF m pc Ls (.int j :: .ref a :: rest)) := by
  obtain ⟨cl, A, -, S, N, H, -⟩ := F
  have hin := inb_of S hj
  exact own_by (fun t k => X.aaload hx (j := j) (v := v) (by rw [eT]; exact A.1) (State.isArrayOf_alike hZ.alike A.2.1) hty A.2.2 hin (H.at hin hv) (g := mkF m pc Ls (.int j :: .ref a :: rest)) rfl rfl hd t k) kk
theorem own_clone {own ad : String} {index : Nat} (X : Stand p l e R s m args below meth c T locs cells slots) (hx : p.tables.exec = Jvm.exec) (hZ : Z.Warmed39 s.vm) (hown : s.vm.findClass own = some m.cls) (eT : T.heap = h) (hd : decode c.code pc = .ok (.invokevirtual index, 3))
    (w1 : (Cond.methodLink own index ⟨ad, "clone", "()Ljava/lang/Object;"⟩).before a0 Z = true) (w2 : (Cond.sameMethod ad "java/lang/Object" "clone" "()Ljava/lang/Object;").before a0 Z = true) (w3 : (Cond.native ⟨"java/lang/Object", "clone", "()Ljava/lang/Object;"⟩).before a0 Z = true)
    (w4 : (Cond.instanceMethod ⟨"java/lang/Object", "clone", "()Ljava/lang/Object;"⟩).before a0 Z = true) (w5 : (Cond.selects ad ⟨ad, "clone", "()Ljava/lang/Object;"⟩ ⟨"java/lang/Object", "clone", "()Ljava/lang/Object;"⟩).before a0 Z = true) (w6 : (Cond.castable ad "java/lang/Cloneable").before a0 Z = true)
    (F : Arv Z h a k ty z vs dv) (E : Exa Z h a ad) (hsize : Ls.size = c.maxLocals) (hf : 1 ≤ R.frames) (W cap : Nat) (hW : (rest.map fun v => v.category).sum ≤ W) (hl : W + 14 ≤ R.locals) (hcap : z.toNatClampNeg ≤ cap) (hc : cells + 1 ≤ R.cells) (hsl : slots + cap ≤ R.slots)
    (kk : ∀ (T' : State) (h' : Heap) (b : Addr), Stand p l e R s m args below meth c T' locs (cells + 1) (slots + cap) → T'.heap = h' → b = h.size → Ext h h' → Arv Z h' b k ty z vs dv → Exa Z h' b ad → own_Go p e below P T' (mkF m (pc + 3) Ls (.ref b :: rest))) :
    own_Go p e below P T (mkF m pc Ls (.ref a :: rest)) := by
  obtain ⟨T', h', X', e', E', A, Ex, stp⟩ := cloneH X hx hZ hown w1 w2 w3 w4 w5 w6 eT F.arh E (g := mkF m pc Ls (.ref a :: rest)) rfl hsize rfl hd hf (W := W) (cap := cap) (by show 2 * 0 + _ ≤ _; omega) hl hcap hc hsl
  exact own_by stp (kk T' h' _ X' e' rfl E' A Ex)
end OwnRefs
theorem d6_0 : decode jdk_52_method_15_code 0 = .ok (.iload_n 1, 1) := by decide +kernel
theorem d6_1 : decode jdk_52_method_15_code 1 = .ok (.aload_n 0, 1) := by decide +kernel
theorem d6_2 : decode jdk_52_method_15_code 2 = .ok (.arraylength, 1) := by decide +kernel
theorem d6_3 : decode jdk_52_method_15_code 3 = .ok (.isub, 1) := by decide +kernel
theorem d6_4 : decode jdk_52_method_15_code 4 = .ok (.bipush 31, 2) := by decide +kernel
theorem d6_6 : decode jdk_52_method_15_code 6 = .ok (.iushr, 1) := by decide +kernel
theorem d6_7 : decode jdk_52_method_15_code 7 = .ok (.i2b, 1) := by decide +kernel
theorem d6_8 : decode jdk_52_method_15_code 8 = .ok (.ireturn, 1) := by decide +kernel
theorem pn_java_lang_StringUTF16 : plainName "java/lang/StringUTF16" = true := by first | (simp [plainName, overriddenIn]; done) | decide +kernel
theorem d5_3 : decode jdk_52_method_21_code 3 = .ok (.iload 5, 2) := by decide +kernel
theorem d5_5 : decode jdk_52_method_21_code 5 = .ok (.iload 4, 2) := by decide +kernel
theorem d5_7 : decode jdk_52_method_21_code 7 = .ok (.if_icmp .ge 37, 3) := by decide +kernel
theorem d5_44 : decode jdk_52_method_21_code 44 = .ok (.iload 4, 2) := by decide +kernel
theorem d5_46 : decode jdk_52_method_21_code 46 = .ok (.ireturn, 1) := by decide +kernel
theorem d5_10 : decode jdk_52_method_21_code 10 = .ok (.aload_n 0, 1) := by decide +kernel
theorem d5_11 : decode jdk_52_method_21_code 11 = .ok (.iload_n 1, 1) := by decide +kernel
theorem d5_12 : decode jdk_52_method_21_code 12 = .ok (.caload, 1) := by decide +kernel
theorem d5_13 : decode jdk_52_method_21_code 13 = .ok (.istore 6, 2) := by decide +kernel
theorem os_C5_5_13 {y0 : Value} {y1 : Value} {y2 : Value} {y3 : Value} {y4 : Value} {y5 : Value} {s6 : Slot} {v : Int32} (h : One s6) : storeLocals #[.val y0, .val y1, .val y2, .val y3, .val y4, .val y5, s6] 6 (.int v) = some #[.val y0, .val y1, .val y2, .val y3, .val y4, .val y5, .val (.int v)] := by
  rcases h with rfl | ⟨w, rfl, hw⟩
  · rfl
  · cases w <;> first | rfl | (simp [Value.category] at hw)
theorem d5_15 : decode jdk_52_method_21_code 15 = .ok (.iload 6, 2) := by decide +kernel
theorem d5_17 : decode jdk_52_method_21_code 17 = .ok (.sipush 255, 3) := by decide +kernel
theorem d5_20 : decode jdk_52_method_21_code 20 = .ok (.if_icmp .le 6, 3) := by decide +kernel
theorem d5_23 : decode jdk_52_method_21_code 23 = .ok (.iload 5, 2) := by decide +kernel
theorem d5_25 : decode jdk_52_method_21_code 25 = .ok (.ireturn, 1) := by decide +kernel
theorem d5_26 : decode jdk_52_method_21_code 26 = .ok (.aload_n 2, 1) := by decide +kernel
theorem d5_27 : decode jdk_52_method_21_code 27 = .ok (.iload_n 3, 1) := by decide +kernel
theorem d5_28 : decode jdk_52_method_21_code 28 = .ok (.iload 6, 2) := by decide +kernel
theorem d5_30 : decode jdk_52_method_21_code 30 = .ok (.i2b, 1) := by decide +kernel
theorem d5_31 : decode jdk_52_method_21_code 31 = .ok (.bastore, 1) := by decide +kernel
theorem d5_32 : decode jdk_52_method_21_code 32 = .ok (.iinc 1 1, 3) := by decide +kernel
theorem d5_35 : decode jdk_52_method_21_code 35 = .ok (.iinc 3 1, 3) := by decide +kernel
theorem d5_38 : decode jdk_52_method_21_code 38 = .ok (.iinc 5 1, 3) := by decide +kernel
theorem d5_41 : decode jdk_52_method_21_code 41 = .ok (.goto (-38), 3) := by decide +kernel
theorem d5_0 : decode jdk_52_method_21_code 0 = .ok (.iconst 0, 1) := by decide +kernel
theorem d5_1 : decode jdk_52_method_21_code 1 = .ok (.istore 5, 2) := by decide +kernel
theorem d4_0 : decode jdk_52_method_16_code 0 = .ok (.iload_n 2, 1) := by decide +kernel
theorem d4_1 : decode jdk_52_method_16_code 1 = .ok (.newarray .byte, 2) := by decide +kernel
theorem d4_3 : decode jdk_52_method_16_code 3 = .ok (.astore_n 3, 1) := by decide +kernel
theorem d4_4 : decode jdk_52_method_16_code 4 = .ok (.aload_n 0, 1) := by decide +kernel
theorem d4_5 : decode jdk_52_method_16_code 5 = .ok (.iload_n 1, 1) := by decide +kernel
theorem d4_6 : decode jdk_52_method_16_code 6 = .ok (.aload_n 3, 1) := by decide +kernel
theorem d4_7 : decode jdk_52_method_16_code 7 = .ok (.iconst 0, 1) := by decide +kernel
theorem d4_8 : decode jdk_52_method_16_code 8 = .ok (.iload_n 2, 1) := by decide +kernel
theorem d4_9 : decode jdk_52_method_16_code 9 = .ok (.invokestatic 115, 3) := by decide +kernel
theorem pd___CI_BII_I : parseMethodDescriptor "([CI[BII)I" = some ⟨[(.array .char), .int, (.array .byte), .int, .int], some .int⟩ := by decide +kernel
theorem d4_12 : decode jdk_52_method_16_code 12 = .ok (.istore 4, 2) := by decide +kernel
theorem d4_14 : decode jdk_52_method_16_code 14 = .ok (.iload 4, 2) := by decide +kernel
theorem d4_16 : decode jdk_52_method_16_code 16 = .ok (.iload_n 2, 1) := by decide +kernel
theorem d4_17 : decode jdk_52_method_16_code 17 = .ok (.if_icmp .eq 40, 3) := by decide +kernel
theorem d4_57 : decode jdk_52_method_16_code 57 = .ok (.aload_n 3, 1) := by decide +kernel
theorem d4_58 : decode jdk_52_method_16_code 58 = .ok (.areturn, 1) := by decide +kernel
theorem d2_0 : decode jdk_42_method_149_code 0 = .ok (.aload_n 0, 1) := by decide +kernel
theorem d2_1 : decode jdk_42_method_149_code 1 = .ok (.invokespecial 1, 3) := by decide +kernel
theorem d2_4 : decode jdk_42_method_149_code 4 = .ok (.iload_n 3, 1) := by decide +kernel
theorem d2_5 : decode jdk_42_method_149_code 5 = .ok (.ifCond .ne 22, 3) := by decide +kernel
theorem d2_27 : decode jdk_42_method_149_code 27 = .ok (.getstatic 38, 3) := by decide +kernel
theorem d2_30 : decode jdk_42_method_149_code 30 = .ok (.ifCond .eq 28, 3) := by decide +kernel
theorem d2_33 : decode jdk_42_method_149_code 33 = .ok (.aload_n 1, 1) := by decide +kernel
theorem d2_34 : decode jdk_42_method_149_code 34 = .ok (.iload_n 2, 1) := by decide +kernel
theorem d2_35 : decode jdk_42_method_149_code 35 = .ok (.iload_n 3, 1) := by decide +kernel
theorem d2_36 : decode jdk_42_method_149_code 36 = .ok (.invokestatic 177, 3) := by decide +kernel
theorem pd___CII__B : parseMethodDescriptor "([CII)[B" = some ⟨[(.array .char), .int, .int], some (.array .byte)⟩ := by decide +kernel
theorem d2_39 : decode jdk_42_method_149_code 39 = .ok (.astore 5, 2) := by decide +kernel
theorem d2_41 : decode jdk_42_method_149_code 41 = .ok (.aload_n 0, 1) := by decide +kernel
theorem d2_42 : decode jdk_42_method_149_code 42 = .ok (.aload 5, 2) := by decide +kernel
theorem d2_44 : decode jdk_42_method_149_code 44 = .ok (.iload_n 3, 1) := by decide +kernel
theorem d2_45 : decode jdk_42_method_149_code 45 = .ok (.invokestatic 47, 3) := by decide +kernel
theorem pd___BI_B : parseMethodDescriptor "([BI)B" = some ⟨[(.array .byte), .int], some .byte⟩ := by decide +kernel
theorem d2_48 : decode jdk_42_method_149_code 48 = .ok (.putfield 15, 3) := by decide +kernel
theorem d2_51 : decode jdk_42_method_149_code 51 = .ok (.aload_n 0, 1) := by decide +kernel
theorem d2_52 : decode jdk_42_method_149_code 52 = .ok (.aload 5, 2) := by decide +kernel
theorem d2_54 : decode jdk_42_method_149_code 54 = .ok (.putfield 9, 3) := by decide +kernel
theorem d2_57 : decode jdk_42_method_149_code 57 = .ok (.return_, 1) := by decide +kernel
theorem pn_java_lang_String : plainName "java/lang/String" = true := by first | (simp [plainName, overriddenIn]; done) | decide +kernel
theorem d1_0 : decode jdk_42_method_3_code 0 = .ok (.aload_n 0, 1) := by decide +kernel
theorem d1_1 : decode jdk_42_method_3_code 1 = .ok (.aload_n 1, 1) := by decide +kernel
theorem d1_2 : decode jdk_42_method_3_code 2 = .ok (.iconst 0, 1) := by decide +kernel
theorem d1_3 : decode jdk_42_method_3_code 3 = .ok (.aload_n 1, 1) := by decide +kernel
theorem d1_4 : decode jdk_42_method_3_code 4 = .ok (.arraylength, 1) := by decide +kernel
theorem d1_5 : decode jdk_42_method_3_code 5 = .ok (.aconst_null, 1) := by decide +kernel
theorem d1_6 : decode jdk_42_method_3_code 6 = .ok (.invokespecial 27, 3) := by decide +kernel
theorem pd___CIILjava_lang_Void__V : parseMethodDescriptor "([CIILjava/lang/Void;)V" = some ⟨[(.array .char), .int, .int, (.object "java/lang/Void")], none⟩ := by decide +kernel
theorem d1_9 : decode jdk_42_method_3_code 9 = .ok (.return_, 1) := by decide +kernel
theorem d12_0 : decode jdk_42_method_151_code 0 = .ok (.aload_n 0, 1) := by decide +kernel
theorem d12_1 : decode jdk_42_method_151_code 1 = .ok (.invokespecial 1, 3) := by decide +kernel
theorem d12_4 : decode jdk_42_method_151_code 4 = .ok (.aload_n 0, 1) := by decide +kernel
theorem d12_5 : decode jdk_42_method_151_code 5 = .ok (.aload_n 1, 1) := by decide +kernel
theorem d12_6 : decode jdk_42_method_151_code 6 = .ok (.putfield 9, 3) := by decide +kernel
theorem d12_9 : decode jdk_42_method_151_code 9 = .ok (.aload_n 0, 1) := by decide +kernel
theorem d12_10 : decode jdk_42_method_151_code 10 = .ok (.iload_n 2, 1) := by decide +kernel
theorem d12_11 : decode jdk_42_method_151_code 11 = .ok (.putfield 15, 3) := by decide +kernel
theorem d12_14 : decode jdk_42_method_151_code 14 = .ok (.return_, 1) := by decide +kernel
theorem d10_0 : decode jdk_43_method_3_code 0 = .ok (.iload_n 0, 1) := by decide +kernel
theorem d10_1 : decode jdk_43_method_3_code 1 = .ok (.sipush 255, 3) := by decide +kernel
theorem d10_4 : decode jdk_43_method_3_code 4 = .ok (.if_icmp .gt 7, 3) := by decide +kernel
theorem d10_7 : decode jdk_43_method_3_code 7 = .ok (.iconst 1, 1) := by decide +kernel
theorem d10_8 : decode jdk_43_method_3_code 8 = .ok (.goto 4, 3) := by decide +kernel
theorem d10_12 : decode jdk_43_method_3_code 12 = .ok (.ireturn, 1) := by decide +kernel
theorem pn_java_lang_StringLatin1 : plainName "java/lang/StringLatin1" = true := by first | (simp [plainName, overriddenIn]; done) | decide +kernel
theorem d11_0 : decode jdk_43_method_46_code 0 = .ok (.iconst 1, 1) := by decide +kernel
theorem d11_1 : decode jdk_43_method_46_code 1 = .ok (.newarray .byte, 2) := by decide +kernel
theorem d11_3 : decode jdk_43_method_46_code 3 = .ok (.dup, 1) := by decide +kernel
theorem d11_4 : decode jdk_43_method_46_code 4 = .ok (.iconst 0, 1) := by decide +kernel
theorem d11_5 : decode jdk_43_method_46_code 5 = .ok (.iload_n 0, 1) := by decide +kernel
theorem d11_6 : decode jdk_43_method_46_code 6 = .ok (.i2b, 1) := by decide +kernel
theorem d11_7 : decode jdk_43_method_46_code 7 = .ok (.bastore, 1) := by decide +kernel
theorem d11_8 : decode jdk_43_method_46_code 8 = .ok (.areturn, 1) := by decide +kernel
theorem d9_0 : decode jdk_42_method_139_code 0 = .ok (.getstatic 38, 3) := by decide +kernel
theorem d9_3 : decode jdk_42_method_139_code 3 = .ok (.ifCond .eq 23, 3) := by decide +kernel
theorem d9_6 : decode jdk_42_method_139_code 6 = .ok (.iload_n 0, 1) := by decide +kernel
theorem d9_7 : decode jdk_42_method_139_code 7 = .ok (.invokestatic 1015, 3) := by decide +kernel
theorem pd__C_Z : parseMethodDescriptor "(C)Z" = some ⟨[.char], some .boolean⟩ := by decide +kernel
theorem d9_10 : decode jdk_42_method_139_code 10 = .ok (.ifCond .eq 16, 3) := by decide +kernel
theorem d9_13 : decode jdk_42_method_139_code 13 = .ok (.new 10, 3) := by decide +kernel
theorem d9_16 : decode jdk_42_method_139_code 16 = .ok (.dup, 1) := by decide +kernel
theorem d9_17 : decode jdk_42_method_139_code 17 = .ok (.iload_n 0, 1) := by decide +kernel
theorem d9_18 : decode jdk_42_method_139_code 18 = .ok (.invokestatic 1018, 3) := by decide +kernel
theorem pd__C__B : parseMethodDescriptor "(C)[B" = some ⟨[.char], some (.array .byte)⟩ := by decide +kernel
theorem d9_21 : decode jdk_42_method_139_code 21 = .ok (.iconst 0, 1) := by decide +kernel
theorem d9_22 : decode jdk_42_method_139_code 22 = .ok (.invokespecial 209, 3) := by decide +kernel
theorem pd___BB_V : parseMethodDescriptor "([BB)V" = some ⟨[(.array .byte), .byte], none⟩ := by decide +kernel
theorem d9_25 : decode jdk_42_method_139_code 25 = .ok (.areturn, 1) := by decide +kernel
theorem d14_9 : decode jdk_43_method_13_code 9 = .ok (.iload_n 2, 1) := by decide +kernel
theorem d14_10 : decode jdk_43_method_13_code 10 = .ok (.aload_n 0, 1) := by decide +kernel
theorem d14_11 : decode jdk_43_method_13_code 11 = .ok (.arraylength, 1) := by decide +kernel
theorem d14_12 : decode jdk_43_method_13_code 12 = .ok (.if_icmp .ge 20, 3) := by decide +kernel
theorem d14_32 : decode jdk_43_method_13_code 32 = .ok (.iconst 1, 1) := by decide +kernel
theorem d14_33 : decode jdk_43_method_13_code 33 = .ok (.ireturn, 1) := by decide +kernel
theorem d14_15 : decode jdk_43_method_13_code 15 = .ok (.aload_n 0, 1) := by decide +kernel
theorem d14_16 : decode jdk_43_method_13_code 16 = .ok (.iload_n 2, 1) := by decide +kernel
theorem d14_17 : decode jdk_43_method_13_code 17 = .ok (.baload, 1) := by decide +kernel
theorem d14_18 : decode jdk_43_method_13_code 18 = .ok (.aload_n 1, 1) := by decide +kernel
theorem d14_19 : decode jdk_43_method_13_code 19 = .ok (.iload_n 2, 1) := by decide +kernel
theorem d14_20 : decode jdk_43_method_13_code 20 = .ok (.baload, 1) := by decide +kernel
theorem d14_21 : decode jdk_43_method_13_code 21 = .ok (.if_icmp .eq 5, 3) := by decide +kernel
theorem d14_26 : decode jdk_43_method_13_code 26 = .ok (.iinc 2 1, 3) := by decide +kernel
theorem d14_29 : decode jdk_43_method_13_code 29 = .ok (.goto (-20), 3) := by decide +kernel
theorem d14_24 : decode jdk_43_method_13_code 24 = .ok (.iconst 0, 1) := by decide +kernel
theorem d14_25 : decode jdk_43_method_13_code 25 = .ok (.ireturn, 1) := by decide +kernel
theorem d14_0 : decode jdk_43_method_13_code 0 = .ok (.aload_n 0, 1) := by decide +kernel
theorem d14_1 : decode jdk_43_method_13_code 1 = .ok (.arraylength, 1) := by decide +kernel
theorem d14_2 : decode jdk_43_method_13_code 2 = .ok (.aload_n 1, 1) := by decide +kernel
theorem d14_3 : decode jdk_43_method_13_code 3 = .ok (.arraylength, 1) := by decide +kernel
theorem d14_4 : decode jdk_43_method_13_code 4 = .ok (.if_icmp .ne 30, 3) := by decide +kernel
theorem d14_7 : decode jdk_43_method_13_code 7 = .ok (.iconst 0, 1) := by decide +kernel
theorem d14_8 : decode jdk_43_method_13_code 8 = .ok (.istore_n 2, 1) := by decide +kernel
theorem d14_34 : decode jdk_43_method_13_code 34 = .ok (.iconst 0, 1) := by decide +kernel
theorem d14_35 : decode jdk_43_method_13_code 35 = .ok (.ireturn, 1) := by decide +kernel
theorem d13_0 : decode jdk_42_method_66_code 0 = .ok (.aload_n 0, 1) := by decide +kernel
theorem d13_1 : decode jdk_42_method_66_code 1 = .ok (.aload_n 1, 1) := by decide +kernel
theorem d13_2 : decode jdk_42_method_66_code 2 = .ok (.if_acmp .ne 5, 3) := by decide +kernel
theorem d13_5 : decode jdk_42_method_66_code 5 = .ok (.iconst 1, 1) := by decide +kernel
theorem d13_6 : decode jdk_42_method_66_code 6 = .ok (.ireturn, 1) := by decide +kernel
theorem d13_7 : decode jdk_42_method_66_code 7 = .ok (.aload_n 1, 1) := by decide +kernel
theorem d13_8 : decode jdk_42_method_66_code 8 = .ok (.instanceof 10, 3) := by decide +kernel
theorem d13_11 : decode jdk_42_method_66_code 11 = .ok (.ifCond .eq 43, 3) := by decide +kernel
theorem d13_14 : decode jdk_42_method_66_code 14 = .ok (.aload_n 1, 1) := by decide +kernel
theorem d13_15 : decode jdk_42_method_66_code 15 = .ok (.checkcast 10, 3) := by decide +kernel
theorem d13_18 : decode jdk_42_method_66_code 18 = .ok (.astore_n 2, 1) := by decide +kernel
theorem d13_19 : decode jdk_42_method_66_code 19 = .ok (.getstatic 38, 3) := by decide +kernel
theorem d13_22 : decode jdk_42_method_66_code 22 = .ok (.ifCond .eq 14, 3) := by decide +kernel
theorem d13_25 : decode jdk_42_method_66_code 25 = .ok (.aload_n 0, 1) := by decide +kernel
theorem d13_26 : decode jdk_42_method_66_code 26 = .ok (.getfield 15, 3) := by decide +kernel
theorem d13_29 : decode jdk_42_method_66_code 29 = .ok (.aload_n 2, 1) := by decide +kernel
theorem d13_30 : decode jdk_42_method_66_code 30 = .ok (.getfield 15, 3) := by decide +kernel
theorem d13_33 : decode jdk_42_method_66_code 33 = .ok (.if_icmp .ne 21, 3) := by decide +kernel
theorem d13_36 : decode jdk_42_method_66_code 36 = .ok (.aload_n 0, 1) := by decide +kernel
theorem d13_37 : decode jdk_42_method_66_code 37 = .ok (.getfield 9, 3) := by decide +kernel
theorem d13_40 : decode jdk_42_method_66_code 40 = .ok (.aload_n 2, 1) := by decide +kernel
theorem d13_41 : decode jdk_42_method_66_code 41 = .ok (.getfield 9, 3) := by decide +kernel
theorem d13_44 : decode jdk_42_method_66_code 44 = .ok (.invokestatic 541, 3) := by decide +kernel
theorem pd___B_B_Z : parseMethodDescriptor "([B[B)Z" = some ⟨[(.array .byte), (.array .byte)], some .boolean⟩ := by decide +kernel
theorem d13_47 : decode jdk_42_method_66_code 47 = .ok (.ifCond .eq 7, 3) := by decide +kernel
theorem d13_54 : decode jdk_42_method_66_code 54 = .ok (.iconst 0, 1) := by decide +kernel
theorem d13_55 : decode jdk_42_method_66_code 55 = .ok (.ireturn, 1) := by decide +kernel
theorem d13_50 : decode jdk_42_method_66_code 50 = .ok (.iconst 1, 1) := by decide +kernel
theorem d13_51 : decode jdk_42_method_66_code 51 = .ok (.goto 4, 3) := by decide +kernel
theorem d8_0 : decode prog_7_method_1_code 0 = .ok (.getstatic 16, 3) := by decide +kernel
theorem d8_3 : decode prog_7_method_1_code 3 = .ok (.invokevirtual 20, 3) := by decide +kernel
theorem d8_6 : decode prog_7_method_1_code 6 = .ok (.checkcast 21, 3) := by decide +kernel
theorem d8_9 : decode prog_7_method_1_code 9 = .ok (.areturn, 1) := by decide +kernel
theorem pn_com_example_tablee_tablee_rules_cards_SpanishSuit : plainName "com/example/tablee/tablee/rules/cards/SpanishSuit" = true := by first | (simp [plainName, overriddenIn]; done) | decide +kernel
theorem d7_0 : decode prog_7_method_4_code 0 = .ok (.invokestatic 39, 3) := by decide +kernel
theorem pd____Lcom_example_tablee_tablee_rules_cards_SpanishSuit_ : parseMethodDescriptor "()[Lcom/example/tablee/tablee/rules/cards/SpanishSuit;" = some ⟨[], some (.array (.object "com/example/tablee/tablee/rules/cards/SpanishSuit"))⟩ := by decide +kernel
theorem d7_3 : decode prog_7_method_4_code 3 = .ok (.astore_n 1, 1) := by decide +kernel
theorem d7_4 : decode prog_7_method_4_code 4 = .ok (.aload_n 1, 1) := by decide +kernel
theorem d7_5 : decode prog_7_method_4_code 5 = .ok (.arraylength, 1) := by decide +kernel
theorem d7_6 : decode prog_7_method_4_code 6 = .ok (.istore_n 2, 1) := by decide +kernel
theorem d7_7 : decode prog_7_method_4_code 7 = .ok (.iconst 0, 1) := by decide +kernel
theorem d7_8 : decode prog_7_method_4_code 8 = .ok (.istore_n 3, 1) := by decide +kernel
theorem d7_9 : decode prog_7_method_4_code 9 = .ok (.iload_n 3, 1) := by decide +kernel
theorem d7_10 : decode prog_7_method_4_code 10 = .ok (.iload_n 2, 1) := by decide +kernel
theorem d7_11 : decode prog_7_method_4_code 11 = .ok (.if_icmp .ge 32, 3) := by decide +kernel
theorem d7_14 : decode prog_7_method_4_code 14 = .ok (.aload_n 1, 1) := by decide +kernel
theorem d7_15 : decode prog_7_method_4_code 15 = .ok (.iload_n 3, 1) := by decide +kernel
theorem d7_16 : decode prog_7_method_4_code 16 = .ok (.aaload, 1) := by decide +kernel
theorem d7_17 : decode prog_7_method_4_code 17 = .ok (.astore 4, 2) := by decide +kernel
theorem d7_19 : decode prog_7_method_4_code 19 = .ok (.aload_n 0, 1) := by decide +kernel
theorem d7_20 : decode prog_7_method_4_code 20 = .ok (.aload 4, 2) := by decide +kernel
theorem d7_22 : decode prog_7_method_4_code 22 = .ok (.getfield 35, 3) := by decide +kernel
theorem d7_25 : decode prog_7_method_4_code 25 = .ok (.invokestatic 43, 3) := by decide +kernel
theorem pd__C_Ljava_lang_String_ : parseMethodDescriptor "(C)Ljava/lang/String;" = some ⟨[.char], some (.object "java/lang/String")⟩ := by decide +kernel
theorem d7_28 : decode prog_7_method_4_code 28 = .ok (.invokevirtual 48, 3) := by decide +kernel
theorem pd__Ljava_lang_Object__Z : parseMethodDescriptor "(Ljava/lang/Object;)Z" = some ⟨[(.object "java/lang/Object")], some .boolean⟩ := by decide +kernel
theorem d7_31 : decode prog_7_method_4_code 31 = .ok (.ifCond .eq 6, 3) := by decide +kernel
theorem d7_34 : decode prog_7_method_4_code 34 = .ok (.aload 4, 2) := by decide +kernel
theorem d7_36 : decode prog_7_method_4_code 36 = .ok (.areturn, 1) := by decide +kernel
theorem d7_37 : decode prog_7_method_4_code 37 = .ok (.iinc 3 1, 3) := by decide +kernel
theorem d7_40 : decode prog_7_method_4_code 40 = .ok (.goto (-31), 3) := by decide +kernel
theorem d15_0 : decode prog_7_method_5_code 0 = .ok (.aload_n 0, 1) := by decide +kernel
theorem d15_1 : decode prog_7_method_5_code 1 = .ok (.getfield 35, 3) := by decide +kernel
theorem d15_4 : decode prog_7_method_5_code 4 = .ok (.ireturn, 1) := by decide +kernel
theorem pd___C_V : parseMethodDescriptor "([C)V" = some ⟨[(.array .char)], none⟩ := by decide +kernel
theorem pd__Ljava_lang_String__Lcom_example_tablee_tablee_rules_cards_SpanishSuit_ : parseMethodDescriptor "(Ljava/lang/String;)Lcom/example/tablee/tablee/rules/cards/SpanishSuit;" = some ⟨[(.object "java/lang/String")], some (.object "com/example/tablee/tablee/rules/cards/SpanishSuit")⟩ := by decide +kernel
theorem pd___C : parseMethodDescriptor "()C" = some ⟨[], some .char⟩ := by decide +kernel
theorem pn_com_example_tablee_tablee_rules_cards_SpanishSuitParsePinLaw : plainName "com/example/tablee/tablee/rules/cards/SpanishSuitParsePinLaw" = true := by first | (simp [plainName, overriddenIn]; done) | decide +kernel
theorem ef_rmCd0 (m : MethodId) (x0 : Addr) (x1 : Int32) : entryFrame m #[(.ref x0), (.int x1)] 2 = mkF m 0 #[.val (.ref x0), .val (.int x1)] [] := by first | (simp [entryFrame, mkF, argsToLocals, Value.category]; done) | rfl
set_option maxRecDepth 65536 in
set_option maxHeartbeats 40000000 in
theorem rmCd0 (l : Launch) (Z : State) (a0 : Array Value) (hw : ∀ d ∈ tables_1, d.before a0 Z = true) (ws : List Jvm.Cond) (b1 : Addr) (z : Int32) (n : Nat) (f : Nat → Int32) (h0 : Heap) (F1 : own_A Z h0 b1 .byte n f) (hz : z.toInt = n) :
    own_Ct l Z (⟨"java/lang/StringUTF16", "coderFromArrayLen", "([BI)B"⟩ : MethodName) jdk_52_method_15_code 2 (some .byte) ws ({ frames := 0, cells := 0, slots := 0, locals := 0 } : Room) #[(.ref b1), (.int z)] h0 (fun v h L => v = some (.int 0) ∧ L = [] ∧ h = h0) := by
  refine own_of pn_java_lang_StringUTF16 ?_
  intro p e s m below meth c s₁ hx hby hml hown hnm hret hlk hZ X0 e0
  rw [ef_rmCd0]
  refine own_by (T' := s₁) (f' := (mkF m 1 #[.val (.ref b1), .val (.int z)] [(.int z)])) (fun t k => XS.iloadN X0.here hx rfl (hb hby d6_0) rfl k) ?_
  refine own_by (T' := s₁) (f' := (mkF m 2 #[.val (.ref b1), .val (.int z)] [(.ref b1), (.int z)])) (fun t k => XS.aloadN X0.here hx rfl (hb hby d6_1) rfl rfl k) ?_
  refine own_alen (j := z) X0 hx hZ e0 (hb hby d6_2) F1 hz ?_
  show own_Go p e below _ s₁ (mkF m 3 #[.val (.ref b1), .val (.int z)] [(.int z), (.int z)])
  refine own_by (T' := s₁) (f' := (mkF m 4 #[.val (.ref b1), .val (.int z)] [(.int (z - z))])) (fun t k => XS.isub X0.here hx rfl (hb hby d6_3) rfl k) ?_
  refine own_by (T' := s₁) (f' := (mkF m 6 #[.val (.ref b1), .val (.int z)] [(.int (31 : Int32)), (.int (z - z))])) (fun t k => XS.bipush X0.here hx rfl (hb hby d6_4) k) ?_
  refine own_by (T' := s₁) (f' := (mkF m 7 #[.val (.ref b1), .val (.int z)] [(.int (((z - z).toUInt32 >>> ((31 : Int32) &&& 31).toUInt32).toInt32))])) (fun t k => XS.iushr X0.here hx rfl (hb hby d6_6) rfl k) ?_
  refine own_by (T' := s₁) (f' := (mkF m 8 #[.val (.ref b1), .val (.int z)] [(.int ((((z - z).toUInt32 >>> ((31 : Int32) &&& 31).toUInt32).toInt32).toInt8.toInt32))])) (fun t k => XS.i2b X0.here hx rfl (hb hby d6_7) rfl k) ?_
  rw [own_cd0]
  show own_Go p e below _ s₁ (mkF m 8 #[.val (.ref b1), .val (.int z)] [(.int (0 : Int32))])
  refine own_ret X0 hx hret hlk (hb hby d6_8) rfl (Or.inl ⟨rfl, Or.inr (Or.inr (Or.inl rfl)), _, rfl⟩) (by decide) (by decide) ?_
  try rw [e0]
  exact ⟨rfl, rfl, rfl⟩
abbrev QC5 (Z : State) (h0 : Heap) (n0 : Nat) (b1 : Addr) (n : Nat) (f g : Nat → Int32) (v : Option Value) (h : Heap) (L : List Loc) : Prop := ∃ r : Int32, v = some (.int r) ∧ r.toInt = (own_fst f n : Nat) ∧ Fr n0 L ∧ Keep h0 h [b1] ∧ own_A Z h b1 .byte n (fun i => if i < own_fst f n then own_b8 (f i) else g i)
theorem ef_rmC5 (m : MethodId) (x0 : Addr) (x1 : Int32) (x2 : Addr) (x3 : Int32) (x4 : Int32) : entryFrame m #[(.ref x0), (.int x1), (.ref x2), (.int x3), (.int x4)] 7 = mkF m 0 #[.val (.ref x0), .val (.int x1), .val (.ref x2), .val (.int x3), .val (.int x4), .unset, .unset] [] := by first | (simp [entryFrame, mkF, argsToLocals, Value.category]; done) | rfl
set_option maxRecDepth 65536 in
set_option maxHeartbeats 40000000 in
theorem rmC5 (l : Launch) (Z : State) (a0 : Array Value) (hw : ∀ d ∈ tables_1, d.before a0 Z = true) (ws : List Jvm.Cond) (a1 b1 : Addr) (z : Int32) (n : Nat) (f g : Nat → Int32) (h0 : Heap) (n0 : Nat) (gb : n0 ≤ b1) (hab : a1 ≠ b1) (hz : z.toInt = n) (hn : n < 2147483648) (A1 : own_A Z h0 a1 .char n f) (B1 : own_A Z h0 b1 .byte n g) :
    own_Ct l Z (⟨"java/lang/StringUTF16", "compress", "([CI[BII)I"⟩ : MethodName) jdk_52_method_21_code 7 (some .int) ws ({ frames := 0, cells := 0, slots := 0, locals := 0 } : Room) #[(.ref a1), (.int (0 : Int32)), (.ref b1), (.int (0 : Int32)), (.int z)] h0 (QC5 Z h0 n0 b1 n f g) := by
  refine own_of pn_java_lang_StringUTF16 ?_
  intro p e s m below meth c s₁ hx hby hml hown hnm hret hlk hZ X0 e0
  have loop : ∀ (k j : Nat) (iv : Int32) (s6 : Slot) (TL : State) (hL : Heap) (LL : List Loc), j + k = n → iv.toInt = (j : Nat) → One s6 → own_fst f n = own_fstA f k j → Stand p l e ({ frames := 0, cells := 0, slots := 0, locals := 0 } : Room) s m #[(.ref a1), (.int (0 : Int32)), (.ref b1), (.int (0 : Int32)), (.int z)] below meth c TL LL 0 0 → TL.heap = hL → own_A Z hL a1 .char n f → own_A Z hL b1 .byte n (fun i => if i < j then own_b8 (f i) else g i) → Keep h0 hL [b1] → Fr n0 LL → own_Go p e below (own_Ends s ({ frames := 0, cells := 0, slots := 0, locals := 0 } : Room) (QC5 Z h0 n0 b1 n f g)) TL (mkF m 3 #[.val (.ref a1), .val (.int iv), .val (.ref b1), .val (.int iv), .val (.int z), .val (.int iv), s6] []) := by
    intro k
    induction k with
    | zero =>
      intro j iv s6 TL hL LL hjk hiv hs6 hF XL eL AL BL KL NL
      refine own_by (T' := TL) (f' := (mkF m 5 #[.val (.ref a1), .val (.int iv), .val (.ref b1), .val (.int iv), .val (.int z), .val (.int iv), s6] [(.int iv)])) (fun t k => XS.iload XL.here hx rfl (hb hby d5_3) rfl k) ?_
      refine own_by (T' := TL) (f' := (mkF m 7 #[.val (.ref a1), .val (.int iv), .val (.ref b1), .val (.int iv), .val (.int z), .val (.int iv), s6] [(.int z), (.int iv)])) (fun t k => XS.iload XL.here hx rfl (hb hby d5_5) rfl k) ?_
      have hc7_51 : ¬ (iv < z) := (by rw [Int32.lt_iff_toInt_lt]; omega)
      refine own_by (T' := TL) (f' := (mkF m 44 #[.val (.ref a1), .val (.int iv), .val (.ref b1), .val (.int iv), .val (.int z), .val (.int iv), s6] [])) (fun t k => XS.icmpYes XL.here hx rfl (pc0 := 7) (pc' := 44) rfl (hb hby d5_7) rfl (flt hc7_51).2.1 (by decide) (by decide) k) ?_
      refine own_by (T' := TL) (f' := (mkF m 46 #[.val (.ref a1), .val (.int iv), .val (.ref b1), .val (.int iv), .val (.int z), .val (.int iv), s6] [(.int z)])) (fun t k => XS.iload XL.here hx rfl (hb hby d5_44) rfl k) ?_
      refine own_retI XL hx hret hlk (hb hby d5_46) (by decide) (by decide) ?_
      try rw [eL]
      exact ⟨z, rfl, by rw [hF, own_fstA]; omega, NL, KL, by rw [hF, own_fstA]; exact BL⟩
    | succ k ih =>
      intro j iv s6 TL hL LL hjk hiv hs6 hF XL eL AL BL KL NL
      refine own_by (T' := TL) (f' := (mkF m 5 #[.val (.ref a1), .val (.int iv), .val (.ref b1), .val (.int iv), .val (.int z), .val (.int iv), s6] [(.int iv)])) (fun t k => XS.iload XL.here hx rfl (hb hby d5_3) rfl k) ?_
      refine own_by (T' := TL) (f' := (mkF m 7 #[.val (.ref a1), .val (.int iv), .val (.ref b1), .val (.int iv), .val (.int z), .val (.int iv), s6] [(.int z), (.int iv)])) (fun t k => XS.iload XL.here hx rfl (hb hby d5_5) rfl k) ?_
      have hc7_51 : iv < z := (by rw [Int32.lt_iff_toInt_lt]; omega)
      refine own_by (T' := TL) (f' := (mkF m 10 #[.val (.ref a1), .val (.int iv), .val (.ref b1), .val (.int iv), .val (.int z), .val (.int iv), s6] [])) (fun t k => XS.icmpNo XL.here hx rfl (hb hby d5_7) rfl (tlt hc7_51).2.1 k) ?_
      refine own_by (T' := TL) (f' := (mkF m 11 #[.val (.ref a1), .val (.int iv), .val (.ref b1), .val (.int iv), .val (.int z), .val (.int iv), s6] [(.ref a1)])) (fun t k => XS.aloadN XL.here hx rfl (hb hby d5_10) rfl rfl k) ?_
      refine own_by (T' := TL) (f' := (mkF m 12 #[.val (.ref a1), .val (.int iv), .val (.ref b1), .val (.int iv), .val (.int z), .val (.int iv), s6] [(.int iv), (.ref a1)])) (fun t k => XS.iloadN XL.here hx rfl (hb hby d5_11) rfl k) ?_
      refine own_ldC XL hx hZ eL (hb hby d5_12) AL (by first | decide | omega) (by first | decide | omega) ?_
      rw [show iv.toInt.toNat = j from by omega]
      show own_Go p e below _ TL (mkF m 13 #[.val (.ref a1), .val (.int iv), .val (.ref b1), .val (.int iv), .val (.int z), .val (.int iv), s6] [(.int (f j))])
      refine own_by (T' := TL) (f' := (mkF m 15 #[.val (.ref a1), .val (.int iv), .val (.ref b1), .val (.int iv), .val (.int z), .val (.int iv), .val (.int (f j))] [])) (fun t k => XS.istore XL.here hx rfl (hb hby d5_13) rfl (l' := #[.val (.ref a1), .val (.int iv), .val (.ref b1), .val (.int iv), .val (.int z), .val (.int iv), .val (.int (f j))]) (os_C5_5_13 hs6) k) ?_
      refine own_by (T' := TL) (f' := (mkF m 17 #[.val (.ref a1), .val (.int iv), .val (.ref b1), .val (.int iv), .val (.int z), .val (.int iv), .val (.int (f j))] [(.int (f j))])) (fun t k => XS.iload XL.here hx rfl (hb hby d5_15) rfl k) ?_
      refine own_by (T' := TL) (f' := (mkF m 20 #[.val (.ref a1), .val (.int iv), .val (.ref b1), .val (.int iv), .val (.int z), .val (.int iv), .val (.int (f j))] [(.int (255 : Int32)), (.int (f j))])) (fun t k => XS.sipush XL.here hx rfl (hb hby d5_17) k) ?_
      by_cases hc20_52 : (255 : Int32) < (f j)
      · have _ := XL
        refine own_by (T' := TL) (f' := (mkF m 23 #[.val (.ref a1), .val (.int iv), .val (.ref b1), .val (.int iv), .val (.int z), .val (.int iv), .val (.int (f j))] [])) (fun t k => XS.icmpNo XL.here hx rfl (hb hby d5_20) rfl (tlt hc20_52).2.2.2 k) ?_
        refine own_by (T' := TL) (f' := (mkF m 25 #[.val (.ref a1), .val (.int iv), .val (.ref b1), .val (.int iv), .val (.int z), .val (.int iv), .val (.int (f j))] [(.int iv)])) (fun t k => XS.iload XL.here hx rfl (hb hby d5_23) rfl k) ?_
        refine own_retI XL hx hret hlk (hb hby d5_25) (by decide) (by decide) ?_
        try rw [eL]
        exact ⟨iv, rfl, by rw [hF, own_fstA, if_pos hc20_52]; exact hiv, NL, KL, by rw [hF, own_fstA, if_pos hc20_52]; exact BL⟩
      · have _ := XL
        refine own_by (T' := TL) (f' := (mkF m 26 #[.val (.ref a1), .val (.int iv), .val (.ref b1), .val (.int iv), .val (.int z), .val (.int iv), .val (.int (f j))] [])) (fun t k => XS.icmpYes XL.here hx rfl (pc0 := 20) (pc' := 26) rfl (hb hby d5_20) rfl (flt hc20_52).2.2.2 (by decide) (by decide) k) ?_
        refine own_by (T' := TL) (f' := (mkF m 27 #[.val (.ref a1), .val (.int iv), .val (.ref b1), .val (.int iv), .val (.int z), .val (.int iv), .val (.int (f j))] [(.ref b1)])) (fun t k => XS.aloadN XL.here hx rfl (hb hby d5_26) rfl rfl k) ?_
        refine own_by (T' := TL) (f' := (mkF m 28 #[.val (.ref a1), .val (.int iv), .val (.ref b1), .val (.int iv), .val (.int z), .val (.int iv), .val (.int (f j))] [(.int iv), (.ref b1)])) (fun t k => XS.iloadN XL.here hx rfl (hb hby d5_27) rfl k) ?_
        refine own_by (T' := TL) (f' := (mkF m 30 #[.val (.ref a1), .val (.int iv), .val (.ref b1), .val (.int iv), .val (.int z), .val (.int iv), .val (.int (f j))] [(.int (f j)), (.int iv), (.ref b1)])) (fun t k => XS.iload XL.here hx rfl (hb hby d5_28) rfl k) ?_
        refine own_by (T' := TL) (f' := (mkF m 31 #[.val (.ref a1), .val (.int iv), .val (.ref b1), .val (.int iv), .val (.int z), .val (.int iv), .val (.int (f j))] [(.int ((f j).toInt8.toInt32)), (.int iv), (.ref b1)])) (fun t k => XS.i2b XL.here hx rfl (hb hby d5_30) rfl k) ?_
        refine own_stB XL hx hZ eL (hb hby d5_31) BL (by first | decide | omega) (by first | decide | omega) ?_
        intro T53 h53 X53 e53 W53 A53
        show own_Go p e below _ T53 (mkF m 32 #[.val (.ref a1), .val (.int iv), .val (.ref b1), .val (.int iv), .val (.int z), .val (.int iv), .val (.int (f j))] [])
        have K54 := KL.wr W53 (Or.inl (List.mem_of_getElem? (i := 0) rfl))
        have N53 := Fr.snoc X53 NL gb
        have A55 : own_A Z h53 b1 .byte n (fun i => if i < (j + 1) then own_b8 (f i) else g i) := A53.congr (fun i hi => by rw [show iv.toInt.toNat = j from by omega]; exact own_upd j (fun i => own_b8 (f i)) g i)
        refine own_by (T' := T53) (f' := (mkF m 35 #[.val (.ref a1), .val (.int (iv + (1 : Int32))), .val (.ref b1), .val (.int iv), .val (.int z), .val (.int iv), .val (.int (f j))] [])) (fun t k => XS.iinc X53.here hx rfl (hb hby d5_32) rfl (l' := #[.val (.ref a1), .val (.int (iv + (1 : Int32))), .val (.ref b1), .val (.int iv), .val (.int z), .val (.int iv), .val (.int (f j))]) rfl k) ?_
        refine own_by (T' := T53) (f' := (mkF m 38 #[.val (.ref a1), .val (.int (iv + (1 : Int32))), .val (.ref b1), .val (.int (iv + (1 : Int32))), .val (.int z), .val (.int iv), .val (.int (f j))] [])) (fun t k => XS.iinc X53.here hx rfl (hb hby d5_35) rfl (l' := #[.val (.ref a1), .val (.int (iv + (1 : Int32))), .val (.ref b1), .val (.int (iv + (1 : Int32))), .val (.int z), .val (.int iv), .val (.int (f j))]) rfl k) ?_
        refine own_by (T' := T53) (f' := (mkF m 41 #[.val (.ref a1), .val (.int (iv + (1 : Int32))), .val (.ref b1), .val (.int (iv + (1 : Int32))), .val (.int z), .val (.int (iv + (1 : Int32))), .val (.int (f j))] [])) (fun t k => XS.iinc X53.here hx rfl (hb hby d5_38) rfl (l' := #[.val (.ref a1), .val (.int (iv + (1 : Int32))), .val (.ref b1), .val (.int (iv + (1 : Int32))), .val (.int z), .val (.int (iv + (1 : Int32))), .val (.int (f j))]) rfl k) ?_
        refine own_by (T' := T53) (f' := (mkF m 3 #[.val (.ref a1), .val (.int (iv + (1 : Int32))), .val (.ref b1), .val (.int (iv + (1 : Int32))), .val (.int z), .val (.int (iv + (1 : Int32))), .val (.int (f j))] [])) (fun t k => XS.goto X53.here hx rfl (pc0 := 41) (pc' := 3) rfl (hb hby d5_41) (by decide) (by decide) k) ?_
        have f56 := (AL.other W53 hab)
        exact ih (j + 1) (iv + (1 : Int32)) _ T53 h53 _ (by omega) (own_inc hiv (by omega) hn) (One.val rfl) (hF.trans (by rw [own_fstA, if_neg hc20_52])) X53 e53 f56 A55 K54 N53
  rw [ef_rmC5]
  refine own_by (T' := s₁) (f' := (mkF m 1 #[.val (.ref a1), .val (.int (0 : Int32)), .val (.ref b1), .val (.int (0 : Int32)), .val (.int z), .unset, .unset] [(.int (0 : Int32))])) (fun t k => XS.iconst X0.here hx rfl (hb hby d5_0) k) ?_
  refine own_by (T' := s₁) (f' := (mkF m 3 #[.val (.ref a1), .val (.int (0 : Int32)), .val (.ref b1), .val (.int (0 : Int32)), .val (.int z), .val (.int (0 : Int32)), .unset] [])) (fun t k => XS.istore X0.here hx rfl (hb hby d5_1) rfl (l' := #[.val (.ref a1), .val (.int (0 : Int32)), .val (.ref b1), .val (.int (0 : Int32)), .val (.int z), .val (.int (0 : Int32)), .unset]) rfl k) ?_
  exact loop n 0 0 _ s₁ h0 [] (by omega) (by decide) One.u rfl X0 e0 A1 (B1.congr fun i _ => by simp) (Keep.refl h0 [b1]) (Fr.nil n0)
theorem ef_rmC3 (m : MethodId) (x0 : Addr) (x1 : Int32) (x2 : Int32) : entryFrame m #[(.ref x0), (.int x1), (.int x2)] 6 = mkF m 0 #[.val (.ref x0), .val (.int x1), .val (.int x2), .unset, .unset, .unset] [] := by first | (simp [entryFrame, mkF, argsToLocals, Value.category]; done) | rfl
set_option maxRecDepth 65536 in
set_option maxHeartbeats 40000000 in
theorem rmC3 (l : Launch) (Z : State) (a0 : Array Value) (hw : ∀ d ∈ tables_1, d.before a0 Z = true) (ws : List Jvm.Cond) (a1 : Addr) (z : Int32) (n : Nat) (f : Nat → Int32) (h0 : Heap) (n0 : Nat) (Z0 : n0 ≤ h0.size) (hz : z.toInt = n) (hcap : n ≤ 1) (hlat : ∀ q, q < n → ¬ (255 : Int32) < f q) (A1 : own_A Z h0 a1 .char n f) :
    own_Ct l Z (⟨"java/lang/StringUTF16", "compress", "([CII)[B"⟩ : MethodName) jdk_52_method_16_code 6 (some (.array .byte)) ws ({ frames := 1, cells := 1, slots := 1, locals := 18 } : Room) #[(.ref a1), (.int (0 : Int32)), (.int z)] h0 (fun v h L => ∃ b : Addr, v = some (.ref b) ∧ Fr n0 L ∧ Keep h0 h [] ∧ h0.size ≤ b ∧ own_A Z h b .byte n (fun i => own_b8 (f i))) := by
  refine own_of pn_java_lang_StringUTF16 ?_
  intro p e s m below meth c s₁ hx hby hml hown hnm hret hlk hZ X0 e0
  have N0 := Fr.nil n0
  have K0 := Keep.refl h0 []
  rw [ef_rmC3]
  refine own_by (T' := s₁) (f' := (mkF m 1 #[.val (.ref a1), .val (.int (0 : Int32)), .val (.int z), .unset, .unset, .unset] [(.int z)])) (fun t k => XS.iloadN X0.here hx rfl (hb hby d4_0) rfl k) ?_
  refine own_mkA X0 hx hZ e0 (hb hby d4_1) (hw _ (List.mem_of_getElem? (i := 22) rfl)) (v := 0) rfl (by omega) 1 (by omega) (by decide) (by decide) (by decide) ?_
  intro T11 h11 b11 X11 e11 g11 E11 A11r
  have ne11_a1 : a1 ≠ b11 := Nat.ne_of_lt (by rw [g11]; exact A1.lt)
  have gn11 : n0 ≤ b11 := by rw [g11]; exact Z0
  have gh11 : h0.size ≤ b11 := by rw [g11]; exact K0.1
  show own_Go p e below _ T11 (mkF m 3 #[.val (.ref a1), .val (.int (0 : Int32)), .val (.int z), .unset, .unset, .unset] [(.ref b11)])
  have A11 : own_A Z h11 b11 .byte n (fun _ => 0) := (by rw [show n = z.toInt.toNat from by omega]; exact A11r)
  have sz12 : n0 ≤ h11.size := Nat.le_trans Z0 E11.1
  have K13 := K0.ext E11
  refine own_by (T' := T11) (f' := (mkF m 4 #[.val (.ref a1), .val (.int (0 : Int32)), .val (.int z), .val (.ref b11), .unset, .unset] [])) (fun t k => XS.astoreN X11.here hx rfl (hb hby d4_3) rfl rfl (l' := #[.val (.ref a1), .val (.int (0 : Int32)), .val (.int z), .val (.ref b11), .unset, .unset]) rfl k) ?_
  refine own_by (T' := T11) (f' := (mkF m 5 #[.val (.ref a1), .val (.int (0 : Int32)), .val (.int z), .val (.ref b11), .unset, .unset] [(.ref a1)])) (fun t k => XS.aloadN X11.here hx rfl (hb hby d4_4) rfl rfl k) ?_
  refine own_by (T' := T11) (f' := (mkF m 6 #[.val (.ref a1), .val (.int (0 : Int32)), .val (.int z), .val (.ref b11), .unset, .unset] [(.int (0 : Int32)), (.ref a1)])) (fun t k => XS.iloadN X11.here hx rfl (hb hby d4_5) rfl k) ?_
  refine own_by (T' := T11) (f' := (mkF m 7 #[.val (.ref a1), .val (.int (0 : Int32)), .val (.int z), .val (.ref b11), .unset, .unset] [(.ref b11), (.int (0 : Int32)), (.ref a1)])) (fun t k => XS.aloadN X11.here hx rfl (hb hby d4_6) rfl rfl k) ?_
  refine own_by (T' := T11) (f' := (mkF m 8 #[.val (.ref a1), .val (.int (0 : Int32)), .val (.int z), .val (.ref b11), .unset, .unset] [(.int (0 : Int32)), (.ref b11), (.int (0 : Int32)), (.ref a1)])) (fun t k => XS.iconst X11.here hx rfl (hb hby d4_7) k) ?_
  refine own_by (T' := T11) (f' := (mkF m 9 #[.val (.ref a1), .val (.int (0 : Int32)), .val (.int z), .val (.ref b11), .unset, .unset] [(.int z), (.int (0 : Int32)), (.ref b11), (.int (0 : Int32)), (.ref a1)])) (fun t k => XS.iloadN X11.here hx rfl (hb hby d4_8) rfl k) ?_
  have f14 := (A1.ext E11)
  refine own_callS X11 hx hZ hown e11 (hb hby d4_9) [(.ref a1), (.int (0 : Int32)), (.ref b11), (.int (0 : Int32)), (.int z)] [] 0 (rmC5 l Z a0 hw [] a1 b11 z n f (fun _ => 0) h11 n0 gn11 ne11_a1 hz A1.small f14 A11) (hw _ (List.mem_of_getElem? (i := 23) rfl)) (hw _ (List.mem_of_getElem? (i := 24) rfl)) (hw _ (List.mem_of_getElem? (i := 20) rfl)) (hw _ (List.mem_of_getElem? (i := 25) rfl)) (by decide) pd___CI_BII_I (by rw [hml]; rfl) rfl rfl (Nat.le_of_eq rfl) (by decide) (by decide) (by decide) (by decide) ?_
  rintro T15 _ L15 X15 ⟨r15, rfl, hr15, N15q, K15, B15⟩
  have hrz : r15 = z := Int32.toInt_inj.mp (by rw [hr15, own_fst_all hlat, hz])
  rw [hrz]
  show own_Go p e below _ T15 (mkF m 12 #[.val (.ref a1), .val (.int (0 : Int32)), .val (.int z), .val (.ref b11), .unset, .unset] [(.int z)])
  have N15 := Fr.app N0 N15q
  have sz16 : n0 ≤ T15.heap.size := Nat.le_trans sz12 K15.1
  have K17 := K13.trans K15 (allS (Or.inr gh11) all0)
  have A18 : own_A Z T15.heap b11 .byte n (fun i => own_b8 (f i)) := B15.congr (fun i hi => by show (if i < own_fst f n then own_b8 (f i) else _) = _; rw [own_fst_all hlat, if_pos hi])
  refine own_by (T' := T15) (f' := (mkF m 14 #[.val (.ref a1), .val (.int (0 : Int32)), .val (.int z), .val (.ref b11), .val (.int z), .unset] [])) (fun t k => XS.istore X15.here hx rfl (hb hby d4_12) rfl (l' := #[.val (.ref a1), .val (.int (0 : Int32)), .val (.int z), .val (.ref b11), .val (.int z), .unset]) rfl k) ?_
  refine own_by (T' := T15) (f' := (mkF m 16 #[.val (.ref a1), .val (.int (0 : Int32)), .val (.int z), .val (.ref b11), .val (.int z), .unset] [(.int z)])) (fun t k => XS.iload X15.here hx rfl (hb hby d4_14) rfl k) ?_
  refine own_by (T' := T15) (f' := (mkF m 17 #[.val (.ref a1), .val (.int (0 : Int32)), .val (.int z), .val (.ref b11), .val (.int z), .unset] [(.int z), (.int z)])) (fun t k => XS.iloadN X15.here hx rfl (hb hby d4_16) rfl k) ?_
  refine own_by (T' := T15) (f' := (mkF m 57 #[.val (.ref a1), .val (.int (0 : Int32)), .val (.int z), .val (.ref b11), .val (.int z), .unset] [])) (fun t k => XS.icmpYes X15.here hx rfl (pc0 := 17) (pc' := 57) rfl (hb hby d4_17) rfl (teq rfl).1 (by decide) (by decide) k) ?_
  refine own_by (T' := T15) (f' := (mkF m 58 #[.val (.ref a1), .val (.int (0 : Int32)), .val (.int z), .val (.ref b11), .val (.int z), .unset] [(.ref b11)])) (fun t k => XS.aloadN X15.here hx rfl (hb hby d4_57) rfl rfl k) ?_
  refine own_retA X15 hx hret hlk (hb hby d4_58) rfl rfl rfl (by decide) (by decide) ?_
  exact ⟨b11, rfl, N15, K17, gh11, A18⟩
theorem ef_rmI4 (m : MethodId) (x0 : Addr) (x1 : Addr) (x2 : Int32) (x3 : Int32) : entryFrame m #[(.ref x0), (.ref x1), (.int x2), (.int x3), .null] 6 = mkF m 0 #[.val (.ref x0), .val (.ref x1), .val (.int x2), .val (.int x3), .val .null, .unset] [] := by first | (simp [entryFrame, mkF, argsToLocals, Value.category]; done) | rfl
set_option maxRecDepth 65536 in
set_option maxHeartbeats 40000000 in
theorem rmI4 (l : Launch) (Z : State) (a0 : Array Value) (hw : ∀ d ∈ tables_1, d.before a0 Z = true) (ws : List Jvm.Cond) (a a1 : Addr) (z : Int32) (n : Nat) (f : Nat → Int32) (u1 u2 : Value) (cs : Int32) (h0 : Heap) (n0 : Nat) (Z0 : n0 ≤ h0.size) (g1 : n0 ≤ a) (hz : z.toInt = n) (hn1 : 1 ≤ n) (hcap : n ≤ 1) (hlat : ∀ q, q < n → ¬ (255 : Int32) < f q) (A1 : own_A Z h0 a1 .char n f) (ha1 : a1 ≠ a) (E1 : Exa Z h0 a "java/lang/String") (F1 : Fld Z h0 a "java/lang/String" "value" "[B" u1) (F2 : Fld Z h0 a "java/lang/String" "coder" "B" u2) (hcs : ¬ (cs = (0 : Int32))) (S0 : Sta Z h0 "java/lang/String" "COMPACT_STRINGS" "Z" (.int cs)) :
    own_Ct l Z (⟨"java/lang/String", "<init>", "([CIILjava/lang/Void;)V"⟩ : MethodName) jdk_42_method_149_code 6 none ws ({ frames := 2, cells := 1, slots := 1, locals := 60 } : Room) #[(.ref a), (.ref a1), (.int (0 : Int32)), (.int z), .null] h0 (fun v h L => v = none ∧ Fr n0 L ∧ Keep h0 h [a] ∧ Exa Z h a "java/lang/String" ∧ Fld Z h a "java/lang/String" "coder" "B" (.int 0) ∧ ∃ b : Addr, Fld Z h a "java/lang/String" "value" "[B" (.ref b) ∧ h0.size ≤ b ∧ own_A Z h b .byte n (fun i => own_b8 (f i))) := by
  refine own_of pn_java_lang_String ?_
  intro p e s m below meth c s₁ hx hby hml hown hnm hret hlk hZ X0 e0
  have N0 := Fr.nil n0
  have K0 := Keep.refl h0 [a]
  rw [ef_rmI4]
  refine own_by (T' := s₁) (f' := (mkF m 1 #[.val (.ref a), .val (.ref a1), .val (.int (0 : Int32)), .val (.int z), .val .null, .unset] [(.ref a)])) (fun t k => XS.aloadN X0.here hx rfl (hb hby d2_0) rfl rfl k) ?_
  refine own_init X0 hx hZ hown e0 (hb hby d2_1) 0 (hw _ (List.mem_of_getElem? (i := 14) rfl)) (hw _ (List.mem_of_getElem? (i := 15) rfl)) (hw _ (List.mem_of_getElem? (i := 16) rfl)) (by rw [hml]; rfl) (Nat.le_of_eq rfl) (by decide) (by decide) ?_
  intro T11 X11 e11
  show own_Go p e below _ T11 (mkF m 4 #[.val (.ref a), .val (.ref a1), .val (.int (0 : Int32)), .val (.int z), .val .null, .unset] [])
  refine own_by (T' := T11) (f' := (mkF m 5 #[.val (.ref a), .val (.ref a1), .val (.int (0 : Int32)), .val (.int z), .val .null, .unset] [(.int z)])) (fun t k => XS.iloadN X11.here hx rfl (hb hby d2_4) rfl k) ?_
  have hc5_12 : ¬ (z = (0 : Int32)) := own_nz hz hn1
  refine own_by (T' := T11) (f' := (mkF m 27 #[.val (.ref a), .val (.ref a1), .val (.int (0 : Int32)), .val (.int z), .val .null, .unset] [])) (fun t k => XS.ifYes X11.here hx rfl (pc0 := 5) (pc' := 27) rfl (hb hby d2_5) rfl ((if0 _ _).trans (feq hc5_12).2) (by decide) (by decide) k) ?_
  refine own_getS (host := "") X11 hx hZ hown e11 (hb hby d2_27) (Or.inl (hw _ (List.mem_of_getElem? (i := 17) rfl))) Via.refl S0 ?_
  intro T13 X13 e13
  show own_Go p e below _ T13 (mkF m 30 #[.val (.ref a), .val (.ref a1), .val (.int (0 : Int32)), .val (.int z), .val .null, .unset] [(.int cs)])
  refine own_by (T' := T13) (f' := (mkF m 33 #[.val (.ref a), .val (.ref a1), .val (.int (0 : Int32)), .val (.int z), .val .null, .unset] [])) (fun t k => XS.ifNo X13.here hx rfl (hb hby d2_30) rfl ((if0 _ _).trans (feq hcs).1) k) ?_
  refine own_by (T' := T13) (f' := (mkF m 34 #[.val (.ref a), .val (.ref a1), .val (.int (0 : Int32)), .val (.int z), .val .null, .unset] [(.ref a1)])) (fun t k => XS.aloadN X13.here hx rfl (hb hby d2_33) rfl rfl k) ?_
  refine own_by (T' := T13) (f' := (mkF m 35 #[.val (.ref a), .val (.ref a1), .val (.int (0 : Int32)), .val (.int z), .val .null, .unset] [(.int (0 : Int32)), (.ref a1)])) (fun t k => XS.iloadN X13.here hx rfl (hb hby d2_34) rfl k) ?_
  refine own_by (T' := T13) (f' := (mkF m 36 #[.val (.ref a), .val (.ref a1), .val (.int (0 : Int32)), .val (.int z), .val .null, .unset] [(.int z), (.int (0 : Int32)), (.ref a1)])) (fun t k => XS.iloadN X13.here hx rfl (hb hby d2_35) rfl k) ?_
  refine own_callS X13 hx hZ hown e13 (hb hby d2_36) [(.ref a1), (.int (0 : Int32)), (.int z)] [] 0 (rmC3 l Z a0 hw [] a1 z n f h0 n0 Z0 hz hcap hlat A1) (hw _ (List.mem_of_getElem? (i := 18) rfl)) (hw _ (List.mem_of_getElem? (i := 19) rfl)) (hw _ (List.mem_of_getElem? (i := 20) rfl)) (hw _ (List.mem_of_getElem? (i := 21) rfl)) (by decide) pd___CII__B (by rw [hml]; rfl) rfl rfl (Nat.le_of_eq rfl) (by decide) (by decide) (by decide) (by decide) ?_
  rintro T14 _ L14 X14 ⟨b14, rfl, N14q, K14, gb14, B14⟩
  show own_Go p e below _ T14 (mkF m 39 #[.val (.ref a), .val (.ref a1), .val (.int (0 : Int32)), .val (.int z), .val .null, .unset] [(.ref b14)])
  have N14 := Fr.app N0 N14q
  have ne14_a : a ≠ b14 := Nat.ne_of_lt (Nat.lt_of_lt_of_le E1.lt gb14)
  have ne14_a1 : a1 ≠ b14 := Nat.ne_of_lt (Nat.lt_of_lt_of_le A1.lt gb14)
  have gh14 : h0.size ≤ b14 := Nat.le_trans K0.1 gb14
  have sz15 : n0 ≤ T14.heap.size := Nat.le_trans Z0 K14.1
  have K16 := K0.trans K14 all0
  refine own_by (T' := T14) (f' := (mkF m 41 #[.val (.ref a), .val (.ref a1), .val (.int (0 : Int32)), .val (.int z), .val .null, .val (.ref b14)] [])) (fun t k => XS.astore X14.here hx rfl (hb hby d2_39) rfl rfl (l' := #[.val (.ref a), .val (.ref a1), .val (.int (0 : Int32)), .val (.int z), .val .null, .val (.ref b14)]) rfl k) ?_
  refine own_by (T' := T14) (f' := (mkF m 42 #[.val (.ref a), .val (.ref a1), .val (.int (0 : Int32)), .val (.int z), .val .null, .val (.ref b14)] [(.ref a)])) (fun t k => XS.aloadN X14.here hx rfl (hb hby d2_41) rfl rfl k) ?_
  refine own_by (T' := T14) (f' := (mkF m 44 #[.val (.ref a), .val (.ref a1), .val (.int (0 : Int32)), .val (.int z), .val .null, .val (.ref b14)] [(.ref b14), (.ref a)])) (fun t k => XS.aload X14.here hx rfl (hb hby d2_42) rfl rfl k) ?_
  refine own_by (T' := T14) (f' := (mkF m 45 #[.val (.ref a), .val (.ref a1), .val (.int (0 : Int32)), .val (.int z), .val .null, .val (.ref b14)] [(.int z), (.ref b14), (.ref a)])) (fun t k => XS.iloadN X14.here hx rfl (hb hby d2_44) rfl k) ?_
  refine own_callS X14 hx hZ hown rfl (hb hby d2_45) [(.ref b14), (.int z)] [(.ref a)] 1 (rmCd0 l Z a0 hw [] b14 z n _ T14.heap B14 hz) (hw _ (List.mem_of_getElem? (i := 26) rfl)) (hw _ (List.mem_of_getElem? (i := 27) rfl)) (hw _ (List.mem_of_getElem? (i := 20) rfl)) (hw _ (List.mem_of_getElem? (i := 28) rfl)) (by decide) pd___BI_B (by rw [hml]; rfl) rfl rfl (Nat.le_of_eq rfl) (by decide) (by decide) (by decide) (by decide) ?_
  rintro T17 _ L17 X17 ⟨rfl, rfl, e17⟩
  show own_Go p e below _ T17 (mkF m 48 #[.val (.ref a), .val (.ref a1), .val (.int (0 : Int32)), .val (.int z), .val .null, .val (.ref b14)] [(.int (0 : Int32)), (.ref a)])
  rw [List.append_nil] at X17
  have f18 := (F2.keep K14 nin0)
  have f19 := (E1.keep K14)
  refine own_putF (host := "") X17 hx hZ hown e17 (hb hby d2_48) (Or.inl (hw _ (List.mem_of_getElem? (i := 29) rfl))) Via.refl f18 f19 (Or.inr ⟨(hw _ (List.mem_of_getElem? (i := 30) rfl)), rfl, hnm⟩) (hw _ (List.mem_of_getElem? (i := 5) rfl)) (ty := .byte) (by decide) rfl rfl ?_
  intro T20 h20 X20 e20 W20
  show own_Go p e below _ T20 (mkF m 51 #[.val (.ref a), .val (.ref a1), .val (.int (0 : Int32)), .val (.int z), .val .null, .val (.ref b14)] [])
  have F20 := f18.same W20
  have sz21 : n0 ≤ h20.size := by rw [W20.size]; exact sz15
  have K22 := K16.wr W20 (Or.inl (List.mem_of_getElem? (i := 0) rfl))
  have N20 := Fr.snoc X20 N14 g1
  refine own_by (T' := T20) (f' := (mkF m 52 #[.val (.ref a), .val (.ref a1), .val (.int (0 : Int32)), .val (.int z), .val .null, .val (.ref b14)] [(.ref a)])) (fun t k => XS.aloadN X20.here hx rfl (hb hby d2_51) rfl rfl k) ?_
  refine own_by (T' := T20) (f' := (mkF m 54 #[.val (.ref a), .val (.ref a1), .val (.int (0 : Int32)), .val (.int z), .val .null, .val (.ref b14)] [(.ref b14), (.ref a)])) (fun t k => XS.aload X20.here hx rfl (hb hby d2_52) rfl rfl k) ?_
  have f23 := ((F1.keep K14 nin0).other W20 (Or.inr (slot_ne (Or.inr (hw _ (List.mem_of_getElem? (i := 32) rfl))) (Or.inr (hw _ (List.mem_of_getElem? (i := 30) rfl))) (by decide) (t := (.array .byte)) (t' := .byte) (by decide) (by decide))))
  have f24 := (f19.wr W20)
  refine own_putF (host := "") X20 hx hZ hown e20 (hb hby d2_54) (Or.inl (hw _ (List.mem_of_getElem? (i := 31) rfl))) Via.refl f23 f24 (Or.inr ⟨(hw _ (List.mem_of_getElem? (i := 32) rfl)), rfl, hnm⟩) (hw _ (List.mem_of_getElem? (i := 5) rfl)) (ty := (.array .byte)) (by decide) rfl rfl ?_
  intro T25 h25 X25 e25 W25
  show own_Go p e below _ T25 (mkF m 57 #[.val (.ref a), .val (.ref a1), .val (.int (0 : Int32)), .val (.int z), .val .null, .val (.ref b14)] [])
  have F25 := f23.same W25
  have sz26 : n0 ≤ h25.size := by rw [W25.size]; exact sz21
  have K27 := K22.wr W25 (Or.inl (List.mem_of_getElem? (i := 0) rfl))
  have N25 := Fr.snoc X25 N20 g1
  have f28 := (f24.wr W25)
  have f29 := (F20.other W25 (Or.inr (slot_ne (Or.inr (hw _ (List.mem_of_getElem? (i := 30) rfl))) (Or.inr (hw _ (List.mem_of_getElem? (i := 32) rfl))) (by decide) (t := .byte) (t' := (.array .byte)) (by decide) (by decide))))
  have f30 := ((B14.other W20 (Ne.symm ne14_a)).other W25 (Ne.symm ne14_a))
  refine own_retV X25 hx hret hlk (hb hby d2_57) (by decide) (by decide) ?_
  try rw [e25]
  exact ⟨rfl, N25, K27, f28, f29, b14, F25, gh14, f30⟩
theorem ef_rmI1 (m : MethodId) (x0 : Addr) (x1 : Addr) : entryFrame m #[(.ref x0), (.ref x1)] 2 = mkF m 0 #[.val (.ref x0), .val (.ref x1)] [] := by first | (simp [entryFrame, mkF, argsToLocals, Value.category]; done) | rfl
set_option maxRecDepth 65536 in
set_option maxHeartbeats 40000000 in
theorem rmI1 (l : Launch) (Z : State) (a0 : Array Value) (hw : ∀ d ∈ tables_1, d.before a0 Z = true) (ws : List Jvm.Cond) (a a1 : Addr) (z : Int32) (n : Nat) (f : Nat → Int32) (u1 u2 : Value) (cs : Int32) (h0 : Heap) (n0 : Nat) (Z0 : n0 ≤ h0.size) (g1 : n0 ≤ a) (hz : z.toInt = n) (hn1 : 1 ≤ n) (hcap : n ≤ 1) (hlat : ∀ q, q < n → ¬ (255 : Int32) < f q) (A1 : own_A Z h0 a1 .char n f) (ha1 : a1 ≠ a) (E1 : Exa Z h0 a "java/lang/String") (F1 : Fld Z h0 a "java/lang/String" "value" "[B" u1) (F2 : Fld Z h0 a "java/lang/String" "coder" "B" u2) (hcs : ¬ (cs = (0 : Int32))) (S0 : Sta Z h0 "java/lang/String" "COMPACT_STRINGS" "Z" (.int cs)) :
    own_Ct l Z (⟨"java/lang/String", "<init>", "([C)V"⟩ : MethodName) jdk_42_method_3_code 2 none ws ({ frames := 3, cells := 1, slots := 1, locals := 100 } : Room) #[(.ref a), (.ref a1)] h0 (fun v h L => v = none ∧ Fr n0 L ∧ Keep h0 h [a] ∧ Exa Z h a "java/lang/String" ∧ Fld Z h a "java/lang/String" "coder" "B" (.int 0) ∧ ∃ b : Addr, Fld Z h a "java/lang/String" "value" "[B" (.ref b) ∧ h0.size ≤ b ∧ own_A Z h b .byte n (fun i => own_b8 (f i))) := by
  refine own_of pn_java_lang_String ?_
  intro p e s m below meth c s₁ hx hby hml hown hnm hret hlk hZ X0 e0
  have N0 := Fr.nil n0
  have K0 := Keep.refl h0 [a]
  rw [ef_rmI1]
  refine own_by (T' := s₁) (f' := (mkF m 1 #[.val (.ref a), .val (.ref a1)] [(.ref a)])) (fun t k => XS.aloadN X0.here hx rfl (hb hby d1_0) rfl rfl k) ?_
  refine own_by (T' := s₁) (f' := (mkF m 2 #[.val (.ref a), .val (.ref a1)] [(.ref a1), (.ref a)])) (fun t k => XS.aloadN X0.here hx rfl (hb hby d1_1) rfl rfl k) ?_
  refine own_by (T' := s₁) (f' := (mkF m 3 #[.val (.ref a), .val (.ref a1)] [(.int (0 : Int32)), (.ref a1), (.ref a)])) (fun t k => XS.iconst X0.here hx rfl (hb hby d1_2) k) ?_
  refine own_by (T' := s₁) (f' := (mkF m 4 #[.val (.ref a), .val (.ref a1)] [(.ref a1), (.int (0 : Int32)), (.ref a1), (.ref a)])) (fun t k => XS.aloadN X0.here hx rfl (hb hby d1_3) rfl rfl k) ?_
  refine own_alen (j := z) X0 hx hZ e0 (hb hby d1_4) A1 hz ?_
  show own_Go p e below _ s₁ (mkF m 5 #[.val (.ref a), .val (.ref a1)] [(.int z), (.int (0 : Int32)), (.ref a1), (.ref a)])
  refine own_by (T' := s₁) (f' := (mkF m 6 #[.val (.ref a), .val (.ref a1)] [.null, (.int z), (.int (0 : Int32)), (.ref a1), (.ref a)])) (fun t k => XS.aconstNull X0.here hx rfl (hb hby d1_5) k) ?_
  refine own_callN X0 hx hZ hown e0 (hb hby d1_6) [(.ref a1), (.int (0 : Int32)), (.int z), .null] [] 0 (rmI4 l Z a0 hw [] a a1 z n f _ _ cs h0 n0 Z0 g1 hz hn1 hcap hlat A1 ha1 E1 F1 F2 hcs S0) (hw _ (List.mem_of_getElem? (i := 10) rfl)) (hw _ (List.mem_of_getElem? (i := 11) rfl)) (hw _ (List.mem_of_getElem? (i := 6) rfl)) (hw _ (List.mem_of_getElem? (i := 13) rfl)) rfl (by decide) pd___CIILjava_lang_Void__V (by rw [hml]; rfl) rfl rfl (Nat.le_of_eq rfl) (by decide) (by decide) (by decide) (by decide) ?_
  rintro T11 _ L11 X11 ⟨rfl, N11q, K11, Q11⟩
  show own_Go p e below _ T11 (mkF m 9 #[.val (.ref a), .val (.ref a1)] [])
  have N11 := Fr.app N0 N11q
  refine own_retV X11 hx hret hlk (hb hby d1_9) (by decide) (by decide) ?_
  exact ⟨rfl, N11, K11, Q11⟩
theorem ef_rmIB (m : MethodId) (x0 : Addr) (x1 : Addr) (x2 : Int32) : entryFrame m #[(.ref x0), (.ref x1), (.int x2)] 3 = mkF m 0 #[.val (.ref x0), .val (.ref x1), .val (.int x2)] [] := by first | (simp [entryFrame, mkF, argsToLocals, Value.category]; done) | rfl
set_option maxRecDepth 65536 in
set_option maxHeartbeats 40000000 in
theorem rmIB (l : Launch) (Z : State) (a0 : Array Value) (hw : ∀ d ∈ tables_1, d.before a0 Z = true) (ws : List Jvm.Cond) (a b1 : Addr) (u1 u2 : Value) (h0 : Heap) (n0 : Nat) (Z0 : n0 ≤ h0.size) (g1 : n0 ≤ a) (E1 : Exa Z h0 a "java/lang/String") (F1 : Fld Z h0 a "java/lang/String" "value" "[B" u1) (F2 : Fld Z h0 a "java/lang/String" "coder" "B" u2) :
    own_Ct l Z (⟨"java/lang/String", "<init>", "([BB)V"⟩ : MethodName) jdk_42_method_151_code 3 none ws ({ frames := 1, cells := 0, slots := 0, locals := 12 } : Room) #[(.ref a), (.ref b1), (.int (0 : Int32))] h0 (fun v h L => v = none ∧ Fr n0 L ∧ Keep h0 h [a] ∧ Exa Z h a "java/lang/String" ∧ Fld Z h a "java/lang/String" "coder" "B" (.int 0) ∧ Fld Z h a "java/lang/String" "value" "[B" (.ref b1)) := by
  refine own_of pn_java_lang_String ?_
  intro p e s m below meth c s₁ hx hby hml hown hnm hret hlk hZ X0 e0
  have N0 := Fr.nil n0
  have K0 := Keep.refl h0 [a]
  rw [ef_rmIB]
  refine own_by (T' := s₁) (f' := (mkF m 1 #[.val (.ref a), .val (.ref b1), .val (.int (0 : Int32))] [(.ref a)])) (fun t k => XS.aloadN X0.here hx rfl (hb hby d12_0) rfl rfl k) ?_
  refine own_init X0 hx hZ hown e0 (hb hby d12_1) 0 (hw _ (List.mem_of_getElem? (i := 14) rfl)) (hw _ (List.mem_of_getElem? (i := 15) rfl)) (hw _ (List.mem_of_getElem? (i := 16) rfl)) (by rw [hml]; rfl) (Nat.le_of_eq rfl) (by decide) (by decide) ?_
  intro T11 X11 e11
  show own_Go p e below _ T11 (mkF m 4 #[.val (.ref a), .val (.ref b1), .val (.int (0 : Int32))] [])
  refine own_by (T' := T11) (f' := (mkF m 5 #[.val (.ref a), .val (.ref b1), .val (.int (0 : Int32))] [(.ref a)])) (fun t k => XS.aloadN X11.here hx rfl (hb hby d12_4) rfl rfl k) ?_
  refine own_by (T' := T11) (f' := (mkF m 6 #[.val (.ref a), .val (.ref b1), .val (.int (0 : Int32))] [(.ref b1), (.ref a)])) (fun t k => XS.aloadN X11.here hx rfl (hb hby d12_5) rfl rfl k) ?_
  refine own_putF (host := "") X11 hx hZ hown e11 (hb hby d12_6) (Or.inl (hw _ (List.mem_of_getElem? (i := 31) rfl))) Via.refl F1 E1 (Or.inr ⟨(hw _ (List.mem_of_getElem? (i := 32) rfl)), rfl, hnm⟩) (hw _ (List.mem_of_getElem? (i := 5) rfl)) (ty := (.array .byte)) (by decide) rfl rfl ?_
  intro T12 h12 X12 e12 W12
  show own_Go p e below _ T12 (mkF m 9 #[.val (.ref a), .val (.ref b1), .val (.int (0 : Int32))] [])
  have F12 := F1.same W12
  have sz13 : n0 ≤ h12.size := by rw [W12.size]; exact Z0
  have K14 := K0.wr W12 (Or.inl (List.mem_of_getElem? (i := 0) rfl))
  have N12 := Fr.snoc X12 N0 g1
  refine own_by (T' := T12) (f' := (mkF m 10 #[.val (.ref a), .val (.ref b1), .val (.int (0 : Int32))] [(.ref a)])) (fun t k => XS.aloadN X12.here hx rfl (hb hby d12_9) rfl rfl k) ?_
  refine own_by (T' := T12) (f' := (mkF m 11 #[.val (.ref a), .val (.ref b1), .val (.int (0 : Int32))] [(.int (0 : Int32)), (.ref a)])) (fun t k => XS.iloadN X12.here hx rfl (hb hby d12_10) rfl k) ?_
  have f15 := (F2.other W12 (Or.inr (slot_ne (Or.inr (hw _ (List.mem_of_getElem? (i := 30) rfl))) (Or.inr (hw _ (List.mem_of_getElem? (i := 32) rfl))) (by decide) (t := .byte) (t' := (.array .byte)) (by decide) (by decide))))
  have f16 := (E1.wr W12)
  refine own_putF (host := "") X12 hx hZ hown e12 (hb hby d12_11) (Or.inl (hw _ (List.mem_of_getElem? (i := 29) rfl))) Via.refl f15 f16 (Or.inr ⟨(hw _ (List.mem_of_getElem? (i := 30) rfl)), rfl, hnm⟩) (hw _ (List.mem_of_getElem? (i := 5) rfl)) (ty := .byte) (by decide) rfl rfl ?_
  intro T17 h17 X17 e17 W17
  show own_Go p e below _ T17 (mkF m 14 #[.val (.ref a), .val (.ref b1), .val (.int (0 : Int32))] [])
  have F17 := f15.same W17
  have sz18 : n0 ≤ h17.size := by rw [W17.size]; exact sz13
  have K19 := K14.wr W17 (Or.inl (List.mem_of_getElem? (i := 0) rfl))
  have N17 := Fr.snoc X17 N12 g1
  have f20 := (f16.wr W17)
  have f21 := (F12.other W17 (Or.inr (slot_ne (Or.inr (hw _ (List.mem_of_getElem? (i := 32) rfl))) (Or.inr (hw _ (List.mem_of_getElem? (i := 30) rfl))) (by decide) (t := (.array .byte)) (t' := .byte) (by decide) (by decide))))
  refine own_retV X17 hx hret hlk (hb hby d12_14) (by decide) (by decide) ?_
  try rw [e17]
  exact ⟨rfl, N17, K19, f20, F17, f21⟩
theorem ef_rmCE (m : MethodId) (x0 : Int32) : entryFrame m #[(.int x0)] 1 = mkF m 0 #[.val (.int x0)] [] := by first | (simp [entryFrame, mkF, argsToLocals, Value.category]; done) | rfl
set_option maxRecDepth 65536 in
set_option maxHeartbeats 40000000 in
theorem rmCE (l : Launch) (Z : State) (a0 : Array Value) (hw : ∀ d ∈ tables_1, d.before a0 Z = true) (ws : List Jvm.Cond) (p1 : Int32) (h0 : Heap) (hp : ¬ ((255 : Int32) < p1)) :
    own_Ct l Z (⟨"java/lang/StringLatin1", "canEncode", "(C)Z"⟩ : MethodName) jdk_43_method_3_code 1 (some .boolean) ws ({ frames := 0, cells := 0, slots := 0, locals := 0 } : Room) #[(.int p1)] h0 (fun v h L => v = some (.int 1) ∧ L = [] ∧ h = h0) := by
  refine own_of pn_java_lang_StringLatin1 ?_
  intro p e s m below meth c s₁ hx hby hml hown hnm hret hlk hZ X0 e0
  rw [ef_rmCE]
  refine own_by (T' := s₁) (f' := (mkF m 1 #[.val (.int p1)] [(.int p1)])) (fun t k => XS.iloadN X0.here hx rfl (hb hby d10_0) rfl k) ?_
  refine own_by (T' := s₁) (f' := (mkF m 4 #[.val (.int p1)] [(.int (255 : Int32)), (.int p1)])) (fun t k => XS.sipush X0.here hx rfl (hb hby d10_1) k) ?_
  refine own_by (T' := s₁) (f' := (mkF m 7 #[.val (.int p1)] [])) (fun t k => XS.icmpNo X0.here hx rfl (hb hby d10_4) rfl (flt hp).2.2.1 k) ?_
  refine own_by (T' := s₁) (f' := (mkF m 8 #[.val (.int p1)] [(.int (1 : Int32))])) (fun t k => XS.iconst X0.here hx rfl (hb hby d10_7) k) ?_
  refine own_by (T' := s₁) (f' := (mkF m 12 #[.val (.int p1)] [(.int (1 : Int32))])) (fun t k => XS.goto X0.here hx rfl (pc0 := 8) (pc' := 12) rfl (hb hby d10_8) (by decide) (by decide) k) ?_
  refine own_retZ X0 hx hret hlk (hb hby d10_12) (Or.inr rfl) (by decide) (by decide) ?_
  try rw [e0]
  exact ⟨rfl, rfl, rfl⟩
theorem ef_rmTB (m : MethodId) (x0 : Int32) : entryFrame m #[(.int x0)] 1 = mkF m 0 #[.val (.int x0)] [] := by first | (simp [entryFrame, mkF, argsToLocals, Value.category]; done) | rfl
set_option maxRecDepth 65536 in
set_option maxHeartbeats 40000000 in
theorem rmTB (l : Launch) (Z : State) (a0 : Array Value) (hw : ∀ d ∈ tables_1, d.before a0 Z = true) (ws : List Jvm.Cond) (p1 : Int32) (h0 : Heap) (n0 : Nat) (Z0 : n0 ≤ h0.size) :
    own_Ct l Z (⟨"java/lang/StringLatin1", "toBytes", "(C)[B"⟩ : MethodName) jdk_43_method_46_code 1 (some (.array .byte)) ws ({ frames := 0, cells := 1, slots := 1, locals := 0 } : Room) #[(.int p1)] h0 (fun v h L => ∃ b : Addr, v = some (.ref b) ∧ Fr n0 L ∧ Keep h0 h [] ∧ h0.size ≤ b ∧ own_A Z h b .byte 1 (fun _ => own_b8 p1)) := by
  refine own_of pn_java_lang_StringLatin1 ?_
  intro p e s m below meth c s₁ hx hby hml hown hnm hret hlk hZ X0 e0
  have N0 := Fr.nil n0
  have K0 := Keep.refl h0 []
  rw [ef_rmTB]
  refine own_by (T' := s₁) (f' := (mkF m 1 #[.val (.int p1)] [(.int (1 : Int32))])) (fun t k => XS.iconst X0.here hx rfl (hb hby d11_0) k) ?_
  refine own_mkA X0 hx hZ e0 (hb hby d11_1) (hw _ (List.mem_of_getElem? (i := 22) rfl)) (v := 0) rfl (by decide) 1 (by decide) (by decide) (by decide) (by decide) ?_
  intro T11 h11 b11 X11 e11 g11 E11 A11r
  have gn11 : n0 ≤ b11 := by rw [g11]; exact Z0
  have gh11 : h0.size ≤ b11 := by rw [g11]; exact K0.1
  show own_Go p e below _ T11 (mkF m 3 #[.val (.int p1)] [(.ref b11)])
  have A11 : own_A Z h11 b11 .byte 1 (fun _ => 0) := A11r
  have sz12 : n0 ≤ h11.size := Nat.le_trans Z0 E11.1
  have K13 := K0.ext E11
  refine own_by (T' := T11) (f' := (mkF m 4 #[.val (.int p1)] [(.ref b11), (.ref b11)])) (fun t k => XS.dup X11.here hx rfl (hb hby d11_3) rfl rfl k) ?_
  refine own_by (T' := T11) (f' := (mkF m 5 #[.val (.int p1)] [(.int (0 : Int32)), (.ref b11), (.ref b11)])) (fun t k => XS.iconst X11.here hx rfl (hb hby d11_4) k) ?_
  refine own_by (T' := T11) (f' := (mkF m 6 #[.val (.int p1)] [(.int p1), (.int (0 : Int32)), (.ref b11), (.ref b11)])) (fun t k => XS.iloadN X11.here hx rfl (hb hby d11_5) rfl k) ?_
  refine own_by (T' := T11) (f' := (mkF m 7 #[.val (.int p1)] [(.int (p1.toInt8.toInt32)), (.int (0 : Int32)), (.ref b11), (.ref b11)])) (fun t k => XS.i2b X11.here hx rfl (hb hby d11_6) rfl k) ?_
  have _ : (0 : Int32).toInt = 0 := by decide
  refine own_stB X11 hx hZ e11 (hb hby d11_7) A11 (by first | decide | omega) (by first | decide | omega) ?_
  intro T14 h14 X14 e14 W14 A14
  show own_Go p e below _ T14 (mkF m 8 #[.val (.int p1)] [(.ref b11)])
  have sz15 : n0 ≤ h14.size := by rw [W14.size]; exact sz12
  have K16 := K13.wr W14 (Or.inr gh11)
  have N14 := Fr.snoc X14 N0 gn11
  have A17 : own_A Z h14 b11 .byte 1 (fun _ => own_b8 p1) := A14.congr (fun i hi => by rw [if_pos (show i = (0 : Int32).toInt.toNat from (show i = 0 from by omega))]; rfl)
  refine own_retA X14 hx hret hlk (hb hby d11_8) rfl rfl rfl (by decide) (by decide) ?_
  try rw [e14]
  exact ⟨b11, rfl, N14, K16, gh11, A17⟩
theorem ef_rmVO (m : MethodId) (x0 : Int32) : entryFrame m #[(.int x0)] 1 = mkF m 0 #[.val (.int x0)] [] := by first | (simp [entryFrame, mkF, argsToLocals, Value.category]; done) | rfl
set_option maxRecDepth 65536 in
set_option maxHeartbeats 40000000 in
theorem rmVO (l : Launch) (Z : State) (a0 : Array Value) (hw : ∀ d ∈ tables_1, d.before a0 Z = true) (ws : List Jvm.Cond) (p1 cs : Int32) (h0 : Heap) (n0 : Nat) (Z0 : n0 ≤ h0.size) (hp : ¬ ((255 : Int32) < p1)) (hcs : ¬ (cs = (0 : Int32))) (S0 : Sta Z h0 "java/lang/String" "COMPACT_STRINGS" "Z" (.int cs)) :
    own_Ct l Z (⟨"java/lang/String", "valueOf", "(C)Ljava/lang/String;"⟩ : MethodName) jdk_42_method_139_code 1 (some (.object "java/lang/String")) ws ({ frames := 2, cells := 2, slots := 5, locals := 60 } : Room) #[(.int p1)] h0 (fun v h L => ∃ a b : Addr, v = some (.ref a) ∧ Fr n0 L ∧ Keep h0 h [] ∧ h0.size ≤ a ∧ h0.size ≤ b ∧ Exa Z h a "java/lang/String" ∧ Fld Z h a "java/lang/String" "coder" "B" (.int 0) ∧ Fld Z h a "java/lang/String" "value" "[B" (.ref b) ∧ own_A Z h b .byte 1 (fun _ => own_b8 p1)) := by
  refine own_of pn_java_lang_String ?_
  intro p e s m below meth c s₁ hx hby hml hown hnm hret hlk hZ X0 e0
  have N0 := Fr.nil n0
  have K0 := Keep.refl h0 []
  rw [ef_rmVO]
  refine own_getS (host := "") X0 hx hZ hown e0 (hb hby d9_0) (Or.inl (hw _ (List.mem_of_getElem? (i := 17) rfl))) Via.refl S0 ?_
  intro T11 X11 e11
  show own_Go p e below _ T11 (mkF m 3 #[.val (.int p1)] [(.int cs)])
  refine own_by (T' := T11) (f' := (mkF m 6 #[.val (.int p1)] [])) (fun t k => XS.ifNo X11.here hx rfl (hb hby d9_3) rfl ((if0 _ _).trans (feq hcs).1) k) ?_
  refine own_by (T' := T11) (f' := (mkF m 7 #[.val (.int p1)] [(.int p1)])) (fun t k => XS.iloadN X11.here hx rfl (hb hby d9_6) rfl k) ?_
  refine own_callS X11 hx hZ hown e11 (hb hby d9_7) [(.int p1)] [] 0 (rmCE l Z a0 hw [] p1 h0 hp) (hw _ (List.mem_of_getElem? (i := 59) rfl)) (hw _ (List.mem_of_getElem? (i := 60) rfl)) (hw _ (List.mem_of_getElem? (i := 61) rfl)) (hw _ (List.mem_of_getElem? (i := 62) rfl)) (by decide) pd__C_Z (by rw [hml]; rfl) rfl rfl (Nat.le_of_eq rfl) (by decide) (by decide) (by decide) (by decide) ?_
  rintro T12 _ L12 X12 ⟨rfl, rfl, e12⟩
  show own_Go p e below _ T12 (mkF m 10 #[.val (.int p1)] [(.int (1 : Int32))])
  rw [List.append_nil] at X12
  refine own_by (T' := T12) (f' := (mkF m 13 #[.val (.int p1)] [])) (fun t k => XS.ifNo X12.here hx rfl (hb hby d9_10) rfl ((if0 _ _).trans (feq (by decide)).1) k) ?_
  refine own_new X12 hx hZ hown e12 (hb hby d9_13) (hw _ (List.mem_of_getElem? (i := 63) rfl)) (hw _ (List.mem_of_getElem? (i := 5) rfl)) (hw _ (List.mem_of_getElem? (i := 6) rfl)) (by decide) (by decide) ?_
  intro T13 h13 b13 X13 e13 g13 E13 A13 D13
  have gn13 : n0 ≤ b13 := by rw [g13]; exact Z0
  have gh13 : h0.size ≤ b13 := by rw [g13]; exact K0.1
  show own_Go p e below _ T13 (mkF m 16 #[.val (.int p1)] [(.ref b13)])
  have F13_coder : Fld Z h13 b13 "java/lang/String" "coder" "B" (.int (0 : Int32)) := D13 (Or.inr (hw _ (List.mem_of_getElem? (i := 30) rfl))) (ty := .byte) (by decide)
  have F13_value : Fld Z h13 b13 "java/lang/String" "value" "[B" .null := D13 (Or.inr (hw _ (List.mem_of_getElem? (i := 32) rfl))) (ty := (.array .byte)) (by decide)
  have sz14 : n0 ≤ h13.size := Nat.le_trans Z0 E13.1
  have K15 := K0.ext E13
  refine own_by (T' := T13) (f' := (mkF m 17 #[.val (.int p1)] [(.ref b13), (.ref b13)])) (fun t k => XS.dup X13.here hx rfl (hb hby d9_16) rfl rfl k) ?_
  refine own_by (T' := T13) (f' := (mkF m 18 #[.val (.int p1)] [(.int p1), (.ref b13), (.ref b13)])) (fun t k => XS.iloadN X13.here hx rfl (hb hby d9_17) rfl k) ?_
  refine own_callS X13 hx hZ hown e13 (hb hby d9_18) [(.int p1)] [(.ref b13), (.ref b13)] 2 (rmTB l Z a0 hw [] p1 h13 n0 sz14) (hw _ (List.mem_of_getElem? (i := 64) rfl)) (hw _ (List.mem_of_getElem? (i := 65) rfl)) (hw _ (List.mem_of_getElem? (i := 61) rfl)) (hw _ (List.mem_of_getElem? (i := 66) rfl)) (by decide) pd__C__B (by rw [hml]; rfl) rfl rfl (Nat.le_of_eq rfl) (by decide) (by decide) (by decide) (by decide) ?_
  rintro T16 _ L16 X16 ⟨b16, rfl, N16q, K16, gb16, B16⟩
  show own_Go p e below _ T16 (mkF m 21 #[.val (.int p1)] [(.ref b16), (.ref b13), (.ref b13)])
  have N16 := Fr.app N0 N16q
  have ne16_b13 : b13 ≠ b16 := Nat.ne_of_lt (Nat.lt_of_lt_of_le A13.lt gb16)
  have gn16 : n0 ≤ b16 := Nat.le_trans sz14 gb16
  have gh16 : h0.size ≤ b16 := Nat.le_trans K15.1 gb16
  have sz17 : n0 ≤ T16.heap.size := Nat.le_trans sz14 K16.1
  have K18 := K15.trans K16 all0
  refine own_by (T' := T16) (f' := (mkF m 22 #[.val (.int p1)] [(.int (0 : Int32)), (.ref b16), (.ref b13), (.ref b13)])) (fun t k => XS.iconst X16.here hx rfl (hb hby d9_21) k) ?_
  have f19 := (A13.keep K16)
  have q20 : ∀ x ∈ [b13], ∃ c : Cell, T16.heap[x]? = some c ∧ c.vm.isStatics = false := (allS (own_ns f19) all0)
  have f21 := (F13_value.keep K16 nin0)
  have f22 := (F13_coder.keep K16 nin0)
  refine own_callN X16 hx hZ hown rfl (hb hby d9_22) [(.ref b16), (.int (0 : Int32))] [(.ref b13)] 1 (rmIB l Z a0 hw [] b13 b16 _ _ T16.heap n0 sz17 gn13 f19 f21 f22) (hw _ (List.mem_of_getElem? (i := 67) rfl)) (hw _ (List.mem_of_getElem? (i := 68) rfl)) (hw _ (List.mem_of_getElem? (i := 6) rfl)) (hw _ (List.mem_of_getElem? (i := 69) rfl)) rfl (by decide) pd___BB_V (by rw [hml]; rfl) rfl rfl (Nat.le_of_eq rfl) (by decide) (by decide) (by decide) (by decide) ?_
  rintro T23 _ L23 X23 ⟨rfl, N23q, K23, A23, C23, V23⟩
  show own_Go p e below _ T23 (mkF m 25 #[.val (.int p1)] [(.ref b13)])
  have N23 := Fr.app N16 N23q
  have sz24 : n0 ≤ T23.heap.size := Nat.le_trans sz17 K23.1
  have K25 := K18.trans K23 (allS (Or.inr gh13) all0)
  have f26 := (B16.keep K23 (ninS (Ne.symm ne16_b13) nin0))
  refine own_retA X23 hx hret hlk (hb hby d9_25) rfl rfl rfl (by decide) (by decide) ?_
  exact ⟨b13, b16, rfl, N23, K25, gh13, gh16, A23, C23, V23, f26⟩
theorem ef_rmLE (m : MethodId) (x0 : Addr) (x1 : Addr) : entryFrame m #[(.ref x0), (.ref x1)] 3 = mkF m 0 #[.val (.ref x0), .val (.ref x1), .unset] [] := by first | (simp [entryFrame, mkF, argsToLocals, Value.category]; done) | rfl
set_option maxRecDepth 65536 in
set_option maxHeartbeats 40000000 in
theorem rmLE (l : Launch) (Z : State) (a0 : Array Value) (hw : ∀ d ∈ tables_1, d.before a0 Z = true) (ws : List Jvm.Cond) (b1 b2 : Addr) (z1 z2 : Int32) (n1 n2 : Nat) (f1 f2 : Nat → Int32) (h0 : Heap) (hz1 : z1.toInt = n1) (hz2 : z2.toInt = n2) (A1 : own_A Z h0 b1 .byte n1 f1) (A2 : own_A Z h0 b2 .byte n2 f2) :
    own_Ct l Z (⟨"java/lang/StringLatin1", "equals", "([B[B)Z"⟩ : MethodName) jdk_43_method_13_code 3 (some .boolean) ws ({ frames := 0, cells := 0, slots := 0, locals := 0 } : Room) #[(.ref b1), (.ref b2)] h0 (fun v h L => v = some (.int (own_eqA n1 f1 n2 f2)) ∧ L = [] ∧ h = h0) := by
  refine own_of pn_java_lang_StringLatin1 ?_
  intro p e s m below meth c s₁ hx hby hml hown hnm hret hlk hZ X0 e0
  have loop : n1 = n2 → ∀ (k j : Nat) (iv : Int32) (TL : State), j + k = n1 → iv.toInt = (j : Nat) → (∀ q, q < j → f1 q = f2 q) → Stand p l e ({ frames := 0, cells := 0, slots := 0, locals := 0 } : Room) s m #[(.ref b1), (.ref b2)] below meth c TL [] 0 0 → TL.heap = h0 → own_Go p e below (own_Ends s ({ frames := 0, cells := 0, slots := 0, locals := 0 } : Room) (fun v h L => v = some (.int (own_eqA n1 f1 n2 f2)) ∧ L = [] ∧ h = h0)) TL (mkF m 9 #[.val (.ref b1), .val (.ref b2), .val (.int iv)] []) := by
    intro hnn k
    induction k with
    | zero =>
      intro j iv TL hjk hiv hall XL eL
      refine own_by (T' := TL) (f' := (mkF m 10 #[.val (.ref b1), .val (.ref b2), .val (.int iv)] [(.int iv)])) (fun t k => XS.iloadN XL.here hx rfl (hb hby d14_9) rfl k) ?_
      refine own_by (T' := TL) (f' := (mkF m 11 #[.val (.ref b1), .val (.ref b2), .val (.int iv)] [(.ref b1), (.int iv)])) (fun t k => XS.aloadN XL.here hx rfl (hb hby d14_10) rfl rfl k) ?_
      refine own_alen (j := z1) XL hx hZ eL (hb hby d14_11) A1 hz1 ?_
      show own_Go p e below _ TL (mkF m 12 #[.val (.ref b1), .val (.ref b2), .val (.int iv)] [(.int z1), (.int iv)])
      have hc12_51 : ¬ (iv < z1) := (by rw [Int32.lt_iff_toInt_lt]; omega)
      refine own_by (T' := TL) (f' := (mkF m 32 #[.val (.ref b1), .val (.ref b2), .val (.int iv)] [])) (fun t k => XS.icmpYes XL.here hx rfl (pc0 := 12) (pc' := 32) rfl (hb hby d14_12) rfl (flt hc12_51).2.1 (by decide) (by decide) k) ?_
      refine own_by (T' := TL) (f' := (mkF m 33 #[.val (.ref b1), .val (.ref b2), .val (.int iv)] [(.int (1 : Int32))])) (fun t k => XS.iconst XL.here hx rfl (hb hby d14_32) k) ?_
      refine own_retZ XL hx hret hlk (hb hby d14_33) (Or.inr rfl) (by decide) (by decide) ?_
      try rw [eL]
      exact ⟨by rw [own_eqA_all hnn (fun i hi => hall i (by omega))], rfl, rfl⟩
    | succ k ih =>
      intro j iv TL hjk hiv hall XL eL
      refine own_by (T' := TL) (f' := (mkF m 10 #[.val (.ref b1), .val (.ref b2), .val (.int iv)] [(.int iv)])) (fun t k => XS.iloadN XL.here hx rfl (hb hby d14_9) rfl k) ?_
      refine own_by (T' := TL) (f' := (mkF m 11 #[.val (.ref b1), .val (.ref b2), .val (.int iv)] [(.ref b1), (.int iv)])) (fun t k => XS.aloadN XL.here hx rfl (hb hby d14_10) rfl rfl k) ?_
      refine own_alen (j := z1) XL hx hZ eL (hb hby d14_11) A1 hz1 ?_
      show own_Go p e below _ TL (mkF m 12 #[.val (.ref b1), .val (.ref b2), .val (.int iv)] [(.int z1), (.int iv)])
      have hc12_51 : iv < z1 := (by rw [Int32.lt_iff_toInt_lt]; omega)
      refine own_by (T' := TL) (f' := (mkF m 15 #[.val (.ref b1), .val (.ref b2), .val (.int iv)] [])) (fun t k => XS.icmpNo XL.here hx rfl (hb hby d14_12) rfl (tlt hc12_51).2.1 k) ?_
      refine own_by (T' := TL) (f' := (mkF m 16 #[.val (.ref b1), .val (.ref b2), .val (.int iv)] [(.ref b1)])) (fun t k => XS.aloadN XL.here hx rfl (hb hby d14_15) rfl rfl k) ?_
      refine own_by (T' := TL) (f' := (mkF m 17 #[.val (.ref b1), .val (.ref b2), .val (.int iv)] [(.int iv), (.ref b1)])) (fun t k => XS.iloadN XL.here hx rfl (hb hby d14_16) rfl k) ?_
      refine own_ldB XL hx hZ eL (hb hby d14_17) A1 (by first | decide | omega) (by first | decide | omega) ?_
      rw [show iv.toInt.toNat = j from by omega]
      show own_Go p e below _ TL (mkF m 18 #[.val (.ref b1), .val (.ref b2), .val (.int iv)] [(.int (f1 j))])
      refine own_by (T' := TL) (f' := (mkF m 19 #[.val (.ref b1), .val (.ref b2), .val (.int iv)] [(.ref b2), (.int (f1 j))])) (fun t k => XS.aloadN XL.here hx rfl (hb hby d14_18) rfl rfl k) ?_
      refine own_by (T' := TL) (f' := (mkF m 20 #[.val (.ref b1), .val (.ref b2), .val (.int iv)] [(.int iv), (.ref b2), (.int (f1 j))])) (fun t k => XS.iloadN XL.here hx rfl (hb hby d14_19) rfl k) ?_
      refine own_ldB XL hx hZ eL (hb hby d14_20) A2 (by first | decide | omega) (by first | decide | omega) ?_
      rw [show iv.toInt.toNat = j from by omega]
      show own_Go p e below _ TL (mkF m 21 #[.val (.ref b1), .val (.ref b2), .val (.int iv)] [(.int (f2 j)), (.int (f1 j))])
      by_cases hc21_52 : (f1 j) = (f2 j)
      · have _ := XL
        refine own_by (T' := TL) (f' := (mkF m 26 #[.val (.ref b1), .val (.ref b2), .val (.int iv)] [])) (fun t k => XS.icmpYes XL.here hx rfl (pc0 := 21) (pc' := 26) rfl (hb hby d14_21) rfl (teq hc21_52).1 (by decide) (by decide) k) ?_
        refine own_by (T' := TL) (f' := (mkF m 29 #[.val (.ref b1), .val (.ref b2), .val (.int (iv + (1 : Int32)))] [])) (fun t k => XS.iinc XL.here hx rfl (hb hby d14_26) rfl (l' := #[.val (.ref b1), .val (.ref b2), .val (.int (iv + (1 : Int32)))]) rfl k) ?_
        refine own_by (T' := TL) (f' := (mkF m 9 #[.val (.ref b1), .val (.ref b2), .val (.int (iv + (1 : Int32)))] [])) (fun t k => XS.goto XL.here hx rfl (pc0 := 29) (pc' := 9) rfl (hb hby d14_29) (by decide) (by decide) k) ?_
        exact ih (j + 1) (iv + (1 : Int32)) TL (by omega) (own_inc hiv (by omega) A1.small) (fun q hq => if e : q = j then e ▸ hc21_52 else hall q (by omega)) XL eL
      · have _ := XL
        refine own_by (T' := TL) (f' := (mkF m 24 #[.val (.ref b1), .val (.ref b2), .val (.int iv)] [])) (fun t k => XS.icmpNo XL.here hx rfl (hb hby d14_21) rfl (feq hc21_52).1 k) ?_
        refine own_by (T' := TL) (f' := (mkF m 25 #[.val (.ref b1), .val (.ref b2), .val (.int iv)] [(.int (0 : Int32))])) (fun t k => XS.iconst XL.here hx rfl (hb hby d14_24) k) ?_
        refine own_retZ XL hx hret hlk (hb hby d14_25) (Or.inl rfl) (by decide) (by decide) ?_
        try rw [eL]
        exact ⟨by rw [own_eqA_at (by omega) hc21_52], rfl, rfl⟩
  rw [ef_rmLE]
  refine own_by (T' := s₁) (f' := (mkF m 1 #[.val (.ref b1), .val (.ref b2), .unset] [(.ref b1)])) (fun t k => XS.aloadN X0.here hx rfl (hb hby d14_0) rfl rfl k) ?_
  refine own_alen (j := z1) X0 hx hZ e0 (hb hby d14_1) A1 hz1 ?_
  show own_Go p e below _ s₁ (mkF m 2 #[.val (.ref b1), .val (.ref b2), .unset] [(.int z1)])
  refine own_by (T' := s₁) (f' := (mkF m 3 #[.val (.ref b1), .val (.ref b2), .unset] [(.ref b2), (.int z1)])) (fun t k => XS.aloadN X0.here hx rfl (hb hby d14_2) rfl rfl k) ?_
  refine own_alen (j := z2) X0 hx hZ e0 (hb hby d14_3) A2 hz2 ?_
  show own_Go p e below _ s₁ (mkF m 4 #[.val (.ref b1), .val (.ref b2), .unset] [(.int z2), (.int z1)])
  by_cases hc4_1 : z1 = z2
  · have _ := X0
    refine own_by (T' := s₁) (f' := (mkF m 7 #[.val (.ref b1), .val (.ref b2), .unset] [])) (fun t k => XS.icmpNo X0.here hx rfl (hb hby d14_4) rfl (teq hc4_1).2 k) ?_
    refine own_by (T' := s₁) (f' := (mkF m 8 #[.val (.ref b1), .val (.ref b2), .unset] [(.int (0 : Int32))])) (fun t k => XS.iconst X0.here hx rfl (hb hby d14_7) k) ?_
    refine own_by (T' := s₁) (f' := (mkF m 9 #[.val (.ref b1), .val (.ref b2), .val (.int (0 : Int32))] [])) (fun t k => XS.istoreN X0.here hx rfl (hb hby d14_8) rfl (l' := #[.val (.ref b1), .val (.ref b2), .val (.int (0 : Int32))]) rfl k) ?_
    exact loop (by rw [hc4_1] at hz1; omega) n1 0 0 s₁ (by omega) (by decide) (fun q hq => absurd hq (Nat.not_lt_zero q)) X0 e0
  · have _ := X0
    refine own_by (T' := s₁) (f' := (mkF m 34 #[.val (.ref b1), .val (.ref b2), .unset] [])) (fun t k => XS.icmpYes X0.here hx rfl (pc0 := 4) (pc' := 34) rfl (hb hby d14_4) rfl (feq hc4_1).2 (by decide) (by decide) k) ?_
    refine own_by (T' := s₁) (f' := (mkF m 35 #[.val (.ref b1), .val (.ref b2), .unset] [(.int (0 : Int32))])) (fun t k => XS.iconst X0.here hx rfl (hb hby d14_34) k) ?_
    refine own_retZ X0 hx hret hlk (hb hby d14_35) (Or.inl rfl) (by decide) (by decide) ?_
    try rw [e0]
    exact ⟨by rw [own_eqA_ne fun q => hc4_1 (Int32.toInt_inj.mp (by omega))], rfl, rfl⟩
theorem ef_rmEQ (m : MethodId) (x0 : Addr) (x1 : Addr) : entryFrame m #[(.ref x0), (.ref x1)] 3 = mkF m 0 #[.val (.ref x0), .val (.ref x1), .unset] [] := by first | (simp [entryFrame, mkF, argsToLocals, Value.category]; done) | rfl
set_option maxRecDepth 65536 in
set_option maxHeartbeats 40000000 in
theorem rmEQ (l : Launch) (Z : State) (a0 : Array Value) (hw : ∀ d ∈ tables_1, d.before a0 Z = true) (ws : List Jvm.Cond) (a1 a2 b1 b2 : Addr) (z1 z2 : Int32) (n1 n2 : Nat) (f1 f2 : Nat → Int32) (cs : Int32) (h0 : Heap) (E1 : Exa Z h0 a1 "java/lang/String") (C1 : Fld Z h0 a1 "java/lang/String" "coder" "B" (.int 0)) (V1 : Fld Z h0 a1 "java/lang/String" "value" "[B" (.ref b1)) (A1 : own_A Z h0 b1 .byte n1 f1) (hz1 : z1.toInt = n1) (E2 : Exa Z h0 a2 "java/lang/String") (C2 : Fld Z h0 a2 "java/lang/String" "coder" "B" (.int 0)) (V2 : Fld Z h0 a2 "java/lang/String" "value" "[B" (.ref b2)) (A2 : own_A Z h0 b2 .byte n2 f2) (hz2 : z2.toInt = n2) (hcs : ¬ (cs = (0 : Int32))) (S0 : Sta Z h0 "java/lang/String" "COMPACT_STRINGS" "Z" (.int cs)) :
    own_Ct l Z (⟨"java/lang/String", "equals", "(Ljava/lang/Object;)Z"⟩ : MethodName) jdk_42_method_66_code 3 (some .boolean) ws ({ frames := 1, cells := 0, slots := 0, locals := 16 } : Room) #[(.ref a1), (.ref a2)] h0 (fun v h L => v = some (.int (own_eqA n1 f1 n2 f2)) ∧ L = [] ∧ h = h0) := by
  refine own_of pn_java_lang_String ?_
  intro p e s m below meth c s₁ hx hby hml hown hnm hret hlk hZ X0 e0
  rw [ef_rmEQ]
  refine own_by (T' := s₁) (f' := (mkF m 1 #[.val (.ref a1), .val (.ref a2), .unset] [(.ref a1)])) (fun t k => XS.aloadN X0.here hx rfl (hb hby d13_0) rfl rfl k) ?_
  refine own_by (T' := s₁) (f' := (mkF m 2 #[.val (.ref a1), .val (.ref a2), .unset] [(.ref a2), (.ref a1)])) (fun t k => XS.aloadN X0.here hx rfl (hb hby d13_1) rfl rfl k) ?_
  by_cases ha2_11 : a1 = a2
  · have _ := X0
    refine own_by (T' := s₁) (f' := (mkF m 5 #[.val (.ref a1), .val (.ref a2), .unset] [])) (fun t k => Jvm.RoadKit.acmp (g := (mkF m 2 #[.val (.ref a1), .val (.ref a2), .unset] [(.ref a2), (.ref a1)])) X0 hx rfl rfl rfl (pc0 := 2) (pc' := 5) (same := true) rfl (hb hby d13_2) rfl (decide_eq_true (congrArg Value.ref ha2_11)) (by decide) (by decide) k) ?_
    refine own_by (T' := s₁) (f' := (mkF m 6 #[.val (.ref a1), .val (.ref a2), .unset] [(.int (1 : Int32))])) (fun t k => XS.iconst X0.here hx rfl (hb hby d13_5) k) ?_
    refine own_retZ X0 hx hret hlk (hb hby d13_6) (Or.inr rfl) (by decide) (by decide) ?_
    try rw [e0]
    have ha := ha2_11
    subst ha
    have hb : b1 = b2 := by simpa using own_fld_uniq V1 V2
    subst hb
    have hu := own_A.uniq A1 A2
    exact ⟨by rw [own_eqA_all hu.1 hu.2], rfl, rfl⟩
  · have _ := X0
    refine own_by (T' := s₁) (f' := (mkF m 7 #[.val (.ref a1), .val (.ref a2), .unset] [])) (fun t k => Jvm.RoadKit.acmp (g := (mkF m 2 #[.val (.ref a1), .val (.ref a2), .unset] [(.ref a2), (.ref a1)])) X0 hx rfl rfl rfl (pc0 := 2) (pc' := 7) (same := false) rfl (hb hby d13_2) rfl (decide_eq_false fun q => ha2_11 (Value.ref.inj q)) (by decide) (by decide) k) ?_
    refine own_by (T' := s₁) (f' := (mkF m 8 #[.val (.ref a1), .val (.ref a2), .unset] [(.ref a2)])) (fun t k => XS.aloadN X0.here hx rfl (hb hby d13_7) rfl rfl k) ?_
    obtain ⟨T12, X12, e12, st12⟩ := instY X0 hx hZ hown (hw _ (List.mem_of_getElem? (i := 63) rfl)) e0 (Ins.self E2) (g := (mkF m 8 #[.val (.ref a1), .val (.ref a2), .unset] [(.ref a2)])) rfl rfl (hb hby d13_8)
    refine own_by (f' := (mkF m 11 #[.val (.ref a1), .val (.ref a2), .unset] [(.int (1 : Int32))])) st12 ?_
    refine own_by (T' := T12) (f' := (mkF m 14 #[.val (.ref a1), .val (.ref a2), .unset] [])) (fun t k => XS.ifNo X12.here hx rfl (hb hby d13_11) rfl ((if0 _ _).trans (feq (by decide)).1) k) ?_
    refine own_by (T' := T12) (f' := (mkF m 15 #[.val (.ref a1), .val (.ref a2), .unset] [(.ref a2)])) (fun t k => XS.aloadN X12.here hx rfl (hb hby d13_14) rfl rfl k) ?_
    obtain ⟨T13, X13, e13, st13⟩ := castY X12 hx hZ hown (hw _ (List.mem_of_getElem? (i := 63) rfl)) e12 (Ins.self E2) (g := (mkF m 15 #[.val (.ref a1), .val (.ref a2), .unset] [(.ref a2)])) rfl rfl (hb hby d13_15)
    refine own_by (f' := (mkF m 18 #[.val (.ref a1), .val (.ref a2), .unset] [(.ref a2)])) st13 ?_
    refine own_by (T' := T13) (f' := (mkF m 19 #[.val (.ref a1), .val (.ref a2), .val (.ref a2)] [])) (fun t k => XS.astoreN X13.here hx rfl (hb hby d13_18) rfl rfl (l' := #[.val (.ref a1), .val (.ref a2), .val (.ref a2)]) rfl k) ?_
    refine own_getS (host := "") X13 hx hZ hown e13 (hb hby d13_19) (Or.inl (hw _ (List.mem_of_getElem? (i := 17) rfl))) Via.refl S0 ?_
    intro T14 X14 e14
    show own_Go p e below _ T14 (mkF m 22 #[.val (.ref a1), .val (.ref a2), .val (.ref a2)] [(.int cs)])
    refine own_by (T' := T14) (f' := (mkF m 25 #[.val (.ref a1), .val (.ref a2), .val (.ref a2)] [])) (fun t k => XS.ifNo X14.here hx rfl (hb hby d13_22) rfl ((if0 _ _).trans (feq hcs).1) k) ?_
    refine own_by (T' := T14) (f' := (mkF m 26 #[.val (.ref a1), .val (.ref a2), .val (.ref a2)] [(.ref a1)])) (fun t k => XS.aloadN X14.here hx rfl (hb hby d13_25) rfl rfl k) ?_
    refine own_getF (host := "") X14 hx hZ hown e14 (hb hby d13_26) (Or.inl (hw _ (List.mem_of_getElem? (i := 29) rfl))) Via.refl C1 ?_
    intro T15 X15 e15
    show own_Go p e below _ T15 (mkF m 29 #[.val (.ref a1), .val (.ref a2), .val (.ref a2)] [(.int (0 : Int32))])
    refine own_by (T' := T15) (f' := (mkF m 30 #[.val (.ref a1), .val (.ref a2), .val (.ref a2)] [(.ref a2), (.int (0 : Int32))])) (fun t k => XS.aloadN X15.here hx rfl (hb hby d13_29) rfl rfl k) ?_
    refine own_getF (host := "") X15 hx hZ hown e15 (hb hby d13_30) (Or.inl (hw _ (List.mem_of_getElem? (i := 29) rfl))) Via.refl C2 ?_
    intro T16 X16 e16
    show own_Go p e below _ T16 (mkF m 33 #[.val (.ref a1), .val (.ref a2), .val (.ref a2)] [(.int (0 : Int32)), (.int (0 : Int32))])
    refine own_by (T' := T16) (f' := (mkF m 36 #[.val (.ref a1), .val (.ref a2), .val (.ref a2)] [])) (fun t k => XS.icmpNo X16.here hx rfl (hb hby d13_33) rfl (teq rfl).2 k) ?_
    refine own_by (T' := T16) (f' := (mkF m 37 #[.val (.ref a1), .val (.ref a2), .val (.ref a2)] [(.ref a1)])) (fun t k => XS.aloadN X16.here hx rfl (hb hby d13_36) rfl rfl k) ?_
    refine own_getF (host := "") X16 hx hZ hown e16 (hb hby d13_37) (Or.inl (hw _ (List.mem_of_getElem? (i := 31) rfl))) Via.refl V1 ?_
    intro T17 X17 e17
    show own_Go p e below _ T17 (mkF m 40 #[.val (.ref a1), .val (.ref a2), .val (.ref a2)] [(.ref b1)])
    refine own_by (T' := T17) (f' := (mkF m 41 #[.val (.ref a1), .val (.ref a2), .val (.ref a2)] [(.ref a2), (.ref b1)])) (fun t k => XS.aloadN X17.here hx rfl (hb hby d13_40) rfl rfl k) ?_
    refine own_getF (host := "") X17 hx hZ hown e17 (hb hby d13_41) (Or.inl (hw _ (List.mem_of_getElem? (i := 31) rfl))) Via.refl V2 ?_
    intro T18 X18 e18
    show own_Go p e below _ T18 (mkF m 44 #[.val (.ref a1), .val (.ref a2), .val (.ref a2)] [(.ref b2), (.ref b1)])
    refine own_callS X18 hx hZ hown e18 (hb hby d13_44) [(.ref b1), (.ref b2)] [] 0 (rmLE l Z a0 hw [] b1 b2 z1 z2 n1 n2 f1 f2 h0 hz1 hz2 A1 A2) (hw _ (List.mem_of_getElem? (i := 75) rfl)) (hw _ (List.mem_of_getElem? (i := 76) rfl)) (hw _ (List.mem_of_getElem? (i := 61) rfl)) (hw _ (List.mem_of_getElem? (i := 77) rfl)) (by decide) pd___B_B_Z (by rw [hml]; rfl) rfl rfl (Nat.le_of_eq rfl) (by decide) (by decide) (by decide) (by decide) ?_
    rintro T19 _ L19 X19 ⟨rfl, rfl, e19⟩
    show own_Go p e below _ T19 (mkF m 47 #[.val (.ref a1), .val (.ref a2), .val (.ref a2)] [(.int (own_eqA n1 f1 n2 f2))])
    rw [List.append_nil] at X19
    by_cases hc47_20 : (own_eqA n1 f1 n2 f2) = (0 : Int32)
    · have _ := X19
      refine own_by (T' := T19) (f' := (mkF m 54 #[.val (.ref a1), .val (.ref a2), .val (.ref a2)] [])) (fun t k => XS.ifYes X19.here hx rfl (pc0 := 47) (pc' := 54) rfl (hb hby d13_47) rfl ((if0 _ _).trans (teq hc47_20).1) (by decide) (by decide) k) ?_
      refine own_by (T' := T19) (f' := (mkF m 55 #[.val (.ref a1), .val (.ref a2), .val (.ref a2)] [(.int (0 : Int32))])) (fun t k => XS.iconst X19.here hx rfl (hb hby d13_54) k) ?_
      refine own_retZ X19 hx hret hlk (hb hby d13_55) (Or.inl rfl) (by decide) (by decide) ?_
      try rw [e19]
      exact ⟨by rw [hc47_20], rfl, rfl⟩
    · have _ := X19
      refine own_by (T' := T19) (f' := (mkF m 50 #[.val (.ref a1), .val (.ref a2), .val (.ref a2)] [])) (fun t k => XS.ifNo X19.here hx rfl (hb hby d13_47) rfl ((if0 _ _).trans (feq hc47_20).1) k) ?_
      refine own_by (T' := T19) (f' := (mkF m 51 #[.val (.ref a1), .val (.ref a2), .val (.ref a2)] [(.int (1 : Int32))])) (fun t k => XS.iconst X19.here hx rfl (hb hby d13_50) k) ?_
      refine own_by (T' := T19) (f' := (mkF m 55 #[.val (.ref a1), .val (.ref a2), .val (.ref a2)] [(.int (1 : Int32))])) (fun t k => XS.goto X19.here hx rfl (pc0 := 51) (pc' := 55) rfl (hb hby d13_51) (by decide) (by decide) k) ?_
      refine own_retZ X19 hx hret hlk (hb hby d13_55) (Or.inr rfl) (by decide) (by decide) ?_
      try rw [e19]
      exact ⟨by rw [(own_eqA_01 n1 f1 n2 f2).resolve_left hc47_20], rfl, rfl⟩
theorem ef_rmV (m : MethodId)  : entryFrame m #[] 0 = mkF m 0 #[] [] := by first | (simp [entryFrame, mkF, argsToLocals, Value.category]; done) | rfl
set_option maxRecDepth 65536 in
set_option maxHeartbeats 40000000 in
theorem rmV (l : Launch) (Z : State) (a0 : Array Value) (hw : ∀ d ∈ tables_1, d.before a0 Z = true) (ws : List Jvm.Cond) (r0 c0 c1 c2 c3 : Addr) (kk : ClassId) (h0 : Heap) (n0 : Nat) (Z0 : n0 ≤ h0.size) (SV : Sta Z h0 "com/example/tablee/tablee/rules/cards/SpanishSuit" "$VALUES" "[Lcom/example/tablee/tablee/rules/cards/SpanishSuit;" (.ref r0)) (EV : Exa Z h0 r0 "[Lcom/example/tablee/tablee/rules/cards/SpanishSuit;") (AV : Arv Z h0 r0 kk (.object "com/example/tablee/tablee/rules/cards/SpanishSuit") (4 : Int32) [(.ref c0), (.ref c1), (.ref c2), (.ref c3)] .null) :
    own_Ct l Z (⟨"com/example/tablee/tablee/rules/cards/SpanishSuit", "values", "()[Lcom/example/tablee/tablee/rules/cards/SpanishSuit;"⟩ : MethodName) prog_7_method_1_code 0 (some (.array (.object "com/example/tablee/tablee/rules/cards/SpanishSuit"))) ws ({ frames := 1, cells := 1, slots := 4, locals := 14 } : Room) #[] h0 (fun v h L => ∃ b : Addr, v = some (.ref b) ∧ Fr n0 L ∧ Keep h0 h [] ∧ h0.size ≤ b ∧ Arv Z h b kk (.object "com/example/tablee/tablee/rules/cards/SpanishSuit") (4 : Int32) [(.ref c0), (.ref c1), (.ref c2), (.ref c3)] .null) := by
  refine own_of pn_com_example_tablee_tablee_rules_cards_SpanishSuit ?_
  intro p e s m below meth c s₁ hx hby hml hown hnm hret hlk hZ X0 e0
  have N0 := Fr.nil n0
  have K0 := Keep.refl h0 []
  rw [ef_rmV]
  refine own_getS (host := "") X0 hx hZ hown e0 (hb hby d8_0) (Or.inl (hw _ (List.mem_of_getElem? (i := 39) rfl))) Via.refl SV ?_
  intro T11 X11 e11
  show own_Go p e below _ T11 (mkF m 3 #[] [(.ref r0)])
  refine own_clone X11 hx hZ hown e11 (hb hby d8_3) (hw _ (List.mem_of_getElem? (i := 41) rfl)) (hw _ (List.mem_of_getElem? (i := 42) rfl)) (hw _ (List.mem_of_getElem? (i := 46) rfl)) (hw _ (List.mem_of_getElem? (i := 44) rfl)) (hw _ (List.mem_of_getElem? (i := 45) rfl)) (hw _ (List.mem_of_getElem? (i := 47) rfl)) AV EV (by rw [hml]; rfl) (by decide) 0 4 (Nat.le_of_eq rfl) (by decide) (by decide) (by decide) (by decide) ?_
  intro T12 h12 b12 X12 e12 g12 E12 A12 D12
  have ne12_r0 : r0 ≠ b12 := Nat.ne_of_lt (by rw [g12]; exact AV.lt)
  have gn12 : n0 ≤ b12 := by rw [g12]; exact Z0
  have gh12 : h0.size ≤ b12 := by rw [g12]; exact K0.1
  show own_Go p e below _ T12 (mkF m 6 #[] [(.ref b12)])
  have sz13 : n0 ≤ h12.size := Nat.le_trans Z0 E12.1
  have K14 := K0.ext E12
  obtain ⟨T15, X15, e15, st15⟩ := castY X12 hx hZ hown (hw _ (List.mem_of_getElem? (i := 52) rfl)) e12 (Ins.self D12) (g := (mkF m 6 #[] [(.ref b12)])) rfl rfl (hb hby d8_6)
  refine own_by (f' := (mkF m 9 #[] [(.ref b12)])) st15 ?_
  refine own_retA X15 hx hret hlk (hb hby d8_9) rfl rfl rfl (by decide) (by decide) ?_
  try rw [e15]
  exact ⟨b12, rfl, N0, K14, gh12, A12⟩
theorem ef_rmP0 (m : MethodId) (x0 : Addr) : entryFrame m #[(.ref x0)] 5 = mkF m 0 #[.val (.ref x0), .unset, .unset, .unset, .unset] [] := by first | (simp [entryFrame, mkF, argsToLocals, Value.category]; done) | rfl
set_option maxRecDepth 65536 in
set_option maxHeartbeats 40000000 in
theorem rmP0 (l : Launch) (Z : State) (a0 : Array Value) (hw : ∀ d ∈ tables_1, d.before a0 Z = true) (ws : List Jvm.Cond) (a1 b1 r0 c0 c1 c2 c3 : Addr) (kk : ClassId) (cs : Int32) (h0 : Heap) (n0 : Nat) (Z0 : n0 ≤ h0.size) (SV : Sta Z h0 "com/example/tablee/tablee/rules/cards/SpanishSuit" "$VALUES" "[Lcom/example/tablee/tablee/rules/cards/SpanishSuit;" (.ref r0)) (EV : Exa Z h0 r0 "[Lcom/example/tablee/tablee/rules/cards/SpanishSuit;") (AV : Arv Z h0 r0 kk (.object "com/example/tablee/tablee/rules/cards/SpanishSuit") (4 : Int32) [(.ref c0), (.ref c1), (.ref c2), (.ref c3)] .null) (FL0 : Fld Z h0 c0 "com/example/tablee/tablee/rules/cards/SpanishSuit" "letter" "C" (.int 79)) (FL1 : Fld Z h0 c1 "com/example/tablee/tablee/rules/cards/SpanishSuit" "letter" "C" (.int 67)) (FL2 : Fld Z h0 c2 "com/example/tablee/tablee/rules/cards/SpanishSuit" "letter" "C" (.int 69)) (FL3 : Fld Z h0 c3 "com/example/tablee/tablee/rules/cards/SpanishSuit" "letter" "C" (.int 66)) (E1 : Exa Z h0 a1 "java/lang/String") (C1 : Fld Z h0 a1 "java/lang/String" "coder" "B" (.int 0)) (V1 : Fld Z h0 a1 "java/lang/String" "value" "[B" (.ref b1)) (A1 : own_A Z h0 b1 .byte 1 (fun i => own_b8 ((fun _ => (79 : Int32)) i))) (hcs : ¬ (cs = (0 : Int32))) (S0 : Sta Z h0 "java/lang/String" "COMPACT_STRINGS" "Z" (.int cs)) :
    own_Ct l Z (⟨"com/example/tablee/tablee/rules/cards/SpanishSuit", "parse", "(Ljava/lang/String;)Lcom/example/tablee/tablee/rules/cards/SpanishSuit;"⟩ : MethodName) prog_7_method_4_code 5 (some (.object "com/example/tablee/tablee/rules/cards/SpanishSuit")) ws ({ frames := 4, cells := 9, slots := 24, locals := 110 } : Room) #[(.ref a1)] h0 (fun v h L => v = some (.ref c0) ∧ Fr n0 L ∧ Keep h0 h []) := by
  refine own_of pn_com_example_tablee_tablee_rules_cards_SpanishSuit ?_
  intro p e s m below meth c s₁ hx hby hml hown hnm hret hlk hZ X0 e0
  have N0 := Fr.nil n0
  have K0 := Keep.refl h0 []
  rw [ef_rmP0]
  refine own_callS X0 hx hZ hown e0 (hb hby d7_0) [] [] 0 (rmV l Z a0 hw [] r0 c0 c1 c2 c3 kk h0 n0 Z0 SV EV AV) (hw _ (List.mem_of_getElem? (i := 36) rfl)) (hw _ (List.mem_of_getElem? (i := 37) rfl)) (hw _ (List.mem_of_getElem? (i := 1) rfl)) (hw _ (List.mem_of_getElem? (i := 38) rfl)) (by decide) pd____Lcom_example_tablee_tablee_rules_cards_SpanishSuit_ (by rw [hml]; rfl) rfl rfl (Nat.le_of_eq rfl) (by decide) (by decide) (by decide) (by decide) ?_
  rintro T11 _ L11 X11 ⟨b11, rfl, N11q, K11, gb11, A11⟩
  show own_Go p e below _ T11 (mkF m 3 #[.val (.ref a1), .unset, .unset, .unset, .unset] [(.ref b11)])
  have N11 := Fr.app N0 N11q
  have sz12 : n0 ≤ T11.heap.size := Nat.le_trans Z0 K11.1
  have K13 := K0.trans K11 all0
  refine own_by (T' := T11) (f' := (mkF m 4 #[.val (.ref a1), .val (.ref b11), .unset, .unset, .unset] [])) (fun t k => XS.astoreN X11.here hx rfl (hb hby d7_3) rfl rfl (l' := #[.val (.ref a1), .val (.ref b11), .unset, .unset, .unset]) rfl k) ?_
  refine own_by (T' := T11) (f' := (mkF m 5 #[.val (.ref a1), .val (.ref b11), .unset, .unset, .unset] [(.ref b11)])) (fun t k => XS.aloadN X11.here hx rfl (hb hby d7_4) rfl rfl k) ?_
  refine own_alenR X11 hx hZ rfl (hb hby d7_5) A11 ?_
  show own_Go p e below _ T11 (mkF m 6 #[.val (.ref a1), .val (.ref b11), .unset, .unset, .unset] [(.int (4 : Int32))])
  refine own_by (T' := T11) (f' := (mkF m 7 #[.val (.ref a1), .val (.ref b11), .val (.int (4 : Int32)), .unset, .unset] [])) (fun t k => XS.istoreN X11.here hx rfl (hb hby d7_6) rfl (l' := #[.val (.ref a1), .val (.ref b11), .val (.int (4 : Int32)), .unset, .unset]) rfl k) ?_
  refine own_by (T' := T11) (f' := (mkF m 8 #[.val (.ref a1), .val (.ref b11), .val (.int (4 : Int32)), .unset, .unset] [(.int (0 : Int32))])) (fun t k => XS.iconst X11.here hx rfl (hb hby d7_7) k) ?_
  refine own_by (T' := T11) (f' := (mkF m 9 #[.val (.ref a1), .val (.ref b11), .val (.int (4 : Int32)), .val (.int (0 : Int32)), .unset] [])) (fun t k => XS.istoreN X11.here hx rfl (hb hby d7_8) rfl (l' := #[.val (.ref a1), .val (.ref b11), .val (.int (4 : Int32)), .val (.int (0 : Int32)), .unset]) rfl k) ?_
  refine own_by (T' := T11) (f' := (mkF m 10 #[.val (.ref a1), .val (.ref b11), .val (.int (4 : Int32)), .val (.int (0 : Int32)), .unset] [(.int (0 : Int32))])) (fun t k => XS.iloadN X11.here hx rfl (hb hby d7_9) rfl k) ?_
  refine own_by (T' := T11) (f' := (mkF m 11 #[.val (.ref a1), .val (.ref b11), .val (.int (4 : Int32)), .val (.int (0 : Int32)), .unset] [(.int (4 : Int32)), (.int (0 : Int32))])) (fun t k => XS.iloadN X11.here hx rfl (hb hby d7_10) rfl k) ?_
  refine own_by (T' := T11) (f' := (mkF m 14 #[.val (.ref a1), .val (.ref b11), .val (.int (4 : Int32)), .val (.int (0 : Int32)), .unset] [])) (fun t k => XS.icmpNo X11.here hx rfl (hb hby d7_11) rfl (tlt (by decide)).2.1 k) ?_
  refine own_by (T' := T11) (f' := (mkF m 15 #[.val (.ref a1), .val (.ref b11), .val (.int (4 : Int32)), .val (.int (0 : Int32)), .unset] [(.ref b11)])) (fun t k => XS.aloadN X11.here hx rfl (hb hby d7_14) rfl rfl k) ?_
  refine own_by (T' := T11) (f' := (mkF m 16 #[.val (.ref a1), .val (.ref b11), .val (.int (4 : Int32)), .val (.int (0 : Int32)), .unset] [(.int (0 : Int32)), (.ref b11)])) (fun t k => XS.iloadN X11.here hx rfl (hb hby d7_15) rfl k) ?_
  refine own_ldR (v := (.ref c0)) X11 hx hZ rfl (hb hby d7_16) A11 rfl (by decide) rfl ?_
  show own_Go p e below _ T11 (mkF m 17 #[.val (.ref a1), .val (.ref b11), .val (.int (4 : Int32)), .val (.int (0 : Int32)), .unset] [(.ref c0)])
  refine own_by (T' := T11) (f' := (mkF m 19 #[.val (.ref a1), .val (.ref b11), .val (.int (4 : Int32)), .val (.int (0 : Int32)), .val (.ref c0)] [])) (fun t k => XS.astore X11.here hx rfl (hb hby d7_17) rfl rfl (l' := #[.val (.ref a1), .val (.ref b11), .val (.int (4 : Int32)), .val (.int (0 : Int32)), .val (.ref c0)]) rfl k) ?_
  refine own_by (T' := T11) (f' := (mkF m 20 #[.val (.ref a1), .val (.ref b11), .val (.int (4 : Int32)), .val (.int (0 : Int32)), .val (.ref c0)] [(.ref a1)])) (fun t k => XS.aloadN X11.here hx rfl (hb hby d7_19) rfl rfl k) ?_
  refine own_by (T' := T11) (f' := (mkF m 22 #[.val (.ref a1), .val (.ref b11), .val (.int (4 : Int32)), .val (.int (0 : Int32)), .val (.ref c0)] [(.ref c0), (.ref a1)])) (fun t k => XS.aload X11.here hx rfl (hb hby d7_20) rfl rfl k) ?_
  have f14 := (FL0.keep K11 nin0)
  refine own_getF (host := "") X11 hx hZ hown rfl (hb hby d7_22) (Or.inl (hw _ (List.mem_of_getElem? (i := 54) rfl))) Via.refl f14 ?_
  intro T15 X15 e15
  show own_Go p e below _ T15 (mkF m 25 #[.val (.ref a1), .val (.ref b11), .val (.int (4 : Int32)), .val (.int (0 : Int32)), .val (.ref c0)] [(.int (79 : Int32)), (.ref a1)])
  have f16 := (own_sta_keep S0 K11 all0)
  refine own_callS X15 hx hZ hown e15 (hb hby d7_25) [(.int (79 : Int32))] [(.ref a1)] 1 (rmVO l Z a0 hw [] (79 : Int32) cs T11.heap n0 sz12 (by decide) hcs f16) (hw _ (List.mem_of_getElem? (i := 56) rfl)) (hw _ (List.mem_of_getElem? (i := 57) rfl)) (hw _ (List.mem_of_getElem? (i := 6) rfl)) (hw _ (List.mem_of_getElem? (i := 58) rfl)) (by decide) pd__C_Ljava_lang_String_ (by rw [hml]; rfl) rfl rfl (Nat.le_of_eq rfl) (by decide) (by decide) (by decide) (by decide) ?_
  rintro T17 _ L17 X17 ⟨a17, b17, rfl, N17q, K17, ga17, gb17, A17, C17, V17, B17⟩
  show own_Go p e below _ T17 (mkF m 28 #[.val (.ref a1), .val (.ref b11), .val (.int (4 : Int32)), .val (.int (0 : Int32)), .val (.ref c0)] [(.ref a17), (.ref a1)])
  have N17 := Fr.app N11 N17q
  have sz18 : n0 ≤ T17.heap.size := Nat.le_trans sz12 K17.1
  have K19 := K13.trans K17 all0
  have f20 := ((E1.keep K11).keep K17)
  have f21 := ((C1.keep K11 nin0).keep K17 nin0)
  have f22 := ((V1.keep K11 nin0).keep K17 nin0)
  have f23 := ((A1.keep K11 nin0).keep K17 nin0)
  have f24 := (own_sta_keep f16 K17 all0)
  refine own_callV X17 hx hZ hown rfl (hb hby d7_28) [(.ref a17)] [] 0 (rmEQ l Z a0 hw [] a1 a17 b1 b17 (1 : Int32) (1 : Int32) 1 1 (fun i => own_b8 ((fun _ => (79 : Int32)) i)) (fun _ => own_b8 (79 : Int32)) cs T17.heap f20 f21 f22 f23 (by decide) A17 C17 V17 B17 (by decide) hcs f24) f20 (hw _ (List.mem_of_getElem? (i := 70) rfl)) (hw _ (List.mem_of_getElem? (i := 71) rfl)) (notFace_of_selects (args := #[]) (mvT hZ (hw _ (List.mem_of_getElem? (i := 73) rfl)))) (hw _ (List.mem_of_getElem? (i := 73) rfl)) (hw _ (List.mem_of_getElem? (i := 72) rfl)) (hw _ (List.mem_of_getElem? (i := 6) rfl)) (hw _ (List.mem_of_getElem? (i := 74) rfl)) (by decide) pd__Ljava_lang_Object__Z (by rw [hml]; rfl) rfl rfl (Nat.le_of_eq rfl) (by decide) (by decide) (by decide) (by decide) ?_
  rintro T25 _ L25 X25 ⟨rfl, rfl, e25⟩
  show own_Go p e below _ T25 (mkF m 31 #[.val (.ref a1), .val (.ref b11), .val (.int (4 : Int32)), .val (.int (0 : Int32)), .val (.ref c0)] [(.int (own_eqA 1 (fun i => own_b8 ((fun _ => (79 : Int32)) i)) 1 (fun _ => own_b8 (79 : Int32))))])
  rw [List.append_nil] at X25
  rw [own_eqA_all rfl (fun _ _ => rfl)]
  show own_Go p e below _ T25 (mkF m 31 #[.val (.ref a1), .val (.ref b11), .val (.int (4 : Int32)), .val (.int (0 : Int32)), .val (.ref c0)] [(.int (1 : Int32))])
  refine own_by (T' := T25) (f' := (mkF m 34 #[.val (.ref a1), .val (.ref b11), .val (.int (4 : Int32)), .val (.int (0 : Int32)), .val (.ref c0)] [])) (fun t k => XS.ifNo X25.here hx rfl (hb hby d7_31) rfl ((if0 _ _).trans (feq (by decide)).1) k) ?_
  refine own_by (T' := T25) (f' := (mkF m 36 #[.val (.ref a1), .val (.ref b11), .val (.int (4 : Int32)), .val (.int (0 : Int32)), .val (.ref c0)] [(.ref c0)])) (fun t k => XS.aload X25.here hx rfl (hb hby d7_34) rfl rfl k) ?_
  refine own_retA X25 hx hret hlk (hb hby d7_36) rfl rfl rfl (by decide) (by decide) ?_
  try rw [e25]
  exact ⟨rfl, N17, K19⟩
theorem ef_rmP1 (m : MethodId) (x0 : Addr) : entryFrame m #[(.ref x0)] 5 = mkF m 0 #[.val (.ref x0), .unset, .unset, .unset, .unset] [] := by first | (simp [entryFrame, mkF, argsToLocals, Value.category]; done) | rfl
set_option maxRecDepth 65536 in
set_option maxHeartbeats 40000000 in
theorem rmP1 (l : Launch) (Z : State) (a0 : Array Value) (hw : ∀ d ∈ tables_1, d.before a0 Z = true) (ws : List Jvm.Cond) (a1 b1 r0 c0 c1 c2 c3 : Addr) (kk : ClassId) (cs : Int32) (h0 : Heap) (n0 : Nat) (Z0 : n0 ≤ h0.size) (SV : Sta Z h0 "com/example/tablee/tablee/rules/cards/SpanishSuit" "$VALUES" "[Lcom/example/tablee/tablee/rules/cards/SpanishSuit;" (.ref r0)) (EV : Exa Z h0 r0 "[Lcom/example/tablee/tablee/rules/cards/SpanishSuit;") (AV : Arv Z h0 r0 kk (.object "com/example/tablee/tablee/rules/cards/SpanishSuit") (4 : Int32) [(.ref c0), (.ref c1), (.ref c2), (.ref c3)] .null) (FL0 : Fld Z h0 c0 "com/example/tablee/tablee/rules/cards/SpanishSuit" "letter" "C" (.int 79)) (FL1 : Fld Z h0 c1 "com/example/tablee/tablee/rules/cards/SpanishSuit" "letter" "C" (.int 67)) (FL2 : Fld Z h0 c2 "com/example/tablee/tablee/rules/cards/SpanishSuit" "letter" "C" (.int 69)) (FL3 : Fld Z h0 c3 "com/example/tablee/tablee/rules/cards/SpanishSuit" "letter" "C" (.int 66)) (E1 : Exa Z h0 a1 "java/lang/String") (C1 : Fld Z h0 a1 "java/lang/String" "coder" "B" (.int 0)) (V1 : Fld Z h0 a1 "java/lang/String" "value" "[B" (.ref b1)) (A1 : own_A Z h0 b1 .byte 1 (fun i => own_b8 ((fun _ => (67 : Int32)) i))) (hcs : ¬ (cs = (0 : Int32))) (S0 : Sta Z h0 "java/lang/String" "COMPACT_STRINGS" "Z" (.int cs)) :
    own_Ct l Z (⟨"com/example/tablee/tablee/rules/cards/SpanishSuit", "parse", "(Ljava/lang/String;)Lcom/example/tablee/tablee/rules/cards/SpanishSuit;"⟩ : MethodName) prog_7_method_4_code 5 (some (.object "com/example/tablee/tablee/rules/cards/SpanishSuit")) ws ({ frames := 4, cells := 9, slots := 24, locals := 110 } : Room) #[(.ref a1)] h0 (fun v h L => v = some (.ref c1) ∧ Fr n0 L ∧ Keep h0 h []) := by
  refine own_of pn_com_example_tablee_tablee_rules_cards_SpanishSuit ?_
  intro p e s m below meth c s₁ hx hby hml hown hnm hret hlk hZ X0 e0
  have N0 := Fr.nil n0
  have K0 := Keep.refl h0 []
  rw [ef_rmP1]
  refine own_callS X0 hx hZ hown e0 (hb hby d7_0) [] [] 0 (rmV l Z a0 hw [] r0 c0 c1 c2 c3 kk h0 n0 Z0 SV EV AV) (hw _ (List.mem_of_getElem? (i := 36) rfl)) (hw _ (List.mem_of_getElem? (i := 37) rfl)) (hw _ (List.mem_of_getElem? (i := 1) rfl)) (hw _ (List.mem_of_getElem? (i := 38) rfl)) (by decide) pd____Lcom_example_tablee_tablee_rules_cards_SpanishSuit_ (by rw [hml]; rfl) rfl rfl (Nat.le_of_eq rfl) (by decide) (by decide) (by decide) (by decide) ?_
  rintro T11 _ L11 X11 ⟨b11, rfl, N11q, K11, gb11, A11⟩
  show own_Go p e below _ T11 (mkF m 3 #[.val (.ref a1), .unset, .unset, .unset, .unset] [(.ref b11)])
  have N11 := Fr.app N0 N11q
  have sz12 : n0 ≤ T11.heap.size := Nat.le_trans Z0 K11.1
  have K13 := K0.trans K11 all0
  refine own_by (T' := T11) (f' := (mkF m 4 #[.val (.ref a1), .val (.ref b11), .unset, .unset, .unset] [])) (fun t k => XS.astoreN X11.here hx rfl (hb hby d7_3) rfl rfl (l' := #[.val (.ref a1), .val (.ref b11), .unset, .unset, .unset]) rfl k) ?_
  refine own_by (T' := T11) (f' := (mkF m 5 #[.val (.ref a1), .val (.ref b11), .unset, .unset, .unset] [(.ref b11)])) (fun t k => XS.aloadN X11.here hx rfl (hb hby d7_4) rfl rfl k) ?_
  refine own_alenR X11 hx hZ rfl (hb hby d7_5) A11 ?_
  show own_Go p e below _ T11 (mkF m 6 #[.val (.ref a1), .val (.ref b11), .unset, .unset, .unset] [(.int (4 : Int32))])
  refine own_by (T' := T11) (f' := (mkF m 7 #[.val (.ref a1), .val (.ref b11), .val (.int (4 : Int32)), .unset, .unset] [])) (fun t k => XS.istoreN X11.here hx rfl (hb hby d7_6) rfl (l' := #[.val (.ref a1), .val (.ref b11), .val (.int (4 : Int32)), .unset, .unset]) rfl k) ?_
  refine own_by (T' := T11) (f' := (mkF m 8 #[.val (.ref a1), .val (.ref b11), .val (.int (4 : Int32)), .unset, .unset] [(.int (0 : Int32))])) (fun t k => XS.iconst X11.here hx rfl (hb hby d7_7) k) ?_
  refine own_by (T' := T11) (f' := (mkF m 9 #[.val (.ref a1), .val (.ref b11), .val (.int (4 : Int32)), .val (.int (0 : Int32)), .unset] [])) (fun t k => XS.istoreN X11.here hx rfl (hb hby d7_8) rfl (l' := #[.val (.ref a1), .val (.ref b11), .val (.int (4 : Int32)), .val (.int (0 : Int32)), .unset]) rfl k) ?_
  refine own_by (T' := T11) (f' := (mkF m 10 #[.val (.ref a1), .val (.ref b11), .val (.int (4 : Int32)), .val (.int (0 : Int32)), .unset] [(.int (0 : Int32))])) (fun t k => XS.iloadN X11.here hx rfl (hb hby d7_9) rfl k) ?_
  refine own_by (T' := T11) (f' := (mkF m 11 #[.val (.ref a1), .val (.ref b11), .val (.int (4 : Int32)), .val (.int (0 : Int32)), .unset] [(.int (4 : Int32)), (.int (0 : Int32))])) (fun t k => XS.iloadN X11.here hx rfl (hb hby d7_10) rfl k) ?_
  refine own_by (T' := T11) (f' := (mkF m 14 #[.val (.ref a1), .val (.ref b11), .val (.int (4 : Int32)), .val (.int (0 : Int32)), .unset] [])) (fun t k => XS.icmpNo X11.here hx rfl (hb hby d7_11) rfl (tlt (by decide)).2.1 k) ?_
  refine own_by (T' := T11) (f' := (mkF m 15 #[.val (.ref a1), .val (.ref b11), .val (.int (4 : Int32)), .val (.int (0 : Int32)), .unset] [(.ref b11)])) (fun t k => XS.aloadN X11.here hx rfl (hb hby d7_14) rfl rfl k) ?_
  refine own_by (T' := T11) (f' := (mkF m 16 #[.val (.ref a1), .val (.ref b11), .val (.int (4 : Int32)), .val (.int (0 : Int32)), .unset] [(.int (0 : Int32)), (.ref b11)])) (fun t k => XS.iloadN X11.here hx rfl (hb hby d7_15) rfl k) ?_
  refine own_ldR (v := (.ref c0)) X11 hx hZ rfl (hb hby d7_16) A11 rfl (by decide) rfl ?_
  show own_Go p e below _ T11 (mkF m 17 #[.val (.ref a1), .val (.ref b11), .val (.int (4 : Int32)), .val (.int (0 : Int32)), .unset] [(.ref c0)])
  refine own_by (T' := T11) (f' := (mkF m 19 #[.val (.ref a1), .val (.ref b11), .val (.int (4 : Int32)), .val (.int (0 : Int32)), .val (.ref c0)] [])) (fun t k => XS.astore X11.here hx rfl (hb hby d7_17) rfl rfl (l' := #[.val (.ref a1), .val (.ref b11), .val (.int (4 : Int32)), .val (.int (0 : Int32)), .val (.ref c0)]) rfl k) ?_
  refine own_by (T' := T11) (f' := (mkF m 20 #[.val (.ref a1), .val (.ref b11), .val (.int (4 : Int32)), .val (.int (0 : Int32)), .val (.ref c0)] [(.ref a1)])) (fun t k => XS.aloadN X11.here hx rfl (hb hby d7_19) rfl rfl k) ?_
  refine own_by (T' := T11) (f' := (mkF m 22 #[.val (.ref a1), .val (.ref b11), .val (.int (4 : Int32)), .val (.int (0 : Int32)), .val (.ref c0)] [(.ref c0), (.ref a1)])) (fun t k => XS.aload X11.here hx rfl (hb hby d7_20) rfl rfl k) ?_
  have f14 := (FL0.keep K11 nin0)
  refine own_getF (host := "") X11 hx hZ hown rfl (hb hby d7_22) (Or.inl (hw _ (List.mem_of_getElem? (i := 54) rfl))) Via.refl f14 ?_
  intro T15 X15 e15
  show own_Go p e below _ T15 (mkF m 25 #[.val (.ref a1), .val (.ref b11), .val (.int (4 : Int32)), .val (.int (0 : Int32)), .val (.ref c0)] [(.int (79 : Int32)), (.ref a1)])
  have f16 := (own_sta_keep S0 K11 all0)
  refine own_callS X15 hx hZ hown e15 (hb hby d7_25) [(.int (79 : Int32))] [(.ref a1)] 1 (rmVO l Z a0 hw [] (79 : Int32) cs T11.heap n0 sz12 (by decide) hcs f16) (hw _ (List.mem_of_getElem? (i := 56) rfl)) (hw _ (List.mem_of_getElem? (i := 57) rfl)) (hw _ (List.mem_of_getElem? (i := 6) rfl)) (hw _ (List.mem_of_getElem? (i := 58) rfl)) (by decide) pd__C_Ljava_lang_String_ (by rw [hml]; rfl) rfl rfl (Nat.le_of_eq rfl) (by decide) (by decide) (by decide) (by decide) ?_
  rintro T17 _ L17 X17 ⟨a17, b17, rfl, N17q, K17, ga17, gb17, A17, C17, V17, B17⟩
  show own_Go p e below _ T17 (mkF m 28 #[.val (.ref a1), .val (.ref b11), .val (.int (4 : Int32)), .val (.int (0 : Int32)), .val (.ref c0)] [(.ref a17), (.ref a1)])
  have N17 := Fr.app N11 N17q
  have sz18 : n0 ≤ T17.heap.size := Nat.le_trans sz12 K17.1
  have K19 := K13.trans K17 all0
  have f20 := ((E1.keep K11).keep K17)
  have f21 := ((C1.keep K11 nin0).keep K17 nin0)
  have f22 := ((V1.keep K11 nin0).keep K17 nin0)
  have f23 := ((A1.keep K11 nin0).keep K17 nin0)
  have f24 := (own_sta_keep f16 K17 all0)
  refine own_callV X17 hx hZ hown rfl (hb hby d7_28) [(.ref a17)] [] 0 (rmEQ l Z a0 hw [] a1 a17 b1 b17 (1 : Int32) (1 : Int32) 1 1 (fun i => own_b8 ((fun _ => (67 : Int32)) i)) (fun _ => own_b8 (79 : Int32)) cs T17.heap f20 f21 f22 f23 (by decide) A17 C17 V17 B17 (by decide) hcs f24) f20 (hw _ (List.mem_of_getElem? (i := 70) rfl)) (hw _ (List.mem_of_getElem? (i := 71) rfl)) (notFace_of_selects (args := #[]) (mvT hZ (hw _ (List.mem_of_getElem? (i := 73) rfl)))) (hw _ (List.mem_of_getElem? (i := 73) rfl)) (hw _ (List.mem_of_getElem? (i := 72) rfl)) (hw _ (List.mem_of_getElem? (i := 6) rfl)) (hw _ (List.mem_of_getElem? (i := 74) rfl)) (by decide) pd__Ljava_lang_Object__Z (by rw [hml]; rfl) rfl rfl (Nat.le_of_eq rfl) (by decide) (by decide) (by decide) (by decide) ?_
  rintro T25 _ L25 X25 ⟨rfl, rfl, e25⟩
  show own_Go p e below _ T25 (mkF m 31 #[.val (.ref a1), .val (.ref b11), .val (.int (4 : Int32)), .val (.int (0 : Int32)), .val (.ref c0)] [(.int (own_eqA 1 (fun i => own_b8 ((fun _ => (67 : Int32)) i)) 1 (fun _ => own_b8 (79 : Int32))))])
  rw [List.append_nil] at X25
  rw [own_eqA_at (j := 0) (by decide) (by decide)]
  show own_Go p e below _ T25 (mkF m 31 #[.val (.ref a1), .val (.ref b11), .val (.int (4 : Int32)), .val (.int (0 : Int32)), .val (.ref c0)] [(.int (0 : Int32))])
  refine own_by (T' := T25) (f' := (mkF m 37 #[.val (.ref a1), .val (.ref b11), .val (.int (4 : Int32)), .val (.int (0 : Int32)), .val (.ref c0)] [])) (fun t k => XS.ifYes X25.here hx rfl (pc0 := 31) (pc' := 37) rfl (hb hby d7_31) rfl ((if0 _ _).trans (teq rfl).1) (by decide) (by decide) k) ?_
  refine own_by (T' := T25) (f' := (mkF m 40 #[.val (.ref a1), .val (.ref b11), .val (.int (4 : Int32)), .val (.int (1 : Int32)), .val (.ref c0)] [])) (fun t k => XS.iinc X25.here hx rfl (hb hby d7_37) rfl (l' := #[.val (.ref a1), .val (.ref b11), .val (.int (4 : Int32)), .val (.int (1 : Int32)), .val (.ref c0)]) rfl k) ?_
  refine own_by (T' := T25) (f' := (mkF m 9 #[.val (.ref a1), .val (.ref b11), .val (.int (4 : Int32)), .val (.int (1 : Int32)), .val (.ref c0)] [])) (fun t k => XS.goto X25.here hx rfl (pc0 := 40) (pc' := 9) rfl (hb hby d7_40) (by decide) (by decide) k) ?_
  refine own_by (T' := T25) (f' := (mkF m 10 #[.val (.ref a1), .val (.ref b11), .val (.int (4 : Int32)), .val (.int (1 : Int32)), .val (.ref c0)] [(.int (1 : Int32))])) (fun t k => XS.iloadN X25.here hx rfl (hb hby d7_9) rfl k) ?_
  refine own_by (T' := T25) (f' := (mkF m 11 #[.val (.ref a1), .val (.ref b11), .val (.int (4 : Int32)), .val (.int (1 : Int32)), .val (.ref c0)] [(.int (4 : Int32)), (.int (1 : Int32))])) (fun t k => XS.iloadN X25.here hx rfl (hb hby d7_10) rfl k) ?_
  refine own_by (T' := T25) (f' := (mkF m 14 #[.val (.ref a1), .val (.ref b11), .val (.int (4 : Int32)), .val (.int (1 : Int32)), .val (.ref c0)] [])) (fun t k => XS.icmpNo X25.here hx rfl (hb hby d7_11) rfl (tlt (by decide)).2.1 k) ?_
  refine own_by (T' := T25) (f' := (mkF m 15 #[.val (.ref a1), .val (.ref b11), .val (.int (4 : Int32)), .val (.int (1 : Int32)), .val (.ref c0)] [(.ref b11)])) (fun t k => XS.aloadN X25.here hx rfl (hb hby d7_14) rfl rfl k) ?_
  refine own_by (T' := T25) (f' := (mkF m 16 #[.val (.ref a1), .val (.ref b11), .val (.int (4 : Int32)), .val (.int (1 : Int32)), .val (.ref c0)] [(.int (1 : Int32)), (.ref b11)])) (fun t k => XS.iloadN X25.here hx rfl (hb hby d7_15) rfl k) ?_
  have f26 := (A11.keep K17 nin0)
  refine own_ldR (v := (.ref c1)) X25 hx hZ e25 (hb hby d7_16) f26 rfl (by decide) rfl ?_
  show own_Go p e below _ T25 (mkF m 17 #[.val (.ref a1), .val (.ref b11), .val (.int (4 : Int32)), .val (.int (1 : Int32)), .val (.ref c0)] [(.ref c1)])
  refine own_by (T' := T25) (f' := (mkF m 19 #[.val (.ref a1), .val (.ref b11), .val (.int (4 : Int32)), .val (.int (1 : Int32)), .val (.ref c1)] [])) (fun t k => XS.astore X25.here hx rfl (hb hby d7_17) rfl rfl (l' := #[.val (.ref a1), .val (.ref b11), .val (.int (4 : Int32)), .val (.int (1 : Int32)), .val (.ref c1)]) rfl k) ?_
  refine own_by (T' := T25) (f' := (mkF m 20 #[.val (.ref a1), .val (.ref b11), .val (.int (4 : Int32)), .val (.int (1 : Int32)), .val (.ref c1)] [(.ref a1)])) (fun t k => XS.aloadN X25.here hx rfl (hb hby d7_19) rfl rfl k) ?_
  refine own_by (T' := T25) (f' := (mkF m 22 #[.val (.ref a1), .val (.ref b11), .val (.int (4 : Int32)), .val (.int (1 : Int32)), .val (.ref c1)] [(.ref c1), (.ref a1)])) (fun t k => XS.aload X25.here hx rfl (hb hby d7_20) rfl rfl k) ?_
  have f27 := ((FL1.keep K11 nin0).keep K17 nin0)
  refine own_getF (host := "") X25 hx hZ hown e25 (hb hby d7_22) (Or.inl (hw _ (List.mem_of_getElem? (i := 54) rfl))) Via.refl f27 ?_
  intro T28 X28 e28
  show own_Go p e below _ T28 (mkF m 25 #[.val (.ref a1), .val (.ref b11), .val (.int (4 : Int32)), .val (.int (1 : Int32)), .val (.ref c1)] [(.int (67 : Int32)), (.ref a1)])
  refine own_callS X28 hx hZ hown e28 (hb hby d7_25) [(.int (67 : Int32))] [(.ref a1)] 1 (rmVO l Z a0 hw [] (67 : Int32) cs T17.heap n0 sz18 (by decide) hcs f24) (hw _ (List.mem_of_getElem? (i := 56) rfl)) (hw _ (List.mem_of_getElem? (i := 57) rfl)) (hw _ (List.mem_of_getElem? (i := 6) rfl)) (hw _ (List.mem_of_getElem? (i := 58) rfl)) (by decide) pd__C_Ljava_lang_String_ (by rw [hml]; rfl) rfl rfl (Nat.le_of_eq rfl) (by decide) (by decide) (by decide) (by decide) ?_
  rintro T29 _ L29 X29 ⟨a29, b29, rfl, N29q, K29, ga29, gb29, A29, C29, V29, B29⟩
  show own_Go p e below _ T29 (mkF m 28 #[.val (.ref a1), .val (.ref b11), .val (.int (4 : Int32)), .val (.int (1 : Int32)), .val (.ref c1)] [(.ref a29), (.ref a1)])
  have N29 := Fr.app N17 N29q
  have sz30 : n0 ≤ T29.heap.size := Nat.le_trans sz18 K29.1
  have K31 := K19.trans K29 all0
  have f32 := (f20.keep K29)
  have f33 := (f21.keep K29 nin0)
  have f34 := (f22.keep K29 nin0)
  have f35 := (f23.keep K29 nin0)
  have f36 := (own_sta_keep f24 K29 all0)
  refine own_callV X29 hx hZ hown rfl (hb hby d7_28) [(.ref a29)] [] 0 (rmEQ l Z a0 hw [] a1 a29 b1 b29 (1 : Int32) (1 : Int32) 1 1 (fun i => own_b8 ((fun _ => (67 : Int32)) i)) (fun _ => own_b8 (67 : Int32)) cs T29.heap f32 f33 f34 f35 (by decide) A29 C29 V29 B29 (by decide) hcs f36) f32 (hw _ (List.mem_of_getElem? (i := 70) rfl)) (hw _ (List.mem_of_getElem? (i := 71) rfl)) (notFace_of_selects (args := #[]) (mvT hZ (hw _ (List.mem_of_getElem? (i := 73) rfl)))) (hw _ (List.mem_of_getElem? (i := 73) rfl)) (hw _ (List.mem_of_getElem? (i := 72) rfl)) (hw _ (List.mem_of_getElem? (i := 6) rfl)) (hw _ (List.mem_of_getElem? (i := 74) rfl)) (by decide) pd__Ljava_lang_Object__Z (by rw [hml]; rfl) rfl rfl (Nat.le_of_eq rfl) (by decide) (by decide) (by decide) (by decide) ?_
  rintro T37 _ L37 X37 ⟨rfl, rfl, e37⟩
  show own_Go p e below _ T37 (mkF m 31 #[.val (.ref a1), .val (.ref b11), .val (.int (4 : Int32)), .val (.int (1 : Int32)), .val (.ref c1)] [(.int (own_eqA 1 (fun i => own_b8 ((fun _ => (67 : Int32)) i)) 1 (fun _ => own_b8 (67 : Int32))))])
  rw [List.append_nil] at X37
  rw [own_eqA_all rfl (fun _ _ => rfl)]
  show own_Go p e below _ T37 (mkF m 31 #[.val (.ref a1), .val (.ref b11), .val (.int (4 : Int32)), .val (.int (1 : Int32)), .val (.ref c1)] [(.int (1 : Int32))])
  refine own_by (T' := T37) (f' := (mkF m 34 #[.val (.ref a1), .val (.ref b11), .val (.int (4 : Int32)), .val (.int (1 : Int32)), .val (.ref c1)] [])) (fun t k => XS.ifNo X37.here hx rfl (hb hby d7_31) rfl ((if0 _ _).trans (feq (by decide)).1) k) ?_
  refine own_by (T' := T37) (f' := (mkF m 36 #[.val (.ref a1), .val (.ref b11), .val (.int (4 : Int32)), .val (.int (1 : Int32)), .val (.ref c1)] [(.ref c1)])) (fun t k => XS.aload X37.here hx rfl (hb hby d7_34) rfl rfl k) ?_
  refine own_retA X37 hx hret hlk (hb hby d7_36) rfl rfl rfl (by decide) (by decide) ?_
  try rw [e37]
  exact ⟨rfl, N29, K31⟩
theorem ef_rmP2 (m : MethodId) (x0 : Addr) : entryFrame m #[(.ref x0)] 5 = mkF m 0 #[.val (.ref x0), .unset, .unset, .unset, .unset] [] := by first | (simp [entryFrame, mkF, argsToLocals, Value.category]; done) | rfl
set_option maxRecDepth 65536 in
set_option maxHeartbeats 40000000 in
theorem rmP2 (l : Launch) (Z : State) (a0 : Array Value) (hw : ∀ d ∈ tables_1, d.before a0 Z = true) (ws : List Jvm.Cond) (a1 b1 r0 c0 c1 c2 c3 : Addr) (kk : ClassId) (cs : Int32) (h0 : Heap) (n0 : Nat) (Z0 : n0 ≤ h0.size) (SV : Sta Z h0 "com/example/tablee/tablee/rules/cards/SpanishSuit" "$VALUES" "[Lcom/example/tablee/tablee/rules/cards/SpanishSuit;" (.ref r0)) (EV : Exa Z h0 r0 "[Lcom/example/tablee/tablee/rules/cards/SpanishSuit;") (AV : Arv Z h0 r0 kk (.object "com/example/tablee/tablee/rules/cards/SpanishSuit") (4 : Int32) [(.ref c0), (.ref c1), (.ref c2), (.ref c3)] .null) (FL0 : Fld Z h0 c0 "com/example/tablee/tablee/rules/cards/SpanishSuit" "letter" "C" (.int 79)) (FL1 : Fld Z h0 c1 "com/example/tablee/tablee/rules/cards/SpanishSuit" "letter" "C" (.int 67)) (FL2 : Fld Z h0 c2 "com/example/tablee/tablee/rules/cards/SpanishSuit" "letter" "C" (.int 69)) (FL3 : Fld Z h0 c3 "com/example/tablee/tablee/rules/cards/SpanishSuit" "letter" "C" (.int 66)) (E1 : Exa Z h0 a1 "java/lang/String") (C1 : Fld Z h0 a1 "java/lang/String" "coder" "B" (.int 0)) (V1 : Fld Z h0 a1 "java/lang/String" "value" "[B" (.ref b1)) (A1 : own_A Z h0 b1 .byte 1 (fun i => own_b8 ((fun _ => (69 : Int32)) i))) (hcs : ¬ (cs = (0 : Int32))) (S0 : Sta Z h0 "java/lang/String" "COMPACT_STRINGS" "Z" (.int cs)) :
    own_Ct l Z (⟨"com/example/tablee/tablee/rules/cards/SpanishSuit", "parse", "(Ljava/lang/String;)Lcom/example/tablee/tablee/rules/cards/SpanishSuit;"⟩ : MethodName) prog_7_method_4_code 5 (some (.object "com/example/tablee/tablee/rules/cards/SpanishSuit")) ws ({ frames := 4, cells := 9, slots := 24, locals := 110 } : Room) #[(.ref a1)] h0 (fun v h L => v = some (.ref c2) ∧ Fr n0 L ∧ Keep h0 h []) := by
  refine own_of pn_com_example_tablee_tablee_rules_cards_SpanishSuit ?_
  intro p e s m below meth c s₁ hx hby hml hown hnm hret hlk hZ X0 e0
  have N0 := Fr.nil n0
  have K0 := Keep.refl h0 []
  rw [ef_rmP2]
  refine own_callS X0 hx hZ hown e0 (hb hby d7_0) [] [] 0 (rmV l Z a0 hw [] r0 c0 c1 c2 c3 kk h0 n0 Z0 SV EV AV) (hw _ (List.mem_of_getElem? (i := 36) rfl)) (hw _ (List.mem_of_getElem? (i := 37) rfl)) (hw _ (List.mem_of_getElem? (i := 1) rfl)) (hw _ (List.mem_of_getElem? (i := 38) rfl)) (by decide) pd____Lcom_example_tablee_tablee_rules_cards_SpanishSuit_ (by rw [hml]; rfl) rfl rfl (Nat.le_of_eq rfl) (by decide) (by decide) (by decide) (by decide) ?_
  rintro T11 _ L11 X11 ⟨b11, rfl, N11q, K11, gb11, A11⟩
  show own_Go p e below _ T11 (mkF m 3 #[.val (.ref a1), .unset, .unset, .unset, .unset] [(.ref b11)])
  have N11 := Fr.app N0 N11q
  have sz12 : n0 ≤ T11.heap.size := Nat.le_trans Z0 K11.1
  have K13 := K0.trans K11 all0
  refine own_by (T' := T11) (f' := (mkF m 4 #[.val (.ref a1), .val (.ref b11), .unset, .unset, .unset] [])) (fun t k => XS.astoreN X11.here hx rfl (hb hby d7_3) rfl rfl (l' := #[.val (.ref a1), .val (.ref b11), .unset, .unset, .unset]) rfl k) ?_
  refine own_by (T' := T11) (f' := (mkF m 5 #[.val (.ref a1), .val (.ref b11), .unset, .unset, .unset] [(.ref b11)])) (fun t k => XS.aloadN X11.here hx rfl (hb hby d7_4) rfl rfl k) ?_
  refine own_alenR X11 hx hZ rfl (hb hby d7_5) A11 ?_
  show own_Go p e below _ T11 (mkF m 6 #[.val (.ref a1), .val (.ref b11), .unset, .unset, .unset] [(.int (4 : Int32))])
  refine own_by (T' := T11) (f' := (mkF m 7 #[.val (.ref a1), .val (.ref b11), .val (.int (4 : Int32)), .unset, .unset] [])) (fun t k => XS.istoreN X11.here hx rfl (hb hby d7_6) rfl (l' := #[.val (.ref a1), .val (.ref b11), .val (.int (4 : Int32)), .unset, .unset]) rfl k) ?_
  refine own_by (T' := T11) (f' := (mkF m 8 #[.val (.ref a1), .val (.ref b11), .val (.int (4 : Int32)), .unset, .unset] [(.int (0 : Int32))])) (fun t k => XS.iconst X11.here hx rfl (hb hby d7_7) k) ?_
  refine own_by (T' := T11) (f' := (mkF m 9 #[.val (.ref a1), .val (.ref b11), .val (.int (4 : Int32)), .val (.int (0 : Int32)), .unset] [])) (fun t k => XS.istoreN X11.here hx rfl (hb hby d7_8) rfl (l' := #[.val (.ref a1), .val (.ref b11), .val (.int (4 : Int32)), .val (.int (0 : Int32)), .unset]) rfl k) ?_
  refine own_by (T' := T11) (f' := (mkF m 10 #[.val (.ref a1), .val (.ref b11), .val (.int (4 : Int32)), .val (.int (0 : Int32)), .unset] [(.int (0 : Int32))])) (fun t k => XS.iloadN X11.here hx rfl (hb hby d7_9) rfl k) ?_
  refine own_by (T' := T11) (f' := (mkF m 11 #[.val (.ref a1), .val (.ref b11), .val (.int (4 : Int32)), .val (.int (0 : Int32)), .unset] [(.int (4 : Int32)), (.int (0 : Int32))])) (fun t k => XS.iloadN X11.here hx rfl (hb hby d7_10) rfl k) ?_
  refine own_by (T' := T11) (f' := (mkF m 14 #[.val (.ref a1), .val (.ref b11), .val (.int (4 : Int32)), .val (.int (0 : Int32)), .unset] [])) (fun t k => XS.icmpNo X11.here hx rfl (hb hby d7_11) rfl (tlt (by decide)).2.1 k) ?_
  refine own_by (T' := T11) (f' := (mkF m 15 #[.val (.ref a1), .val (.ref b11), .val (.int (4 : Int32)), .val (.int (0 : Int32)), .unset] [(.ref b11)])) (fun t k => XS.aloadN X11.here hx rfl (hb hby d7_14) rfl rfl k) ?_
  refine own_by (T' := T11) (f' := (mkF m 16 #[.val (.ref a1), .val (.ref b11), .val (.int (4 : Int32)), .val (.int (0 : Int32)), .unset] [(.int (0 : Int32)), (.ref b11)])) (fun t k => XS.iloadN X11.here hx rfl (hb hby d7_15) rfl k) ?_
  refine own_ldR (v := (.ref c0)) X11 hx hZ rfl (hb hby d7_16) A11 rfl (by decide) rfl ?_
  show own_Go p e below _ T11 (mkF m 17 #[.val (.ref a1), .val (.ref b11), .val (.int (4 : Int32)), .val (.int (0 : Int32)), .unset] [(.ref c0)])
  refine own_by (T' := T11) (f' := (mkF m 19 #[.val (.ref a1), .val (.ref b11), .val (.int (4 : Int32)), .val (.int (0 : Int32)), .val (.ref c0)] [])) (fun t k => XS.astore X11.here hx rfl (hb hby d7_17) rfl rfl (l' := #[.val (.ref a1), .val (.ref b11), .val (.int (4 : Int32)), .val (.int (0 : Int32)), .val (.ref c0)]) rfl k) ?_
  refine own_by (T' := T11) (f' := (mkF m 20 #[.val (.ref a1), .val (.ref b11), .val (.int (4 : Int32)), .val (.int (0 : Int32)), .val (.ref c0)] [(.ref a1)])) (fun t k => XS.aloadN X11.here hx rfl (hb hby d7_19) rfl rfl k) ?_
  refine own_by (T' := T11) (f' := (mkF m 22 #[.val (.ref a1), .val (.ref b11), .val (.int (4 : Int32)), .val (.int (0 : Int32)), .val (.ref c0)] [(.ref c0), (.ref a1)])) (fun t k => XS.aload X11.here hx rfl (hb hby d7_20) rfl rfl k) ?_
  have f14 := (FL0.keep K11 nin0)
  refine own_getF (host := "") X11 hx hZ hown rfl (hb hby d7_22) (Or.inl (hw _ (List.mem_of_getElem? (i := 54) rfl))) Via.refl f14 ?_
  intro T15 X15 e15
  show own_Go p e below _ T15 (mkF m 25 #[.val (.ref a1), .val (.ref b11), .val (.int (4 : Int32)), .val (.int (0 : Int32)), .val (.ref c0)] [(.int (79 : Int32)), (.ref a1)])
  have f16 := (own_sta_keep S0 K11 all0)
  refine own_callS X15 hx hZ hown e15 (hb hby d7_25) [(.int (79 : Int32))] [(.ref a1)] 1 (rmVO l Z a0 hw [] (79 : Int32) cs T11.heap n0 sz12 (by decide) hcs f16) (hw _ (List.mem_of_getElem? (i := 56) rfl)) (hw _ (List.mem_of_getElem? (i := 57) rfl)) (hw _ (List.mem_of_getElem? (i := 6) rfl)) (hw _ (List.mem_of_getElem? (i := 58) rfl)) (by decide) pd__C_Ljava_lang_String_ (by rw [hml]; rfl) rfl rfl (Nat.le_of_eq rfl) (by decide) (by decide) (by decide) (by decide) ?_
  rintro T17 _ L17 X17 ⟨a17, b17, rfl, N17q, K17, ga17, gb17, A17, C17, V17, B17⟩
  show own_Go p e below _ T17 (mkF m 28 #[.val (.ref a1), .val (.ref b11), .val (.int (4 : Int32)), .val (.int (0 : Int32)), .val (.ref c0)] [(.ref a17), (.ref a1)])
  have N17 := Fr.app N11 N17q
  have sz18 : n0 ≤ T17.heap.size := Nat.le_trans sz12 K17.1
  have K19 := K13.trans K17 all0
  have f20 := ((E1.keep K11).keep K17)
  have f21 := ((C1.keep K11 nin0).keep K17 nin0)
  have f22 := ((V1.keep K11 nin0).keep K17 nin0)
  have f23 := ((A1.keep K11 nin0).keep K17 nin0)
  have f24 := (own_sta_keep f16 K17 all0)
  refine own_callV X17 hx hZ hown rfl (hb hby d7_28) [(.ref a17)] [] 0 (rmEQ l Z a0 hw [] a1 a17 b1 b17 (1 : Int32) (1 : Int32) 1 1 (fun i => own_b8 ((fun _ => (69 : Int32)) i)) (fun _ => own_b8 (79 : Int32)) cs T17.heap f20 f21 f22 f23 (by decide) A17 C17 V17 B17 (by decide) hcs f24) f20 (hw _ (List.mem_of_getElem? (i := 70) rfl)) (hw _ (List.mem_of_getElem? (i := 71) rfl)) (notFace_of_selects (args := #[]) (mvT hZ (hw _ (List.mem_of_getElem? (i := 73) rfl)))) (hw _ (List.mem_of_getElem? (i := 73) rfl)) (hw _ (List.mem_of_getElem? (i := 72) rfl)) (hw _ (List.mem_of_getElem? (i := 6) rfl)) (hw _ (List.mem_of_getElem? (i := 74) rfl)) (by decide) pd__Ljava_lang_Object__Z (by rw [hml]; rfl) rfl rfl (Nat.le_of_eq rfl) (by decide) (by decide) (by decide) (by decide) ?_
  rintro T25 _ L25 X25 ⟨rfl, rfl, e25⟩
  show own_Go p e below _ T25 (mkF m 31 #[.val (.ref a1), .val (.ref b11), .val (.int (4 : Int32)), .val (.int (0 : Int32)), .val (.ref c0)] [(.int (own_eqA 1 (fun i => own_b8 ((fun _ => (69 : Int32)) i)) 1 (fun _ => own_b8 (79 : Int32))))])
  rw [List.append_nil] at X25
  rw [own_eqA_at (j := 0) (by decide) (by decide)]
  show own_Go p e below _ T25 (mkF m 31 #[.val (.ref a1), .val (.ref b11), .val (.int (4 : Int32)), .val (.int (0 : Int32)), .val (.ref c0)] [(.int (0 : Int32))])
  refine own_by (T' := T25) (f' := (mkF m 37 #[.val (.ref a1), .val (.ref b11), .val (.int (4 : Int32)), .val (.int (0 : Int32)), .val (.ref c0)] [])) (fun t k => XS.ifYes X25.here hx rfl (pc0 := 31) (pc' := 37) rfl (hb hby d7_31) rfl ((if0 _ _).trans (teq rfl).1) (by decide) (by decide) k) ?_
  refine own_by (T' := T25) (f' := (mkF m 40 #[.val (.ref a1), .val (.ref b11), .val (.int (4 : Int32)), .val (.int (1 : Int32)), .val (.ref c0)] [])) (fun t k => XS.iinc X25.here hx rfl (hb hby d7_37) rfl (l' := #[.val (.ref a1), .val (.ref b11), .val (.int (4 : Int32)), .val (.int (1 : Int32)), .val (.ref c0)]) rfl k) ?_
  refine own_by (T' := T25) (f' := (mkF m 9 #[.val (.ref a1), .val (.ref b11), .val (.int (4 : Int32)), .val (.int (1 : Int32)), .val (.ref c0)] [])) (fun t k => XS.goto X25.here hx rfl (pc0 := 40) (pc' := 9) rfl (hb hby d7_40) (by decide) (by decide) k) ?_
  refine own_by (T' := T25) (f' := (mkF m 10 #[.val (.ref a1), .val (.ref b11), .val (.int (4 : Int32)), .val (.int (1 : Int32)), .val (.ref c0)] [(.int (1 : Int32))])) (fun t k => XS.iloadN X25.here hx rfl (hb hby d7_9) rfl k) ?_
  refine own_by (T' := T25) (f' := (mkF m 11 #[.val (.ref a1), .val (.ref b11), .val (.int (4 : Int32)), .val (.int (1 : Int32)), .val (.ref c0)] [(.int (4 : Int32)), (.int (1 : Int32))])) (fun t k => XS.iloadN X25.here hx rfl (hb hby d7_10) rfl k) ?_
  refine own_by (T' := T25) (f' := (mkF m 14 #[.val (.ref a1), .val (.ref b11), .val (.int (4 : Int32)), .val (.int (1 : Int32)), .val (.ref c0)] [])) (fun t k => XS.icmpNo X25.here hx rfl (hb hby d7_11) rfl (tlt (by decide)).2.1 k) ?_
  refine own_by (T' := T25) (f' := (mkF m 15 #[.val (.ref a1), .val (.ref b11), .val (.int (4 : Int32)), .val (.int (1 : Int32)), .val (.ref c0)] [(.ref b11)])) (fun t k => XS.aloadN X25.here hx rfl (hb hby d7_14) rfl rfl k) ?_
  refine own_by (T' := T25) (f' := (mkF m 16 #[.val (.ref a1), .val (.ref b11), .val (.int (4 : Int32)), .val (.int (1 : Int32)), .val (.ref c0)] [(.int (1 : Int32)), (.ref b11)])) (fun t k => XS.iloadN X25.here hx rfl (hb hby d7_15) rfl k) ?_
  have f26 := (A11.keep K17 nin0)
  refine own_ldR (v := (.ref c1)) X25 hx hZ e25 (hb hby d7_16) f26 rfl (by decide) rfl ?_
  show own_Go p e below _ T25 (mkF m 17 #[.val (.ref a1), .val (.ref b11), .val (.int (4 : Int32)), .val (.int (1 : Int32)), .val (.ref c0)] [(.ref c1)])
  refine own_by (T' := T25) (f' := (mkF m 19 #[.val (.ref a1), .val (.ref b11), .val (.int (4 : Int32)), .val (.int (1 : Int32)), .val (.ref c1)] [])) (fun t k => XS.astore X25.here hx rfl (hb hby d7_17) rfl rfl (l' := #[.val (.ref a1), .val (.ref b11), .val (.int (4 : Int32)), .val (.int (1 : Int32)), .val (.ref c1)]) rfl k) ?_
  refine own_by (T' := T25) (f' := (mkF m 20 #[.val (.ref a1), .val (.ref b11), .val (.int (4 : Int32)), .val (.int (1 : Int32)), .val (.ref c1)] [(.ref a1)])) (fun t k => XS.aloadN X25.here hx rfl (hb hby d7_19) rfl rfl k) ?_
  refine own_by (T' := T25) (f' := (mkF m 22 #[.val (.ref a1), .val (.ref b11), .val (.int (4 : Int32)), .val (.int (1 : Int32)), .val (.ref c1)] [(.ref c1), (.ref a1)])) (fun t k => XS.aload X25.here hx rfl (hb hby d7_20) rfl rfl k) ?_
  have f27 := ((FL1.keep K11 nin0).keep K17 nin0)
  refine own_getF (host := "") X25 hx hZ hown e25 (hb hby d7_22) (Or.inl (hw _ (List.mem_of_getElem? (i := 54) rfl))) Via.refl f27 ?_
  intro T28 X28 e28
  show own_Go p e below _ T28 (mkF m 25 #[.val (.ref a1), .val (.ref b11), .val (.int (4 : Int32)), .val (.int (1 : Int32)), .val (.ref c1)] [(.int (67 : Int32)), (.ref a1)])
  refine own_callS X28 hx hZ hown e28 (hb hby d7_25) [(.int (67 : Int32))] [(.ref a1)] 1 (rmVO l Z a0 hw [] (67 : Int32) cs T17.heap n0 sz18 (by decide) hcs f24) (hw _ (List.mem_of_getElem? (i := 56) rfl)) (hw _ (List.mem_of_getElem? (i := 57) rfl)) (hw _ (List.mem_of_getElem? (i := 6) rfl)) (hw _ (List.mem_of_getElem? (i := 58) rfl)) (by decide) pd__C_Ljava_lang_String_ (by rw [hml]; rfl) rfl rfl (Nat.le_of_eq rfl) (by decide) (by decide) (by decide) (by decide) ?_
  rintro T29 _ L29 X29 ⟨a29, b29, rfl, N29q, K29, ga29, gb29, A29, C29, V29, B29⟩
  show own_Go p e below _ T29 (mkF m 28 #[.val (.ref a1), .val (.ref b11), .val (.int (4 : Int32)), .val (.int (1 : Int32)), .val (.ref c1)] [(.ref a29), (.ref a1)])
  have N29 := Fr.app N17 N29q
  have sz30 : n0 ≤ T29.heap.size := Nat.le_trans sz18 K29.1
  have K31 := K19.trans K29 all0
  have f32 := (f20.keep K29)
  have f33 := (f21.keep K29 nin0)
  have f34 := (f22.keep K29 nin0)
  have f35 := (f23.keep K29 nin0)
  have f36 := (own_sta_keep f24 K29 all0)
  refine own_callV X29 hx hZ hown rfl (hb hby d7_28) [(.ref a29)] [] 0 (rmEQ l Z a0 hw [] a1 a29 b1 b29 (1 : Int32) (1 : Int32) 1 1 (fun i => own_b8 ((fun _ => (69 : Int32)) i)) (fun _ => own_b8 (67 : Int32)) cs T29.heap f32 f33 f34 f35 (by decide) A29 C29 V29 B29 (by decide) hcs f36) f32 (hw _ (List.mem_of_getElem? (i := 70) rfl)) (hw _ (List.mem_of_getElem? (i := 71) rfl)) (notFace_of_selects (args := #[]) (mvT hZ (hw _ (List.mem_of_getElem? (i := 73) rfl)))) (hw _ (List.mem_of_getElem? (i := 73) rfl)) (hw _ (List.mem_of_getElem? (i := 72) rfl)) (hw _ (List.mem_of_getElem? (i := 6) rfl)) (hw _ (List.mem_of_getElem? (i := 74) rfl)) (by decide) pd__Ljava_lang_Object__Z (by rw [hml]; rfl) rfl rfl (Nat.le_of_eq rfl) (by decide) (by decide) (by decide) (by decide) ?_
  rintro T37 _ L37 X37 ⟨rfl, rfl, e37⟩
  show own_Go p e below _ T37 (mkF m 31 #[.val (.ref a1), .val (.ref b11), .val (.int (4 : Int32)), .val (.int (1 : Int32)), .val (.ref c1)] [(.int (own_eqA 1 (fun i => own_b8 ((fun _ => (69 : Int32)) i)) 1 (fun _ => own_b8 (67 : Int32))))])
  rw [List.append_nil] at X37
  rw [own_eqA_at (j := 0) (by decide) (by decide)]
  show own_Go p e below _ T37 (mkF m 31 #[.val (.ref a1), .val (.ref b11), .val (.int (4 : Int32)), .val (.int (1 : Int32)), .val (.ref c1)] [(.int (0 : Int32))])
  refine own_by (T' := T37) (f' := (mkF m 37 #[.val (.ref a1), .val (.ref b11), .val (.int (4 : Int32)), .val (.int (1 : Int32)), .val (.ref c1)] [])) (fun t k => XS.ifYes X37.here hx rfl (pc0 := 31) (pc' := 37) rfl (hb hby d7_31) rfl ((if0 _ _).trans (teq rfl).1) (by decide) (by decide) k) ?_
  refine own_by (T' := T37) (f' := (mkF m 40 #[.val (.ref a1), .val (.ref b11), .val (.int (4 : Int32)), .val (.int (2 : Int32)), .val (.ref c1)] [])) (fun t k => XS.iinc X37.here hx rfl (hb hby d7_37) rfl (l' := #[.val (.ref a1), .val (.ref b11), .val (.int (4 : Int32)), .val (.int (2 : Int32)), .val (.ref c1)]) rfl k) ?_
  refine own_by (T' := T37) (f' := (mkF m 9 #[.val (.ref a1), .val (.ref b11), .val (.int (4 : Int32)), .val (.int (2 : Int32)), .val (.ref c1)] [])) (fun t k => XS.goto X37.here hx rfl (pc0 := 40) (pc' := 9) rfl (hb hby d7_40) (by decide) (by decide) k) ?_
  refine own_by (T' := T37) (f' := (mkF m 10 #[.val (.ref a1), .val (.ref b11), .val (.int (4 : Int32)), .val (.int (2 : Int32)), .val (.ref c1)] [(.int (2 : Int32))])) (fun t k => XS.iloadN X37.here hx rfl (hb hby d7_9) rfl k) ?_
  refine own_by (T' := T37) (f' := (mkF m 11 #[.val (.ref a1), .val (.ref b11), .val (.int (4 : Int32)), .val (.int (2 : Int32)), .val (.ref c1)] [(.int (4 : Int32)), (.int (2 : Int32))])) (fun t k => XS.iloadN X37.here hx rfl (hb hby d7_10) rfl k) ?_
  refine own_by (T' := T37) (f' := (mkF m 14 #[.val (.ref a1), .val (.ref b11), .val (.int (4 : Int32)), .val (.int (2 : Int32)), .val (.ref c1)] [])) (fun t k => XS.icmpNo X37.here hx rfl (hb hby d7_11) rfl (tlt (by decide)).2.1 k) ?_
  refine own_by (T' := T37) (f' := (mkF m 15 #[.val (.ref a1), .val (.ref b11), .val (.int (4 : Int32)), .val (.int (2 : Int32)), .val (.ref c1)] [(.ref b11)])) (fun t k => XS.aloadN X37.here hx rfl (hb hby d7_14) rfl rfl k) ?_
  refine own_by (T' := T37) (f' := (mkF m 16 #[.val (.ref a1), .val (.ref b11), .val (.int (4 : Int32)), .val (.int (2 : Int32)), .val (.ref c1)] [(.int (2 : Int32)), (.ref b11)])) (fun t k => XS.iloadN X37.here hx rfl (hb hby d7_15) rfl k) ?_
  have f38 := (f26.keep K29 nin0)
  refine own_ldR (v := (.ref c2)) X37 hx hZ e37 (hb hby d7_16) f38 rfl (by decide) rfl ?_
  show own_Go p e below _ T37 (mkF m 17 #[.val (.ref a1), .val (.ref b11), .val (.int (4 : Int32)), .val (.int (2 : Int32)), .val (.ref c1)] [(.ref c2)])
  refine own_by (T' := T37) (f' := (mkF m 19 #[.val (.ref a1), .val (.ref b11), .val (.int (4 : Int32)), .val (.int (2 : Int32)), .val (.ref c2)] [])) (fun t k => XS.astore X37.here hx rfl (hb hby d7_17) rfl rfl (l' := #[.val (.ref a1), .val (.ref b11), .val (.int (4 : Int32)), .val (.int (2 : Int32)), .val (.ref c2)]) rfl k) ?_
  refine own_by (T' := T37) (f' := (mkF m 20 #[.val (.ref a1), .val (.ref b11), .val (.int (4 : Int32)), .val (.int (2 : Int32)), .val (.ref c2)] [(.ref a1)])) (fun t k => XS.aloadN X37.here hx rfl (hb hby d7_19) rfl rfl k) ?_
  refine own_by (T' := T37) (f' := (mkF m 22 #[.val (.ref a1), .val (.ref b11), .val (.int (4 : Int32)), .val (.int (2 : Int32)), .val (.ref c2)] [(.ref c2), (.ref a1)])) (fun t k => XS.aload X37.here hx rfl (hb hby d7_20) rfl rfl k) ?_
  have f39 := (((FL2.keep K11 nin0).keep K17 nin0).keep K29 nin0)
  refine own_getF (host := "") X37 hx hZ hown e37 (hb hby d7_22) (Or.inl (hw _ (List.mem_of_getElem? (i := 54) rfl))) Via.refl f39 ?_
  intro T40 X40 e40
  show own_Go p e below _ T40 (mkF m 25 #[.val (.ref a1), .val (.ref b11), .val (.int (4 : Int32)), .val (.int (2 : Int32)), .val (.ref c2)] [(.int (69 : Int32)), (.ref a1)])
  refine own_callS X40 hx hZ hown e40 (hb hby d7_25) [(.int (69 : Int32))] [(.ref a1)] 1 (rmVO l Z a0 hw [] (69 : Int32) cs T29.heap n0 sz30 (by decide) hcs f36) (hw _ (List.mem_of_getElem? (i := 56) rfl)) (hw _ (List.mem_of_getElem? (i := 57) rfl)) (hw _ (List.mem_of_getElem? (i := 6) rfl)) (hw _ (List.mem_of_getElem? (i := 58) rfl)) (by decide) pd__C_Ljava_lang_String_ (by rw [hml]; rfl) rfl rfl (Nat.le_of_eq rfl) (by decide) (by decide) (by decide) (by decide) ?_
  rintro T41 _ L41 X41 ⟨a41, b41, rfl, N41q, K41, ga41, gb41, A41, C41, V41, B41⟩
  show own_Go p e below _ T41 (mkF m 28 #[.val (.ref a1), .val (.ref b11), .val (.int (4 : Int32)), .val (.int (2 : Int32)), .val (.ref c2)] [(.ref a41), (.ref a1)])
  have N41 := Fr.app N29 N41q
  have sz42 : n0 ≤ T41.heap.size := Nat.le_trans sz30 K41.1
  have K43 := K31.trans K41 all0
  have f44 := (f32.keep K41)
  have f45 := (f33.keep K41 nin0)
  have f46 := (f34.keep K41 nin0)
  have f47 := (f35.keep K41 nin0)
  have f48 := (own_sta_keep f36 K41 all0)
  refine own_callV X41 hx hZ hown rfl (hb hby d7_28) [(.ref a41)] [] 0 (rmEQ l Z a0 hw [] a1 a41 b1 b41 (1 : Int32) (1 : Int32) 1 1 (fun i => own_b8 ((fun _ => (69 : Int32)) i)) (fun _ => own_b8 (69 : Int32)) cs T41.heap f44 f45 f46 f47 (by decide) A41 C41 V41 B41 (by decide) hcs f48) f44 (hw _ (List.mem_of_getElem? (i := 70) rfl)) (hw _ (List.mem_of_getElem? (i := 71) rfl)) (notFace_of_selects (args := #[]) (mvT hZ (hw _ (List.mem_of_getElem? (i := 73) rfl)))) (hw _ (List.mem_of_getElem? (i := 73) rfl)) (hw _ (List.mem_of_getElem? (i := 72) rfl)) (hw _ (List.mem_of_getElem? (i := 6) rfl)) (hw _ (List.mem_of_getElem? (i := 74) rfl)) (by decide) pd__Ljava_lang_Object__Z (by rw [hml]; rfl) rfl rfl (Nat.le_of_eq rfl) (by decide) (by decide) (by decide) (by decide) ?_
  rintro T49 _ L49 X49 ⟨rfl, rfl, e49⟩
  show own_Go p e below _ T49 (mkF m 31 #[.val (.ref a1), .val (.ref b11), .val (.int (4 : Int32)), .val (.int (2 : Int32)), .val (.ref c2)] [(.int (own_eqA 1 (fun i => own_b8 ((fun _ => (69 : Int32)) i)) 1 (fun _ => own_b8 (69 : Int32))))])
  rw [List.append_nil] at X49
  rw [own_eqA_all rfl (fun _ _ => rfl)]
  show own_Go p e below _ T49 (mkF m 31 #[.val (.ref a1), .val (.ref b11), .val (.int (4 : Int32)), .val (.int (2 : Int32)), .val (.ref c2)] [(.int (1 : Int32))])
  refine own_by (T' := T49) (f' := (mkF m 34 #[.val (.ref a1), .val (.ref b11), .val (.int (4 : Int32)), .val (.int (2 : Int32)), .val (.ref c2)] [])) (fun t k => XS.ifNo X49.here hx rfl (hb hby d7_31) rfl ((if0 _ _).trans (feq (by decide)).1) k) ?_
  refine own_by (T' := T49) (f' := (mkF m 36 #[.val (.ref a1), .val (.ref b11), .val (.int (4 : Int32)), .val (.int (2 : Int32)), .val (.ref c2)] [(.ref c2)])) (fun t k => XS.aload X49.here hx rfl (hb hby d7_34) rfl rfl k) ?_
  refine own_retA X49 hx hret hlk (hb hby d7_36) rfl rfl rfl (by decide) (by decide) ?_
  try rw [e49]
  exact ⟨rfl, N41, K43⟩
theorem ef_rmP3 (m : MethodId) (x0 : Addr) : entryFrame m #[(.ref x0)] 5 = mkF m 0 #[.val (.ref x0), .unset, .unset, .unset, .unset] [] := by first | (simp [entryFrame, mkF, argsToLocals, Value.category]; done) | rfl
set_option maxRecDepth 65536 in
set_option maxHeartbeats 40000000 in
theorem rmP3 (l : Launch) (Z : State) (a0 : Array Value) (hw : ∀ d ∈ tables_1, d.before a0 Z = true) (ws : List Jvm.Cond) (a1 b1 r0 c0 c1 c2 c3 : Addr) (kk : ClassId) (cs : Int32) (h0 : Heap) (n0 : Nat) (Z0 : n0 ≤ h0.size) (SV : Sta Z h0 "com/example/tablee/tablee/rules/cards/SpanishSuit" "$VALUES" "[Lcom/example/tablee/tablee/rules/cards/SpanishSuit;" (.ref r0)) (EV : Exa Z h0 r0 "[Lcom/example/tablee/tablee/rules/cards/SpanishSuit;") (AV : Arv Z h0 r0 kk (.object "com/example/tablee/tablee/rules/cards/SpanishSuit") (4 : Int32) [(.ref c0), (.ref c1), (.ref c2), (.ref c3)] .null) (FL0 : Fld Z h0 c0 "com/example/tablee/tablee/rules/cards/SpanishSuit" "letter" "C" (.int 79)) (FL1 : Fld Z h0 c1 "com/example/tablee/tablee/rules/cards/SpanishSuit" "letter" "C" (.int 67)) (FL2 : Fld Z h0 c2 "com/example/tablee/tablee/rules/cards/SpanishSuit" "letter" "C" (.int 69)) (FL3 : Fld Z h0 c3 "com/example/tablee/tablee/rules/cards/SpanishSuit" "letter" "C" (.int 66)) (E1 : Exa Z h0 a1 "java/lang/String") (C1 : Fld Z h0 a1 "java/lang/String" "coder" "B" (.int 0)) (V1 : Fld Z h0 a1 "java/lang/String" "value" "[B" (.ref b1)) (A1 : own_A Z h0 b1 .byte 1 (fun i => own_b8 ((fun _ => (66 : Int32)) i))) (hcs : ¬ (cs = (0 : Int32))) (S0 : Sta Z h0 "java/lang/String" "COMPACT_STRINGS" "Z" (.int cs)) :
    own_Ct l Z (⟨"com/example/tablee/tablee/rules/cards/SpanishSuit", "parse", "(Ljava/lang/String;)Lcom/example/tablee/tablee/rules/cards/SpanishSuit;"⟩ : MethodName) prog_7_method_4_code 5 (some (.object "com/example/tablee/tablee/rules/cards/SpanishSuit")) ws ({ frames := 4, cells := 9, slots := 24, locals := 110 } : Room) #[(.ref a1)] h0 (fun v h L => v = some (.ref c3) ∧ Fr n0 L ∧ Keep h0 h []) := by
  refine own_of pn_com_example_tablee_tablee_rules_cards_SpanishSuit ?_
  intro p e s m below meth c s₁ hx hby hml hown hnm hret hlk hZ X0 e0
  have N0 := Fr.nil n0
  have K0 := Keep.refl h0 []
  rw [ef_rmP3]
  refine own_callS X0 hx hZ hown e0 (hb hby d7_0) [] [] 0 (rmV l Z a0 hw [] r0 c0 c1 c2 c3 kk h0 n0 Z0 SV EV AV) (hw _ (List.mem_of_getElem? (i := 36) rfl)) (hw _ (List.mem_of_getElem? (i := 37) rfl)) (hw _ (List.mem_of_getElem? (i := 1) rfl)) (hw _ (List.mem_of_getElem? (i := 38) rfl)) (by decide) pd____Lcom_example_tablee_tablee_rules_cards_SpanishSuit_ (by rw [hml]; rfl) rfl rfl (Nat.le_of_eq rfl) (by decide) (by decide) (by decide) (by decide) ?_
  rintro T11 _ L11 X11 ⟨b11, rfl, N11q, K11, gb11, A11⟩
  show own_Go p e below _ T11 (mkF m 3 #[.val (.ref a1), .unset, .unset, .unset, .unset] [(.ref b11)])
  have N11 := Fr.app N0 N11q
  have sz12 : n0 ≤ T11.heap.size := Nat.le_trans Z0 K11.1
  have K13 := K0.trans K11 all0
  refine own_by (T' := T11) (f' := (mkF m 4 #[.val (.ref a1), .val (.ref b11), .unset, .unset, .unset] [])) (fun t k => XS.astoreN X11.here hx rfl (hb hby d7_3) rfl rfl (l' := #[.val (.ref a1), .val (.ref b11), .unset, .unset, .unset]) rfl k) ?_
  refine own_by (T' := T11) (f' := (mkF m 5 #[.val (.ref a1), .val (.ref b11), .unset, .unset, .unset] [(.ref b11)])) (fun t k => XS.aloadN X11.here hx rfl (hb hby d7_4) rfl rfl k) ?_
  refine own_alenR X11 hx hZ rfl (hb hby d7_5) A11 ?_
  show own_Go p e below _ T11 (mkF m 6 #[.val (.ref a1), .val (.ref b11), .unset, .unset, .unset] [(.int (4 : Int32))])
  refine own_by (T' := T11) (f' := (mkF m 7 #[.val (.ref a1), .val (.ref b11), .val (.int (4 : Int32)), .unset, .unset] [])) (fun t k => XS.istoreN X11.here hx rfl (hb hby d7_6) rfl (l' := #[.val (.ref a1), .val (.ref b11), .val (.int (4 : Int32)), .unset, .unset]) rfl k) ?_
  refine own_by (T' := T11) (f' := (mkF m 8 #[.val (.ref a1), .val (.ref b11), .val (.int (4 : Int32)), .unset, .unset] [(.int (0 : Int32))])) (fun t k => XS.iconst X11.here hx rfl (hb hby d7_7) k) ?_
  refine own_by (T' := T11) (f' := (mkF m 9 #[.val (.ref a1), .val (.ref b11), .val (.int (4 : Int32)), .val (.int (0 : Int32)), .unset] [])) (fun t k => XS.istoreN X11.here hx rfl (hb hby d7_8) rfl (l' := #[.val (.ref a1), .val (.ref b11), .val (.int (4 : Int32)), .val (.int (0 : Int32)), .unset]) rfl k) ?_
  refine own_by (T' := T11) (f' := (mkF m 10 #[.val (.ref a1), .val (.ref b11), .val (.int (4 : Int32)), .val (.int (0 : Int32)), .unset] [(.int (0 : Int32))])) (fun t k => XS.iloadN X11.here hx rfl (hb hby d7_9) rfl k) ?_
  refine own_by (T' := T11) (f' := (mkF m 11 #[.val (.ref a1), .val (.ref b11), .val (.int (4 : Int32)), .val (.int (0 : Int32)), .unset] [(.int (4 : Int32)), (.int (0 : Int32))])) (fun t k => XS.iloadN X11.here hx rfl (hb hby d7_10) rfl k) ?_
  refine own_by (T' := T11) (f' := (mkF m 14 #[.val (.ref a1), .val (.ref b11), .val (.int (4 : Int32)), .val (.int (0 : Int32)), .unset] [])) (fun t k => XS.icmpNo X11.here hx rfl (hb hby d7_11) rfl (tlt (by decide)).2.1 k) ?_
  refine own_by (T' := T11) (f' := (mkF m 15 #[.val (.ref a1), .val (.ref b11), .val (.int (4 : Int32)), .val (.int (0 : Int32)), .unset] [(.ref b11)])) (fun t k => XS.aloadN X11.here hx rfl (hb hby d7_14) rfl rfl k) ?_
  refine own_by (T' := T11) (f' := (mkF m 16 #[.val (.ref a1), .val (.ref b11), .val (.int (4 : Int32)), .val (.int (0 : Int32)), .unset] [(.int (0 : Int32)), (.ref b11)])) (fun t k => XS.iloadN X11.here hx rfl (hb hby d7_15) rfl k) ?_
  refine own_ldR (v := (.ref c0)) X11 hx hZ rfl (hb hby d7_16) A11 rfl (by decide) rfl ?_
  show own_Go p e below _ T11 (mkF m 17 #[.val (.ref a1), .val (.ref b11), .val (.int (4 : Int32)), .val (.int (0 : Int32)), .unset] [(.ref c0)])
  refine own_by (T' := T11) (f' := (mkF m 19 #[.val (.ref a1), .val (.ref b11), .val (.int (4 : Int32)), .val (.int (0 : Int32)), .val (.ref c0)] [])) (fun t k => XS.astore X11.here hx rfl (hb hby d7_17) rfl rfl (l' := #[.val (.ref a1), .val (.ref b11), .val (.int (4 : Int32)), .val (.int (0 : Int32)), .val (.ref c0)]) rfl k) ?_
  refine own_by (T' := T11) (f' := (mkF m 20 #[.val (.ref a1), .val (.ref b11), .val (.int (4 : Int32)), .val (.int (0 : Int32)), .val (.ref c0)] [(.ref a1)])) (fun t k => XS.aloadN X11.here hx rfl (hb hby d7_19) rfl rfl k) ?_
  refine own_by (T' := T11) (f' := (mkF m 22 #[.val (.ref a1), .val (.ref b11), .val (.int (4 : Int32)), .val (.int (0 : Int32)), .val (.ref c0)] [(.ref c0), (.ref a1)])) (fun t k => XS.aload X11.here hx rfl (hb hby d7_20) rfl rfl k) ?_
  have f14 := (FL0.keep K11 nin0)
  refine own_getF (host := "") X11 hx hZ hown rfl (hb hby d7_22) (Or.inl (hw _ (List.mem_of_getElem? (i := 54) rfl))) Via.refl f14 ?_
  intro T15 X15 e15
  show own_Go p e below _ T15 (mkF m 25 #[.val (.ref a1), .val (.ref b11), .val (.int (4 : Int32)), .val (.int (0 : Int32)), .val (.ref c0)] [(.int (79 : Int32)), (.ref a1)])
  have f16 := (own_sta_keep S0 K11 all0)
  refine own_callS X15 hx hZ hown e15 (hb hby d7_25) [(.int (79 : Int32))] [(.ref a1)] 1 (rmVO l Z a0 hw [] (79 : Int32) cs T11.heap n0 sz12 (by decide) hcs f16) (hw _ (List.mem_of_getElem? (i := 56) rfl)) (hw _ (List.mem_of_getElem? (i := 57) rfl)) (hw _ (List.mem_of_getElem? (i := 6) rfl)) (hw _ (List.mem_of_getElem? (i := 58) rfl)) (by decide) pd__C_Ljava_lang_String_ (by rw [hml]; rfl) rfl rfl (Nat.le_of_eq rfl) (by decide) (by decide) (by decide) (by decide) ?_
  rintro T17 _ L17 X17 ⟨a17, b17, rfl, N17q, K17, ga17, gb17, A17, C17, V17, B17⟩
  show own_Go p e below _ T17 (mkF m 28 #[.val (.ref a1), .val (.ref b11), .val (.int (4 : Int32)), .val (.int (0 : Int32)), .val (.ref c0)] [(.ref a17), (.ref a1)])
  have N17 := Fr.app N11 N17q
  have sz18 : n0 ≤ T17.heap.size := Nat.le_trans sz12 K17.1
  have K19 := K13.trans K17 all0
  have f20 := ((E1.keep K11).keep K17)
  have f21 := ((C1.keep K11 nin0).keep K17 nin0)
  have f22 := ((V1.keep K11 nin0).keep K17 nin0)
  have f23 := ((A1.keep K11 nin0).keep K17 nin0)
  have f24 := (own_sta_keep f16 K17 all0)
  refine own_callV X17 hx hZ hown rfl (hb hby d7_28) [(.ref a17)] [] 0 (rmEQ l Z a0 hw [] a1 a17 b1 b17 (1 : Int32) (1 : Int32) 1 1 (fun i => own_b8 ((fun _ => (66 : Int32)) i)) (fun _ => own_b8 (79 : Int32)) cs T17.heap f20 f21 f22 f23 (by decide) A17 C17 V17 B17 (by decide) hcs f24) f20 (hw _ (List.mem_of_getElem? (i := 70) rfl)) (hw _ (List.mem_of_getElem? (i := 71) rfl)) (notFace_of_selects (args := #[]) (mvT hZ (hw _ (List.mem_of_getElem? (i := 73) rfl)))) (hw _ (List.mem_of_getElem? (i := 73) rfl)) (hw _ (List.mem_of_getElem? (i := 72) rfl)) (hw _ (List.mem_of_getElem? (i := 6) rfl)) (hw _ (List.mem_of_getElem? (i := 74) rfl)) (by decide) pd__Ljava_lang_Object__Z (by rw [hml]; rfl) rfl rfl (Nat.le_of_eq rfl) (by decide) (by decide) (by decide) (by decide) ?_
  rintro T25 _ L25 X25 ⟨rfl, rfl, e25⟩
  show own_Go p e below _ T25 (mkF m 31 #[.val (.ref a1), .val (.ref b11), .val (.int (4 : Int32)), .val (.int (0 : Int32)), .val (.ref c0)] [(.int (own_eqA 1 (fun i => own_b8 ((fun _ => (66 : Int32)) i)) 1 (fun _ => own_b8 (79 : Int32))))])
  rw [List.append_nil] at X25
  rw [own_eqA_at (j := 0) (by decide) (by decide)]
  show own_Go p e below _ T25 (mkF m 31 #[.val (.ref a1), .val (.ref b11), .val (.int (4 : Int32)), .val (.int (0 : Int32)), .val (.ref c0)] [(.int (0 : Int32))])
  refine own_by (T' := T25) (f' := (mkF m 37 #[.val (.ref a1), .val (.ref b11), .val (.int (4 : Int32)), .val (.int (0 : Int32)), .val (.ref c0)] [])) (fun t k => XS.ifYes X25.here hx rfl (pc0 := 31) (pc' := 37) rfl (hb hby d7_31) rfl ((if0 _ _).trans (teq rfl).1) (by decide) (by decide) k) ?_
  refine own_by (T' := T25) (f' := (mkF m 40 #[.val (.ref a1), .val (.ref b11), .val (.int (4 : Int32)), .val (.int (1 : Int32)), .val (.ref c0)] [])) (fun t k => XS.iinc X25.here hx rfl (hb hby d7_37) rfl (l' := #[.val (.ref a1), .val (.ref b11), .val (.int (4 : Int32)), .val (.int (1 : Int32)), .val (.ref c0)]) rfl k) ?_
  refine own_by (T' := T25) (f' := (mkF m 9 #[.val (.ref a1), .val (.ref b11), .val (.int (4 : Int32)), .val (.int (1 : Int32)), .val (.ref c0)] [])) (fun t k => XS.goto X25.here hx rfl (pc0 := 40) (pc' := 9) rfl (hb hby d7_40) (by decide) (by decide) k) ?_
  refine own_by (T' := T25) (f' := (mkF m 10 #[.val (.ref a1), .val (.ref b11), .val (.int (4 : Int32)), .val (.int (1 : Int32)), .val (.ref c0)] [(.int (1 : Int32))])) (fun t k => XS.iloadN X25.here hx rfl (hb hby d7_9) rfl k) ?_
  refine own_by (T' := T25) (f' := (mkF m 11 #[.val (.ref a1), .val (.ref b11), .val (.int (4 : Int32)), .val (.int (1 : Int32)), .val (.ref c0)] [(.int (4 : Int32)), (.int (1 : Int32))])) (fun t k => XS.iloadN X25.here hx rfl (hb hby d7_10) rfl k) ?_
  refine own_by (T' := T25) (f' := (mkF m 14 #[.val (.ref a1), .val (.ref b11), .val (.int (4 : Int32)), .val (.int (1 : Int32)), .val (.ref c0)] [])) (fun t k => XS.icmpNo X25.here hx rfl (hb hby d7_11) rfl (tlt (by decide)).2.1 k) ?_
  refine own_by (T' := T25) (f' := (mkF m 15 #[.val (.ref a1), .val (.ref b11), .val (.int (4 : Int32)), .val (.int (1 : Int32)), .val (.ref c0)] [(.ref b11)])) (fun t k => XS.aloadN X25.here hx rfl (hb hby d7_14) rfl rfl k) ?_
  refine own_by (T' := T25) (f' := (mkF m 16 #[.val (.ref a1), .val (.ref b11), .val (.int (4 : Int32)), .val (.int (1 : Int32)), .val (.ref c0)] [(.int (1 : Int32)), (.ref b11)])) (fun t k => XS.iloadN X25.here hx rfl (hb hby d7_15) rfl k) ?_
  have f26 := (A11.keep K17 nin0)
  refine own_ldR (v := (.ref c1)) X25 hx hZ e25 (hb hby d7_16) f26 rfl (by decide) rfl ?_
  show own_Go p e below _ T25 (mkF m 17 #[.val (.ref a1), .val (.ref b11), .val (.int (4 : Int32)), .val (.int (1 : Int32)), .val (.ref c0)] [(.ref c1)])
  refine own_by (T' := T25) (f' := (mkF m 19 #[.val (.ref a1), .val (.ref b11), .val (.int (4 : Int32)), .val (.int (1 : Int32)), .val (.ref c1)] [])) (fun t k => XS.astore X25.here hx rfl (hb hby d7_17) rfl rfl (l' := #[.val (.ref a1), .val (.ref b11), .val (.int (4 : Int32)), .val (.int (1 : Int32)), .val (.ref c1)]) rfl k) ?_
  refine own_by (T' := T25) (f' := (mkF m 20 #[.val (.ref a1), .val (.ref b11), .val (.int (4 : Int32)), .val (.int (1 : Int32)), .val (.ref c1)] [(.ref a1)])) (fun t k => XS.aloadN X25.here hx rfl (hb hby d7_19) rfl rfl k) ?_
  refine own_by (T' := T25) (f' := (mkF m 22 #[.val (.ref a1), .val (.ref b11), .val (.int (4 : Int32)), .val (.int (1 : Int32)), .val (.ref c1)] [(.ref c1), (.ref a1)])) (fun t k => XS.aload X25.here hx rfl (hb hby d7_20) rfl rfl k) ?_
  have f27 := ((FL1.keep K11 nin0).keep K17 nin0)
  refine own_getF (host := "") X25 hx hZ hown e25 (hb hby d7_22) (Or.inl (hw _ (List.mem_of_getElem? (i := 54) rfl))) Via.refl f27 ?_
  intro T28 X28 e28
  show own_Go p e below _ T28 (mkF m 25 #[.val (.ref a1), .val (.ref b11), .val (.int (4 : Int32)), .val (.int (1 : Int32)), .val (.ref c1)] [(.int (67 : Int32)), (.ref a1)])
  refine own_callS X28 hx hZ hown e28 (hb hby d7_25) [(.int (67 : Int32))] [(.ref a1)] 1 (rmVO l Z a0 hw [] (67 : Int32) cs T17.heap n0 sz18 (by decide) hcs f24) (hw _ (List.mem_of_getElem? (i := 56) rfl)) (hw _ (List.mem_of_getElem? (i := 57) rfl)) (hw _ (List.mem_of_getElem? (i := 6) rfl)) (hw _ (List.mem_of_getElem? (i := 58) rfl)) (by decide) pd__C_Ljava_lang_String_ (by rw [hml]; rfl) rfl rfl (Nat.le_of_eq rfl) (by decide) (by decide) (by decide) (by decide) ?_
  rintro T29 _ L29 X29 ⟨a29, b29, rfl, N29q, K29, ga29, gb29, A29, C29, V29, B29⟩
  show own_Go p e below _ T29 (mkF m 28 #[.val (.ref a1), .val (.ref b11), .val (.int (4 : Int32)), .val (.int (1 : Int32)), .val (.ref c1)] [(.ref a29), (.ref a1)])
  have N29 := Fr.app N17 N29q
  have sz30 : n0 ≤ T29.heap.size := Nat.le_trans sz18 K29.1
  have K31 := K19.trans K29 all0
  have f32 := (f20.keep K29)
  have f33 := (f21.keep K29 nin0)
  have f34 := (f22.keep K29 nin0)
  have f35 := (f23.keep K29 nin0)
  have f36 := (own_sta_keep f24 K29 all0)
  refine own_callV X29 hx hZ hown rfl (hb hby d7_28) [(.ref a29)] [] 0 (rmEQ l Z a0 hw [] a1 a29 b1 b29 (1 : Int32) (1 : Int32) 1 1 (fun i => own_b8 ((fun _ => (66 : Int32)) i)) (fun _ => own_b8 (67 : Int32)) cs T29.heap f32 f33 f34 f35 (by decide) A29 C29 V29 B29 (by decide) hcs f36) f32 (hw _ (List.mem_of_getElem? (i := 70) rfl)) (hw _ (List.mem_of_getElem? (i := 71) rfl)) (notFace_of_selects (args := #[]) (mvT hZ (hw _ (List.mem_of_getElem? (i := 73) rfl)))) (hw _ (List.mem_of_getElem? (i := 73) rfl)) (hw _ (List.mem_of_getElem? (i := 72) rfl)) (hw _ (List.mem_of_getElem? (i := 6) rfl)) (hw _ (List.mem_of_getElem? (i := 74) rfl)) (by decide) pd__Ljava_lang_Object__Z (by rw [hml]; rfl) rfl rfl (Nat.le_of_eq rfl) (by decide) (by decide) (by decide) (by decide) ?_
  rintro T37 _ L37 X37 ⟨rfl, rfl, e37⟩
  show own_Go p e below _ T37 (mkF m 31 #[.val (.ref a1), .val (.ref b11), .val (.int (4 : Int32)), .val (.int (1 : Int32)), .val (.ref c1)] [(.int (own_eqA 1 (fun i => own_b8 ((fun _ => (66 : Int32)) i)) 1 (fun _ => own_b8 (67 : Int32))))])
  rw [List.append_nil] at X37
  rw [own_eqA_at (j := 0) (by decide) (by decide)]
  show own_Go p e below _ T37 (mkF m 31 #[.val (.ref a1), .val (.ref b11), .val (.int (4 : Int32)), .val (.int (1 : Int32)), .val (.ref c1)] [(.int (0 : Int32))])
  refine own_by (T' := T37) (f' := (mkF m 37 #[.val (.ref a1), .val (.ref b11), .val (.int (4 : Int32)), .val (.int (1 : Int32)), .val (.ref c1)] [])) (fun t k => XS.ifYes X37.here hx rfl (pc0 := 31) (pc' := 37) rfl (hb hby d7_31) rfl ((if0 _ _).trans (teq rfl).1) (by decide) (by decide) k) ?_
  refine own_by (T' := T37) (f' := (mkF m 40 #[.val (.ref a1), .val (.ref b11), .val (.int (4 : Int32)), .val (.int (2 : Int32)), .val (.ref c1)] [])) (fun t k => XS.iinc X37.here hx rfl (hb hby d7_37) rfl (l' := #[.val (.ref a1), .val (.ref b11), .val (.int (4 : Int32)), .val (.int (2 : Int32)), .val (.ref c1)]) rfl k) ?_
  refine own_by (T' := T37) (f' := (mkF m 9 #[.val (.ref a1), .val (.ref b11), .val (.int (4 : Int32)), .val (.int (2 : Int32)), .val (.ref c1)] [])) (fun t k => XS.goto X37.here hx rfl (pc0 := 40) (pc' := 9) rfl (hb hby d7_40) (by decide) (by decide) k) ?_
  refine own_by (T' := T37) (f' := (mkF m 10 #[.val (.ref a1), .val (.ref b11), .val (.int (4 : Int32)), .val (.int (2 : Int32)), .val (.ref c1)] [(.int (2 : Int32))])) (fun t k => XS.iloadN X37.here hx rfl (hb hby d7_9) rfl k) ?_
  refine own_by (T' := T37) (f' := (mkF m 11 #[.val (.ref a1), .val (.ref b11), .val (.int (4 : Int32)), .val (.int (2 : Int32)), .val (.ref c1)] [(.int (4 : Int32)), (.int (2 : Int32))])) (fun t k => XS.iloadN X37.here hx rfl (hb hby d7_10) rfl k) ?_
  refine own_by (T' := T37) (f' := (mkF m 14 #[.val (.ref a1), .val (.ref b11), .val (.int (4 : Int32)), .val (.int (2 : Int32)), .val (.ref c1)] [])) (fun t k => XS.icmpNo X37.here hx rfl (hb hby d7_11) rfl (tlt (by decide)).2.1 k) ?_
  refine own_by (T' := T37) (f' := (mkF m 15 #[.val (.ref a1), .val (.ref b11), .val (.int (4 : Int32)), .val (.int (2 : Int32)), .val (.ref c1)] [(.ref b11)])) (fun t k => XS.aloadN X37.here hx rfl (hb hby d7_14) rfl rfl k) ?_
  refine own_by (T' := T37) (f' := (mkF m 16 #[.val (.ref a1), .val (.ref b11), .val (.int (4 : Int32)), .val (.int (2 : Int32)), .val (.ref c1)] [(.int (2 : Int32)), (.ref b11)])) (fun t k => XS.iloadN X37.here hx rfl (hb hby d7_15) rfl k) ?_
  have f38 := (f26.keep K29 nin0)
  refine own_ldR (v := (.ref c2)) X37 hx hZ e37 (hb hby d7_16) f38 rfl (by decide) rfl ?_
  show own_Go p e below _ T37 (mkF m 17 #[.val (.ref a1), .val (.ref b11), .val (.int (4 : Int32)), .val (.int (2 : Int32)), .val (.ref c1)] [(.ref c2)])
  refine own_by (T' := T37) (f' := (mkF m 19 #[.val (.ref a1), .val (.ref b11), .val (.int (4 : Int32)), .val (.int (2 : Int32)), .val (.ref c2)] [])) (fun t k => XS.astore X37.here hx rfl (hb hby d7_17) rfl rfl (l' := #[.val (.ref a1), .val (.ref b11), .val (.int (4 : Int32)), .val (.int (2 : Int32)), .val (.ref c2)]) rfl k) ?_
  refine own_by (T' := T37) (f' := (mkF m 20 #[.val (.ref a1), .val (.ref b11), .val (.int (4 : Int32)), .val (.int (2 : Int32)), .val (.ref c2)] [(.ref a1)])) (fun t k => XS.aloadN X37.here hx rfl (hb hby d7_19) rfl rfl k) ?_
  refine own_by (T' := T37) (f' := (mkF m 22 #[.val (.ref a1), .val (.ref b11), .val (.int (4 : Int32)), .val (.int (2 : Int32)), .val (.ref c2)] [(.ref c2), (.ref a1)])) (fun t k => XS.aload X37.here hx rfl (hb hby d7_20) rfl rfl k) ?_
  have f39 := (((FL2.keep K11 nin0).keep K17 nin0).keep K29 nin0)
  refine own_getF (host := "") X37 hx hZ hown e37 (hb hby d7_22) (Or.inl (hw _ (List.mem_of_getElem? (i := 54) rfl))) Via.refl f39 ?_
  intro T40 X40 e40
  show own_Go p e below _ T40 (mkF m 25 #[.val (.ref a1), .val (.ref b11), .val (.int (4 : Int32)), .val (.int (2 : Int32)), .val (.ref c2)] [(.int (69 : Int32)), (.ref a1)])
  refine own_callS X40 hx hZ hown e40 (hb hby d7_25) [(.int (69 : Int32))] [(.ref a1)] 1 (rmVO l Z a0 hw [] (69 : Int32) cs T29.heap n0 sz30 (by decide) hcs f36) (hw _ (List.mem_of_getElem? (i := 56) rfl)) (hw _ (List.mem_of_getElem? (i := 57) rfl)) (hw _ (List.mem_of_getElem? (i := 6) rfl)) (hw _ (List.mem_of_getElem? (i := 58) rfl)) (by decide) pd__C_Ljava_lang_String_ (by rw [hml]; rfl) rfl rfl (Nat.le_of_eq rfl) (by decide) (by decide) (by decide) (by decide) ?_
  rintro T41 _ L41 X41 ⟨a41, b41, rfl, N41q, K41, ga41, gb41, A41, C41, V41, B41⟩
  show own_Go p e below _ T41 (mkF m 28 #[.val (.ref a1), .val (.ref b11), .val (.int (4 : Int32)), .val (.int (2 : Int32)), .val (.ref c2)] [(.ref a41), (.ref a1)])
  have N41 := Fr.app N29 N41q
  have sz42 : n0 ≤ T41.heap.size := Nat.le_trans sz30 K41.1
  have K43 := K31.trans K41 all0
  have f44 := (f32.keep K41)
  have f45 := (f33.keep K41 nin0)
  have f46 := (f34.keep K41 nin0)
  have f47 := (f35.keep K41 nin0)
  have f48 := (own_sta_keep f36 K41 all0)
  refine own_callV X41 hx hZ hown rfl (hb hby d7_28) [(.ref a41)] [] 0 (rmEQ l Z a0 hw [] a1 a41 b1 b41 (1 : Int32) (1 : Int32) 1 1 (fun i => own_b8 ((fun _ => (66 : Int32)) i)) (fun _ => own_b8 (69 : Int32)) cs T41.heap f44 f45 f46 f47 (by decide) A41 C41 V41 B41 (by decide) hcs f48) f44 (hw _ (List.mem_of_getElem? (i := 70) rfl)) (hw _ (List.mem_of_getElem? (i := 71) rfl)) (notFace_of_selects (args := #[]) (mvT hZ (hw _ (List.mem_of_getElem? (i := 73) rfl)))) (hw _ (List.mem_of_getElem? (i := 73) rfl)) (hw _ (List.mem_of_getElem? (i := 72) rfl)) (hw _ (List.mem_of_getElem? (i := 6) rfl)) (hw _ (List.mem_of_getElem? (i := 74) rfl)) (by decide) pd__Ljava_lang_Object__Z (by rw [hml]; rfl) rfl rfl (Nat.le_of_eq rfl) (by decide) (by decide) (by decide) (by decide) ?_
  rintro T49 _ L49 X49 ⟨rfl, rfl, e49⟩
  show own_Go p e below _ T49 (mkF m 31 #[.val (.ref a1), .val (.ref b11), .val (.int (4 : Int32)), .val (.int (2 : Int32)), .val (.ref c2)] [(.int (own_eqA 1 (fun i => own_b8 ((fun _ => (66 : Int32)) i)) 1 (fun _ => own_b8 (69 : Int32))))])
  rw [List.append_nil] at X49
  rw [own_eqA_at (j := 0) (by decide) (by decide)]
  show own_Go p e below _ T49 (mkF m 31 #[.val (.ref a1), .val (.ref b11), .val (.int (4 : Int32)), .val (.int (2 : Int32)), .val (.ref c2)] [(.int (0 : Int32))])
  refine own_by (T' := T49) (f' := (mkF m 37 #[.val (.ref a1), .val (.ref b11), .val (.int (4 : Int32)), .val (.int (2 : Int32)), .val (.ref c2)] [])) (fun t k => XS.ifYes X49.here hx rfl (pc0 := 31) (pc' := 37) rfl (hb hby d7_31) rfl ((if0 _ _).trans (teq rfl).1) (by decide) (by decide) k) ?_
  refine own_by (T' := T49) (f' := (mkF m 40 #[.val (.ref a1), .val (.ref b11), .val (.int (4 : Int32)), .val (.int (3 : Int32)), .val (.ref c2)] [])) (fun t k => XS.iinc X49.here hx rfl (hb hby d7_37) rfl (l' := #[.val (.ref a1), .val (.ref b11), .val (.int (4 : Int32)), .val (.int (3 : Int32)), .val (.ref c2)]) rfl k) ?_
  refine own_by (T' := T49) (f' := (mkF m 9 #[.val (.ref a1), .val (.ref b11), .val (.int (4 : Int32)), .val (.int (3 : Int32)), .val (.ref c2)] [])) (fun t k => XS.goto X49.here hx rfl (pc0 := 40) (pc' := 9) rfl (hb hby d7_40) (by decide) (by decide) k) ?_
  refine own_by (T' := T49) (f' := (mkF m 10 #[.val (.ref a1), .val (.ref b11), .val (.int (4 : Int32)), .val (.int (3 : Int32)), .val (.ref c2)] [(.int (3 : Int32))])) (fun t k => XS.iloadN X49.here hx rfl (hb hby d7_9) rfl k) ?_
  refine own_by (T' := T49) (f' := (mkF m 11 #[.val (.ref a1), .val (.ref b11), .val (.int (4 : Int32)), .val (.int (3 : Int32)), .val (.ref c2)] [(.int (4 : Int32)), (.int (3 : Int32))])) (fun t k => XS.iloadN X49.here hx rfl (hb hby d7_10) rfl k) ?_
  refine own_by (T' := T49) (f' := (mkF m 14 #[.val (.ref a1), .val (.ref b11), .val (.int (4 : Int32)), .val (.int (3 : Int32)), .val (.ref c2)] [])) (fun t k => XS.icmpNo X49.here hx rfl (hb hby d7_11) rfl (tlt (by decide)).2.1 k) ?_
  refine own_by (T' := T49) (f' := (mkF m 15 #[.val (.ref a1), .val (.ref b11), .val (.int (4 : Int32)), .val (.int (3 : Int32)), .val (.ref c2)] [(.ref b11)])) (fun t k => XS.aloadN X49.here hx rfl (hb hby d7_14) rfl rfl k) ?_
  refine own_by (T' := T49) (f' := (mkF m 16 #[.val (.ref a1), .val (.ref b11), .val (.int (4 : Int32)), .val (.int (3 : Int32)), .val (.ref c2)] [(.int (3 : Int32)), (.ref b11)])) (fun t k => XS.iloadN X49.here hx rfl (hb hby d7_15) rfl k) ?_
  have f50 := (f38.keep K41 nin0)
  refine own_ldR (v := (.ref c3)) X49 hx hZ e49 (hb hby d7_16) f50 rfl (by decide) rfl ?_
  show own_Go p e below _ T49 (mkF m 17 #[.val (.ref a1), .val (.ref b11), .val (.int (4 : Int32)), .val (.int (3 : Int32)), .val (.ref c2)] [(.ref c3)])
  refine own_by (T' := T49) (f' := (mkF m 19 #[.val (.ref a1), .val (.ref b11), .val (.int (4 : Int32)), .val (.int (3 : Int32)), .val (.ref c3)] [])) (fun t k => XS.astore X49.here hx rfl (hb hby d7_17) rfl rfl (l' := #[.val (.ref a1), .val (.ref b11), .val (.int (4 : Int32)), .val (.int (3 : Int32)), .val (.ref c3)]) rfl k) ?_
  refine own_by (T' := T49) (f' := (mkF m 20 #[.val (.ref a1), .val (.ref b11), .val (.int (4 : Int32)), .val (.int (3 : Int32)), .val (.ref c3)] [(.ref a1)])) (fun t k => XS.aloadN X49.here hx rfl (hb hby d7_19) rfl rfl k) ?_
  refine own_by (T' := T49) (f' := (mkF m 22 #[.val (.ref a1), .val (.ref b11), .val (.int (4 : Int32)), .val (.int (3 : Int32)), .val (.ref c3)] [(.ref c3), (.ref a1)])) (fun t k => XS.aload X49.here hx rfl (hb hby d7_20) rfl rfl k) ?_
  have f51 := ((((FL3.keep K11 nin0).keep K17 nin0).keep K29 nin0).keep K41 nin0)
  refine own_getF (host := "") X49 hx hZ hown e49 (hb hby d7_22) (Or.inl (hw _ (List.mem_of_getElem? (i := 54) rfl))) Via.refl f51 ?_
  intro T52 X52 e52
  show own_Go p e below _ T52 (mkF m 25 #[.val (.ref a1), .val (.ref b11), .val (.int (4 : Int32)), .val (.int (3 : Int32)), .val (.ref c3)] [(.int (66 : Int32)), (.ref a1)])
  refine own_callS X52 hx hZ hown e52 (hb hby d7_25) [(.int (66 : Int32))] [(.ref a1)] 1 (rmVO l Z a0 hw [] (66 : Int32) cs T41.heap n0 sz42 (by decide) hcs f48) (hw _ (List.mem_of_getElem? (i := 56) rfl)) (hw _ (List.mem_of_getElem? (i := 57) rfl)) (hw _ (List.mem_of_getElem? (i := 6) rfl)) (hw _ (List.mem_of_getElem? (i := 58) rfl)) (by decide) pd__C_Ljava_lang_String_ (by rw [hml]; rfl) rfl rfl (Nat.le_of_eq rfl) (by decide) (by decide) (by decide) (by decide) ?_
  rintro T53 _ L53 X53 ⟨a53, b53, rfl, N53q, K53, ga53, gb53, A53, C53, V53, B53⟩
  show own_Go p e below _ T53 (mkF m 28 #[.val (.ref a1), .val (.ref b11), .val (.int (4 : Int32)), .val (.int (3 : Int32)), .val (.ref c3)] [(.ref a53), (.ref a1)])
  have N53 := Fr.app N41 N53q
  have sz54 : n0 ≤ T53.heap.size := Nat.le_trans sz42 K53.1
  have K55 := K43.trans K53 all0
  have f56 := (f44.keep K53)
  have f57 := (f45.keep K53 nin0)
  have f58 := (f46.keep K53 nin0)
  have f59 := (f47.keep K53 nin0)
  have f60 := (own_sta_keep f48 K53 all0)
  refine own_callV X53 hx hZ hown rfl (hb hby d7_28) [(.ref a53)] [] 0 (rmEQ l Z a0 hw [] a1 a53 b1 b53 (1 : Int32) (1 : Int32) 1 1 (fun i => own_b8 ((fun _ => (66 : Int32)) i)) (fun _ => own_b8 (66 : Int32)) cs T53.heap f56 f57 f58 f59 (by decide) A53 C53 V53 B53 (by decide) hcs f60) f56 (hw _ (List.mem_of_getElem? (i := 70) rfl)) (hw _ (List.mem_of_getElem? (i := 71) rfl)) (notFace_of_selects (args := #[]) (mvT hZ (hw _ (List.mem_of_getElem? (i := 73) rfl)))) (hw _ (List.mem_of_getElem? (i := 73) rfl)) (hw _ (List.mem_of_getElem? (i := 72) rfl)) (hw _ (List.mem_of_getElem? (i := 6) rfl)) (hw _ (List.mem_of_getElem? (i := 74) rfl)) (by decide) pd__Ljava_lang_Object__Z (by rw [hml]; rfl) rfl rfl (Nat.le_of_eq rfl) (by decide) (by decide) (by decide) (by decide) ?_
  rintro T61 _ L61 X61 ⟨rfl, rfl, e61⟩
  show own_Go p e below _ T61 (mkF m 31 #[.val (.ref a1), .val (.ref b11), .val (.int (4 : Int32)), .val (.int (3 : Int32)), .val (.ref c3)] [(.int (own_eqA 1 (fun i => own_b8 ((fun _ => (66 : Int32)) i)) 1 (fun _ => own_b8 (66 : Int32))))])
  rw [List.append_nil] at X61
  rw [own_eqA_all rfl (fun _ _ => rfl)]
  show own_Go p e below _ T61 (mkF m 31 #[.val (.ref a1), .val (.ref b11), .val (.int (4 : Int32)), .val (.int (3 : Int32)), .val (.ref c3)] [(.int (1 : Int32))])
  refine own_by (T' := T61) (f' := (mkF m 34 #[.val (.ref a1), .val (.ref b11), .val (.int (4 : Int32)), .val (.int (3 : Int32)), .val (.ref c3)] [])) (fun t k => XS.ifNo X61.here hx rfl (hb hby d7_31) rfl ((if0 _ _).trans (feq (by decide)).1) k) ?_
  refine own_by (T' := T61) (f' := (mkF m 36 #[.val (.ref a1), .val (.ref b11), .val (.int (4 : Int32)), .val (.int (3 : Int32)), .val (.ref c3)] [(.ref c3)])) (fun t k => XS.aload X61.here hx rfl (hb hby d7_34) rfl rfl k) ?_
  refine own_retA X61 hx hret hlk (hb hby d7_36) rfl rfl rfl (by decide) (by decide) ?_
  try rw [e61]
  exact ⟨rfl, N53, K55⟩
theorem ef_rmL (m : MethodId) (x0 : Addr) : entryFrame m #[(.ref x0)] 1 = mkF m 0 #[.val (.ref x0)] [] := by first | (simp [entryFrame, mkF, argsToLocals, Value.category]; done) | rfl
set_option maxRecDepth 65536 in
set_option maxHeartbeats 40000000 in
theorem rmL (l : Launch) (Z : State) (a0 : Array Value) (hw : ∀ d ∈ tables_1, d.before a0 Z = true) (ws : List Jvm.Cond) (a1 : Addr) (p1 : Int32) (h0 : Heap) (hp : narrow .char (.int p1) = .int p1) (F1 : Fld Z h0 a1 "com/example/tablee/tablee/rules/cards/SpanishSuit" "letter" "C" (.int p1)) :
    own_Ct l Z (⟨"com/example/tablee/tablee/rules/cards/SpanishSuit", "letter", "()C"⟩ : MethodName) prog_7_method_5_code 1 (some .char) ws ({ frames := 0, cells := 0, slots := 0, locals := 0 } : Room) #[(.ref a1)] h0 (fun v h L => v = some (.int p1) ∧ L = [] ∧ h = h0) := by
  refine own_of pn_com_example_tablee_tablee_rules_cards_SpanishSuit ?_
  intro p e s m below meth c s₁ hx hby hml hown hnm hret hlk hZ X0 e0
  rw [ef_rmL]
  refine own_by (T' := s₁) (f' := (mkF m 1 #[.val (.ref a1)] [(.ref a1)])) (fun t k => XS.aloadN X0.here hx rfl (hb hby d15_0) rfl rfl k) ?_
  refine own_getF (host := "") X0 hx hZ hown e0 (hb hby d15_1) (Or.inl (hw _ (List.mem_of_getElem? (i := 54) rfl))) Via.refl F1 ?_
  intro T11 X11 e11
  show own_Go p e below _ T11 (mkF m 4 #[.val (.ref a1)] [(.int p1)])
  refine own_ret X11 hx hret hlk (hb hby d15_4) hp (Or.inl ⟨rfl, Or.inr (Or.inr (Or.inr (Or.inl rfl))), _, rfl⟩) (by decide) (by decide) ?_
  try rw [e11]
  exact ⟨rfl, rfl, rfl⟩
theorem ef_rm0 (m : MethodId) (x0 : Int32) : entryFrame m #[(.int x0)] maxLocals = mkF m 0 #[.val (.int x0), .unset, .unset, .unset, .unset, .unset, .unset] [] := by first | (simp [entryFrame, mkF, argsToLocals, Value.category, maxLocals]; done) | rfl
set_option maxRecDepth 65536 in
set_option maxHeartbeats 40000000 in
theorem rm0 (l : Launch) (Z : State) (a0 : Array Value) (hw : ∀ d ∈ tables_1, d.before a0 Z = true) (ws : List Jvm.Cond) (i0 : Int32) (r0 c0 c1 c2 c3 : Addr) (kk : ClassId) (cs : Int32) (h0 : Heap) (n0 : Nat) (Z0 : n0 ≤ h0.size) (SV : Sta Z h0 "com/example/tablee/tablee/rules/cards/SpanishSuit" "$VALUES" "[Lcom/example/tablee/tablee/rules/cards/SpanishSuit;" (.ref r0)) (EV : Exa Z h0 r0 "[Lcom/example/tablee/tablee/rules/cards/SpanishSuit;") (AV : Arv Z h0 r0 kk (.object "com/example/tablee/tablee/rules/cards/SpanishSuit") (4 : Int32) [(.ref c0), (.ref c1), (.ref c2), (.ref c3)] .null) (FL0 : Fld Z h0 c0 "com/example/tablee/tablee/rules/cards/SpanishSuit" "letter" "C" (.int 79)) (FL1 : Fld Z h0 c1 "com/example/tablee/tablee/rules/cards/SpanishSuit" "letter" "C" (.int 67)) (FL2 : Fld Z h0 c2 "com/example/tablee/tablee/rules/cards/SpanishSuit" "letter" "C" (.int 69)) (FL3 : Fld Z h0 c3 "com/example/tablee/tablee/rules/cards/SpanishSuit" "letter" "C" (.int 66)) (EC0 : Exa Z h0 c0 "com/example/tablee/tablee/rules/cards/SpanishSuit") (SC0 : Sta Z h0 "com/example/tablee/tablee/rules/cards/SpanishSuit" "OROS" "Lcom/example/tablee/tablee/rules/cards/SpanishSuit;" (.ref c0)) (EC1 : Exa Z h0 c1 "com/example/tablee/tablee/rules/cards/SpanishSuit") (SC1 : Sta Z h0 "com/example/tablee/tablee/rules/cards/SpanishSuit" "COPAS" "Lcom/example/tablee/tablee/rules/cards/SpanishSuit;" (.ref c1)) (EC2 : Exa Z h0 c2 "com/example/tablee/tablee/rules/cards/SpanishSuit") (SC2 : Sta Z h0 "com/example/tablee/tablee/rules/cards/SpanishSuit" "ESPADAS" "Lcom/example/tablee/tablee/rules/cards/SpanishSuit;" (.ref c2)) (EC3 : Exa Z h0 c3 "com/example/tablee/tablee/rules/cards/SpanishSuit") (SC3 : Sta Z h0 "com/example/tablee/tablee/rules/cards/SpanishSuit" "BASTOS" "Lcom/example/tablee/tablee/rules/cards/SpanishSuit;" (.ref c3)) (hcs : ¬ (cs = (0 : Int32))) (S0 : Sta Z h0 "java/lang/String" "COMPACT_STRINGS" "Z" (.int cs)) :
    own_Ct l Z x code maxLocals ret ws room_1 #[(.int i0)] h0 (fun v h L => v = some (.int 1) ∧ Fr n0 L) := by
  refine own_of pn_com_example_tablee_tablee_rules_cards_SpanishSuitParsePinLaw ?_
  intro p e s m below meth c s₁ hx hby hml hown hnm hret hlk hZ X0 e0
  have N0 := Fr.nil n0
  rw [ef_rm0]
  refine own_by (T' := s₁) (f' := (mkF m 1 #[.val (.int i0), .unset, .unset, .unset, .unset, .unset, .unset] [(.int i0)])) (fun t k => XS.iloadN X0.here hx rfl (hb hby at_0) rfl k) ?_
  refine own_by (T' := s₁) (f' := (mkF m 2 #[.val (.int i0), .unset, .unset, .unset, .unset, .unset, .unset] [(.int (3 : Int32)), (.int i0)])) (fun t k => XS.iconst X0.here hx rfl (hb hby at_1) k) ?_
  refine own_by (T' := s₁) (f' := (mkF m 3 #[.val (.int i0), .unset, .unset, .unset, .unset, .unset, .unset] [(.int (i0 &&& (3 : Int32)))])) (fun t k => XS.iand X0.here hx rfl (hb hby at_2) rfl k) ?_
  obtain ⟨v0, hv0⟩ : ∃ z : Int32, z = (i0 &&& (3 : Int32)) := ⟨_, rfl⟩
  rw [← hv0]
  show own_Go p e below _ s₁ (mkF m 3 #[.val (.int i0), .unset, .unset, .unset, .unset, .unset, .unset] [(.int v0)])
  refine own_by (T' := s₁) (f' := (mkF m 4 #[.val (.int i0), .val (.int v0), .unset, .unset, .unset, .unset, .unset] [])) (fun t k => XS.istoreN X0.here hx rfl (hb hby at_3) rfl (l' := #[.val (.int i0), .val (.int v0), .unset, .unset, .unset, .unset, .unset]) rfl k) ?_
  refine own_by (T' := s₁) (f' := (mkF m 5 #[.val (.int i0), .val (.int v0), .unset, .unset, .unset, .unset, .unset] [(.int v0)])) (fun t k => XS.iloadN X0.here hx rfl (hb hby at_4) rfl k) ?_
  by_cases hc5_11 : v0 = (0 : Int32)
  · have _ := X0
    refine own_by (T' := s₁) (f' := (mkF m 8 #[.val (.int i0), .val (.int v0), .unset, .unset, .unset, .unset, .unset] [])) (fun t k => XS.ifNo X0.here hx rfl (hb hby at_5) rfl ((if0 _ _).trans (teq hc5_11).2) k) ?_
    refine own_by (T' := s₁) (f' := (mkF m 10 #[.val (.int i0), .val (.int v0), .unset, .unset, .unset, .unset, .unset] [(.int (79 : Int32))])) (fun t k => XS.bipush X0.here hx rfl (hb hby at_8) k) ?_
    refine own_by (T' := s₁) (f' := (mkF m 11 #[.val (.int i0), .val (.int v0), .val (.int (79 : Int32)), .unset, .unset, .unset, .unset] [])) (fun t k => XS.istoreN X0.here hx rfl (hb hby at_10) rfl (l' := #[.val (.int i0), .val (.int v0), .val (.int (79 : Int32)), .unset, .unset, .unset, .unset]) rfl k) ?_
    refine own_getS (host := "") X0 hx hZ hown e0 (hb hby at_11) (Or.inl (hw _ (List.mem_of_getElem? (i := 0) rfl))) Via.refl SC0 ?_
    intro T12 X12 e12
    show own_Go p e below _ T12 (mkF m 14 #[.val (.int i0), .val (.int v0), .val (.int (79 : Int32)), .unset, .unset, .unset, .unset] [(.ref c0)])
    refine own_by (T' := T12) (f' := (mkF m 15 #[.val (.int i0), .val (.int v0), .val (.int (79 : Int32)), .val (.ref c0), .unset, .unset, .unset] [])) (fun t k => XS.astoreN X12.here hx rfl (hb hby at_14) rfl rfl (l' := #[.val (.int i0), .val (.int v0), .val (.int (79 : Int32)), .val (.ref c0), .unset, .unset, .unset]) rfl k) ?_
    refine own_by (T' := T12) (f' := (mkF m 55 #[.val (.int i0), .val (.int v0), .val (.int (79 : Int32)), .val (.ref c0), .unset, .unset, .unset] [])) (fun t k => XS.goto X12.here hx rfl (pc0 := 15) (pc' := 55) rfl (hb hby at_15) (by decide) (by decide) k) ?_
    refine own_by (T' := T12) (f' := (mkF m 56 #[.val (.int i0), .val (.int v0), .val (.int (79 : Int32)), .val (.ref c0), .unset, .unset, .unset] [(.int (1 : Int32))])) (fun t k => XS.iconst X12.here hx rfl (hb hby at_55) k) ?_
    refine own_mkA X12 hx hZ e12 (hb hby at_56) (hw _ (List.mem_of_getElem? (i := 3) rfl)) (v := 0) rfl (by decide) 1 (by decide) (by decide) (by decide) (by decide) ?_
    intro T13 h13 b13 X13 e13 g13 E13 A13r
    have ne13_r0 : r0 ≠ b13 := Nat.ne_of_lt (by rw [g13]; exact AV.lt)
    have ne13_c0 : c0 ≠ b13 := Nat.ne_of_lt (by rw [g13]; exact FL0.lt)
    have ne13_c1 : c1 ≠ b13 := Nat.ne_of_lt (by rw [g13]; exact FL1.lt)
    have ne13_c2 : c2 ≠ b13 := Nat.ne_of_lt (by rw [g13]; exact FL2.lt)
    have ne13_c3 : c3 ≠ b13 := Nat.ne_of_lt (by rw [g13]; exact FL3.lt)
    have gn13 : n0 ≤ b13 := by rw [g13]; exact Z0
    show own_Go p e below _ T13 (mkF m 58 #[.val (.int i0), .val (.int v0), .val (.int (79 : Int32)), .val (.ref c0), .unset, .unset, .unset] [(.ref b13)])
    have A13 : own_A Z h13 b13 .char 1 (fun _ => 0) := A13r
    have sz14 : n0 ≤ h13.size := Nat.le_trans Z0 E13.1
    refine own_by (T' := T13) (f' := (mkF m 60 #[.val (.int i0), .val (.int v0), .val (.int (79 : Int32)), .val (.ref c0), .val (.ref b13), .unset, .unset] [])) (fun t k => XS.astore X13.here hx rfl (hb hby at_58) rfl rfl (l' := #[.val (.int i0), .val (.int v0), .val (.int (79 : Int32)), .val (.ref c0), .val (.ref b13), .unset, .unset]) rfl k) ?_
    refine own_by (T' := T13) (f' := (mkF m 62 #[.val (.int i0), .val (.int v0), .val (.int (79 : Int32)), .val (.ref c0), .val (.ref b13), .unset, .unset] [(.ref b13)])) (fun t k => XS.aload X13.here hx rfl (hb hby at_60) rfl rfl k) ?_
    refine own_by (T' := T13) (f' := (mkF m 63 #[.val (.int i0), .val (.int v0), .val (.int (79 : Int32)), .val (.ref c0), .val (.ref b13), .unset, .unset] [(.int (0 : Int32)), (.ref b13)])) (fun t k => XS.iconst X13.here hx rfl (hb hby at_62) k) ?_
    refine own_by (T' := T13) (f' := (mkF m 64 #[.val (.int i0), .val (.int v0), .val (.int (79 : Int32)), .val (.ref c0), .val (.ref b13), .unset, .unset] [(.int (79 : Int32)), (.int (0 : Int32)), (.ref b13)])) (fun t k => XS.iloadN X13.here hx rfl (hb hby at_63) rfl k) ?_
    have _ : (0 : Int32).toInt = 0 := by decide
    refine own_stC X13 hx hZ e13 (hb hby at_64) A13 (by first | decide | omega) (by first | decide | omega) ?_
    intro T15 h15 X15 e15 W15 A15
    show own_Go p e below _ T15 (mkF m 65 #[.val (.int i0), .val (.int v0), .val (.int (79 : Int32)), .val (.ref c0), .val (.ref b13), .unset, .unset] [])
    have sz16 : n0 ≤ h15.size := by rw [W15.size]; exact sz14
    have N15 := Fr.snoc X15 N0 gn13
    have A17 : own_A Z h15 b13 .char 1 (fun _ => (79 : Int32)) := A15.congr (fun i hi => by rw [if_pos (show i = (0 : Int32).toInt.toNat from (show i = 0 from by omega))]; rfl)
    refine own_new X15 hx hZ hown e15 (hb hby at_65) (hw _ (List.mem_of_getElem? (i := 4) rfl)) (hw _ (List.mem_of_getElem? (i := 5) rfl)) (hw _ (List.mem_of_getElem? (i := 6) rfl)) (by decide) (by decide) ?_
    intro T18 h18 b18 X18 e18 g18 E18 A18 D18
    have f19 := ((AV.ext E13).other W15 ne13_r0)
    have ne18_r0 : r0 ≠ b18 := Nat.ne_of_lt (by rw [g18]; exact f19.lt)
    have f20 := ((FL0.ext E13).other W15 (Or.inl ne13_c0))
    have ne18_c0 : c0 ≠ b18 := Nat.ne_of_lt (by rw [g18]; exact f20.lt)
    have f21 := ((FL1.ext E13).other W15 (Or.inl ne13_c1))
    have ne18_c1 : c1 ≠ b18 := Nat.ne_of_lt (by rw [g18]; exact f21.lt)
    have f22 := ((FL2.ext E13).other W15 (Or.inl ne13_c2))
    have ne18_c2 : c2 ≠ b18 := Nat.ne_of_lt (by rw [g18]; exact f22.lt)
    have f23 := ((FL3.ext E13).other W15 (Or.inl ne13_c3))
    have ne18_c3 : c3 ≠ b18 := Nat.ne_of_lt (by rw [g18]; exact f23.lt)
    have ne18_b13 : b13 ≠ b18 := Nat.ne_of_lt (by rw [g18]; exact A17.lt)
    have gn18 : n0 ≤ b18 := by rw [g18]; exact sz16
    show own_Go p e below _ T18 (mkF m 68 #[.val (.int i0), .val (.int v0), .val (.int (79 : Int32)), .val (.ref c0), .val (.ref b13), .unset, .unset] [(.ref b18)])
    have F18_coder : Fld Z h18 b18 "java/lang/String" "coder" "B" (.int (0 : Int32)) := D18 (Or.inr (hw _ (List.mem_of_getElem? (i := 30) rfl))) (ty := .byte) (by decide)
    have F18_value : Fld Z h18 b18 "java/lang/String" "value" "[B" .null := D18 (Or.inr (hw _ (List.mem_of_getElem? (i := 32) rfl))) (ty := (.array .byte)) (by decide)
    have sz24 : n0 ≤ h18.size := Nat.le_trans sz16 E18.1
    refine own_by (T' := T18) (f' := (mkF m 69 #[.val (.int i0), .val (.int v0), .val (.int (79 : Int32)), .val (.ref c0), .val (.ref b13), .unset, .unset] [(.ref b18), (.ref b18)])) (fun t k => XS.dup X18.here hx rfl (hb hby at_68) rfl rfl k) ?_
    refine own_by (T' := T18) (f' := (mkF m 71 #[.val (.int i0), .val (.int v0), .val (.int (79 : Int32)), .val (.ref c0), .val (.ref b13), .unset, .unset] [(.ref b13), (.ref b18), (.ref b18)])) (fun t k => XS.aload X18.here hx rfl (hb hby at_69) rfl rfl k) ?_
    have q25 : ∀ x ∈ [b18], ∃ c : Cell, h18[x]? = some c ∧ c.vm.isStatics = false := (allS (own_ns A18) all0)
    have f26 := (A17.ext E18)
    have f27 := (((S0.ext E13).wr W15).ext E18)
    refine own_callN X18 hx hZ hown e18 (hb hby at_71) [(.ref b13)] [(.ref b18)] 1 (rmI1 l Z a0 hw [] b18 b13 (1 : Int32) 1 (fun _ => (79 : Int32)) _ _ cs h18 n0 sz24 gn18 (by decide) (by omega) (by omega) (fun q _ => (by decide : ¬ (255 : Int32) < (79 : Int32))) f26 ne18_b13 A18 F18_value F18_coder hcs f27) (hw _ (List.mem_of_getElem? (i := 7) rfl)) (hw _ (List.mem_of_getElem? (i := 8) rfl)) (hw _ (List.mem_of_getElem? (i := 6) rfl)) (hw _ (List.mem_of_getElem? (i := 9) rfl)) rfl (by decide) pd___C_V (by rw [hml]; rfl) rfl rfl (Nat.le_of_eq rfl) (by decide) (by decide) (by decide) (by decide) ?_
    rintro T28 _ L28 X28 ⟨rfl, N28q, K28, A28, C28, b28, V28, gb28, B28⟩
    show own_Go p e below _ T28 (mkF m 74 #[.val (.int i0), .val (.int v0), .val (.int (79 : Int32)), .val (.ref c0), .val (.ref b13), .unset, .unset] [(.ref b18)])
    have N28 := Fr.app N15 N28q
    have f29 := (f19.ext E18)
    have ne28_r0 : r0 ≠ b28 := Nat.ne_of_lt (Nat.lt_of_lt_of_le f29.lt gb28)
    have f30 := (f20.ext E18)
    have ne28_c0 : c0 ≠ b28 := Nat.ne_of_lt (Nat.lt_of_lt_of_le f30.lt gb28)
    have f31 := (f21.ext E18)
    have ne28_c1 : c1 ≠ b28 := Nat.ne_of_lt (Nat.lt_of_lt_of_le f31.lt gb28)
    have f32 := (f22.ext E18)
    have ne28_c2 : c2 ≠ b28 := Nat.ne_of_lt (Nat.lt_of_lt_of_le f32.lt gb28)
    have f33 := (f23.ext E18)
    have ne28_c3 : c3 ≠ b28 := Nat.ne_of_lt (Nat.lt_of_lt_of_le f33.lt gb28)
    have ne28_b13 : b13 ≠ b28 := Nat.ne_of_lt (Nat.lt_of_lt_of_le f26.lt gb28)
    have ne28_b18 : b18 ≠ b28 := Nat.ne_of_lt (Nat.lt_of_lt_of_le A18.lt gb28)
    have gn28 : n0 ≤ b28 := Nat.le_trans sz24 gb28
    have sz34 : n0 ≤ T28.heap.size := Nat.le_trans sz24 K28.1
    refine own_by (T' := T28) (f' := (mkF m 76 #[.val (.int i0), .val (.int v0), .val (.int (79 : Int32)), .val (.ref c0), .val (.ref b13), .val (.ref b18), .unset] [])) (fun t k => XS.astore X28.here hx rfl (hb hby at_74) rfl rfl (l' := #[.val (.int i0), .val (.int v0), .val (.int (79 : Int32)), .val (.ref c0), .val (.ref b13), .val (.ref b18), .unset]) rfl k) ?_
    refine own_by (T' := T28) (f' := (mkF m 78 #[.val (.int i0), .val (.int v0), .val (.int (79 : Int32)), .val (.ref c0), .val (.ref b13), .val (.ref b18), .unset] [(.ref b18)])) (fun t k => XS.aload X28.here hx rfl (hb hby at_76) rfl rfl k) ?_
    have f35 := (own_sta_keep (((SV.ext E13).wr W15).ext E18) K28 q25)
    have f36 := ((((EV.ext E13).wr W15).ext E18).keep K28)
    have f37 := (f29.keep K28 (ninS ne18_r0 nin0))
    have f38 := (f30.keep K28 (ninS ne18_c0 nin0))
    have f39 := (f31.keep K28 (ninS ne18_c1 nin0))
    have f40 := (f32.keep K28 (ninS ne18_c2 nin0))
    have f41 := (f33.keep K28 (ninS ne18_c3 nin0))
    have f42 := (own_sta_keep f27 K28 q25)
    refine own_callS X28 hx hZ hown rfl (hb hby at_78) [(.ref b18)] [] 0 (rmP0 l Z a0 hw [] b18 b28 r0 c0 c1 c2 c3 kk cs T28.heap n0 sz34 f35 f36 f37 f38 f39 f40 f41 A28 C28 V28 B28 hcs f42) (hw _ (List.mem_of_getElem? (i := 33) rfl)) (hw _ (List.mem_of_getElem? (i := 34) rfl)) (hw _ (List.mem_of_getElem? (i := 1) rfl)) (hw _ (List.mem_of_getElem? (i := 35) rfl)) (by decide) pd__Ljava_lang_String__Lcom_example_tablee_tablee_rules_cards_SpanishSuit_ (by rw [hml]; rfl) rfl rfl (Nat.le_of_eq rfl) (by decide) (by decide) (by decide) (by decide) ?_
    rintro T43 _ L43 X43 ⟨rfl, N43q, K43⟩
    show own_Go p e below _ T43 (mkF m 81 #[.val (.int i0), .val (.int v0), .val (.int (79 : Int32)), .val (.ref c0), .val (.ref b13), .val (.ref b18), .unset] [(.ref c0)])
    have N43 := Fr.app N28 N43q
    have sz44 : n0 ≤ T43.heap.size := Nat.le_trans sz34 K43.1
    refine own_by (T' := T43) (f' := (mkF m 83 #[.val (.int i0), .val (.int v0), .val (.int (79 : Int32)), .val (.ref c0), .val (.ref b13), .val (.ref b18), .val (.ref c0)] [])) (fun t k => XS.astore X43.here hx rfl (hb hby at_81) rfl rfl (l' := #[.val (.int i0), .val (.int v0), .val (.int (79 : Int32)), .val (.ref c0), .val (.ref b13), .val (.ref b18), .val (.ref c0)]) rfl k) ?_
    refine own_by (T' := T43) (f' := (mkF m 85 #[.val (.int i0), .val (.int v0), .val (.int (79 : Int32)), .val (.ref c0), .val (.ref b13), .val (.ref b18), .val (.ref c0)] [(.ref c0)])) (fun t k => XS.aload X43.here hx rfl (hb hby at_83) rfl rfl k) ?_
    refine own_by (T' := T43) (f' := (mkF m 86 #[.val (.int i0), .val (.int v0), .val (.int (79 : Int32)), .val (.ref c0), .val (.ref b13), .val (.ref b18), .val (.ref c0)] [(.ref c0), (.ref c0)])) (fun t k => XS.aloadN X43.here hx rfl (hb hby at_85) rfl rfl k) ?_
    refine own_by (T' := T43) (f' := (mkF m 89 #[.val (.int i0), .val (.int v0), .val (.int (79 : Int32)), .val (.ref c0), .val (.ref b13), .val (.ref b18), .val (.ref c0)] [])) (fun t k => Jvm.RoadKit.acmp (g := (mkF m 86 #[.val (.int i0), .val (.int v0), .val (.int (79 : Int32)), .val (.ref c0), .val (.ref b13), .val (.ref b18), .val (.ref c0)] [(.ref c0), (.ref c0)])) X43 hx rfl rfl rfl (pc0 := 86) (pc' := 89) (same := true) rfl (hb hby at_86) rfl (decide_eq_true rfl) (by decide) (by decide) k) ?_
    refine own_by (T' := T43) (f' := (mkF m 91 #[.val (.int i0), .val (.int v0), .val (.int (79 : Int32)), .val (.ref c0), .val (.ref b13), .val (.ref b18), .val (.ref c0)] [(.ref c0)])) (fun t k => XS.aload X43.here hx rfl (hb hby at_89) rfl rfl k) ?_
    have f45 := (f38.keep K43 nin0)
    have f46 := (((((EC0.ext E13).wr W15).ext E18).keep K28).keep K43)
    refine own_callV X43 hx hZ hown rfl (hb hby at_91) [] [] 0 (rmL l Z a0 hw [] c0 _ T43.heap rfl f45) f46 (hw _ (List.mem_of_getElem? (i := 78) rfl)) (hw _ (List.mem_of_getElem? (i := 79) rfl)) (notFace_of_selects (args := #[]) (mvT hZ (hw _ (List.mem_of_getElem? (i := 81) rfl)))) (hw _ (List.mem_of_getElem? (i := 81) rfl)) (hw _ (List.mem_of_getElem? (i := 80) rfl)) (hw _ (List.mem_of_getElem? (i := 1) rfl)) (hw _ (List.mem_of_getElem? (i := 82) rfl)) (by decide) pd___C (by rw [hml]; rfl) rfl rfl (Nat.le_of_eq rfl) (by decide) (by decide) (by decide) (by decide) ?_
    rintro T47 _ L47 X47 ⟨rfl, rfl, e47⟩
    show own_Go p e below _ T47 (mkF m 94 #[.val (.int i0), .val (.int v0), .val (.int (79 : Int32)), .val (.ref c0), .val (.ref b13), .val (.ref b18), .val (.ref c0)] [(.int (79 : Int32))])
    rw [List.append_nil] at X47
    refine own_by (T' := T47) (f' := (mkF m 95 #[.val (.int i0), .val (.int v0), .val (.int (79 : Int32)), .val (.ref c0), .val (.ref b13), .val (.ref b18), .val (.ref c0)] [(.int (79 : Int32)), (.int (79 : Int32))])) (fun t k => XS.iloadN X47.here hx rfl (hb hby at_94) rfl k) ?_
    refine own_by (T' := T47) (f' := (mkF m 98 #[.val (.int i0), .val (.int v0), .val (.int (79 : Int32)), .val (.ref c0), .val (.ref b13), .val (.ref b18), .val (.ref c0)] [])) (fun t k => XS.icmpNo X47.here hx rfl (hb hby at_95) rfl (teq rfl).2 k) ?_
    refine own_by (T' := T47) (f' := (mkF m 99 #[.val (.int i0), .val (.int v0), .val (.int (79 : Int32)), .val (.ref c0), .val (.ref b13), .val (.ref b18), .val (.ref c0)] [(.int (1 : Int32))])) (fun t k => XS.iconst X47.here hx rfl (hb hby at_98) k) ?_
    refine own_by (T' := T47) (f' := (mkF m 103 #[.val (.int i0), .val (.int v0), .val (.int (79 : Int32)), .val (.ref c0), .val (.ref b13), .val (.ref b18), .val (.ref c0)] [(.int (1 : Int32))])) (fun t k => XS.goto X47.here hx rfl (pc0 := 99) (pc' := 103) rfl (hb hby at_99) (by decide) (by decide) k) ?_
    refine own_retZ X47 hx hret hlk (hb hby at_103) (Or.inr rfl) (by decide) (by decide) ?_
    try rw [e47]
    exact ⟨rfl, N43⟩
  · have _ := X0
    refine own_by (T' := s₁) (f' := (mkF m 18 #[.val (.int i0), .val (.int v0), .unset, .unset, .unset, .unset, .unset] [])) (fun t k => XS.ifYes X0.here hx rfl (pc0 := 5) (pc' := 18) rfl (hb hby at_5) rfl ((if0 _ _).trans (feq hc5_11).2) (by decide) (by decide) k) ?_
    refine own_by (T' := s₁) (f' := (mkF m 19 #[.val (.int i0), .val (.int v0), .unset, .unset, .unset, .unset, .unset] [(.int v0)])) (fun t k => XS.iloadN X0.here hx rfl (hb hby at_18) rfl k) ?_
    refine own_by (T' := s₁) (f' := (mkF m 20 #[.val (.int i0), .val (.int v0), .unset, .unset, .unset, .unset, .unset] [(.int (1 : Int32)), (.int v0)])) (fun t k => XS.iconst X0.here hx rfl (hb hby at_19) k) ?_
    by_cases hc20_48 : v0 = (1 : Int32)
    · have _ := X0
      refine own_by (T' := s₁) (f' := (mkF m 23 #[.val (.int i0), .val (.int v0), .unset, .unset, .unset, .unset, .unset] [])) (fun t k => XS.icmpNo X0.here hx rfl (hb hby at_20) rfl (teq hc20_48).2 k) ?_
      refine own_by (T' := s₁) (f' := (mkF m 25 #[.val (.int i0), .val (.int v0), .unset, .unset, .unset, .unset, .unset] [(.int (67 : Int32))])) (fun t k => XS.bipush X0.here hx rfl (hb hby at_23) k) ?_
      refine own_by (T' := s₁) (f' := (mkF m 26 #[.val (.int i0), .val (.int v0), .val (.int (67 : Int32)), .unset, .unset, .unset, .unset] [])) (fun t k => XS.istoreN X0.here hx rfl (hb hby at_25) rfl (l' := #[.val (.int i0), .val (.int v0), .val (.int (67 : Int32)), .unset, .unset, .unset, .unset]) rfl k) ?_
      refine own_getS (host := "") X0 hx hZ hown e0 (hb hby at_26) (Or.inl (hw _ (List.mem_of_getElem? (i := 85) rfl))) Via.refl SC1 ?_
      intro T49 X49 e49
      show own_Go p e below _ T49 (mkF m 29 #[.val (.int i0), .val (.int v0), .val (.int (67 : Int32)), .unset, .unset, .unset, .unset] [(.ref c1)])
      refine own_by (T' := T49) (f' := (mkF m 30 #[.val (.int i0), .val (.int v0), .val (.int (67 : Int32)), .val (.ref c1), .unset, .unset, .unset] [])) (fun t k => XS.astoreN X49.here hx rfl (hb hby at_29) rfl rfl (l' := #[.val (.int i0), .val (.int v0), .val (.int (67 : Int32)), .val (.ref c1), .unset, .unset, .unset]) rfl k) ?_
      refine own_by (T' := T49) (f' := (mkF m 55 #[.val (.int i0), .val (.int v0), .val (.int (67 : Int32)), .val (.ref c1), .unset, .unset, .unset] [])) (fun t k => XS.goto X49.here hx rfl (pc0 := 30) (pc' := 55) rfl (hb hby at_30) (by decide) (by decide) k) ?_
      refine own_by (T' := T49) (f' := (mkF m 56 #[.val (.int i0), .val (.int v0), .val (.int (67 : Int32)), .val (.ref c1), .unset, .unset, .unset] [(.int (1 : Int32))])) (fun t k => XS.iconst X49.here hx rfl (hb hby at_55) k) ?_
      refine own_mkA X49 hx hZ e49 (hb hby at_56) (hw _ (List.mem_of_getElem? (i := 3) rfl)) (v := 0) rfl (by decide) 1 (by decide) (by decide) (by decide) (by decide) ?_
      intro T50 h50 b50 X50 e50 g50 E50 A50r
      have ne50_r0 : r0 ≠ b50 := Nat.ne_of_lt (by rw [g50]; exact AV.lt)
      have ne50_c0 : c0 ≠ b50 := Nat.ne_of_lt (by rw [g50]; exact FL0.lt)
      have ne50_c1 : c1 ≠ b50 := Nat.ne_of_lt (by rw [g50]; exact FL1.lt)
      have ne50_c2 : c2 ≠ b50 := Nat.ne_of_lt (by rw [g50]; exact FL2.lt)
      have ne50_c3 : c3 ≠ b50 := Nat.ne_of_lt (by rw [g50]; exact FL3.lt)
      have gn50 : n0 ≤ b50 := by rw [g50]; exact Z0
      show own_Go p e below _ T50 (mkF m 58 #[.val (.int i0), .val (.int v0), .val (.int (67 : Int32)), .val (.ref c1), .unset, .unset, .unset] [(.ref b50)])
      have A50 : own_A Z h50 b50 .char 1 (fun _ => 0) := A50r
      have sz51 : n0 ≤ h50.size := Nat.le_trans Z0 E50.1
      refine own_by (T' := T50) (f' := (mkF m 60 #[.val (.int i0), .val (.int v0), .val (.int (67 : Int32)), .val (.ref c1), .val (.ref b50), .unset, .unset] [])) (fun t k => XS.astore X50.here hx rfl (hb hby at_58) rfl rfl (l' := #[.val (.int i0), .val (.int v0), .val (.int (67 : Int32)), .val (.ref c1), .val (.ref b50), .unset, .unset]) rfl k) ?_
      refine own_by (T' := T50) (f' := (mkF m 62 #[.val (.int i0), .val (.int v0), .val (.int (67 : Int32)), .val (.ref c1), .val (.ref b50), .unset, .unset] [(.ref b50)])) (fun t k => XS.aload X50.here hx rfl (hb hby at_60) rfl rfl k) ?_
      refine own_by (T' := T50) (f' := (mkF m 63 #[.val (.int i0), .val (.int v0), .val (.int (67 : Int32)), .val (.ref c1), .val (.ref b50), .unset, .unset] [(.int (0 : Int32)), (.ref b50)])) (fun t k => XS.iconst X50.here hx rfl (hb hby at_62) k) ?_
      refine own_by (T' := T50) (f' := (mkF m 64 #[.val (.int i0), .val (.int v0), .val (.int (67 : Int32)), .val (.ref c1), .val (.ref b50), .unset, .unset] [(.int (67 : Int32)), (.int (0 : Int32)), (.ref b50)])) (fun t k => XS.iloadN X50.here hx rfl (hb hby at_63) rfl k) ?_
      have _ : (0 : Int32).toInt = 0 := by decide
      refine own_stC X50 hx hZ e50 (hb hby at_64) A50 (by first | decide | omega) (by first | decide | omega) ?_
      intro T52 h52 X52 e52 W52 A52
      show own_Go p e below _ T52 (mkF m 65 #[.val (.int i0), .val (.int v0), .val (.int (67 : Int32)), .val (.ref c1), .val (.ref b50), .unset, .unset] [])
      have sz53 : n0 ≤ h52.size := by rw [W52.size]; exact sz51
      have N52 := Fr.snoc X52 N0 gn50
      have A54 : own_A Z h52 b50 .char 1 (fun _ => (67 : Int32)) := A52.congr (fun i hi => by rw [if_pos (show i = (0 : Int32).toInt.toNat from (show i = 0 from by omega))]; rfl)
      refine own_new X52 hx hZ hown e52 (hb hby at_65) (hw _ (List.mem_of_getElem? (i := 4) rfl)) (hw _ (List.mem_of_getElem? (i := 5) rfl)) (hw _ (List.mem_of_getElem? (i := 6) rfl)) (by decide) (by decide) ?_
      intro T55 h55 b55 X55 e55 g55 E55 A55 D55
      have f56 := ((AV.ext E50).other W52 ne50_r0)
      have ne55_r0 : r0 ≠ b55 := Nat.ne_of_lt (by rw [g55]; exact f56.lt)
      have f57 := ((FL0.ext E50).other W52 (Or.inl ne50_c0))
      have ne55_c0 : c0 ≠ b55 := Nat.ne_of_lt (by rw [g55]; exact f57.lt)
      have f58 := ((FL1.ext E50).other W52 (Or.inl ne50_c1))
      have ne55_c1 : c1 ≠ b55 := Nat.ne_of_lt (by rw [g55]; exact f58.lt)
      have f59 := ((FL2.ext E50).other W52 (Or.inl ne50_c2))
      have ne55_c2 : c2 ≠ b55 := Nat.ne_of_lt (by rw [g55]; exact f59.lt)
      have f60 := ((FL3.ext E50).other W52 (Or.inl ne50_c3))
      have ne55_c3 : c3 ≠ b55 := Nat.ne_of_lt (by rw [g55]; exact f60.lt)
      have ne55_b50 : b50 ≠ b55 := Nat.ne_of_lt (by rw [g55]; exact A54.lt)
      have gn55 : n0 ≤ b55 := by rw [g55]; exact sz53
      show own_Go p e below _ T55 (mkF m 68 #[.val (.int i0), .val (.int v0), .val (.int (67 : Int32)), .val (.ref c1), .val (.ref b50), .unset, .unset] [(.ref b55)])
      have F55_coder : Fld Z h55 b55 "java/lang/String" "coder" "B" (.int (0 : Int32)) := D55 (Or.inr (hw _ (List.mem_of_getElem? (i := 30) rfl))) (ty := .byte) (by decide)
      have F55_value : Fld Z h55 b55 "java/lang/String" "value" "[B" .null := D55 (Or.inr (hw _ (List.mem_of_getElem? (i := 32) rfl))) (ty := (.array .byte)) (by decide)
      have sz61 : n0 ≤ h55.size := Nat.le_trans sz53 E55.1
      refine own_by (T' := T55) (f' := (mkF m 69 #[.val (.int i0), .val (.int v0), .val (.int (67 : Int32)), .val (.ref c1), .val (.ref b50), .unset, .unset] [(.ref b55), (.ref b55)])) (fun t k => XS.dup X55.here hx rfl (hb hby at_68) rfl rfl k) ?_
      refine own_by (T' := T55) (f' := (mkF m 71 #[.val (.int i0), .val (.int v0), .val (.int (67 : Int32)), .val (.ref c1), .val (.ref b50), .unset, .unset] [(.ref b50), (.ref b55), (.ref b55)])) (fun t k => XS.aload X55.here hx rfl (hb hby at_69) rfl rfl k) ?_
      have q62 : ∀ x ∈ [b55], ∃ c : Cell, h55[x]? = some c ∧ c.vm.isStatics = false := (allS (own_ns A55) all0)
      have f63 := (A54.ext E55)
      have f64 := (((S0.ext E50).wr W52).ext E55)
      refine own_callN X55 hx hZ hown e55 (hb hby at_71) [(.ref b50)] [(.ref b55)] 1 (rmI1 l Z a0 hw [] b55 b50 (1 : Int32) 1 (fun _ => (67 : Int32)) _ _ cs h55 n0 sz61 gn55 (by decide) (by omega) (by omega) (fun q _ => (by decide : ¬ (255 : Int32) < (67 : Int32))) f63 ne55_b50 A55 F55_value F55_coder hcs f64) (hw _ (List.mem_of_getElem? (i := 7) rfl)) (hw _ (List.mem_of_getElem? (i := 8) rfl)) (hw _ (List.mem_of_getElem? (i := 6) rfl)) (hw _ (List.mem_of_getElem? (i := 9) rfl)) rfl (by decide) pd___C_V (by rw [hml]; rfl) rfl rfl (Nat.le_of_eq rfl) (by decide) (by decide) (by decide) (by decide) ?_
      rintro T65 _ L65 X65 ⟨rfl, N65q, K65, A65, C65, b65, V65, gb65, B65⟩
      show own_Go p e below _ T65 (mkF m 74 #[.val (.int i0), .val (.int v0), .val (.int (67 : Int32)), .val (.ref c1), .val (.ref b50), .unset, .unset] [(.ref b55)])
      have N65 := Fr.app N52 N65q
      have f66 := (f56.ext E55)
      have ne65_r0 : r0 ≠ b65 := Nat.ne_of_lt (Nat.lt_of_lt_of_le f66.lt gb65)
      have f67 := (f57.ext E55)
      have ne65_c0 : c0 ≠ b65 := Nat.ne_of_lt (Nat.lt_of_lt_of_le f67.lt gb65)
      have f68 := (f58.ext E55)
      have ne65_c1 : c1 ≠ b65 := Nat.ne_of_lt (Nat.lt_of_lt_of_le f68.lt gb65)
      have f69 := (f59.ext E55)
      have ne65_c2 : c2 ≠ b65 := Nat.ne_of_lt (Nat.lt_of_lt_of_le f69.lt gb65)
      have f70 := (f60.ext E55)
      have ne65_c3 : c3 ≠ b65 := Nat.ne_of_lt (Nat.lt_of_lt_of_le f70.lt gb65)
      have ne65_b50 : b50 ≠ b65 := Nat.ne_of_lt (Nat.lt_of_lt_of_le f63.lt gb65)
      have ne65_b55 : b55 ≠ b65 := Nat.ne_of_lt (Nat.lt_of_lt_of_le A55.lt gb65)
      have gn65 : n0 ≤ b65 := Nat.le_trans sz61 gb65
      have sz71 : n0 ≤ T65.heap.size := Nat.le_trans sz61 K65.1
      refine own_by (T' := T65) (f' := (mkF m 76 #[.val (.int i0), .val (.int v0), .val (.int (67 : Int32)), .val (.ref c1), .val (.ref b50), .val (.ref b55), .unset] [])) (fun t k => XS.astore X65.here hx rfl (hb hby at_74) rfl rfl (l' := #[.val (.int i0), .val (.int v0), .val (.int (67 : Int32)), .val (.ref c1), .val (.ref b50), .val (.ref b55), .unset]) rfl k) ?_
      refine own_by (T' := T65) (f' := (mkF m 78 #[.val (.int i0), .val (.int v0), .val (.int (67 : Int32)), .val (.ref c1), .val (.ref b50), .val (.ref b55), .unset] [(.ref b55)])) (fun t k => XS.aload X65.here hx rfl (hb hby at_76) rfl rfl k) ?_
      have f72 := (own_sta_keep (((SV.ext E50).wr W52).ext E55) K65 q62)
      have f73 := ((((EV.ext E50).wr W52).ext E55).keep K65)
      have f74 := (f66.keep K65 (ninS ne55_r0 nin0))
      have f75 := (f67.keep K65 (ninS ne55_c0 nin0))
      have f76 := (f68.keep K65 (ninS ne55_c1 nin0))
      have f77 := (f69.keep K65 (ninS ne55_c2 nin0))
      have f78 := (f70.keep K65 (ninS ne55_c3 nin0))
      have f79 := (own_sta_keep f64 K65 q62)
      refine own_callS X65 hx hZ hown rfl (hb hby at_78) [(.ref b55)] [] 0 (rmP1 l Z a0 hw [] b55 b65 r0 c0 c1 c2 c3 kk cs T65.heap n0 sz71 f72 f73 f74 f75 f76 f77 f78 A65 C65 V65 B65 hcs f79) (hw _ (List.mem_of_getElem? (i := 33) rfl)) (hw _ (List.mem_of_getElem? (i := 34) rfl)) (hw _ (List.mem_of_getElem? (i := 1) rfl)) (hw _ (List.mem_of_getElem? (i := 35) rfl)) (by decide) pd__Ljava_lang_String__Lcom_example_tablee_tablee_rules_cards_SpanishSuit_ (by rw [hml]; rfl) rfl rfl (Nat.le_of_eq rfl) (by decide) (by decide) (by decide) (by decide) ?_
      rintro T80 _ L80 X80 ⟨rfl, N80q, K80⟩
      show own_Go p e below _ T80 (mkF m 81 #[.val (.int i0), .val (.int v0), .val (.int (67 : Int32)), .val (.ref c1), .val (.ref b50), .val (.ref b55), .unset] [(.ref c1)])
      have N80 := Fr.app N65 N80q
      have sz81 : n0 ≤ T80.heap.size := Nat.le_trans sz71 K80.1
      refine own_by (T' := T80) (f' := (mkF m 83 #[.val (.int i0), .val (.int v0), .val (.int (67 : Int32)), .val (.ref c1), .val (.ref b50), .val (.ref b55), .val (.ref c1)] [])) (fun t k => XS.astore X80.here hx rfl (hb hby at_81) rfl rfl (l' := #[.val (.int i0), .val (.int v0), .val (.int (67 : Int32)), .val (.ref c1), .val (.ref b50), .val (.ref b55), .val (.ref c1)]) rfl k) ?_
      refine own_by (T' := T80) (f' := (mkF m 85 #[.val (.int i0), .val (.int v0), .val (.int (67 : Int32)), .val (.ref c1), .val (.ref b50), .val (.ref b55), .val (.ref c1)] [(.ref c1)])) (fun t k => XS.aload X80.here hx rfl (hb hby at_83) rfl rfl k) ?_
      refine own_by (T' := T80) (f' := (mkF m 86 #[.val (.int i0), .val (.int v0), .val (.int (67 : Int32)), .val (.ref c1), .val (.ref b50), .val (.ref b55), .val (.ref c1)] [(.ref c1), (.ref c1)])) (fun t k => XS.aloadN X80.here hx rfl (hb hby at_85) rfl rfl k) ?_
      refine own_by (T' := T80) (f' := (mkF m 89 #[.val (.int i0), .val (.int v0), .val (.int (67 : Int32)), .val (.ref c1), .val (.ref b50), .val (.ref b55), .val (.ref c1)] [])) (fun t k => Jvm.RoadKit.acmp (g := (mkF m 86 #[.val (.int i0), .val (.int v0), .val (.int (67 : Int32)), .val (.ref c1), .val (.ref b50), .val (.ref b55), .val (.ref c1)] [(.ref c1), (.ref c1)])) X80 hx rfl rfl rfl (pc0 := 86) (pc' := 89) (same := true) rfl (hb hby at_86) rfl (decide_eq_true rfl) (by decide) (by decide) k) ?_
      refine own_by (T' := T80) (f' := (mkF m 91 #[.val (.int i0), .val (.int v0), .val (.int (67 : Int32)), .val (.ref c1), .val (.ref b50), .val (.ref b55), .val (.ref c1)] [(.ref c1)])) (fun t k => XS.aload X80.here hx rfl (hb hby at_89) rfl rfl k) ?_
      have f82 := (f76.keep K80 nin0)
      have f83 := (((((EC1.ext E50).wr W52).ext E55).keep K65).keep K80)
      refine own_callV X80 hx hZ hown rfl (hb hby at_91) [] [] 0 (rmL l Z a0 hw [] c1 _ T80.heap rfl f82) f83 (hw _ (List.mem_of_getElem? (i := 78) rfl)) (hw _ (List.mem_of_getElem? (i := 79) rfl)) (notFace_of_selects (args := #[]) (mvT hZ (hw _ (List.mem_of_getElem? (i := 81) rfl)))) (hw _ (List.mem_of_getElem? (i := 81) rfl)) (hw _ (List.mem_of_getElem? (i := 80) rfl)) (hw _ (List.mem_of_getElem? (i := 1) rfl)) (hw _ (List.mem_of_getElem? (i := 82) rfl)) (by decide) pd___C (by rw [hml]; rfl) rfl rfl (Nat.le_of_eq rfl) (by decide) (by decide) (by decide) (by decide) ?_
      rintro T84 _ L84 X84 ⟨rfl, rfl, e84⟩
      show own_Go p e below _ T84 (mkF m 94 #[.val (.int i0), .val (.int v0), .val (.int (67 : Int32)), .val (.ref c1), .val (.ref b50), .val (.ref b55), .val (.ref c1)] [(.int (67 : Int32))])
      rw [List.append_nil] at X84
      refine own_by (T' := T84) (f' := (mkF m 95 #[.val (.int i0), .val (.int v0), .val (.int (67 : Int32)), .val (.ref c1), .val (.ref b50), .val (.ref b55), .val (.ref c1)] [(.int (67 : Int32)), (.int (67 : Int32))])) (fun t k => XS.iloadN X84.here hx rfl (hb hby at_94) rfl k) ?_
      refine own_by (T' := T84) (f' := (mkF m 98 #[.val (.int i0), .val (.int v0), .val (.int (67 : Int32)), .val (.ref c1), .val (.ref b50), .val (.ref b55), .val (.ref c1)] [])) (fun t k => XS.icmpNo X84.here hx rfl (hb hby at_95) rfl (teq rfl).2 k) ?_
      refine own_by (T' := T84) (f' := (mkF m 99 #[.val (.int i0), .val (.int v0), .val (.int (67 : Int32)), .val (.ref c1), .val (.ref b50), .val (.ref b55), .val (.ref c1)] [(.int (1 : Int32))])) (fun t k => XS.iconst X84.here hx rfl (hb hby at_98) k) ?_
      refine own_by (T' := T84) (f' := (mkF m 103 #[.val (.int i0), .val (.int v0), .val (.int (67 : Int32)), .val (.ref c1), .val (.ref b50), .val (.ref b55), .val (.ref c1)] [(.int (1 : Int32))])) (fun t k => XS.goto X84.here hx rfl (pc0 := 99) (pc' := 103) rfl (hb hby at_99) (by decide) (by decide) k) ?_
      refine own_retZ X84 hx hret hlk (hb hby at_103) (Or.inr rfl) (by decide) (by decide) ?_
      try rw [e84]
      exact ⟨rfl, N80⟩
    · have _ := X0
      refine own_by (T' := s₁) (f' := (mkF m 33 #[.val (.int i0), .val (.int v0), .unset, .unset, .unset, .unset, .unset] [])) (fun t k => XS.icmpYes X0.here hx rfl (pc0 := 20) (pc' := 33) rfl (hb hby at_20) rfl (feq hc20_48).2 (by decide) (by decide) k) ?_
      refine own_by (T' := s₁) (f' := (mkF m 34 #[.val (.int i0), .val (.int v0), .unset, .unset, .unset, .unset, .unset] [(.int v0)])) (fun t k => XS.iloadN X0.here hx rfl (hb hby at_33) rfl k) ?_
      refine own_by (T' := s₁) (f' := (mkF m 35 #[.val (.int i0), .val (.int v0), .unset, .unset, .unset, .unset, .unset] [(.int (2 : Int32)), (.int v0)])) (fun t k => XS.iconst X0.here hx rfl (hb hby at_34) k) ?_
      by_cases hc35_85 : v0 = (2 : Int32)
      · have _ := X0
        refine own_by (T' := s₁) (f' := (mkF m 38 #[.val (.int i0), .val (.int v0), .unset, .unset, .unset, .unset, .unset] [])) (fun t k => XS.icmpNo X0.here hx rfl (hb hby at_35) rfl (teq hc35_85).2 k) ?_
        refine own_by (T' := s₁) (f' := (mkF m 40 #[.val (.int i0), .val (.int v0), .unset, .unset, .unset, .unset, .unset] [(.int (69 : Int32))])) (fun t k => XS.bipush X0.here hx rfl (hb hby at_38) k) ?_
        refine own_by (T' := s₁) (f' := (mkF m 41 #[.val (.int i0), .val (.int v0), .val (.int (69 : Int32)), .unset, .unset, .unset, .unset] [])) (fun t k => XS.istoreN X0.here hx rfl (hb hby at_40) rfl (l' := #[.val (.int i0), .val (.int v0), .val (.int (69 : Int32)), .unset, .unset, .unset, .unset]) rfl k) ?_
        refine own_getS (host := "") X0 hx hZ hown e0 (hb hby at_41) (Or.inl (hw _ (List.mem_of_getElem? (i := 84) rfl))) Via.refl SC2 ?_
        intro T86 X86 e86
        show own_Go p e below _ T86 (mkF m 44 #[.val (.int i0), .val (.int v0), .val (.int (69 : Int32)), .unset, .unset, .unset, .unset] [(.ref c2)])
        refine own_by (T' := T86) (f' := (mkF m 45 #[.val (.int i0), .val (.int v0), .val (.int (69 : Int32)), .val (.ref c2), .unset, .unset, .unset] [])) (fun t k => XS.astoreN X86.here hx rfl (hb hby at_44) rfl rfl (l' := #[.val (.int i0), .val (.int v0), .val (.int (69 : Int32)), .val (.ref c2), .unset, .unset, .unset]) rfl k) ?_
        refine own_by (T' := T86) (f' := (mkF m 55 #[.val (.int i0), .val (.int v0), .val (.int (69 : Int32)), .val (.ref c2), .unset, .unset, .unset] [])) (fun t k => XS.goto X86.here hx rfl (pc0 := 45) (pc' := 55) rfl (hb hby at_45) (by decide) (by decide) k) ?_
        refine own_by (T' := T86) (f' := (mkF m 56 #[.val (.int i0), .val (.int v0), .val (.int (69 : Int32)), .val (.ref c2), .unset, .unset, .unset] [(.int (1 : Int32))])) (fun t k => XS.iconst X86.here hx rfl (hb hby at_55) k) ?_
        refine own_mkA X86 hx hZ e86 (hb hby at_56) (hw _ (List.mem_of_getElem? (i := 3) rfl)) (v := 0) rfl (by decide) 1 (by decide) (by decide) (by decide) (by decide) ?_
        intro T87 h87 b87 X87 e87 g87 E87 A87r
        have ne87_r0 : r0 ≠ b87 := Nat.ne_of_lt (by rw [g87]; exact AV.lt)
        have ne87_c0 : c0 ≠ b87 := Nat.ne_of_lt (by rw [g87]; exact FL0.lt)
        have ne87_c1 : c1 ≠ b87 := Nat.ne_of_lt (by rw [g87]; exact FL1.lt)
        have ne87_c2 : c2 ≠ b87 := Nat.ne_of_lt (by rw [g87]; exact FL2.lt)
        have ne87_c3 : c3 ≠ b87 := Nat.ne_of_lt (by rw [g87]; exact FL3.lt)
        have gn87 : n0 ≤ b87 := by rw [g87]; exact Z0
        show own_Go p e below _ T87 (mkF m 58 #[.val (.int i0), .val (.int v0), .val (.int (69 : Int32)), .val (.ref c2), .unset, .unset, .unset] [(.ref b87)])
        have A87 : own_A Z h87 b87 .char 1 (fun _ => 0) := A87r
        have sz88 : n0 ≤ h87.size := Nat.le_trans Z0 E87.1
        refine own_by (T' := T87) (f' := (mkF m 60 #[.val (.int i0), .val (.int v0), .val (.int (69 : Int32)), .val (.ref c2), .val (.ref b87), .unset, .unset] [])) (fun t k => XS.astore X87.here hx rfl (hb hby at_58) rfl rfl (l' := #[.val (.int i0), .val (.int v0), .val (.int (69 : Int32)), .val (.ref c2), .val (.ref b87), .unset, .unset]) rfl k) ?_
        refine own_by (T' := T87) (f' := (mkF m 62 #[.val (.int i0), .val (.int v0), .val (.int (69 : Int32)), .val (.ref c2), .val (.ref b87), .unset, .unset] [(.ref b87)])) (fun t k => XS.aload X87.here hx rfl (hb hby at_60) rfl rfl k) ?_
        refine own_by (T' := T87) (f' := (mkF m 63 #[.val (.int i0), .val (.int v0), .val (.int (69 : Int32)), .val (.ref c2), .val (.ref b87), .unset, .unset] [(.int (0 : Int32)), (.ref b87)])) (fun t k => XS.iconst X87.here hx rfl (hb hby at_62) k) ?_
        refine own_by (T' := T87) (f' := (mkF m 64 #[.val (.int i0), .val (.int v0), .val (.int (69 : Int32)), .val (.ref c2), .val (.ref b87), .unset, .unset] [(.int (69 : Int32)), (.int (0 : Int32)), (.ref b87)])) (fun t k => XS.iloadN X87.here hx rfl (hb hby at_63) rfl k) ?_
        have _ : (0 : Int32).toInt = 0 := by decide
        refine own_stC X87 hx hZ e87 (hb hby at_64) A87 (by first | decide | omega) (by first | decide | omega) ?_
        intro T89 h89 X89 e89 W89 A89
        show own_Go p e below _ T89 (mkF m 65 #[.val (.int i0), .val (.int v0), .val (.int (69 : Int32)), .val (.ref c2), .val (.ref b87), .unset, .unset] [])
        have sz90 : n0 ≤ h89.size := by rw [W89.size]; exact sz88
        have N89 := Fr.snoc X89 N0 gn87
        have A91 : own_A Z h89 b87 .char 1 (fun _ => (69 : Int32)) := A89.congr (fun i hi => by rw [if_pos (show i = (0 : Int32).toInt.toNat from (show i = 0 from by omega))]; rfl)
        refine own_new X89 hx hZ hown e89 (hb hby at_65) (hw _ (List.mem_of_getElem? (i := 4) rfl)) (hw _ (List.mem_of_getElem? (i := 5) rfl)) (hw _ (List.mem_of_getElem? (i := 6) rfl)) (by decide) (by decide) ?_
        intro T92 h92 b92 X92 e92 g92 E92 A92 D92
        have f93 := ((AV.ext E87).other W89 ne87_r0)
        have ne92_r0 : r0 ≠ b92 := Nat.ne_of_lt (by rw [g92]; exact f93.lt)
        have f94 := ((FL0.ext E87).other W89 (Or.inl ne87_c0))
        have ne92_c0 : c0 ≠ b92 := Nat.ne_of_lt (by rw [g92]; exact f94.lt)
        have f95 := ((FL1.ext E87).other W89 (Or.inl ne87_c1))
        have ne92_c1 : c1 ≠ b92 := Nat.ne_of_lt (by rw [g92]; exact f95.lt)
        have f96 := ((FL2.ext E87).other W89 (Or.inl ne87_c2))
        have ne92_c2 : c2 ≠ b92 := Nat.ne_of_lt (by rw [g92]; exact f96.lt)
        have f97 := ((FL3.ext E87).other W89 (Or.inl ne87_c3))
        have ne92_c3 : c3 ≠ b92 := Nat.ne_of_lt (by rw [g92]; exact f97.lt)
        have ne92_b87 : b87 ≠ b92 := Nat.ne_of_lt (by rw [g92]; exact A91.lt)
        have gn92 : n0 ≤ b92 := by rw [g92]; exact sz90
        show own_Go p e below _ T92 (mkF m 68 #[.val (.int i0), .val (.int v0), .val (.int (69 : Int32)), .val (.ref c2), .val (.ref b87), .unset, .unset] [(.ref b92)])
        have F92_coder : Fld Z h92 b92 "java/lang/String" "coder" "B" (.int (0 : Int32)) := D92 (Or.inr (hw _ (List.mem_of_getElem? (i := 30) rfl))) (ty := .byte) (by decide)
        have F92_value : Fld Z h92 b92 "java/lang/String" "value" "[B" .null := D92 (Or.inr (hw _ (List.mem_of_getElem? (i := 32) rfl))) (ty := (.array .byte)) (by decide)
        have sz98 : n0 ≤ h92.size := Nat.le_trans sz90 E92.1
        refine own_by (T' := T92) (f' := (mkF m 69 #[.val (.int i0), .val (.int v0), .val (.int (69 : Int32)), .val (.ref c2), .val (.ref b87), .unset, .unset] [(.ref b92), (.ref b92)])) (fun t k => XS.dup X92.here hx rfl (hb hby at_68) rfl rfl k) ?_
        refine own_by (T' := T92) (f' := (mkF m 71 #[.val (.int i0), .val (.int v0), .val (.int (69 : Int32)), .val (.ref c2), .val (.ref b87), .unset, .unset] [(.ref b87), (.ref b92), (.ref b92)])) (fun t k => XS.aload X92.here hx rfl (hb hby at_69) rfl rfl k) ?_
        have q99 : ∀ x ∈ [b92], ∃ c : Cell, h92[x]? = some c ∧ c.vm.isStatics = false := (allS (own_ns A92) all0)
        have f100 := (A91.ext E92)
        have f101 := (((S0.ext E87).wr W89).ext E92)
        refine own_callN X92 hx hZ hown e92 (hb hby at_71) [(.ref b87)] [(.ref b92)] 1 (rmI1 l Z a0 hw [] b92 b87 (1 : Int32) 1 (fun _ => (69 : Int32)) _ _ cs h92 n0 sz98 gn92 (by decide) (by omega) (by omega) (fun q _ => (by decide : ¬ (255 : Int32) < (69 : Int32))) f100 ne92_b87 A92 F92_value F92_coder hcs f101) (hw _ (List.mem_of_getElem? (i := 7) rfl)) (hw _ (List.mem_of_getElem? (i := 8) rfl)) (hw _ (List.mem_of_getElem? (i := 6) rfl)) (hw _ (List.mem_of_getElem? (i := 9) rfl)) rfl (by decide) pd___C_V (by rw [hml]; rfl) rfl rfl (Nat.le_of_eq rfl) (by decide) (by decide) (by decide) (by decide) ?_
        rintro T102 _ L102 X102 ⟨rfl, N102q, K102, A102, C102, b102, V102, gb102, B102⟩
        show own_Go p e below _ T102 (mkF m 74 #[.val (.int i0), .val (.int v0), .val (.int (69 : Int32)), .val (.ref c2), .val (.ref b87), .unset, .unset] [(.ref b92)])
        have N102 := Fr.app N89 N102q
        have f103 := (f93.ext E92)
        have ne102_r0 : r0 ≠ b102 := Nat.ne_of_lt (Nat.lt_of_lt_of_le f103.lt gb102)
        have f104 := (f94.ext E92)
        have ne102_c0 : c0 ≠ b102 := Nat.ne_of_lt (Nat.lt_of_lt_of_le f104.lt gb102)
        have f105 := (f95.ext E92)
        have ne102_c1 : c1 ≠ b102 := Nat.ne_of_lt (Nat.lt_of_lt_of_le f105.lt gb102)
        have f106 := (f96.ext E92)
        have ne102_c2 : c2 ≠ b102 := Nat.ne_of_lt (Nat.lt_of_lt_of_le f106.lt gb102)
        have f107 := (f97.ext E92)
        have ne102_c3 : c3 ≠ b102 := Nat.ne_of_lt (Nat.lt_of_lt_of_le f107.lt gb102)
        have ne102_b87 : b87 ≠ b102 := Nat.ne_of_lt (Nat.lt_of_lt_of_le f100.lt gb102)
        have ne102_b92 : b92 ≠ b102 := Nat.ne_of_lt (Nat.lt_of_lt_of_le A92.lt gb102)
        have gn102 : n0 ≤ b102 := Nat.le_trans sz98 gb102
        have sz108 : n0 ≤ T102.heap.size := Nat.le_trans sz98 K102.1
        refine own_by (T' := T102) (f' := (mkF m 76 #[.val (.int i0), .val (.int v0), .val (.int (69 : Int32)), .val (.ref c2), .val (.ref b87), .val (.ref b92), .unset] [])) (fun t k => XS.astore X102.here hx rfl (hb hby at_74) rfl rfl (l' := #[.val (.int i0), .val (.int v0), .val (.int (69 : Int32)), .val (.ref c2), .val (.ref b87), .val (.ref b92), .unset]) rfl k) ?_
        refine own_by (T' := T102) (f' := (mkF m 78 #[.val (.int i0), .val (.int v0), .val (.int (69 : Int32)), .val (.ref c2), .val (.ref b87), .val (.ref b92), .unset] [(.ref b92)])) (fun t k => XS.aload X102.here hx rfl (hb hby at_76) rfl rfl k) ?_
        have f109 := (own_sta_keep (((SV.ext E87).wr W89).ext E92) K102 q99)
        have f110 := ((((EV.ext E87).wr W89).ext E92).keep K102)
        have f111 := (f103.keep K102 (ninS ne92_r0 nin0))
        have f112 := (f104.keep K102 (ninS ne92_c0 nin0))
        have f113 := (f105.keep K102 (ninS ne92_c1 nin0))
        have f114 := (f106.keep K102 (ninS ne92_c2 nin0))
        have f115 := (f107.keep K102 (ninS ne92_c3 nin0))
        have f116 := (own_sta_keep f101 K102 q99)
        refine own_callS X102 hx hZ hown rfl (hb hby at_78) [(.ref b92)] [] 0 (rmP2 l Z a0 hw [] b92 b102 r0 c0 c1 c2 c3 kk cs T102.heap n0 sz108 f109 f110 f111 f112 f113 f114 f115 A102 C102 V102 B102 hcs f116) (hw _ (List.mem_of_getElem? (i := 33) rfl)) (hw _ (List.mem_of_getElem? (i := 34) rfl)) (hw _ (List.mem_of_getElem? (i := 1) rfl)) (hw _ (List.mem_of_getElem? (i := 35) rfl)) (by decide) pd__Ljava_lang_String__Lcom_example_tablee_tablee_rules_cards_SpanishSuit_ (by rw [hml]; rfl) rfl rfl (Nat.le_of_eq rfl) (by decide) (by decide) (by decide) (by decide) ?_
        rintro T117 _ L117 X117 ⟨rfl, N117q, K117⟩
        show own_Go p e below _ T117 (mkF m 81 #[.val (.int i0), .val (.int v0), .val (.int (69 : Int32)), .val (.ref c2), .val (.ref b87), .val (.ref b92), .unset] [(.ref c2)])
        have N117 := Fr.app N102 N117q
        have sz118 : n0 ≤ T117.heap.size := Nat.le_trans sz108 K117.1
        refine own_by (T' := T117) (f' := (mkF m 83 #[.val (.int i0), .val (.int v0), .val (.int (69 : Int32)), .val (.ref c2), .val (.ref b87), .val (.ref b92), .val (.ref c2)] [])) (fun t k => XS.astore X117.here hx rfl (hb hby at_81) rfl rfl (l' := #[.val (.int i0), .val (.int v0), .val (.int (69 : Int32)), .val (.ref c2), .val (.ref b87), .val (.ref b92), .val (.ref c2)]) rfl k) ?_
        refine own_by (T' := T117) (f' := (mkF m 85 #[.val (.int i0), .val (.int v0), .val (.int (69 : Int32)), .val (.ref c2), .val (.ref b87), .val (.ref b92), .val (.ref c2)] [(.ref c2)])) (fun t k => XS.aload X117.here hx rfl (hb hby at_83) rfl rfl k) ?_
        refine own_by (T' := T117) (f' := (mkF m 86 #[.val (.int i0), .val (.int v0), .val (.int (69 : Int32)), .val (.ref c2), .val (.ref b87), .val (.ref b92), .val (.ref c2)] [(.ref c2), (.ref c2)])) (fun t k => XS.aloadN X117.here hx rfl (hb hby at_85) rfl rfl k) ?_
        refine own_by (T' := T117) (f' := (mkF m 89 #[.val (.int i0), .val (.int v0), .val (.int (69 : Int32)), .val (.ref c2), .val (.ref b87), .val (.ref b92), .val (.ref c2)] [])) (fun t k => Jvm.RoadKit.acmp (g := (mkF m 86 #[.val (.int i0), .val (.int v0), .val (.int (69 : Int32)), .val (.ref c2), .val (.ref b87), .val (.ref b92), .val (.ref c2)] [(.ref c2), (.ref c2)])) X117 hx rfl rfl rfl (pc0 := 86) (pc' := 89) (same := true) rfl (hb hby at_86) rfl (decide_eq_true rfl) (by decide) (by decide) k) ?_
        refine own_by (T' := T117) (f' := (mkF m 91 #[.val (.int i0), .val (.int v0), .val (.int (69 : Int32)), .val (.ref c2), .val (.ref b87), .val (.ref b92), .val (.ref c2)] [(.ref c2)])) (fun t k => XS.aload X117.here hx rfl (hb hby at_89) rfl rfl k) ?_
        have f119 := (f114.keep K117 nin0)
        have f120 := (((((EC2.ext E87).wr W89).ext E92).keep K102).keep K117)
        refine own_callV X117 hx hZ hown rfl (hb hby at_91) [] [] 0 (rmL l Z a0 hw [] c2 _ T117.heap rfl f119) f120 (hw _ (List.mem_of_getElem? (i := 78) rfl)) (hw _ (List.mem_of_getElem? (i := 79) rfl)) (notFace_of_selects (args := #[]) (mvT hZ (hw _ (List.mem_of_getElem? (i := 81) rfl)))) (hw _ (List.mem_of_getElem? (i := 81) rfl)) (hw _ (List.mem_of_getElem? (i := 80) rfl)) (hw _ (List.mem_of_getElem? (i := 1) rfl)) (hw _ (List.mem_of_getElem? (i := 82) rfl)) (by decide) pd___C (by rw [hml]; rfl) rfl rfl (Nat.le_of_eq rfl) (by decide) (by decide) (by decide) (by decide) ?_
        rintro T121 _ L121 X121 ⟨rfl, rfl, e121⟩
        show own_Go p e below _ T121 (mkF m 94 #[.val (.int i0), .val (.int v0), .val (.int (69 : Int32)), .val (.ref c2), .val (.ref b87), .val (.ref b92), .val (.ref c2)] [(.int (69 : Int32))])
        rw [List.append_nil] at X121
        refine own_by (T' := T121) (f' := (mkF m 95 #[.val (.int i0), .val (.int v0), .val (.int (69 : Int32)), .val (.ref c2), .val (.ref b87), .val (.ref b92), .val (.ref c2)] [(.int (69 : Int32)), (.int (69 : Int32))])) (fun t k => XS.iloadN X121.here hx rfl (hb hby at_94) rfl k) ?_
        refine own_by (T' := T121) (f' := (mkF m 98 #[.val (.int i0), .val (.int v0), .val (.int (69 : Int32)), .val (.ref c2), .val (.ref b87), .val (.ref b92), .val (.ref c2)] [])) (fun t k => XS.icmpNo X121.here hx rfl (hb hby at_95) rfl (teq rfl).2 k) ?_
        refine own_by (T' := T121) (f' := (mkF m 99 #[.val (.int i0), .val (.int v0), .val (.int (69 : Int32)), .val (.ref c2), .val (.ref b87), .val (.ref b92), .val (.ref c2)] [(.int (1 : Int32))])) (fun t k => XS.iconst X121.here hx rfl (hb hby at_98) k) ?_
        refine own_by (T' := T121) (f' := (mkF m 103 #[.val (.int i0), .val (.int v0), .val (.int (69 : Int32)), .val (.ref c2), .val (.ref b87), .val (.ref b92), .val (.ref c2)] [(.int (1 : Int32))])) (fun t k => XS.goto X121.here hx rfl (pc0 := 99) (pc' := 103) rfl (hb hby at_99) (by decide) (by decide) k) ?_
        refine own_retZ X121 hx hret hlk (hb hby at_103) (Or.inr rfl) (by decide) (by decide) ?_
        try rw [e121]
        exact ⟨rfl, N117⟩
      · have _ := X0
        refine own_by (T' := s₁) (f' := (mkF m 48 #[.val (.int i0), .val (.int v0), .unset, .unset, .unset, .unset, .unset] [])) (fun t k => XS.icmpYes X0.here hx rfl (pc0 := 35) (pc' := 48) rfl (hb hby at_35) rfl (feq hc35_85).2 (by decide) (by decide) k) ?_
        refine own_by (T' := s₁) (f' := (mkF m 50 #[.val (.int i0), .val (.int v0), .unset, .unset, .unset, .unset, .unset] [(.int (66 : Int32))])) (fun t k => XS.bipush X0.here hx rfl (hb hby at_48) k) ?_
        refine own_by (T' := s₁) (f' := (mkF m 51 #[.val (.int i0), .val (.int v0), .val (.int (66 : Int32)), .unset, .unset, .unset, .unset] [])) (fun t k => XS.istoreN X0.here hx rfl (hb hby at_50) rfl (l' := #[.val (.int i0), .val (.int v0), .val (.int (66 : Int32)), .unset, .unset, .unset, .unset]) rfl k) ?_
        refine own_getS (host := "") X0 hx hZ hown e0 (hb hby at_51) (Or.inl (hw _ (List.mem_of_getElem? (i := 83) rfl))) Via.refl SC3 ?_
        intro T122 X122 e122
        show own_Go p e below _ T122 (mkF m 54 #[.val (.int i0), .val (.int v0), .val (.int (66 : Int32)), .unset, .unset, .unset, .unset] [(.ref c3)])
        refine own_by (T' := T122) (f' := (mkF m 55 #[.val (.int i0), .val (.int v0), .val (.int (66 : Int32)), .val (.ref c3), .unset, .unset, .unset] [])) (fun t k => XS.astoreN X122.here hx rfl (hb hby at_54) rfl rfl (l' := #[.val (.int i0), .val (.int v0), .val (.int (66 : Int32)), .val (.ref c3), .unset, .unset, .unset]) rfl k) ?_
        refine own_by (T' := T122) (f' := (mkF m 56 #[.val (.int i0), .val (.int v0), .val (.int (66 : Int32)), .val (.ref c3), .unset, .unset, .unset] [(.int (1 : Int32))])) (fun t k => XS.iconst X122.here hx rfl (hb hby at_55) k) ?_
        refine own_mkA X122 hx hZ e122 (hb hby at_56) (hw _ (List.mem_of_getElem? (i := 3) rfl)) (v := 0) rfl (by decide) 1 (by decide) (by decide) (by decide) (by decide) ?_
        intro T123 h123 b123 X123 e123 g123 E123 A123r
        have ne123_r0 : r0 ≠ b123 := Nat.ne_of_lt (by rw [g123]; exact AV.lt)
        have ne123_c0 : c0 ≠ b123 := Nat.ne_of_lt (by rw [g123]; exact FL0.lt)
        have ne123_c1 : c1 ≠ b123 := Nat.ne_of_lt (by rw [g123]; exact FL1.lt)
        have ne123_c2 : c2 ≠ b123 := Nat.ne_of_lt (by rw [g123]; exact FL2.lt)
        have ne123_c3 : c3 ≠ b123 := Nat.ne_of_lt (by rw [g123]; exact FL3.lt)
        have gn123 : n0 ≤ b123 := by rw [g123]; exact Z0
        show own_Go p e below _ T123 (mkF m 58 #[.val (.int i0), .val (.int v0), .val (.int (66 : Int32)), .val (.ref c3), .unset, .unset, .unset] [(.ref b123)])
        have A123 : own_A Z h123 b123 .char 1 (fun _ => 0) := A123r
        have sz124 : n0 ≤ h123.size := Nat.le_trans Z0 E123.1
        refine own_by (T' := T123) (f' := (mkF m 60 #[.val (.int i0), .val (.int v0), .val (.int (66 : Int32)), .val (.ref c3), .val (.ref b123), .unset, .unset] [])) (fun t k => XS.astore X123.here hx rfl (hb hby at_58) rfl rfl (l' := #[.val (.int i0), .val (.int v0), .val (.int (66 : Int32)), .val (.ref c3), .val (.ref b123), .unset, .unset]) rfl k) ?_
        refine own_by (T' := T123) (f' := (mkF m 62 #[.val (.int i0), .val (.int v0), .val (.int (66 : Int32)), .val (.ref c3), .val (.ref b123), .unset, .unset] [(.ref b123)])) (fun t k => XS.aload X123.here hx rfl (hb hby at_60) rfl rfl k) ?_
        refine own_by (T' := T123) (f' := (mkF m 63 #[.val (.int i0), .val (.int v0), .val (.int (66 : Int32)), .val (.ref c3), .val (.ref b123), .unset, .unset] [(.int (0 : Int32)), (.ref b123)])) (fun t k => XS.iconst X123.here hx rfl (hb hby at_62) k) ?_
        refine own_by (T' := T123) (f' := (mkF m 64 #[.val (.int i0), .val (.int v0), .val (.int (66 : Int32)), .val (.ref c3), .val (.ref b123), .unset, .unset] [(.int (66 : Int32)), (.int (0 : Int32)), (.ref b123)])) (fun t k => XS.iloadN X123.here hx rfl (hb hby at_63) rfl k) ?_
        have _ : (0 : Int32).toInt = 0 := by decide
        refine own_stC X123 hx hZ e123 (hb hby at_64) A123 (by first | decide | omega) (by first | decide | omega) ?_
        intro T125 h125 X125 e125 W125 A125
        show own_Go p e below _ T125 (mkF m 65 #[.val (.int i0), .val (.int v0), .val (.int (66 : Int32)), .val (.ref c3), .val (.ref b123), .unset, .unset] [])
        have sz126 : n0 ≤ h125.size := by rw [W125.size]; exact sz124
        have N125 := Fr.snoc X125 N0 gn123
        have A127 : own_A Z h125 b123 .char 1 (fun _ => (66 : Int32)) := A125.congr (fun i hi => by rw [if_pos (show i = (0 : Int32).toInt.toNat from (show i = 0 from by omega))]; rfl)
        refine own_new X125 hx hZ hown e125 (hb hby at_65) (hw _ (List.mem_of_getElem? (i := 4) rfl)) (hw _ (List.mem_of_getElem? (i := 5) rfl)) (hw _ (List.mem_of_getElem? (i := 6) rfl)) (by decide) (by decide) ?_
        intro T128 h128 b128 X128 e128 g128 E128 A128 D128
        have f129 := ((AV.ext E123).other W125 ne123_r0)
        have ne128_r0 : r0 ≠ b128 := Nat.ne_of_lt (by rw [g128]; exact f129.lt)
        have f130 := ((FL0.ext E123).other W125 (Or.inl ne123_c0))
        have ne128_c0 : c0 ≠ b128 := Nat.ne_of_lt (by rw [g128]; exact f130.lt)
        have f131 := ((FL1.ext E123).other W125 (Or.inl ne123_c1))
        have ne128_c1 : c1 ≠ b128 := Nat.ne_of_lt (by rw [g128]; exact f131.lt)
        have f132 := ((FL2.ext E123).other W125 (Or.inl ne123_c2))
        have ne128_c2 : c2 ≠ b128 := Nat.ne_of_lt (by rw [g128]; exact f132.lt)
        have f133 := ((FL3.ext E123).other W125 (Or.inl ne123_c3))
        have ne128_c3 : c3 ≠ b128 := Nat.ne_of_lt (by rw [g128]; exact f133.lt)
        have ne128_b123 : b123 ≠ b128 := Nat.ne_of_lt (by rw [g128]; exact A127.lt)
        have gn128 : n0 ≤ b128 := by rw [g128]; exact sz126
        show own_Go p e below _ T128 (mkF m 68 #[.val (.int i0), .val (.int v0), .val (.int (66 : Int32)), .val (.ref c3), .val (.ref b123), .unset, .unset] [(.ref b128)])
        have F128_coder : Fld Z h128 b128 "java/lang/String" "coder" "B" (.int (0 : Int32)) := D128 (Or.inr (hw _ (List.mem_of_getElem? (i := 30) rfl))) (ty := .byte) (by decide)
        have F128_value : Fld Z h128 b128 "java/lang/String" "value" "[B" .null := D128 (Or.inr (hw _ (List.mem_of_getElem? (i := 32) rfl))) (ty := (.array .byte)) (by decide)
        have sz134 : n0 ≤ h128.size := Nat.le_trans sz126 E128.1
        refine own_by (T' := T128) (f' := (mkF m 69 #[.val (.int i0), .val (.int v0), .val (.int (66 : Int32)), .val (.ref c3), .val (.ref b123), .unset, .unset] [(.ref b128), (.ref b128)])) (fun t k => XS.dup X128.here hx rfl (hb hby at_68) rfl rfl k) ?_
        refine own_by (T' := T128) (f' := (mkF m 71 #[.val (.int i0), .val (.int v0), .val (.int (66 : Int32)), .val (.ref c3), .val (.ref b123), .unset, .unset] [(.ref b123), (.ref b128), (.ref b128)])) (fun t k => XS.aload X128.here hx rfl (hb hby at_69) rfl rfl k) ?_
        have q135 : ∀ x ∈ [b128], ∃ c : Cell, h128[x]? = some c ∧ c.vm.isStatics = false := (allS (own_ns A128) all0)
        have f136 := (A127.ext E128)
        have f137 := (((S0.ext E123).wr W125).ext E128)
        refine own_callN X128 hx hZ hown e128 (hb hby at_71) [(.ref b123)] [(.ref b128)] 1 (rmI1 l Z a0 hw [] b128 b123 (1 : Int32) 1 (fun _ => (66 : Int32)) _ _ cs h128 n0 sz134 gn128 (by decide) (by omega) (by omega) (fun q _ => (by decide : ¬ (255 : Int32) < (66 : Int32))) f136 ne128_b123 A128 F128_value F128_coder hcs f137) (hw _ (List.mem_of_getElem? (i := 7) rfl)) (hw _ (List.mem_of_getElem? (i := 8) rfl)) (hw _ (List.mem_of_getElem? (i := 6) rfl)) (hw _ (List.mem_of_getElem? (i := 9) rfl)) rfl (by decide) pd___C_V (by rw [hml]; rfl) rfl rfl (Nat.le_of_eq rfl) (by decide) (by decide) (by decide) (by decide) ?_
        rintro T138 _ L138 X138 ⟨rfl, N138q, K138, A138, C138, b138, V138, gb138, B138⟩
        show own_Go p e below _ T138 (mkF m 74 #[.val (.int i0), .val (.int v0), .val (.int (66 : Int32)), .val (.ref c3), .val (.ref b123), .unset, .unset] [(.ref b128)])
        have N138 := Fr.app N125 N138q
        have f139 := (f129.ext E128)
        have ne138_r0 : r0 ≠ b138 := Nat.ne_of_lt (Nat.lt_of_lt_of_le f139.lt gb138)
        have f140 := (f130.ext E128)
        have ne138_c0 : c0 ≠ b138 := Nat.ne_of_lt (Nat.lt_of_lt_of_le f140.lt gb138)
        have f141 := (f131.ext E128)
        have ne138_c1 : c1 ≠ b138 := Nat.ne_of_lt (Nat.lt_of_lt_of_le f141.lt gb138)
        have f142 := (f132.ext E128)
        have ne138_c2 : c2 ≠ b138 := Nat.ne_of_lt (Nat.lt_of_lt_of_le f142.lt gb138)
        have f143 := (f133.ext E128)
        have ne138_c3 : c3 ≠ b138 := Nat.ne_of_lt (Nat.lt_of_lt_of_le f143.lt gb138)
        have ne138_b123 : b123 ≠ b138 := Nat.ne_of_lt (Nat.lt_of_lt_of_le f136.lt gb138)
        have ne138_b128 : b128 ≠ b138 := Nat.ne_of_lt (Nat.lt_of_lt_of_le A128.lt gb138)
        have gn138 : n0 ≤ b138 := Nat.le_trans sz134 gb138
        have sz144 : n0 ≤ T138.heap.size := Nat.le_trans sz134 K138.1
        refine own_by (T' := T138) (f' := (mkF m 76 #[.val (.int i0), .val (.int v0), .val (.int (66 : Int32)), .val (.ref c3), .val (.ref b123), .val (.ref b128), .unset] [])) (fun t k => XS.astore X138.here hx rfl (hb hby at_74) rfl rfl (l' := #[.val (.int i0), .val (.int v0), .val (.int (66 : Int32)), .val (.ref c3), .val (.ref b123), .val (.ref b128), .unset]) rfl k) ?_
        refine own_by (T' := T138) (f' := (mkF m 78 #[.val (.int i0), .val (.int v0), .val (.int (66 : Int32)), .val (.ref c3), .val (.ref b123), .val (.ref b128), .unset] [(.ref b128)])) (fun t k => XS.aload X138.here hx rfl (hb hby at_76) rfl rfl k) ?_
        have f145 := (own_sta_keep (((SV.ext E123).wr W125).ext E128) K138 q135)
        have f146 := ((((EV.ext E123).wr W125).ext E128).keep K138)
        have f147 := (f139.keep K138 (ninS ne128_r0 nin0))
        have f148 := (f140.keep K138 (ninS ne128_c0 nin0))
        have f149 := (f141.keep K138 (ninS ne128_c1 nin0))
        have f150 := (f142.keep K138 (ninS ne128_c2 nin0))
        have f151 := (f143.keep K138 (ninS ne128_c3 nin0))
        have f152 := (own_sta_keep f137 K138 q135)
        refine own_callS X138 hx hZ hown rfl (hb hby at_78) [(.ref b128)] [] 0 (rmP3 l Z a0 hw [] b128 b138 r0 c0 c1 c2 c3 kk cs T138.heap n0 sz144 f145 f146 f147 f148 f149 f150 f151 A138 C138 V138 B138 hcs f152) (hw _ (List.mem_of_getElem? (i := 33) rfl)) (hw _ (List.mem_of_getElem? (i := 34) rfl)) (hw _ (List.mem_of_getElem? (i := 1) rfl)) (hw _ (List.mem_of_getElem? (i := 35) rfl)) (by decide) pd__Ljava_lang_String__Lcom_example_tablee_tablee_rules_cards_SpanishSuit_ (by rw [hml]; rfl) rfl rfl (Nat.le_of_eq rfl) (by decide) (by decide) (by decide) (by decide) ?_
        rintro T153 _ L153 X153 ⟨rfl, N153q, K153⟩
        show own_Go p e below _ T153 (mkF m 81 #[.val (.int i0), .val (.int v0), .val (.int (66 : Int32)), .val (.ref c3), .val (.ref b123), .val (.ref b128), .unset] [(.ref c3)])
        have N153 := Fr.app N138 N153q
        have sz154 : n0 ≤ T153.heap.size := Nat.le_trans sz144 K153.1
        refine own_by (T' := T153) (f' := (mkF m 83 #[.val (.int i0), .val (.int v0), .val (.int (66 : Int32)), .val (.ref c3), .val (.ref b123), .val (.ref b128), .val (.ref c3)] [])) (fun t k => XS.astore X153.here hx rfl (hb hby at_81) rfl rfl (l' := #[.val (.int i0), .val (.int v0), .val (.int (66 : Int32)), .val (.ref c3), .val (.ref b123), .val (.ref b128), .val (.ref c3)]) rfl k) ?_
        refine own_by (T' := T153) (f' := (mkF m 85 #[.val (.int i0), .val (.int v0), .val (.int (66 : Int32)), .val (.ref c3), .val (.ref b123), .val (.ref b128), .val (.ref c3)] [(.ref c3)])) (fun t k => XS.aload X153.here hx rfl (hb hby at_83) rfl rfl k) ?_
        refine own_by (T' := T153) (f' := (mkF m 86 #[.val (.int i0), .val (.int v0), .val (.int (66 : Int32)), .val (.ref c3), .val (.ref b123), .val (.ref b128), .val (.ref c3)] [(.ref c3), (.ref c3)])) (fun t k => XS.aloadN X153.here hx rfl (hb hby at_85) rfl rfl k) ?_
        refine own_by (T' := T153) (f' := (mkF m 89 #[.val (.int i0), .val (.int v0), .val (.int (66 : Int32)), .val (.ref c3), .val (.ref b123), .val (.ref b128), .val (.ref c3)] [])) (fun t k => Jvm.RoadKit.acmp (g := (mkF m 86 #[.val (.int i0), .val (.int v0), .val (.int (66 : Int32)), .val (.ref c3), .val (.ref b123), .val (.ref b128), .val (.ref c3)] [(.ref c3), (.ref c3)])) X153 hx rfl rfl rfl (pc0 := 86) (pc' := 89) (same := true) rfl (hb hby at_86) rfl (decide_eq_true rfl) (by decide) (by decide) k) ?_
        refine own_by (T' := T153) (f' := (mkF m 91 #[.val (.int i0), .val (.int v0), .val (.int (66 : Int32)), .val (.ref c3), .val (.ref b123), .val (.ref b128), .val (.ref c3)] [(.ref c3)])) (fun t k => XS.aload X153.here hx rfl (hb hby at_89) rfl rfl k) ?_
        have f155 := (f151.keep K153 nin0)
        have f156 := (((((EC3.ext E123).wr W125).ext E128).keep K138).keep K153)
        refine own_callV X153 hx hZ hown rfl (hb hby at_91) [] [] 0 (rmL l Z a0 hw [] c3 _ T153.heap rfl f155) f156 (hw _ (List.mem_of_getElem? (i := 78) rfl)) (hw _ (List.mem_of_getElem? (i := 79) rfl)) (notFace_of_selects (args := #[]) (mvT hZ (hw _ (List.mem_of_getElem? (i := 81) rfl)))) (hw _ (List.mem_of_getElem? (i := 81) rfl)) (hw _ (List.mem_of_getElem? (i := 80) rfl)) (hw _ (List.mem_of_getElem? (i := 1) rfl)) (hw _ (List.mem_of_getElem? (i := 82) rfl)) (by decide) pd___C (by rw [hml]; rfl) rfl rfl (Nat.le_of_eq rfl) (by decide) (by decide) (by decide) (by decide) ?_
        rintro T157 _ L157 X157 ⟨rfl, rfl, e157⟩
        show own_Go p e below _ T157 (mkF m 94 #[.val (.int i0), .val (.int v0), .val (.int (66 : Int32)), .val (.ref c3), .val (.ref b123), .val (.ref b128), .val (.ref c3)] [(.int (66 : Int32))])
        rw [List.append_nil] at X157
        refine own_by (T' := T157) (f' := (mkF m 95 #[.val (.int i0), .val (.int v0), .val (.int (66 : Int32)), .val (.ref c3), .val (.ref b123), .val (.ref b128), .val (.ref c3)] [(.int (66 : Int32)), (.int (66 : Int32))])) (fun t k => XS.iloadN X157.here hx rfl (hb hby at_94) rfl k) ?_
        refine own_by (T' := T157) (f' := (mkF m 98 #[.val (.int i0), .val (.int v0), .val (.int (66 : Int32)), .val (.ref c3), .val (.ref b123), .val (.ref b128), .val (.ref c3)] [])) (fun t k => XS.icmpNo X157.here hx rfl (hb hby at_95) rfl (teq rfl).2 k) ?_
        refine own_by (T' := T157) (f' := (mkF m 99 #[.val (.int i0), .val (.int v0), .val (.int (66 : Int32)), .val (.ref c3), .val (.ref b123), .val (.ref b128), .val (.ref c3)] [(.int (1 : Int32))])) (fun t k => XS.iconst X157.here hx rfl (hb hby at_98) k) ?_
        refine own_by (T' := T157) (f' := (mkF m 103 #[.val (.int i0), .val (.int v0), .val (.int (66 : Int32)), .val (.ref c3), .val (.ref b123), .val (.ref b128), .val (.ref c3)] [(.int (1 : Int32))])) (fun t k => XS.goto X157.here hx rfl (pc0 := 99) (pc' := 103) rfl (hb hby at_99) (by decide) (by decide) k) ?_
        refine own_retZ X157 hx hret hlk (hb hby at_103) (Or.inr rfl) (by decide) (by decide) ?_
        try rw [e157]
        exact ⟨rfl, N153⟩
theorem own_eqv {args : Array Value} {first s : State} {o : Option Outcome} {idx : List Nat} {a b : Term} {k : Int32} (h : (Jvm.Cond.eq a b).value args first o s idx = some true) (hb : b.eval args first o idx s = some (.int k)) : a.eval args first o idx s = some (.int k) := by
  cases ha : a.eval args first o idx s with
  | none => simp [Cond.value, ha] at h
  | some x => cases x <;> simp [Cond.value, ha, hb] at h ⊢; exact h
theorem own_eqr {args : Array Value} {first s : State} {o : Option Outcome} {idx : List Nat} {a b : Term} {k : Addr} (h : (Jvm.Cond.eq a b).value args first o s idx = some true) (hb : b.eval args first o idx s = some (.ref k)) : a.eval args first o idx s = some (.ref k) := by
  cases ha : a.eval args first o idx s with
  | none => simp [Cond.value, ha] at h
  | some x => cases x <;> simp [Cond.value, ha, hb, Value.isRef] at h ⊢ <;> exact h
theorem own_arv4 {s : State} {args : Array Value} {r0 : Addr} {cl : Cell} {C : String} {t : Term} {c0 c1 c2 c3 : Addr} (hf : Fit s) (A : Arr s s.heap r0 cl (.object C)) (ev : t.eval args s none [] s = some (.ref r0)) (hN : (Term.length t).eval args s none [] s = some (.int 4))
    (h0 : (Term.elem t (.int 0)).eval args s none [] s = some (.ref c0)) (h1 : (Term.elem t (.int 1)).eval args s none [] s = some (.ref c1)) (h2 : (Term.elem t (.int 2)).eval args s none [] s = some (.ref c2)) (h3 : (Term.elem t (.int 3)).eval args s none [] s = some (.ref c3)) :
    Arv s s.heap r0 cl.cls (.object C) (4 : Int32) [(.ref c0), (.ref c1), (.ref c2), (.ref c3)] .null := by
  have ha : s.arrayAt? r0 = some cl := A.fin (Vm.Alike.refl _)
  have e4 : cl.slots.size < 2 ^ 31 := by
    apply Decidable.byContradiction
    intro q
    simp [Term.eval, ev, ha] at hN
    omega
  have e3 : cl.slots.size.toInt32 = 4 := by
    have q := (len_f ev ha e4).symm.trans hN
    simpa using q
  have g0 := (elem_f ev (Term.int_eval 0) ha (by decide)).symm.trans h0
  have g1 := (elem_f ev (Term.int_eval 1) ha (by decide)).symm.trans h1
  have g2 := (elem_f ev (Term.int_eval 2) ha (by decide)).symm.trans h2
  have g3 := (elem_f ev (Term.int_eval 3) ha (by decide)).symm.trans h3
  exact Arv.start hf A e4 e3 (by decide) rfl ⟨g0, g1, g2, g3, trivial⟩
theorem own_cs {args : Array Value} {s : State} {c : Jvm.Cond} (h : (Jvm.Cond.and (Jvm.Cond.initializedFor "java/lang/String" "COMPACT_STRINGS" "Z") (Jvm.Cond.and (Jvm.Cond.isInt (Jvm.Term.static "java/lang/String" "COMPACT_STRINGS" "Z")) (Jvm.Cond.and (Jvm.Cond.not (Jvm.Cond.eq (Jvm.Term.static "java/lang/String" "COMPACT_STRINGS" "Z") (Jvm.Term.int (0 : Int32)))) c))).value args s none s [] = some true) :
    ∃ cs : Int32, Sta s s.heap "java/lang/String" "COMPACT_STRINGS" "Z" (.int cs) ∧ ¬ (cs = (0 : Int32)) := by
  obtain ⟨h1, h2⟩ := and_e h
  obtain ⟨h3, h4⟩ := and_e h2
  obtain ⟨h5, -⟩ := and_e h4
  obtain ⟨cs, ev⟩ := is_v h3
  refine ⟨cs, Sta.start ev (Or.inl (Cond.before_iff.mpr h1)), fun q => ?_⟩
  have h6 := not_v h5
  rw [eq_i ev (Term.int_eval 0) (by rw [q])] at h6
  simp at h6
set_option maxRecDepth 65536 in
set_option maxHeartbeats 40000000 in
theorem comes_1 {Post : Tables → Env → Array Value → State → Outcome → State → Prop} (hpost : ∀ tb e args s v u, (limb_1_1.after args s (.returned v) u = true ∧ limb_1_2.after args s (.returned v) u = true ∧ True) → FrameEnd s (.returned v) u (Jvm.fieldLocs frame_1_writes args s ++ Jvm.arrayLocs frame_1_arrays args s ++ Jvm.staticLocs frame_1_statics s) 32 128 → Post tb e args s (.returned v) u) :
    ArmFor flags0 classFile x code maxLocals ret World_1 tables_1 room_1 Calls_1 rest_1 Pre_1 Post := by
  intro l hfl _ _ p e ha hc hk s m args below hf hA hF happ hP
  obtain ⟨hcalls, hrest, hpre⟩ := hP
  obtain ⟨-, -, -, hnamed, -, -, -, hat⟩ := (Spec.applies_iff hf).mp happ
  obtain ⟨hg, hn⟩ := and_e (Cond.before_iff.mp (show (Jvm.Cond.and given_1 narrow_1).before args s = true from hpre))
  obtain ⟨gc, gr0⟩ := and_e hg
  obtain ⟨w0, rfl⟩ : ∃ w0 : Value, args = #[w0] := by
    have hs : args.size = 1 := by simpa [Cond.value, given_1] using gc
    obtain ⟨L⟩ := args
    match L, hs with
    | [w0], _ => exact ⟨w0, rfl⟩
  have hw := fun d (hd : d ∈ tables_1) => atoms_spec (ws := Jvm.Cond.code x code maxLocals ret :: tables_1) hat d (List.mem_cons_of_mem _ hd)
  have hfit : Fit s := fun {y c} hc i hi => by
    obtain ⟨ha, rfl⟩ := Array.getElem?_eq_some_iff.mp hc
    have q := List.all_eq_true.mp ((Array.all_eq_true_iff_forall_mem.mp hF) _ (Array.getElem_mem ha)) i (List.mem_range.mpr hi)
    simpa [Array.getElem?_eq_getElem hi] using q
  obtain ⟨i0, ei0⟩ := is_v gr0
  obtain rfl : w0 = (.int i0) := Option.some.inj ei0
  obtain ⟨nq0, nr0⟩ := and_e hn
  obtain ⟨nq1, nr1⟩ := and_e nr0
  obtain ⟨nq2, nr2⟩ := and_e nr1
  obtain ⟨nq3, nr3⟩ := and_e nr2
  obtain ⟨nq4, nr4⟩ := and_e nr3
  obtain ⟨nq5, nr5⟩ := and_e nr4
  obtain ⟨nq6, nr6⟩ := and_e nr5
  obtain ⟨nq7, nr7⟩ := and_e nr6
  obtain ⟨nq8, nr8⟩ := and_e nr7
  obtain ⟨nq9, nr9⟩ := and_e nr8
  obtain ⟨nq10, nr10⟩ := and_e nr9
  obtain ⟨nq11, nr11⟩ := and_e nr10
  obtain ⟨nq12, nr12⟩ := and_e nr11
  obtain ⟨nq13, nr13⟩ := and_e nr12
  obtain ⟨c0, ev0⟩ := exa_v nq0
  have EE0 := Exa.start ev0 nq0
  have SS0 := Sta.start ev0 (Or.inr ⟨(hw _ (List.mem_of_getElem? (i := 1) rfl)), (hw _ (List.mem_of_getElem? (i := 2) rfl))⟩)
  have FF0 := Fld.start ((fld_at ev0).symm.trans (own_eqv nq11 (Term.int_eval 79)))
  obtain ⟨c1, ev1⟩ := exa_v nq5
  have EE1 := Exa.start ev1 nq5
  have SS1 := Sta.start ev1 (Or.inr ⟨(hw _ (List.mem_of_getElem? (i := 1) rfl)), (hw _ (List.mem_of_getElem? (i := 48) rfl))⟩)
  have FF1 := Fld.start ((fld_at ev1).symm.trans (own_eqv nq12 (Term.int_eval 67)))
  obtain ⟨c2, ev2⟩ := exa_v nq7
  have EE2 := Exa.start ev2 nq7
  have SS2 := Sta.start ev2 (Or.inr ⟨(hw _ (List.mem_of_getElem? (i := 1) rfl)), (hw _ (List.mem_of_getElem? (i := 49) rfl))⟩)
  have FF2 := Fld.start ((fld_at ev2).symm.trans (own_eqv nq13 (Term.int_eval 69)))
  obtain ⟨c3, ev3⟩ := exa_v nq9
  have EE3 := Exa.start ev3 nq9
  have SS3 := Sta.start ev3 (Or.inr ⟨(hw _ (List.mem_of_getElem? (i := 1) rfl)), (hw _ (List.mem_of_getElem? (i := 50) rfl))⟩)
  have FF3 := Fld.start ((fld_at ev3).symm.trans (own_eqv nr13 (Term.int_eval 66)))
  obtain ⟨r0, evr⟩ := exa_v nq2
  have EV := Exa.start evr nq2
  have SV := Sta.start evr (Or.inl (hw _ (List.mem_of_getElem? (i := 51) rfl)))
  obtain ⟨cl, AA⟩ := Arr.start evr nq1
  have AV := own_arv4 hfit AA evr (own_eqv nq3 (Term.int_eval 4)) (own_eqr nq4 ev0) (own_eqr nq6 ev1) (own_eqr nq8 ev2) (own_eqr nq10 ev3)
  have hrc := Cond.before_iff.mp (show rest_1_c.before _ s = true from hrest)
  rw [rest_1_c_eq] at hrc
  obtain ⟨cs, ecs, hcs⟩ := own_cs hrc
  obtain ⟨n, o, h1, h2, h3, _, L, rfl, ⟨rfl, N⟩, hq⟩ := rm0 l s _ hw tables_1 i0 r0 c0 c1 c2 c3 cl.cls cs s.heap s.heap.size (Nat.le_refl _) SV EV AV FF0 FF1 FF2 FF3 EE0 SS0 EE1 SS1 EE2 SS2 EE3 SS3 hcs ecs p e ha hc hk s m _ below hf ((Spec.applies_iff_loose hf).mp happ).1 ⟨rfl, State.Warmed39.refl s, rfl⟩ trivial
  refine ⟨n, _, h1, h2, h3, hpost _ _ _ _ _ _ ⟨Cond.after_iff.mpr rfl, Cond.after_iff.mpr (eq_i res_at (Term.int_eval (1)) rfl), trivial⟩ ⟨hq.1, hq.2.1, (hq.2.2.sift fun y hy => Or.inr (N y hy)).mono (by decide) (by decide)⟩⟩
theorem main_1_1 : Claimed_1_1 := comes_1 fun _ _ _ _ _ _ h hF => ⟨h.1, hF⟩
theorem main_1_2 : Claimed_1_2 := comes_1 fun _ _ _ _ _ _ h hF => ⟨h.2.1, hF⟩
end Jvm.Pilot.@@N@@
namespace Jvm.Pilot.@@N@@
open Jvm Jvm.ClassFile Sem Op Lib Jvm.Free Jvm.Stand Jvm.Pilot.@@N@@.Jvm.D
/-! MADE BY PROGRAM (witnessworld.py) out of the Statement's table words and the real class files: 22 classes; the members and pool entries that the words name. The judged class is class 1, her method 1. -/
namespace start1
open Jvm.ClassFile
def u (s : String) : CpInfo := .utf8 (stringToUtf16 s)
/-- a pool by its gaps: so many unusable entries, then the entry; so many at the end -/
def gap : Nat → List CpInfo → List CpInfo
  | 0, r => r
  | n + 1, r => .unusable :: gap n r
def poolList (es : List (Nat × CpInfo)) (last : Nat) : List CpInfo := es.foldr (fun e r => gap e.1 (e.2 :: r)) (gap last [])
def pool (es : List (Nat × CpInfo)) (last : Nat) : Array CpInfo := ⟨poolList es last⟩
def fileOf (pool : Array CpInfo) (this : Nat) (attrs : Array Attribute := #[]) (ms : Array MethodInfo := #[]) (fl : Nat := 33) (sup : Nat := 0) (ifs : Array Nat := #[]) (fds : Array FieldInfo := #[]) : ClassFile where
  minorVersion := 0
  majorVersion := 65
  constantPool := pool
  accessFlags := fl
  thisClass := this
  superClass := sup
  interfaces := ifs
  fields := fds
  methods := ms
  attributes := attrs
def plain (name : String) (sup : Option ClassId) : Class where
  name := name
  kind := .ordinary
  loader := none
  accessFlags := 33
  super := sup
  interfaces := #[]
  cf := none
  fields := #[]
  methods := #[]
  instanceTypes := #[]
  staticTypes := #[]
  resolved := #[]
  callSites := []
  init := .initialized
  statics := none
  mirror := none

def pool0 : Array CpInfo := pool [(5, u "<init>"), (0, u "()V"), (1, .class_ 10), (1, u "java/lang/Object"), (85, u "clone"), (0, u "()Ljava/lang/Object;")] 26

def k0c0 : Code := { maxStack := 0, maxLocals := 1, code := object_method_1_code, exceptionTable := #[], attributes := #[] }
def k0m0 : Method := { name := "<init>", desc := "()V", sig := { parameters := [], returnType := none }, accessFlags := 1, code := some k0c0 }
def k0m1 : Method := { name := "clone", desc := "()Ljava/lang/Object;", sig := { parameters := [], returnType := some (.object "java/lang/Object") }, accessFlags := 260, code := none }
/-- java/lang/Object -/
def k0 : Class := { plain "java/lang/Object" none with
  accessFlags := 33
  interfaces := #[]
  cf := some (fileOf pool0 8 #[] #[{ accessFlags := 1, nameIndex := 5, descriptorIndex := 6, attributes := #[] }, { accessFlags := 260, nameIndex := 96, descriptorIndex := 97, attributes := #[] }] 33 0 #[] #[])
  fields := #[]
  methods := #[k0m0, k0m1]
  instanceTypes := #[]
  staticTypes := #[]
  resolved := Array.replicate 124 none
  statics := none }

def pool1 : Array CpInfo := pool [(2, .class_ 4), (1, u "java/lang/Object"), (0, u "<init>"), (0, u "()V"), (0, .fieldref 8 9), (0, .class_ 10), (0, .nameAndType 11 12), (0, u "com/example/tablee/tablee/rules/cards/SpanishSuit"), (0, u "OROS"), (0, u "Lcom/example/tablee/tablee/rules/cards/SpanishSuit;"), (0, .fieldref 8 14), (0, .nameAndType 15 12), (0, u "COPAS"), (0, .fieldref 8 17), (0, .nameAndType 18 12), (0, u "ESPADAS"), (0, .fieldref 8 20), (0, .nameAndType 21 12), (0, u "BASTOS"), (0, .class_ 23), (0, u "java/lang/String"), (0, .methodref 22 25), (0, .nameAndType 5 26), (0, u "([C)V"), (0, .methodref 8 28), (0, .nameAndType 29 30), (0, u "parse"), (0, u "(Ljava/lang/String;)Lcom/example/tablee/tablee/rules/cards/SpanishSuit;"), (0, .methodref 8 32), (0, .nameAndType 33 34), (0, u "letter"), (0, u "()C"), (0, .class_ 36), (0, u "com/example/tablee/tablee/rules/cards/SpanishSuitParsePinLaw"), (2, u "law"), (0, u "(I)Z")] 5

def k1m0 : Method := { name := "<init>", desc := "()V", sig := { parameters := [], returnType := none }, accessFlags := 1, code := none }
def k1c1 : Code := { maxStack := 3, maxLocals := 7, code := code, exceptionTable := #[], attributes := #[] }
def k1m1 : Method := { name := "law", desc := "(I)Z", sig := { parameters := [.int], returnType := some .boolean }, accessFlags := 9, code := some k1c1 }
/-- com/example/tablee/tablee/rules/cards/SpanishSuitParsePinLaw -/
def k1 : Class := { plain "com/example/tablee/tablee/rules/cards/SpanishSuitParsePinLaw" (some 0) with
  accessFlags := 49
  interfaces := #[]
  cf := some (fileOf pool1 35 #[] #[{ accessFlags := 1, nameIndex := 5, descriptorIndex := 6, attributes := #[] }, { accessFlags := 9, nameIndex := 39, descriptorIndex := 40, attributes := #[] }] 49 2 #[] #[])
  fields := #[]
  methods := #[k1m0, k1m1]
  instanceTypes := #[]
  staticTypes := #[]
  resolved := Array.replicate 46 none
  statics := none }

def pool2 : Array CpInfo := pool [(1, .class_ 2), (0, u "java/lang/constant/Constable"), (0, .class_ 4), (0, u "java/lang/Object")] 6

/-- java/lang/constant/Constable -/
def k2 : Class := { plain "java/lang/constant/Constable" (some 0) with
  accessFlags := 1537
  interfaces := #[]
  cf := some (fileOf pool2 1 #[] #[] 1537 3 #[] #[])
  fields := #[]
  methods := #[]
  instanceTypes := #[]
  staticTypes := #[]
  resolved := Array.replicate 11 none
  statics := none }

def pool3 : Array CpInfo := pool [(1, .class_ 2), (0, u "java/lang/Comparable"), (0, .class_ 4), (0, u "java/lang/Object")] 7

/-- java/lang/Comparable -/
def k3 : Class := { plain "java/lang/Comparable" (some 0) with
  accessFlags := 1537
  interfaces := #[]
  cf := some (fileOf pool3 1 #[] #[] 1537 3 #[] #[])
  fields := #[]
  methods := #[]
  instanceTypes := #[]
  staticTypes := #[]
  resolved := Array.replicate 12 none
  statics := none }

def pool4 : Array CpInfo := pool [(1, .class_ 2), (0, u "java/io/Serializable"), (0, .class_ 4), (0, u "java/lang/Object")] 2

/-- java/io/Serializable -/
def k4 : Class := { plain "java/io/Serializable" (some 0) with
  accessFlags := 1537
  interfaces := #[]
  cf := some (fileOf pool4 1 #[] #[] 1537 3 #[] #[])
  fields := #[]
  methods := #[]
  instanceTypes := #[]
  staticTypes := #[]
  resolved := Array.replicate 7 none
  statics := none }

def pool5 : Array CpInfo := pool [(2, .class_ 4), (1, u "java/lang/Enum"), (0, u "name"), (0, u "Ljava/lang/String;"), (2, u "ordinal"), (0, u "I"), (1, .class_ 14), (1, u "java/lang/Object"), (4, u "hash"), (86, .class_ 108), (1, u "java/lang/Enum$EnumDesc"), (2, .class_ 112), (0, u "java/lang/constant/Constable"), (0, .class_ 114), (0, u "java/lang/Comparable"), (0, .class_ 116), (0, u "java/io/Serializable")] 87

/-- java/lang/Enum -/
def k5 : Class := { plain "java/lang/Enum" (some 0) with
  accessFlags := 1057
  interfaces := #[2, 3, 4]
  cf := some (fileOf pool5 2 #[.nestMembers #[106]] #[] 1057 12 #[111, 113, 115] #[{ accessFlags := 18, nameIndex := 5, descriptorIndex := 6, attributes := #[] }, { accessFlags := 18, nameIndex := 9, descriptorIndex := 10, attributes := #[] }, { accessFlags := 2, nameIndex := 19, descriptorIndex := 10, attributes := #[] }])
  fields := #[{ name := "name", type := (.object "java/lang/String"), accessFlags := 18, slot := 0, constantValue := 0 }, { name := "ordinal", type := .int, accessFlags := 18, slot := 1, constantValue := 0 }, { name := "hash", type := .int, accessFlags := 2, slot := 2, constantValue := 0 }]
  methods := #[]
  instanceTypes := #[(.object "java/lang/String"), .int, .int]
  staticTypes := #[]
  resolved := Array.replicate 204 none
  statics := none }

def pool6 : Array CpInfo := pool [(1, .class_ 2), (0, u "com/example/tablee/tablee/rules/cards/SpanishSuit"), (2, u "OROS"), (0, u "Lcom/example/tablee/tablee/rules/cards/SpanishSuit;"), (2, u "COPAS"), (2, u "ESPADAS"), (2, u "BASTOS"), (0, .fieldref 1 17), (0, .nameAndType 18 19), (0, u "$VALUES"), (0, u "[Lcom/example/tablee/tablee/rules/cards/SpanishSuit;"), (0, .methodref 21 22), (0, .class_ 19), (0, .nameAndType 23 24), (0, u "clone"), (0, u "()Ljava/lang/Object;"), (1, .class_ 28), (1, u "java/lang/Enum"), (0, u "valueOf"), (5, .fieldref 1 36), (0, .nameAndType 37 38), (0, u "letter"), (0, u "C"), (0, .methodref 1 40), (0, .nameAndType 41 42), (0, u "values"), (0, u "()[Lcom/example/tablee/tablee/rules/cards/SpanishSuit;"), (0, .methodref 44 45), (0, .class_ 46), (0, .nameAndType 29 47), (0, u "java/lang/String"), (0, u "(C)Ljava/lang/String;"), (0, .methodref 44 49), (0, .nameAndType 50 51), (0, u "equals"), (0, u "(Ljava/lang/Object;)Z"), (21, u "(Ljava/lang/String;)Lcom/example/tablee/tablee/rules/cards/SpanishSuit;"), (3, u "parse"), (1, u "()C")] 20

def k6c0 : Code := { maxStack := 1, maxLocals := 0, code := prog_7_method_1_code, exceptionTable := #[], attributes := #[] }
def k6m0 : Method := { name := "values", desc := "()[Lcom/example/tablee/tablee/rules/cards/SpanishSuit;", sig := { parameters := [], returnType := some (.array (.object "com/example/tablee/tablee/rules/cards/SpanishSuit")) }, accessFlags := 9, code := some k6c0 }
def k6c1 : Code := { maxStack := 3, maxLocals := 5, code := prog_7_method_4_code, exceptionTable := #[], attributes := #[] }
def k6m1 : Method := { name := "parse", desc := "(Ljava/lang/String;)Lcom/example/tablee/tablee/rules/cards/SpanishSuit;", sig := { parameters := [(.object "java/lang/String")], returnType := some (.object "com/example/tablee/tablee/rules/cards/SpanishSuit") }, accessFlags := 9, code := some k6c1 }
def k6c2 : Code := { maxStack := 1, maxLocals := 1, code := prog_7_method_5_code, exceptionTable := #[], attributes := #[] }
def k6m2 : Method := { name := "letter", desc := "()C", sig := { parameters := [], returnType := some .char }, accessFlags := 1, code := some k6c2 }
/-- com/example/tablee/tablee/rules/cards/SpanishSuit -/
def k6 : Class := { plain "com/example/tablee/tablee/rules/cards/SpanishSuit" (some 5) with
  accessFlags := 16433
  interfaces := #[]
  cf := some (fileOf pool6 1 #[] #[{ accessFlags := 9, nameIndex := 41, descriptorIndex := 42, attributes := #[] }, { accessFlags := 9, nameIndex := 77, descriptorIndex := 73, attributes := #[] }, { accessFlags := 1, nameIndex := 37, descriptorIndex := 79, attributes := #[] }] 16433 26 #[] #[{ accessFlags := 16409, nameIndex := 5, descriptorIndex := 6, attributes := #[] }, { accessFlags := 16409, nameIndex := 9, descriptorIndex := 6, attributes := #[] }, { accessFlags := 16409, nameIndex := 12, descriptorIndex := 6, attributes := #[] }, { accessFlags := 16409, nameIndex := 15, descriptorIndex := 6, attributes := #[] }, { accessFlags := 18, nameIndex := 37, descriptorIndex := 38, attributes := #[] }, { accessFlags := 4122, nameIndex := 18, descriptorIndex := 19, attributes := #[] }])
  fields := #[{ name := "OROS", type := (.object "com/example/tablee/tablee/rules/cards/SpanishSuit"), accessFlags := 16409, slot := 0, constantValue := 0 }, { name := "COPAS", type := (.object "com/example/tablee/tablee/rules/cards/SpanishSuit"), accessFlags := 16409, slot := 1, constantValue := 0 }, { name := "ESPADAS", type := (.object "com/example/tablee/tablee/rules/cards/SpanishSuit"), accessFlags := 16409, slot := 2, constantValue := 0 }, { name := "BASTOS", type := (.object "com/example/tablee/tablee/rules/cards/SpanishSuit"), accessFlags := 16409, slot := 3, constantValue := 0 }, { name := "letter", type := .char, accessFlags := 18, slot := 3, constantValue := 0 }, { name := "$VALUES", type := (.array (.object "com/example/tablee/tablee/rules/cards/SpanishSuit")), accessFlags := 4122, slot := 4, constantValue := 0 }]
  methods := #[k6m0, k6m1, k6m2]
  instanceTypes := #[(.object "java/lang/String"), .int, .int, .char]
  staticTypes := #[(.object "com/example/tablee/tablee/rules/cards/SpanishSuit"), (.object "com/example/tablee/tablee/rules/cards/SpanishSuit"), (.object "com/example/tablee/tablee/rules/cards/SpanishSuit"), (.object "com/example/tablee/tablee/rules/cards/SpanishSuit"), (.array (.object "com/example/tablee/tablee/rules/cards/SpanishSuit"))]
  resolved := Array.replicate 100 none
  statics := some 0 }

def pool7 : Array CpInfo := pool [(2, .class_ 4), (1, u "java/lang/CharSequence"), (42, .class_ 48), (0, u "java/lang/CharSequence$1CodePointIterator"), (10, .class_ 60), (0, u "java/lang/CharSequence$1CharIterator"), (5, .class_ 67), (0, u "java/lang/Object")] 63

/-- java/lang/CharSequence -/
def k7 : Class := { plain "java/lang/CharSequence" (some 0) with
  accessFlags := 1537
  interfaces := #[]
  cf := some (fileOf pool7 2 #[.nestMembers #[47, 59]] #[] 1537 66 #[] #[])
  fields := #[]
  methods := #[]
  instanceTypes := #[]
  staticTypes := #[]
  resolved := Array.replicate 131 none
  statics := none }

def pool8 : Array CpInfo := pool [(1, .class_ 2), (0, u "java/lang/constant/ConstantDesc"), (0, .class_ 4), (0, u "java/lang/Object")] 32

/-- java/lang/constant/ConstantDesc -/
def k8 : Class := { plain "java/lang/constant/ConstantDesc" (some 0) with
  accessFlags := 1537
  interfaces := #[]
  cf := some (fileOf pool8 1 #[] #[] 1537 3 #[] #[])
  fields := #[]
  methods := #[]
  instanceTypes := #[]
  staticTypes := #[]
  resolved := Array.replicate 37 none
  statics := none }

def pool9 : Array CpInfo := pool [(1, .methodref 2 3), (0, .class_ 4), (0, .nameAndType 5 6), (0, u "java/lang/Object"), (0, u "<init>"), (0, u "()V"), (2, .fieldref 10 11), (0, .class_ 12), (0, .nameAndType 13 14), (0, u "java/lang/String"), (0, u "value"), (0, u "[B"), (0, .fieldref 10 16), (0, .nameAndType 17 18), (0, u "coder"), (0, u "B"), (2, u "hash"), (0, u "I"), (2, u "hashIsZero"), (0, u "Z"), (0, .methodref 10 28), (0, .nameAndType 5 29), (0, u "([CIILjava/lang/Void;)V"), (8, .fieldref 10 39), (0, .nameAndType 40 26), (0, u "COMPACT_STRINGS"), (1, .class_ 44), (1, u "java/lang/StringUTF16"), (0, u "compress"), (1, .methodref 42 48), (0, .nameAndType 49 50), (0, u "coderFromArrayLen"), (0, u "([BI)B"), (2, u "toBytes"), (53, .class_ 109), (1, u "java/lang/StringLatin1"), (67, .methodref 42 178), (0, .nameAndType 45 179), (0, u "([CII)[B"), (29, .methodref 10 210), (0, .nameAndType 5 211), (0, u "([BB)V"), (157, u "(C)Z"), (171, .methodref 107 542), (0, .nameAndType 543 544), (0, u "equals"), (0, u "([B[B)Z"), (28, u "(Ljava/lang/Object;)Z"), (1, .class_ 576), (0, u "java/lang/CharSequence"), (22, u "CASE_INSENSITIVE_ORDER"), (0, u "Ljava/util/Comparator;"), (181, u "valueOf"), (0, u "(C)Ljava/lang/String;"), (226, u "([C)V"), (4, .methodref 107 1016), (0, .nameAndType 1017 369), (0, u "canEncode"), (0, .methodref 107 1019), (0, .nameAndType 53 1020), (0, u "(C)[B"), (80, u "serialPersistentFields"), (0, u "[Ljava/io/ObjectStreamField;"), (0, .class_ 1104), (0, u "java/lang/String$CaseInsensitiveComparator"), (1, .class_ 1107), (0, u "java/io/Serializable"), (0, .class_ 1109), (0, u "java/lang/Comparable"), (0, .class_ 1111), (0, u "java/lang/constant/Constable"), (0, .class_ 1113), (0, u "java/lang/constant/ConstantDesc"), (2, u "serialVersionUID"), (0, u "J"), (3, u "REPL"), (0, u "C"), (2, u "LATIN1"), (1, u "UTF16")] 323

def k9m0 : Method := { name := "<init>", desc := "()V", sig := { parameters := [], returnType := none }, accessFlags := 1, code := none }
def k9c1 : Code := { maxStack := 5, maxLocals := 2, code := jdk_42_method_3_code, exceptionTable := #[], attributes := #[] }
def k9m1 : Method := { name := "<init>", desc := "([C)V", sig := { parameters := [(.array .char)], returnType := none }, accessFlags := 1, code := some k9c1 }
def k9c2 : Code := { maxStack := 2, maxLocals := 3, code := jdk_42_method_66_code, exceptionTable := #[], attributes := #[] }
def k9m2 : Method := { name := "equals", desc := "(Ljava/lang/Object;)Z", sig := { parameters := [(.object "java/lang/Object")], returnType := some .boolean }, accessFlags := 1, code := some k9c2 }
def k9c3 : Code := { maxStack := 4, maxLocals := 1, code := jdk_42_method_139_code, exceptionTable := #[], attributes := #[] }
def k9m3 : Method := { name := "valueOf", desc := "(C)Ljava/lang/String;", sig := { parameters := [.char], returnType := some (.object "java/lang/String") }, accessFlags := 9, code := some k9c3 }
def k9c4 : Code := { maxStack := 4, maxLocals := 6, code := jdk_42_method_149_code, exceptionTable := #[], attributes := #[] }
def k9m4 : Method := { name := "<init>", desc := "([CIILjava/lang/Void;)V", sig := { parameters := [(.array .char), .int, .int, (.object "java/lang/Void")], returnType := none }, accessFlags := 2, code := some k9c4 }
def k9c5 : Code := { maxStack := 2, maxLocals := 3, code := jdk_42_method_151_code, exceptionTable := #[], attributes := #[] }
def k9m5 : Method := { name := "<init>", desc := "([BB)V", sig := { parameters := [(.array .byte), .byte], returnType := none }, accessFlags := 0, code := some k9c5 }
/-- java/lang/String -/
def k9 : Class := { plain "java/lang/String" (some 0) with
  accessFlags := 49
  interfaces := #[4, 3, 7, 2, 8]
  cf := some (fileOf pool9 10 #[.nestMembers #[1103]] #[{ accessFlags := 1, nameIndex := 5, descriptorIndex := 6, attributes := #[] }, { accessFlags := 1, nameIndex := 5, descriptorIndex := 1010, attributes := #[] }, { accessFlags := 1, nameIndex := 543, descriptorIndex := 573, attributes := #[] }, { accessFlags := 9, nameIndex := 782, descriptorIndex := 783, attributes := #[] }, { accessFlags := 2, nameIndex := 5, descriptorIndex := 29, attributes := #[] }, { accessFlags := 0, nameIndex := 5, descriptorIndex := 211, attributes := #[] }] 49 2 #[1106, 1108, 575, 1110, 1112] #[{ accessFlags := 18, nameIndex := 13, descriptorIndex := 14, attributes := #[] }, { accessFlags := 18, nameIndex := 17, descriptorIndex := 18, attributes := #[] }, { accessFlags := 2, nameIndex := 21, descriptorIndex := 22, attributes := #[] }, { accessFlags := 2, nameIndex := 25, descriptorIndex := 26, attributes := #[] }, { accessFlags := 26, nameIndex := 1116, descriptorIndex := 1117, attributes := #[] }, { accessFlags := 24, nameIndex := 40, descriptorIndex := 26, attributes := #[] }, { accessFlags := 26, nameIndex := 1101, descriptorIndex := 1102, attributes := #[] }, { accessFlags := 26, nameIndex := 1121, descriptorIndex := 1122, attributes := #[] }, { accessFlags := 25, nameIndex := 599, descriptorIndex := 600, attributes := #[] }, { accessFlags := 24, nameIndex := 1125, descriptorIndex := 18, attributes := #[] }, { accessFlags := 24, nameIndex := 1127, descriptorIndex := 18, attributes := #[] }])
  fields := #[{ name := "value", type := (.array .byte), accessFlags := 18, slot := 0, constantValue := 0 }, { name := "coder", type := .byte, accessFlags := 18, slot := 1, constantValue := 0 }, { name := "hash", type := .int, accessFlags := 2, slot := 2, constantValue := 0 }, { name := "hashIsZero", type := .boolean, accessFlags := 2, slot := 3, constantValue := 0 }, { name := "serialVersionUID", type := .long, accessFlags := 26, slot := 0, constantValue := 0 }, { name := "COMPACT_STRINGS", type := .boolean, accessFlags := 24, slot := 1, constantValue := 0 }, { name := "serialPersistentFields", type := (.array (.object "java/io/ObjectStreamField")), accessFlags := 26, slot := 2, constantValue := 0 }, { name := "REPL", type := .char, accessFlags := 26, slot := 3, constantValue := 0 }, { name := "CASE_INSENSITIVE_ORDER", type := (.object "java/util/Comparator"), accessFlags := 25, slot := 4, constantValue := 0 }, { name := "LATIN1", type := .byte, accessFlags := 24, slot := 5, constantValue := 0 }, { name := "UTF16", type := .byte, accessFlags := 24, slot := 6, constantValue := 0 }]
  methods := #[k9m0, k9m1, k9m2, k9m3, k9m4, k9m5]
  instanceTypes := #[(.array .byte), .byte, .int, .boolean]
  staticTypes := #[.long, .boolean, (.array (.object "java/io/ObjectStreamField")), .char, (.object "java/util/Comparator"), .byte, .byte]
  resolved := Array.replicate 1451 none
  statics := some 1 }

def pool10 : Array CpInfo := pool [(6, .class_ 8), (1, u "java/lang/Object"), (0, u "<init>"), (0, u "()V"), (1, .class_ 14), (1, u "java/lang/StringUTF16"), (31, u "$assertionsDisabled"), (0, u "Z"), (13, u "HI_BYTE_SHIFT"), (0, u "I"), (2, u "LO_BYTE_SHIFT"), (49, .methodref 12 116), (0, .nameAndType 117 118), (0, u "compress"), (0, u "([CI[BII)I"), (3, u "([CII)[B"), (138, u "coderFromArrayLen"), (0, u "([BI)B"), (106, .class_ 371), (1, u "java/lang/StringUTF16$LinesSpliterator"), (58, u "MAX_LENGTH"), (196, .class_ 628), (0, u "java/lang/StringUTF16$CodePointsSpliterator"), (0, .class_ 630), (0, u "java/lang/StringUTF16$CharsSpliterator")] 4

def k10m0 : Method := { name := "<init>", desc := "()V", sig := { parameters := [], returnType := none }, accessFlags := 0, code := none }
def k10c1 : Code := { maxStack := 2, maxLocals := 2, code := jdk_52_method_15_code, exceptionTable := #[], attributes := #[] }
def k10m1 : Method := { name := "coderFromArrayLen", desc := "([BI)B", sig := { parameters := [(.array .byte), .int], returnType := some .byte }, accessFlags := 8, code := some k10c1 }
def k10c2 : Code := { maxStack := 5, maxLocals := 6, code := jdk_52_method_16_code, exceptionTable := #[], attributes := #[] }
def k10m2 : Method := { name := "compress", desc := "([CII)[B", sig := { parameters := [(.array .char), .int, .int], returnType := some (.array .byte) }, accessFlags := 9, code := some k10c2 }
def k10c3 : Code := { maxStack := 3, maxLocals := 7, code := jdk_52_method_21_code, exceptionTable := #[], attributes := #[] }
def k10m3 : Method := { name := "compress", desc := "([CI[BII)I", sig := { parameters := [(.array .char), .int, (.array .byte), .int, .int], returnType := some .int }, accessFlags := 9, code := some k10c3 }
/-- java/lang/StringUTF16 -/
def k10 : Class := { plain "java/lang/StringUTF16" (some 0) with
  accessFlags := 48
  interfaces := #[]
  cf := some (fileOf pool10 12 #[.nestMembers #[627, 629, 369]] #[{ accessFlags := 0, nameIndex := 9, descriptorIndex := 10, attributes := #[] }, { accessFlags := 8, nameIndex := 261, descriptorIndex := 262, attributes := #[] }, { accessFlags := 9, nameIndex := 117, descriptorIndex := 122, attributes := #[] }, { accessFlags := 9, nameIndex := 117, descriptorIndex := 118, attributes := #[] }] 48 6 #[] #[{ accessFlags := 26, nameIndex := 61, descriptorIndex := 62, attributes := #[] }, { accessFlags := 26, nameIndex := 65, descriptorIndex := 62, attributes := #[] }, { accessFlags := 24, nameIndex := 430, descriptorIndex := 62, attributes := #[] }, { accessFlags := 4120, nameIndex := 46, descriptorIndex := 47, attributes := #[] }])
  fields := #[{ name := "HI_BYTE_SHIFT", type := .int, accessFlags := 26, slot := 0, constantValue := 0 }, { name := "LO_BYTE_SHIFT", type := .int, accessFlags := 26, slot := 1, constantValue := 0 }, { name := "MAX_LENGTH", type := .int, accessFlags := 24, slot := 2, constantValue := 0 }, { name := "$assertionsDisabled", type := .boolean, accessFlags := 4120, slot := 3, constantValue := 0 }]
  methods := #[k10m0, k10m1, k10m2, k10m3]
  instanceTypes := #[]
  staticTypes := #[.int, .int, .int, .boolean]
  resolved := Array.replicate 635 none
  statics := none }

def pool11 : Array CpInfo := pool [(1, .class_ 2), (0, u "java/lang/Cloneable"), (0, .class_ 4), (0, u "java/lang/Object")] 2

/-- java/lang/Cloneable -/
def k11 : Class := { plain "java/lang/Cloneable" (some 0) with
  accessFlags := 1537
  interfaces := #[]
  cf := some (fileOf pool11 1 #[] #[] 1537 3 #[] #[])
  fields := #[]
  methods := #[]
  instanceTypes := #[]
  staticTypes := #[]
  resolved := Array.replicate 7 none
  statics := none }

def pool12 : Array CpInfo := pool [(4, .class_ 6), (1, u "java/lang/Object"), (0, u "<init>"), (0, u "()V"), (5, .class_ 16), (1, u "java/lang/StringLatin1"), (73, u "canEncode"), (14, u "(C)Z"), (15, u "$assertionsDisabled"), (0, u "Z"), (98, .class_ 223), (1, u "java/lang/StringLatin1$LinesSpliterator"), (57, u "equals"), (0, u "([B[B)Z"), (97, u "toBytes"), (1, u "(C)[B"), (7, .class_ 391), (0, u "java/lang/StringLatin1$CharsSpliterator")] 3

def k12m0 : Method := { name := "<init>", desc := "()V", sig := { parameters := [], returnType := none }, accessFlags := 0, code := none }
def k12c1 : Code := { maxStack := 2, maxLocals := 1, code := jdk_43_method_3_code, exceptionTable := #[], attributes := #[] }
def k12m1 : Method := { name := "canEncode", desc := "(C)Z", sig := { parameters := [.char], returnType := some .boolean }, accessFlags := 9, code := some k12c1 }
def k12c2 : Code := { maxStack := 3, maxLocals := 3, code := jdk_43_method_13_code, exceptionTable := #[], attributes := #[] }
def k12m2 : Method := { name := "equals", desc := "([B[B)Z", sig := { parameters := [(.array .byte), (.array .byte)], returnType := some .boolean }, accessFlags := 9, code := some k12c2 }
def k12c3 : Code := { maxStack := 4, maxLocals := 1, code := jdk_43_method_46_code, exceptionTable := #[], attributes := #[] }
def k12m3 : Method := { name := "toBytes", desc := "(C)[B", sig := { parameters := [.char], returnType := some (.array .byte) }, accessFlags := 9, code := some k12c3 }
/-- java/lang/StringLatin1 -/
def k12 : Class := { plain "java/lang/StringLatin1" (some 0) with
  accessFlags := 48
  interfaces := #[]
  cf := some (fileOf pool12 14 #[.nestMembers #[390, 221]] #[{ accessFlags := 0, nameIndex := 7, descriptorIndex := 8, attributes := #[] }, { accessFlags := 9, nameIndex := 90, descriptorIndex := 105, attributes := #[] }, { accessFlags := 9, nameIndex := 281, descriptorIndex := 282, attributes := #[] }, { accessFlags := 9, nameIndex := 380, descriptorIndex := 382, attributes := #[] }] 48 4 #[] #[{ accessFlags := 4120, nameIndex := 121, descriptorIndex := 122, attributes := #[] }])
  fields := #[{ name := "$assertionsDisabled", type := .boolean, accessFlags := 4120, slot := 0, constantValue := 0 }]
  methods := #[k12m0, k12m1, k12m2, k12m3]
  instanceTypes := #[]
  staticTypes := #[.boolean]
  resolved := Array.replicate 395 none
  statics := none }

def pool13 : Array CpInfo := pool [(2, .class_ 4), (1, u "java/lang/Object"), (0, u "<init>"), (0, u "()V"), (17, .class_ 26), (1, u "jdk/internal/util/Preconditions"), (28, .class_ 56), (0, u "jdk/internal/util/Preconditions$4"), (57, .class_ 115), (0, u "jdk/internal/util/Preconditions$1"), (7, u "SIOOBE_FORMATTER"), (0, u "Ljava/util/function/BiFunction;"), (0, .class_ 126), (0, u "jdk/internal/util/Preconditions$2"), (3, u "AIOOBE_FORMATTER"), (0, .class_ 132), (0, u "jdk/internal/util/Preconditions$3"), (3, u "IOOBE_FORMATTER")] 57

def k13m0 : Method := { name := "<init>", desc := "()V", sig := { parameters := [], returnType := none }, accessFlags := 1, code := none }
/-- jdk/internal/util/Preconditions -/
def k13 : Class := { plain "jdk/internal/util/Preconditions" (some 0) with
  accessFlags := 33
  interfaces := #[]
  cf := some (fileOf pool13 24 #[.nestMembers #[55, 131, 125, 114]] #[{ accessFlags := 1, nameIndex := 5, descriptorIndex := 6, attributes := #[] }] 33 2 #[] #[{ accessFlags := 25, nameIndex := 123, descriptorIndex := 124, attributes := #[] }, { accessFlags := 25, nameIndex := 130, descriptorIndex := 124, attributes := #[] }, { accessFlags := 25, nameIndex := 136, descriptorIndex := 124, attributes := #[] }])
  fields := #[{ name := "SIOOBE_FORMATTER", type := (.object "java/util/function/BiFunction"), accessFlags := 25, slot := 0, constantValue := 0 }, { name := "AIOOBE_FORMATTER", type := (.object "java/util/function/BiFunction"), accessFlags := 25, slot := 1, constantValue := 0 }, { name := "IOOBE_FORMATTER", type := (.object "java/util/function/BiFunction"), accessFlags := 25, slot := 2, constantValue := 0 }]
  methods := #[k13m0]
  instanceTypes := #[]
  staticTypes := #[(.object "java/util/function/BiFunction"), (.object "java/util/function/BiFunction"), (.object "java/util/function/BiFunction")]
  resolved := Array.replicate 194 none
  statics := some 2 }

def pool14 : Array CpInfo := pool [(9, u "<init>"), (6, .class_ 18), (1, u "java/lang/Object"), (0, u "()V"), (1, .class_ 23), (1, u "jdk/internal/util/ArraysSupport"), (0, u "LOG2_ARRAY_LONG_INDEX_SCALE"), (0, u "I"), (2, u "U"), (0, u "Ljdk/internal/misc/Unsafe;"), (8, u "BIG_ENDIAN"), (0, u "Z"), (8, u "LOG2_BYTE_BIT_SIZE"), (4, u "LOG2_ARRAY_INT_INDEX_SCALE"), (54, u "JLA"), (0, u "Ljdk/internal/access/JavaLangAccess;"), (11, u "LOG2_ARRAY_BOOLEAN_INDEX_SCALE"), (9, u "LOG2_ARRAY_BYTE_INDEX_SCALE"), (5, u "LOG2_ARRAY_CHAR_INDEX_SCALE"), (5, u "LOG2_ARRAY_SHORT_INDEX_SCALE"), (18, u "LOG2_ARRAY_FLOAT_INDEX_SCALE"), (24, u "LOG2_ARRAY_DOUBLE_INDEX_SCALE"), (89, u "T_BOOLEAN"), (2, u "T_CHAR"), (1, u "T_FLOAT"), (1, u "T_DOUBLE"), (1, u "T_BYTE"), (1, u "T_SHORT"), (1, u "T_INT"), (1, u "T_LONG"), (1, u "SOFT_MAX_ARRAY_LENGTH")] 83

def k14m0 : Method := { name := "<init>", desc := "()V", sig := { parameters := [], returnType := none }, accessFlags := 2, code := none }
/-- jdk/internal/util/ArraysSupport -/
def k14 : Class := { plain "jdk/internal/util/ArraysSupport" (some 0) with
  accessFlags := 33
  interfaces := #[]
  cf := some (fileOf pool14 21 #[] #[{ accessFlags := 2, nameIndex := 9, descriptorIndex := 19, attributes := #[] }] 33 16 #[] #[{ accessFlags := 24, nameIndex := 28, descriptorIndex := 29, attributes := #[] }, { accessFlags := 26, nameIndex := 38, descriptorIndex := 39, attributes := #[] }, { accessFlags := 25, nameIndex := 121, descriptorIndex := 25, attributes := #[] }, { accessFlags := 25, nameIndex := 131, descriptorIndex := 25, attributes := #[] }, { accessFlags := 25, nameIndex := 137, descriptorIndex := 25, attributes := #[] }, { accessFlags := 25, nameIndex := 143, descriptorIndex := 25, attributes := #[] }, { accessFlags := 25, nameIndex := 53, descriptorIndex := 25, attributes := #[] }, { accessFlags := 25, nameIndex := 24, descriptorIndex := 25, attributes := #[] }, { accessFlags := 25, nameIndex := 162, descriptorIndex := 25, attributes := #[] }, { accessFlags := 25, nameIndex := 187, descriptorIndex := 25, attributes := #[] }, { accessFlags := 26, nameIndex := 48, descriptorIndex := 25, attributes := #[] }, { accessFlags := 25, nameIndex := 277, descriptorIndex := 25, attributes := #[] }, { accessFlags := 25, nameIndex := 280, descriptorIndex := 25, attributes := #[] }, { accessFlags := 25, nameIndex := 282, descriptorIndex := 25, attributes := #[] }, { accessFlags := 25, nameIndex := 284, descriptorIndex := 25, attributes := #[] }, { accessFlags := 25, nameIndex := 286, descriptorIndex := 25, attributes := #[] }, { accessFlags := 25, nameIndex := 288, descriptorIndex := 25, attributes := #[] }, { accessFlags := 25, nameIndex := 290, descriptorIndex := 25, attributes := #[] }, { accessFlags := 25, nameIndex := 292, descriptorIndex := 25, attributes := #[] }, { accessFlags := 26, nameIndex := 108, descriptorIndex := 109, attributes := #[] }, { accessFlags := 25, nameIndex := 294, descriptorIndex := 25, attributes := #[] }])
  fields := #[{ name := "U", type := (.object "jdk/internal/misc/Unsafe"), accessFlags := 24, slot := 0, constantValue := 0 }, { name := "BIG_ENDIAN", type := .boolean, accessFlags := 26, slot := 1, constantValue := 0 }, { name := "LOG2_ARRAY_BOOLEAN_INDEX_SCALE", type := .int, accessFlags := 25, slot := 2, constantValue := 0 }, { name := "LOG2_ARRAY_BYTE_INDEX_SCALE", type := .int, accessFlags := 25, slot := 3, constantValue := 0 }, { name := "LOG2_ARRAY_CHAR_INDEX_SCALE", type := .int, accessFlags := 25, slot := 4, constantValue := 0 }, { name := "LOG2_ARRAY_SHORT_INDEX_SCALE", type := .int, accessFlags := 25, slot := 5, constantValue := 0 }, { name := "LOG2_ARRAY_INT_INDEX_SCALE", type := .int, accessFlags := 25, slot := 6, constantValue := 0 }, { name := "LOG2_ARRAY_LONG_INDEX_SCALE", type := .int, accessFlags := 25, slot := 7, constantValue := 0 }, { name := "LOG2_ARRAY_FLOAT_INDEX_SCALE", type := .int, accessFlags := 25, slot := 8, constantValue := 0 }, { name := "LOG2_ARRAY_DOUBLE_INDEX_SCALE", type := .int, accessFlags := 25, slot := 9, constantValue := 0 }, { name := "LOG2_BYTE_BIT_SIZE", type := .int, accessFlags := 26, slot := 10, constantValue := 0 }, { name := "T_BOOLEAN", type := .int, accessFlags := 25, slot := 11, constantValue := 0 }, { name := "T_CHAR", type := .int, accessFlags := 25, slot := 12, constantValue := 0 }, { name := "T_FLOAT", type := .int, accessFlags := 25, slot := 13, constantValue := 0 }, { name := "T_DOUBLE", type := .int, accessFlags := 25, slot := 14, constantValue := 0 }, { name := "T_BYTE", type := .int, accessFlags := 25, slot := 15, constantValue := 0 }, { name := "T_SHORT", type := .int, accessFlags := 25, slot := 16, constantValue := 0 }, { name := "T_INT", type := .int, accessFlags := 25, slot := 17, constantValue := 0 }, { name := "T_LONG", type := .int, accessFlags := 25, slot := 18, constantValue := 0 }, { name := "JLA", type := (.object "jdk/internal/access/JavaLangAccess"), accessFlags := 26, slot := 19, constantValue := 0 }, { name := "SOFT_MAX_ARRAY_LENGTH", type := .int, accessFlags := 25, slot := 20, constantValue := 0 }]
  methods := #[k14m0]
  instanceTypes := #[]
  staticTypes := #[(.object "jdk/internal/misc/Unsafe"), .boolean, .int, .int, .int, .int, .int, .int, .int, .int, .int, .int, .int, .int, .int, .int, .int, .int, .int, (.object "jdk/internal/access/JavaLangAccess"), .int]
  resolved := Array.replicate 378 none
  statics := none }

/-- the primitive byte -/
def k15 : Class := { plain "byte" none with kind := .primitive 'B', accessFlags := 0x411 }
/-- [B -/
def k16 : Class := { plain "[B" (some 0) with kind := .array 15 .byte, interfaces := #[11, 4], accessFlags := 1041 }

/-- the primitive char -/
def k17 : Class := { plain "char" none with kind := .primitive 'C', accessFlags := 0x411 }
/-- [C -/
def k18 : Class := { plain "[C" (some 0) with kind := .array 17 .char, interfaces := #[11, 4], accessFlags := 1041 }

/-- the primitive int -/
def k19 : Class := { plain "int" none with kind := .primitive 'I', accessFlags := 0x411 }
/-- [I -/
def k20 : Class := { plain "[I" (some 0) with kind := .array 19 .int, interfaces := #[11, 4], accessFlags := 1041 }

/-- [Lcom/example/tablee/tablee/rules/cards/SpanishSuit; -/
def k21 : Class := { plain "[Lcom/example/tablee/tablee/rules/cards/SpanishSuit;" (some 0) with kind := .array 6 (.object "com/example/tablee/tablee/rules/cards/SpanishSuit"), interfaces := #[11, 4], accessFlags := 1041 }

def heap : Heap := #[{ cls := 6, slots := #[.ref 4, .ref 5, .ref 6, .ref 7, .ref 3], vm := .statics 6 },
  { cls := 9, slots := #[.long 0, .int 1, .null, .int 0, .null, .int 0, .int 0], vm := .statics 9 },
  { cls := 13, slots := #[.null, .null, .null], vm := .statics 13 },
  { cls := 21, slots := #[.ref 4, .ref 5, .ref 6, .ref 7], vm := .none },
  { cls := 6, slots := #[.null, .int 0, .int 0, .int 79], vm := .none },
  { cls := 6, slots := #[.null, .int 1, .int 0, .int 67], vm := .none },
  { cls := 6, slots := #[.null, .int 2, .int 0, .int 69], vm := .none },
  { cls := 6, slots := #[.null, .int 3, .int 0, .int 66], vm := .none }]
def classes : Array Class := #[k0, k1, k2, k3, k4, k5, k6, k7, k8, k9, k10, k11, k12, k13, k14, k15, k16, k17, k18, k19, k20, k21]
def interned : List (Array UInt16 × Addr) := []
def slotsUsed : Nat := 35
def theMethod : MethodId := ⟨1, 1⟩
def args0 : Array Value := #[.int 5]
def aboutOver (below : List Frame) : State where
  vm := { classes := classes, interned := interned.toArray }
  heap := heap
  slotsUsed := slotsUsed
  threads := #[{ frames := .invoking theMethod args0 :: below }]
def below0 : List Frame := [.native { method := ⟨0, 0⟩, args := #[] }]
def about1 : State := aboutOver below0
def p0 : Program := .bare "" "" ""
def e0 : Env := launch0.env 0 0 0
theorem w_frames : about1.frames = Frame.invoking theMethod args0 :: below0 := rfl
set_option maxRecDepth 65536 in
theorem w_args : argsFit about1.vm theMethod args0 = true := by decide +kernel
set_option maxRecDepth 65536 in
theorem w_heap : heapFits about1 = true := by decide +kernel
set_option maxRecDepth 65536 in
theorem w_runnable : about1.curStatus? = some .runnable := by decide +kernel
set_option maxRecDepth 65536 in
theorem w_alone : about1.alone = true := by decide +kernel
set_option maxRecDepth 65536 in
theorem w_named : about1.methodNamed? x = some theMethod := by decide +kernel
set_option maxRecDepth 65536 in
theorem w_hears : about1.hears theMethod below0 = true := by decide +kernel
set_option maxRecDepth 65536 in
theorem w_ripe : about1.ripe theMethod args0 below0 = true := by decide +kernel
theorem w_running : about1.status = .running := rfl
set_option maxRecDepth 65536 in
theorem w_room : about1.hasRoom e0.platform room_1 = true :=
  launch0.hasRoom_least _ room_1 (by decide +kernel) (by decide +kernel) (by decide +kernel) (by decide +kernel) (by decide +kernel) (by decide +kernel)
theorem allAtoms_all (ts : List Jvm.Cond) (a : Array Jvm.Value) (st : Jvm.State) : (allAtoms ts).before a st = ts.all (fun c => c.before a st) := by
  induction ts with
  | nil => rfl
  | cons c t ih =>
    show (Jvm.Cond.and c (allAtoms t)).before a st = _
    rw [Jvm.Cond.before_and, ih, List.all_cons]
def words1 : List Jvm.Cond := Jvm.Cond.code x code maxLocals ret :: tables_1
/-- a 'code' word, met by the world's own term for the bytes: nothing is compared byte by byte -/
theorem code_word {y : MethodName} {bytes : ByteArray} {mx : Nat} {rt : Option FieldType} {a : Array Value} {s : State} {m : MethodId} {meth : Method} {c : Code} (h1 : s.methodNamed? y = some m) (h2 : s.vm.method? m = some meth) (h3 : meth.code = some c) (h4 : c.code = bytes)
    (h5 : (c.maxLocals == mx && c.exceptionTable.isEmpty && decide (c.maxStack ≤ mostOperands) && decide (meth.sig.returnType = rt) && !meth.locks && decide (parseMethodDescriptor y.desc = some meth.sig)) = true) : (Jvm.Cond.code y bytes mx rt).before a s = true := by
  simp only [Bool.and_eq_true, beq_iff_eq, Bool.not_eq_true', decide_eq_true_eq] at h5
  obtain ⟨⟨⟨⟨⟨g1, g2⟩, g3⟩, g4⟩, g5⟩, g6⟩ := h5
  simp [Cond.before, Cond.holds, Cond.value, h1, h2, h3, h4, g1, g2, g3, g4, g5, g6]
def isCode : Jvm.Cond → Bool
  | .code _ _ _ _ => true
  | _ => false
theorem all_split {L : List Jvm.Cond} {P : Jvm.Cond → Bool} (h1 : L.all (fun c => isCode c || P c) = true) (h2 : ∀ c ∈ L.filter isCode, P c = true) : L.all P = true := by
  refine List.all_eq_true.mpr fun c hc => ?_
  have h := List.all_eq_true.mp h1 c hc
  rcases Bool.eq_false_or_eq_true (isCode c) with hi | hi
  · exact h2 c (List.mem_filter.mpr ⟨hc, hi⟩)
  · simpa [hi] using h
set_option maxRecDepth 65536 in
theorem w_c0 : (Jvm.Cond.code x code maxLocals ret).before args0 about1 = true := code_word (m := ⟨1, 1⟩) (meth := k1m1) (c := k1c1) (by decide +kernel) rfl rfl rfl (by decide +kernel)
set_option maxRecDepth 65536 in
theorem w_c1 : (Jvm.Cond.code ({ cls := "java/lang/String", name := "<init>", desc := "([C)V" } : Jvm.MethodName) jdk_42_method_3_code (2 : Nat) (Option.none : Option Jvm.ClassFile.FieldType)).before args0 about1 = true := code_word (m := ⟨9, 1⟩) (meth := k9m1) (c := k9c1) (by decide +kernel) rfl rfl rfl (by decide +kernel)
set_option maxRecDepth 65536 in
theorem w_c2 : (Jvm.Cond.code ({ cls := "java/lang/String", name := "<init>", desc := "([CIILjava/lang/Void;)V" } : Jvm.MethodName) jdk_42_method_149_code (6 : Nat) (Option.none : Option Jvm.ClassFile.FieldType)).before args0 about1 = true := code_word (m := ⟨9, 4⟩) (meth := k9m4) (c := k9c4) (by decide +kernel) rfl rfl rfl (by decide +kernel)
set_option maxRecDepth 65536 in
theorem w_c3 : (Jvm.Cond.code ({ cls := "java/lang/Object", name := "<init>", desc := "()V" } : Jvm.MethodName) object_method_1_code (1 : Nat) (Option.none : Option Jvm.ClassFile.FieldType)).before args0 about1 = true := code_word (m := ⟨0, 0⟩) (meth := k0m0) (c := k0c0) (by decide +kernel) rfl rfl rfl (by decide +kernel)
set_option maxRecDepth 65536 in
theorem w_c4 : (Jvm.Cond.code ({ cls := "java/lang/StringUTF16", name := "compress", desc := "([CII)[B" } : Jvm.MethodName) jdk_52_method_16_code (6 : Nat) (Option.some (Jvm.ClassFile.FieldType.array Jvm.ClassFile.FieldType.byte))).before args0 about1 = true := code_word (m := ⟨10, 2⟩) (meth := k10m2) (c := k10c2) (by decide +kernel) rfl rfl rfl (by decide +kernel)
set_option maxRecDepth 65536 in
theorem w_c5 : (Jvm.Cond.code ({ cls := "java/lang/StringUTF16", name := "compress", desc := "([CI[BII)I" } : Jvm.MethodName) jdk_52_method_21_code (7 : Nat) (Option.some Jvm.ClassFile.FieldType.int)).before args0 about1 = true := code_word (m := ⟨10, 3⟩) (meth := k10m3) (c := k10c3) (by decide +kernel) rfl rfl rfl (by decide +kernel)
set_option maxRecDepth 65536 in
theorem w_c6 : (Jvm.Cond.code ({ cls := "java/lang/StringUTF16", name := "coderFromArrayLen", desc := "([BI)B" } : Jvm.MethodName) jdk_52_method_15_code (2 : Nat) (Option.some Jvm.ClassFile.FieldType.byte)).before args0 about1 = true := code_word (m := ⟨10, 1⟩) (meth := k10m1) (c := k10c1) (by decide +kernel) rfl rfl rfl (by decide +kernel)
set_option maxRecDepth 65536 in
theorem w_c7 : (Jvm.Cond.code ({ cls := "com/example/tablee/tablee/rules/cards/SpanishSuit", name := "parse", desc := "(Ljava/lang/String;)Lcom/example/tablee/tablee/rules/cards/SpanishSuit;" } : Jvm.MethodName) prog_7_method_4_code (5 : Nat) (Option.some (Jvm.ClassFile.FieldType.object "com/example/tablee/tablee/rules/cards/SpanishSuit"))).before args0 about1 = true := code_word (m := ⟨6, 1⟩) (meth := k6m1) (c := k6c1) (by decide +kernel) rfl rfl rfl (by decide +kernel)
set_option maxRecDepth 65536 in
theorem w_c8 : (Jvm.Cond.code ({ cls := "com/example/tablee/tablee/rules/cards/SpanishSuit", name := "values", desc := "()[Lcom/example/tablee/tablee/rules/cards/SpanishSuit;" } : Jvm.MethodName) prog_7_method_1_code (0 : Nat) (Option.some (Jvm.ClassFile.FieldType.array (Jvm.ClassFile.FieldType.object "com/example/tablee/tablee/rules/cards/SpanishSuit")))).before args0 about1 = true := code_word (m := ⟨6, 0⟩) (meth := k6m0) (c := k6c0) (by decide +kernel) rfl rfl rfl (by decide +kernel)
set_option maxRecDepth 65536 in
theorem w_c9 : (Jvm.Cond.code ({ cls := "java/lang/String", name := "valueOf", desc := "(C)Ljava/lang/String;" } : Jvm.MethodName) jdk_42_method_139_code (1 : Nat) (Option.some (Jvm.ClassFile.FieldType.object "java/lang/String"))).before args0 about1 = true := code_word (m := ⟨9, 3⟩) (meth := k9m3) (c := k9c3) (by decide +kernel) rfl rfl rfl (by decide +kernel)
set_option maxRecDepth 65536 in
theorem w_c10 : (Jvm.Cond.code ({ cls := "java/lang/StringLatin1", name := "canEncode", desc := "(C)Z" } : Jvm.MethodName) jdk_43_method_3_code (1 : Nat) (Option.some Jvm.ClassFile.FieldType.boolean)).before args0 about1 = true := code_word (m := ⟨12, 1⟩) (meth := k12m1) (c := k12c1) (by decide +kernel) rfl rfl rfl (by decide +kernel)
set_option maxRecDepth 65536 in
theorem w_c11 : (Jvm.Cond.code ({ cls := "java/lang/StringLatin1", name := "toBytes", desc := "(C)[B" } : Jvm.MethodName) jdk_43_method_46_code (1 : Nat) (Option.some (Jvm.ClassFile.FieldType.array Jvm.ClassFile.FieldType.byte))).before args0 about1 = true := code_word (m := ⟨12, 3⟩) (meth := k12m3) (c := k12c3) (by decide +kernel) rfl rfl rfl (by decide +kernel)
set_option maxRecDepth 65536 in
theorem w_c12 : (Jvm.Cond.code ({ cls := "java/lang/String", name := "<init>", desc := "([BB)V" } : Jvm.MethodName) jdk_42_method_151_code (3 : Nat) (Option.none : Option Jvm.ClassFile.FieldType)).before args0 about1 = true := code_word (m := ⟨9, 5⟩) (meth := k9m5) (c := k9c5) (by decide +kernel) rfl rfl rfl (by decide +kernel)
set_option maxRecDepth 65536 in
theorem w_c13 : (Jvm.Cond.code ({ cls := "java/lang/String", name := "equals", desc := "(Ljava/lang/Object;)Z" } : Jvm.MethodName) jdk_42_method_66_code (3 : Nat) (Option.some Jvm.ClassFile.FieldType.boolean)).before args0 about1 = true := code_word (m := ⟨9, 2⟩) (meth := k9m2) (c := k9c2) (by decide +kernel) rfl rfl rfl (by decide +kernel)
set_option maxRecDepth 65536 in
theorem w_c14 : (Jvm.Cond.code ({ cls := "java/lang/StringLatin1", name := "equals", desc := "([B[B)Z" } : Jvm.MethodName) jdk_43_method_13_code (3 : Nat) (Option.some Jvm.ClassFile.FieldType.boolean)).before args0 about1 = true := code_word (m := ⟨12, 2⟩) (meth := k12m2) (c := k12c2) (by decide +kernel) rfl rfl rfl (by decide +kernel)
set_option maxRecDepth 65536 in
theorem w_c15 : (Jvm.Cond.code ({ cls := "com/example/tablee/tablee/rules/cards/SpanishSuit", name := "letter", desc := "()C" } : Jvm.MethodName) prog_7_method_5_code (1 : Nat) (Option.some Jvm.ClassFile.FieldType.char)).before args0 about1 = true := code_word (m := ⟨6, 2⟩) (meth := k6m2) (c := k6c2) (by decide +kernel) rfl rfl rfl (by decide +kernel)
def codes1 : List Jvm.Cond := [Jvm.Cond.code x code maxLocals ret, Jvm.Cond.code ({ cls := "java/lang/String", name := "<init>", desc := "([C)V" } : Jvm.MethodName) jdk_42_method_3_code (2 : Nat) (Option.none : Option Jvm.ClassFile.FieldType), Jvm.Cond.code ({ cls := "java/lang/String", name := "<init>", desc := "([CIILjava/lang/Void;)V" } : Jvm.MethodName) jdk_42_method_149_code (6 : Nat) (Option.none : Option Jvm.ClassFile.FieldType), Jvm.Cond.code ({ cls := "java/lang/Object", name := "<init>", desc := "()V" } : Jvm.MethodName) object_method_1_code (1 : Nat) (Option.none : Option Jvm.ClassFile.FieldType), Jvm.Cond.code ({ cls := "java/lang/StringUTF16", name := "compress", desc := "([CII)[B" } : Jvm.MethodName) jdk_52_method_16_code (6 : Nat) (Option.some (Jvm.ClassFile.FieldType.array Jvm.ClassFile.FieldType.byte)), Jvm.Cond.code ({ cls := "java/lang/StringUTF16", name := "compress", desc := "([CI[BII)I" } : Jvm.MethodName) jdk_52_method_21_code (7 : Nat) (Option.some Jvm.ClassFile.FieldType.int), Jvm.Cond.code ({ cls := "java/lang/StringUTF16", name := "coderFromArrayLen", desc := "([BI)B" } : Jvm.MethodName) jdk_52_method_15_code (2 : Nat) (Option.some Jvm.ClassFile.FieldType.byte), Jvm.Cond.code ({ cls := "com/example/tablee/tablee/rules/cards/SpanishSuit", name := "parse", desc := "(Ljava/lang/String;)Lcom/example/tablee/tablee/rules/cards/SpanishSuit;" } : Jvm.MethodName) prog_7_method_4_code (5 : Nat) (Option.some (Jvm.ClassFile.FieldType.object "com/example/tablee/tablee/rules/cards/SpanishSuit")), Jvm.Cond.code ({ cls := "com/example/tablee/tablee/rules/cards/SpanishSuit", name := "values", desc := "()[Lcom/example/tablee/tablee/rules/cards/SpanishSuit;" } : Jvm.MethodName) prog_7_method_1_code (0 : Nat) (Option.some (Jvm.ClassFile.FieldType.array (Jvm.ClassFile.FieldType.object "com/example/tablee/tablee/rules/cards/SpanishSuit"))), Jvm.Cond.code ({ cls := "java/lang/String", name := "valueOf", desc := "(C)Ljava/lang/String;" } : Jvm.MethodName) jdk_42_method_139_code (1 : Nat) (Option.some (Jvm.ClassFile.FieldType.object "java/lang/String")), Jvm.Cond.code ({ cls := "java/lang/StringLatin1", name := "canEncode", desc := "(C)Z" } : Jvm.MethodName) jdk_43_method_3_code (1 : Nat) (Option.some Jvm.ClassFile.FieldType.boolean), Jvm.Cond.code ({ cls := "java/lang/StringLatin1", name := "toBytes", desc := "(C)[B" } : Jvm.MethodName) jdk_43_method_46_code (1 : Nat) (Option.some (Jvm.ClassFile.FieldType.array Jvm.ClassFile.FieldType.byte)), Jvm.Cond.code ({ cls := "java/lang/String", name := "<init>", desc := "([BB)V" } : Jvm.MethodName) jdk_42_method_151_code (3 : Nat) (Option.none : Option Jvm.ClassFile.FieldType), Jvm.Cond.code ({ cls := "java/lang/String", name := "equals", desc := "(Ljava/lang/Object;)Z" } : Jvm.MethodName) jdk_42_method_66_code (3 : Nat) (Option.some Jvm.ClassFile.FieldType.boolean), Jvm.Cond.code ({ cls := "java/lang/StringLatin1", name := "equals", desc := "([B[B)Z" } : Jvm.MethodName) jdk_43_method_13_code (3 : Nat) (Option.some Jvm.ClassFile.FieldType.boolean), Jvm.Cond.code ({ cls := "com/example/tablee/tablee/rules/cards/SpanishSuit", name := "letter", desc := "()C" } : Jvm.MethodName) prog_7_method_5_code (1 : Nat) (Option.some Jvm.ClassFile.FieldType.char)]
set_option maxRecDepth 65536 in
theorem codes_eq : words1.filter isCode = codes1 := rfl
theorem w_codes : ∀ c ∈ words1.filter isCode, c.before args0 about1 = true := by
  rw [codes_eq]
  intro c hc
  simp only [codes1, List.mem_cons, List.not_mem_nil, or_false] at hc
  rcases hc with rfl | rfl | rfl | rfl | rfl | rfl | rfl | rfl | rfl | rfl | rfl | rfl | rfl | rfl | rfl | rfl
  · exact w_c0
  · exact w_c1
  · exact w_c2
  · exact w_c3
  · exact w_c4
  · exact w_c5
  · exact w_c6
  · exact w_c7
  · exact w_c8
  · exact w_c9
  · exact w_c10
  · exact w_c11
  · exact w_c12
  · exact w_c13
  · exact w_c14
  · exact w_c15
set_option maxRecDepth 65536 in
theorem w_t1 : (words1.take 24).all (fun c => isCode c || c.before args0 about1) = true := by decide +kernel
set_option maxRecDepth 65536 in
theorem w_t2 : ((words1.drop 24).take 24).all (fun c => isCode c || c.before args0 about1) = true := by decide +kernel
set_option maxRecDepth 65536 in
theorem w_t3 : (((words1.drop 24).drop 24).take 24).all (fun c => isCode c || c.before args0 about1) = true := by decide +kernel
set_option maxRecDepth 65536 in
theorem w_t4 : (((words1.drop 24).drop 24).drop 24).all (fun c => isCode c || c.before args0 about1) = true := by decide +kernel
theorem w_tables : (allAtoms (Jvm.Cond.code x code maxLocals ret :: tables_1)).before args0 about1 = true := by
  rw [allAtoms_all]
  show words1.all (fun c => c.before args0 about1) = true
  refine all_split ?_ w_codes
  rw [← List.take_append_drop 24 words1, List.all_append, w_t1, ← List.take_append_drop 24 (words1.drop 24), List.all_append, w_t2, ← List.take_append_drop 24 ((words1.drop 24).drop 24), List.all_append, w_t3, w_t4]
  rfl
set_option maxRecDepth 65536 in
theorem w_rest : rest_1_c.before args0 about1 = true := by decide +kernel
set_option maxRecDepth 65536 in
theorem w_case : (Jvm.Cond.and given_1 narrow_1).before args0 about1 = true := by decide +kernel
theorem w_applies : (headSpec (Jvm.Cond.code x code maxLocals ret :: tables_1) room_1).applies x e0.platform about1 = true :=
  (Spec.applies_iff w_frames).mpr ⟨w_running, w_runnable, w_alone, w_named, w_hears, w_ripe, w_room, w_tables⟩
theorem atStart : AtStart classFile x code maxLocals ret World_1 tables_1 room_1 Calls_1 rest_1 Pre_1 launch0 p0 e0 about1 theMethod args0 below0 :=
  ⟨lists_1, trivial, launch0.admits_env _ _ _, launch0.least_env, fairChoices_fair.cas, fairChoices_fair.clock, w_frames, w_args, w_heap, w_applies, trivial, w_rest, w_case⟩
end start1
theorem witness_1 : WitnessClaimed_1 := ⟨start1.p0, start1.e0, start1.about1, start1.theMethod, start1.args0, start1.below0, start1.atStart⟩
end Jvm.Pilot.@@N@@
