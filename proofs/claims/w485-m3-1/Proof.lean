import JvmDerived
import JvmDerived.Pilot.@@N@@Statement
import JvmDerived.Pilot.@@N@@Code
set_option linter.unusedVariables false
set_option linter.unusedSimpArgs false
namespace Jvm.Pilot.@@N@@
open Jvm Jvm.ClassFile Sem Op Lib Jvm.Free Jvm.Stand Jvm.LawKit Jvm.RoadKit Bundle Jvm.Pilot.@@N@@.Jvm.D
section Own
variable {p : Program} {l : Launch} {e : Env} {R : Room} {s : State} {m : MethodId} {args : Array Value} {below : List Frame} {meth : Method} {c : Code} {T : State} {locs : List Loc} {cells slots : Nat} {Z : State} {a0 : Array Value} {h : Heap} {P : State → Outcome → Prop} {pc : Nat} {Ls : Array Slot} {rest st : List Value}
/-- from T, with f on top, the run comes to an end of which P holds -/
def own_Go (p : Program) (e : Env) (below : List Frame) (P : State → Outcome → Prop) (T : State) (f : JFrame) : Prop :=
  ∃ t o, Steps p.tables e below (T.setTop f) t ∧ t.status = .running ∧ Ended t below o ∧ P t o
theorem own_by {T' : State} {f f' : JFrame} (st : ∀ t, Steps p.tables e below (T'.setTop f') t → Steps p.tables e below (T.setTop f) t) (k : own_Go p e below P T' f') : own_Go p e below P T f := by
  obtain ⟨t, o, h1, h2⟩ := k
  exact ⟨t, o, st _ h1, h2⟩
/-- a method's end: what it returns, the heap, what it wrote -/
def own_Ends (s : State) (rm : Room) (Q : Option Value → Heap → List Loc → Prop) (t : State) (o : Outcome) : Prop := ∃ v L, o = .returned v ∧ Q v t.heap L ∧ FrameEnd s o t L rm.cells rm.slots
/-- a body's contract, at one list of arguments and one heap -/
def own_Ct (l : Launch) (Z : State) (y : MethodName) (bytes : ByteArray) (mx : Nat) (rt : Option FieldType) (ws : List Jvm.Cond) (rm : Room) (as' : Array Value) (h0 : Heap) (Q : Option Value → Heap → List Loc → Prop) : Prop :=
  MetFree l y (head1 (Jvm.Cond.code y bytes mx rt :: ws) rm) (fun a U => a = as' ∧ Z.Warmed39 U.vm ∧ U.heap = h0) (fun _ _ _ _ _ => True) (fun _ U o U' => own_Ends U rm Q U' o)
theorem own_of {y : MethodName} {bytes : ByteArray} {mx : Nat} {rt : Option FieldType} {ws : List Jvm.Cond} {rm : Room} {as' : Array Value} {h0 : Heap} {Q : Option Value → Heap → List Loc → Prop} (hpl : plainName y.cls = true)
    (body : ∀ (p : Program) (e : Env) (s : State) (m : MethodId) (below : List Frame) (meth : Method) (c : Code) (s₁ : State), p.tables.exec = Jvm.exec → c.code = bytes → c.maxLocals = mx → s.vm.findClass y.cls = some m.cls → meth.name = y.name → meth.sig.returnType = rt → meth.locks = false → Z.Warmed39 s.vm →
      Stand p l e rm s m as' below meth c s₁ [] 0 0 → s₁.heap = h0 → own_Go p e below (own_Ends s rm Q) s₁ (entryFrame m as' mx)) : own_Ct l Z y bytes mx rt ws rm as' h0 Q := by
  refine MetFree.of_bodySF (plainFor_of_name hpl) hisR ?_
  intro p e s m args below meth c s₁ Bd hml hP hK
  obtain ⟨rfl, hZ, hh⟩ := hP
  exact body p e s m below meth c s₁ Bd.exec Bd.bytes hml (findClass_of_methodNamed Bd.named) (name_of_methodNamed Bd.named Bd.method).1 Bd.returns Bd.notSynchronized hZ (Stand.of_body Bd) (by rw [← hh, Bd.state]; rfl)
theorem own_ret {rm : Room} {Q : Option Value → Heap → List Loc → Prop} {t : FieldType} {w : Value} {i : Instr} (X : Stand p l e R s m args below meth c T locs cells slots) (hx : p.tables.exec = Jvm.exec) (hret : meth.sig.returnType = some t) (hlk : meth.locks = false) (hd : decode c.code pc = .ok (i, 1)) (hn : narrow t w = w)
    (hi : (i = .ireturn ∧ (t = .int ∨ t = .boolean ∨ t = .byte ∨ t = .char ∨ t = .short) ∧ ∃ z, w = .int z) ∨ (i = .lreturn ∧ t = .long ∧ ∃ z, w = .long z) ∨ (i = .dreturn ∧ t = .double ∧ ∃ z, w = .double z) ∨ (i = .freturn ∧ t = .float ∧ ∃ z, w = .float z) ∨ (i = .areturn ∧ t.isReference = true ∧ w.isRef = true))
    (hc : cells ≤ rm.cells) (hs : slots ≤ rm.slots) (hq : Q (some w) T.heap locs) : own_Go p e below (own_Ends s rm Q) T (mkF m pc Ls (w :: rest)) := by
  obtain ⟨fs, hr, hrun, hended, hW, hsame⟩ := X.leave (v := some w) (fun h => by rw [hret] at h; cases h) hlk
  exact ⟨_, _, retOut X hx hret hn hi hd hr, hrun, hended, _, _, rfl, hq, ⟨_, rfl⟩, hW, hsame.mono hc hs⟩
theorem own_retI {rm : Room} {Q : Option Value → Heap → List Loc → Prop} {w : Int32} (X : Stand p l e R s m args below meth c T locs cells slots) (hx : p.tables.exec = Jvm.exec) (hret : meth.sig.returnType = some .int) (hlk : meth.locks = false) (hd : decode c.code pc = .ok (.ireturn, 1)) 
    (hc : cells ≤ rm.cells) (hs : slots ≤ rm.slots) (hq : Q (some (.int w)) T.heap locs) : own_Go p e below (own_Ends s rm Q) T (mkF m pc Ls (.int w :: rest)) :=
  own_ret X hx hret hlk hd rfl (Or.inl ⟨rfl, Or.inl rfl, _, rfl⟩) hc hs hq
theorem own_retZ {rm : Room} {Q : Option Value → Heap → List Loc → Prop} {w : Int32} (X : Stand p l e R s m args below meth c T locs cells slots) (hx : p.tables.exec = Jvm.exec) (hret : meth.sig.returnType = some .boolean) (hlk : meth.locks = false) (hd : decode c.code pc = .ok (.ireturn, 1)) (hw : w = 0 ∨ w = 1)
    (hc : cells ≤ rm.cells) (hs : slots ≤ rm.slots) (hq : Q (some (.int w)) T.heap locs) : own_Go p e below (own_Ends s rm Q) T (mkF m pc Ls (.int w :: rest)) :=
  own_ret X hx hret hlk hd (by rcases hw with rfl | rfl <;> rfl) (Or.inl ⟨rfl, Or.inr (Or.inl rfl), _, rfl⟩) hc hs hq
theorem own_retJ {rm : Room} {Q : Option Value → Heap → List Loc → Prop} {w : Int64} (X : Stand p l e R s m args below meth c T locs cells slots) (hx : p.tables.exec = Jvm.exec) (hret : meth.sig.returnType = some .long) (hlk : meth.locks = false) (hd : decode c.code pc = .ok (.lreturn, 1)) 
    (hc : cells ≤ rm.cells) (hs : slots ≤ rm.slots) (hq : Q (some (.long w)) T.heap locs) : own_Go p e below (own_Ends s rm Q) T (mkF m pc Ls (.long w :: rest)) :=
  own_ret X hx hret hlk hd rfl (Or.inr (Or.inl ⟨rfl, rfl, _, rfl⟩)) hc hs hq
theorem own_retA {rm : Room} {Q : Option Value → Heap → List Loc → Prop} {w : Value} {t : FieldType} (X : Stand p l e R s m args below meth c T locs cells slots) (hx : p.tables.exec = Jvm.exec) (hret : meth.sig.returnType = some t) (hlk : meth.locks = false) (hd : decode c.code pc = .ok (.areturn, 1)) (ht : t.isReference = true) (hn : narrow t w = w) (hw : w.isRef = true)
    (hc : cells ≤ rm.cells) (hs : slots ≤ rm.slots) (hq : Q (some w) T.heap locs) : own_Go p e below (own_Ends s rm Q) T (mkF m pc Ls (w :: rest)) :=
  own_ret X hx hret hlk hd hn (Or.inr (Or.inr (Or.inr (Or.inr ⟨rfl, ht, hw⟩)))) hc hs hq
theorem own_retV {rm : Room} {Q : Option Value → Heap → List Loc → Prop} (X : Stand p l e R s m args below meth c T locs cells slots) (hx : p.tables.exec = Jvm.exec) (hret : meth.sig.returnType = none) (hlk : meth.locks = false) (hd : decode c.code pc = .ok (.return_, 1))
    (hc : cells ≤ rm.cells) (hs : slots ≤ rm.slots) (hq : Q none T.heap locs) : own_Go p e below (own_Ends s rm Q) T (mkF m pc Ls []) := by
  obtain ⟨fs, hr, hrun, hended, hW, hsame⟩ := X.leave (v := none) (fun _ => rfl) hlk
  exact ⟨_, _, X.returnOut hx hret hd hr, hrun, hended, _, _, rfl, hq, ⟨_, rfl⟩, hW, hsame.mono hc hs⟩
abbrev own_K (p : Program) (l : Launch) (e : Env) (R : Room) (s : State) (m : MethodId) (args : Array Value) (below : List Frame) (meth : Method) (c : Code) (P : State → Outcome → Prop) (locs : List Loc) (cells slots : Nat) (rm : Room) (Q : Option Value → Heap → List Loc → Prop) (pc : Nat) (Ls : Array Slot) (rest : List Value) : Prop :=
  ∀ (T' : State) (v : Option Value) (L : List Loc), Stand p l e R s m args below meth c T' (locs ++ L) (cells + rm.cells) (slots + rm.slots) → Q v T'.heap L → own_Go p e below P T' (mkF m pc Ls (v.toList ++ rest))
theorem own_callS {own : String} {index : Nat} {y : MethodName} {bytes : ByteArray} {maxL : Nat} {ret : Option FieldType} {rm : Room} {Q : Option Value → Heap → List Loc → Prop} {ps : List FieldType} {r : Option FieldType} (X : Stand p l e R s m args below meth c T locs cells slots) (hx : p.tables.exec = Jvm.exec) (hZ : Z.Warmed39 s.vm) (hown : s.vm.findClass own = some m.cls) (eT : T.heap = h) (hd : decode c.code pc = .ok (.invokestatic index, 3))
    (argsL rest : List Value) (W : Nat) (C : own_Ct l Z y bytes maxL ret [] rm argsL.toArray h Q) (w1 : (Cond.methodLink own index y).before a0 Z = true) (w2 : (Cond.static y).before a0 Z = true) (w3 : (Cond.initialized y.cls).before a0 Z = true) (w4 : (Cond.code y bytes maxL ret).before a0 Z = true)
    (hy : y.cls ≠ "java/lang/invoke/MethodHandle" ∧ y.cls ≠ "java/lang/invoke/VarHandle") (hpd : parseMethodDescriptor y.desc = some ⟨ps, r⟩) (hsize : Ls.size = c.maxLocals) (hlen : argsL.length = ps.length) (hst : st = argsL.reverse ++ rest)
    (hW : (rest.map fun v => v.category).sum ≤ W) (hf : rm.frames + 1 ≤ R.frames) (hl : W + (maxL + 11) + rm.locals ≤ R.locals) (hc : cells + rm.cells ≤ R.cells) (hs : slots + rm.slots ≤ R.slots)
    (k : own_K p l e R s m args below meth c P locs cells slots rm Q (pc + 3) Ls rest) : own_Go p e below P T (mkF m pc Ls st) := by
  obtain ⟨v, _, ⟨T', L', k', n'⟩, -, X', ⟨Lc, hQ, l', y', z'⟩, stp⟩ := Jvm.LawKit.callS X hx (y := y) hown (mvT hZ w1) (mvT hZ w2) (mvT hZ w3) (mvT hZ w4) hy (backOf (W := W) (Q := Q) C hZ w4 w3 hf hl) (g := mkF m pc Ls st) rfl hsize (argsL := argsL) (rest := rest) (lenOf hpd hlen) hst (by show 2 * 0 + _ ≤ _; omega) hd (fun _ _ => ⟨rfl, eT, hc, hs⟩)
  dsimp only [Pt.U, Pt.locs, Pt.cells, Pt.slots] at X' l' y' z' stp hQ
  subst l' y' z'
  exact own_by stp (k T' v Lc X' hQ)
theorem own_callN {own : String} {index : Nat} {y : MethodName} {bytes : ByteArray} {maxL : Nat} {rm : Room} {Q : Option Value → Heap → List Loc → Prop} {ps : List FieldType} {r : Option FieldType} {a : Addr} (X : Stand p l e R s m args below meth c T locs cells slots) (hx : p.tables.exec = Jvm.exec) (hZ : Z.Warmed39 s.vm) (hown : s.vm.findClass own = some m.cls) (eT : T.heap = h) (hd : decode c.code pc = .ok (.invokespecial index, 3))
    (argsL rest : List Value) (W : Nat) (C : own_Ct l Z y bytes maxL none [] rm (.ref a :: argsL).toArray h Q) (w1 : (Cond.methodLink own index y).before a0 Z = true) (w2 : (Cond.instanceMethod y).before a0 Z = true) (w3 : (Cond.initialized y.cls).before a0 Z = true) (w4 : (Cond.code y bytes maxL none).before a0 Z = true)
    (hyi : y.name = "<init>") (hy : y.cls ≠ "java/lang/invoke/MethodHandle" ∧ y.cls ≠ "java/lang/invoke/VarHandle") (hpd : parseMethodDescriptor y.desc = some ⟨ps, r⟩) (hsize : Ls.size = c.maxLocals) (hlen : argsL.length = ps.length) (hst : st = argsL.reverse ++ .ref a :: rest)
    (hW : (rest.map fun v => v.category).sum ≤ W) (hf : rm.frames + 1 ≤ R.frames) (hl : W + (maxL + 11) + rm.locals ≤ R.locals) (hc : cells + rm.cells ≤ R.cells) (hs : slots + rm.slots ≤ R.slots)
    (k : own_K p l e R s m args below meth c P locs cells slots rm Q (pc + 3) Ls rest) : own_Go p e below P T (mkF m pc Ls st) := by
  obtain ⟨v, _, ⟨T', L', k', n'⟩, -, X', ⟨Lc, hQ, l', y', z'⟩, stp⟩ := X.specialBack hx (y := y) hyi hown (mvT hZ w1) (mvT hZ w2) (mvT hZ w4) hy (backOf (W := W) (Q := Q) C hZ w4 w3 hf hl) (g := mkF m pc Ls st) rfl hsize (Steps.refl _) (a := a) (argsL := argsL) (rest := rest) (lenOf hpd hlen) hst (by show 2 * 0 + _ ≤ _; omega) hd (fun _ _ => ⟨rfl, eT, hc, hs⟩)
  dsimp only [Pt.U, Pt.locs, Pt.cells, Pt.slots] at X' l' y' z' stp hQ
  subst l' y' z'
  exact own_by (fun _ k => stp.trans k) (k T' v Lc X' hQ)
theorem own_callV {own : String} {index : Nat} {C0 : String} {y z : MethodName} {bytes : ByteArray} {maxL : Nat} {ret : Option FieldType} {rm : Room} {Q : Option Value → Heap → List Loc → Prop} {ps : List FieldType} {r : Option FieldType} {a : Addr} (X : Stand p l e R s m args below meth c T locs cells slots) (hx : p.tables.exec = Jvm.exec) (hZ : Z.Warmed39 s.vm) (hown : s.vm.findClass own = some m.cls) (eT : T.heap = h) (hd : decode c.code pc = .ok (.invokevirtual index, 3))
    (argsL rest : List Value) (W : Nat) (C : own_Ct l Z z bytes maxL ret [] rm (.ref a :: argsL).toArray h Q) (E : Exa Z h a C0) (w1 : (Cond.methodLink own index y).before a0 Z = true) (w0 : (Cond.declares y).before a0 Z = true) (nf : NotFace s y) (ws : (Cond.selects C0 y z).before a0 Z = true) (w2 : (Cond.instanceMethod z).before a0 Z = true) (w3 : (Cond.initialized z.cls).before a0 Z = true) (w4 : (Cond.code z bytes maxL ret).before a0 Z = true)
    (hy : y.cls ≠ "java/lang/invoke/MethodHandle" ∧ y.cls ≠ "java/lang/invoke/VarHandle") (hpd : parseMethodDescriptor y.desc = some ⟨ps, r⟩) (hsize : Ls.size = c.maxLocals) (hlen : argsL.length = ps.length) (hst : st = argsL.reverse ++ .ref a :: rest)
    (hW : (rest.map fun v => v.category).sum ≤ W) (hf : rm.frames + 1 ≤ R.frames) (hl : W + (maxL + 11) + rm.locals ≤ R.locals) (hc : cells + rm.cells ≤ R.cells) (hs : slots + rm.slots ≤ R.slots)
    (k : own_K p l e R s m args below meth c P locs cells slots rm Q (pc + 3) Ls rest) : own_Go p e below P T (mkF m pc Ls st) := by
  obtain ⟨cq, kq, qa, qb, qc⟩ := isOf hZ eT E
  obtain ⟨v, _, ⟨T', L', k', n'⟩, -, X', ⟨Lc, hQ, l', y', z'⟩, stp⟩ := X.virtualBack hx (y := y) (z := z) hown (mvT hZ w1) (mvT hZ w0) nf (mvT hZ ws) (mvT hZ w2) hy (backOf (W := W) (Q := Q) C hZ w4 w3 hf hl) qa qc (g := mkF m pc Ls st) rfl hsize (Steps.refl _) (argsL := argsL) (rest := rest) (lenOf hpd hlen) hst (by show 2 * 0 + _ ≤ _; omega) hd (fun _ _ => ⟨rfl, eT, hc, hs⟩)
  dsimp only [Pt.U, Pt.locs, Pt.cells, Pt.slots] at X' l' y' z' stp hQ
  subst l' y' z'
  exact own_by (fun _ k => stp.trans k) (k T' v Lc X' hQ)
theorem own_callP {own : String} {index : Nat} {C0 : String} {y : MethodName} {bytes : ByteArray} {maxL : Nat} {ret : Option FieldType} {rm : Room} {Q : Option Value → Heap → List Loc → Prop} {ps : List FieldType} {r : Option FieldType} {a : Addr} (X : Stand p l e R s m args below meth c T locs cells slots) (hx : p.tables.exec = Jvm.exec) (hZ : Z.Warmed39 s.vm) (hown : s.vm.findClass own = some m.cls) (eT : T.heap = h) (hd : decode c.code pc = .ok (.invokevirtual index, 3))
    (argsL rest : List Value) (W : Nat) (C : own_Ct l Z y bytes maxL ret [] rm (.ref a :: argsL).toArray h Q) (E : Exa Z h a C0) (w1 : (Cond.methodLink own index y).before a0 Z = true) (w2 : (Cond.instanceMethod y).before a0 Z = true) (ws : (Cond.selects y.cls y y).before a0 Z = true) (wp : (Cond.privateMethod y).before a0 Z = true) (w3 : (Cond.initialized y.cls).before a0 Z = true) (w4 : (Cond.code y bytes maxL ret).before a0 Z = true)
    (hy : y.cls ≠ "java/lang/invoke/MethodHandle" ∧ y.cls ≠ "java/lang/invoke/VarHandle") (hpd : parseMethodDescriptor y.desc = some ⟨ps, r⟩) (hsize : Ls.size = c.maxLocals) (hlen : argsL.length = ps.length) (hst : st = argsL.reverse ++ .ref a :: rest)
    (hW : (rest.map fun v => v.category).sum ≤ W) (hf : rm.frames + 1 ≤ R.frames) (hl : W + (maxL + 11) + rm.locals ≤ R.locals) (hc : cells + rm.cells ≤ R.cells) (hs : slots + rm.slots ≤ R.slots)
    (k : own_K p l e R s m args below meth c P locs cells slots rm Q (pc + 3) Ls rest) : own_Go p e below P T (mkF m pc Ls st) := by
  obtain ⟨cq, q1, q2⟩ := E.cell
  obtain ⟨v, _, ⟨T', L', k', n'⟩, -, X', ⟨Lc, hQ, l', y', z'⟩, stp⟩ := X.privateBack hx (y := y) hown (mvT hZ w1) (mvT hZ w2) (mvT hZ ws) (Cond.privateMethod_at (mvP hZ wp (args := #[]))) (mvT hZ w4) hy (backOf (W := W) (Q := Q) C hZ w4 w3 hf hl) (g := mkF m pc Ls st) rfl hsize (Steps.refl _) (a := a) (by rw [eT]; exact q1) q2 (argsL := argsL) (rest := rest) (lenOf hpd hlen) hst (by show 2 * 0 + _ ≤ _; omega) hd (fun _ _ => ⟨rfl, eT, hc, hs⟩)
  dsimp only [Pt.U, Pt.locs, Pt.cells, Pt.slots] at X' l' y' z' stp hQ
  subst l' y' z'
  exact own_by (fun _ k => stp.trans k) (k T' v Lc X' hQ)
abbrev own_K0 (p : Program) (l : Launch) (e : Env) (R : Room) (s : State) (m : MethodId) (args : Array Value) (below : List Frame) (meth : Method) (c : Code) (P : State → Outcome → Prop) (locs : List Loc) (cells slots : Nat) (h : Heap) (pc : Nat) (Ls : Array Slot) (st : List Value) : Prop :=
  ∀ (T' : State), Stand p l e R s m args below meth c T' locs cells slots → T'.heap = h → own_Go p e below P T' (mkF m pc Ls st)
theorem own_init {own : String} {index : Nat} {a : Addr} (X : Stand p l e R s m args below meth c T locs cells slots) (hx : p.tables.exec = Jvm.exec) (hZ : Z.Warmed39 s.vm) (hown : s.vm.findClass own = some m.cls) (eT : T.heap = h) (hd : decode c.code pc = .ok (.invokespecial index, 3)) (W : Nat)
    (w1 : (Cond.methodLink own index Lib.objectInit).before a0 Z = true) (w2 : (Cond.instanceMethod Lib.objectInit).before a0 Z = true) (w3 : (Cond.code Lib.objectInit ⟨#[0xb1]⟩ 1 none).before a0 Z = true) (hsize : Ls.size = c.maxLocals) (hW : (rest.map fun v => v.category).sum ≤ W) (hf : 1 ≤ R.frames) (hl : W + 12 ≤ R.locals)
    (k : own_K0 p l e R s m args below meth c P locs cells slots h (pc + 3) Ls rest) : own_Go p e below P T (mkF m pc Ls (.ref a :: rest)) := by
  obtain ⟨T', X', e', st⟩ := initO X hx hZ hown w1 w2 w3 eT (g := mkF m pc Ls (.ref a :: rest)) rfl hsize rfl hd hf (W := W) (by show 2 * 0 + _ ≤ _; omega) hl
  exact own_by st (k T' X' e')
theorem own_getF {own R0 O n d host : String} {index : Nat} {a : Addr} {v : Value} (X : Stand p l e R s m args below meth c T locs cells slots) (hx : p.tables.exec = Jvm.exec) (hZ : Z.Warmed39 s.vm) (hown : s.vm.findClass own = some m.cls) (eT : T.heap = h) (hd : decode c.code pc = .ok (.getfield index, 3))
    (w : (Cond.fieldLink own index R0 n d).before a0 Z = true ∨ (Cond.fieldLinkNest own index R0 n d host).before a0 Z = true) (via : Via Z R0 O n d) (F : Fld Z h a O n d v)
    (k : own_K0 p l e R s m args below meth c P locs cells slots h (pc + 3) Ls (v :: rest)) : own_Go p e below P T (mkF m pc Ls (.ref a :: rest)) := by
  obtain ⟨T', X', e', st⟩ := getF X hx hZ hown w via eT F (g := mkF m pc Ls (.ref a :: rest)) rfl rfl hd
  exact own_by st (k T' X' e')
theorem own_getS {own R0 O n d host : String} {index : Nat} {v : Value} (X : Stand p l e R s m args below meth c T locs cells slots) (hx : p.tables.exec = Jvm.exec) (hZ : Z.Warmed39 s.vm) (hown : s.vm.findClass own = some m.cls) (eT : T.heap = h) (hd : decode c.code pc = .ok (.getstatic index, 3))
    (w : (Cond.fieldLink own index R0 n d).before a0 Z = true ∨ (Cond.fieldLinkNest own index R0 n d host).before a0 Z = true) (via : Via Z R0 O n d) (F : Sta Z h O n d v)
    (k : own_K0 p l e R s m args below meth c P locs cells slots h (pc + 3) Ls (v :: st)) : own_Go p e below P T (mkF m pc Ls st) := by
  obtain ⟨T', X', e', stp⟩ := getS2 X hx hZ hown w via eT F (g := mkF m pc Ls st) rfl hd
  exact own_by stp (k T' X' e')
theorem own_new {own C : String} {index n : Nat} (X : Stand p l e R s m args below meth c T locs cells slots) (hx : p.tables.exec = Jvm.exec) (hZ : Z.Warmed39 s.vm) (hown : s.vm.findClass own = some m.cls) (eT : T.heap = h) (hd : decode c.code pc = .ok (.new index, 3))
    (w : (Cond.classLink own index C).before a0 Z = true) (wi : (Cond.instantiable C n).before a0 Z = true) (wz : (Cond.initialized C).before a0 Z = true) (hc : cells + 1 ≤ R.cells) (hl : slots + n ≤ R.slots)
    (k : ∀ (T' : State) (h' : Heap) (b : Addr), Stand p l e R s m args below meth c T' locs (cells + 1) (slots + n) → T'.heap = h' → b = h.size → Ext h h' → Exa Z h' b C → (∀ {O nm d : String} {ty : FieldType}, Laid Z a0 C O nm d → parseFieldDescriptor d = some ty → Fld Z h' b O nm d (defaultValue ty)) → own_Go p e below P T' (mkF m (pc + 3) Ls (.ref b :: st))) :
    own_Go p e below P T (mkF m pc Ls st) := by
  obtain ⟨T', h', X', e', E, A, D, -, stp⟩ := newO X hx hZ hown w wi wz eT (g := mkF m pc Ls st) rfl hd hc hl
  exact own_by stp (k T' h' _ X' e' rfl E A D)
theorem own_putF {own R0 O n d host C : String} {index kk : Nat} {ty : FieldType} {a : Addr} {v old : Value} (X : Stand p l e R s m args below meth c T locs cells slots) (hx : p.tables.exec = Jvm.exec) (hZ : Z.Warmed39 s.vm) (hown : s.vm.findClass own = some m.cls) (eT : T.heap = h) (hd : decode c.code pc = .ok (.putfield index, 3))
    (w : (Cond.fieldLink own index R0 n d).before a0 Z = true ∨ (Cond.fieldLinkNest own index R0 n d host).before a0 Z = true) (via : Via Z R0 O n d) (F : Fld Z h a O n d old) (E : Exa Z h a C) (L : (Cond.lays C O n d).before a0 Z = true ∨ ((Cond.laysFinal C O n d).before a0 Z = true ∧ own = O ∧ meth.name = "<init>")) (wi : (Cond.instantiable C kk).before a0 Z = true)
    (hty : parseFieldDescriptor d = some ty) (hn : narrow ty v = v) (hf : fits ty v = true)
    (k : ∀ (T' : State) (h' : Heap), Stand p l e R s m args below meth c T' (locs ++ [⟨a, Jvm.RoadKit.slotOf Z O n d⟩]) cells slots → T'.heap = h' → Wr h h' a (Jvm.RoadKit.slotOf Z O n d) v → own_Go p e below P T' (mkF m (pc + 3) Ls rest)) :
    own_Go p e below P T (mkF m pc Ls (v :: .ref a :: rest)) := by
  obtain ⟨T', h', X', e', W, st⟩ := putF X hx hZ hown w via eT F E L wi hty hn hf (g := mkF m pc Ls (v :: .ref a :: rest)) rfl rfl hd
  exact own_by st (k T' h' X' e' W)
theorem own_newA {aty : ArrayType} {n : Int32} (X : Stand p l e R s m args below meth c T locs cells slots) (hx : p.tables.exec = Jvm.exec) (hZ : Z.Warmed39 s.vm) (eT : T.heap = h) (hd : decode c.code pc = .ok (.newarray aty, 2))
    (w : (Cond.arrayClass (newarray.typeOf aty)).before a0 Z = true) (hn : ¬ n < 0) (cap : Nat) (hcap : n.toNatClampNeg ≤ cap) (hb : cap * 8 ≤ 536870912) (hc : cells + 1 ≤ R.cells) (hl : slots + cap ≤ R.slots)
    (k : ∀ (T' : State) (h' : Heap) (b : Addr) (cA : ClassId), Stand p l e R s m args below meth c T' locs (cells + 1) (slots + cap) → T'.heap = h' → b = h.size → Ext h h' → Arv Z h' b cA (newarray.typeOf aty) n [] (defaultValue (newarray.typeOf aty)) → own_Go p e below P T' (mkF m (pc + 2) Ls (.ref b :: rest))) :
    own_Go p e below P T (mkF m pc Ls (.int n :: rest)) := by
  obtain ⟨T', h', cA, X', e', E, A, stp⟩ := newP X hx hZ w eT (g := mkF m pc Ls (.int n :: rest)) rfl hd rfl hn hcap hb hc hl
  exact own_by stp (k T' h' _ cA X' e' rfl E (Arv.new A hn))
theorem own_ldcI {own : String} {index : Nat} {i : Int32} (X : Stand p l e R s m args below meth c T locs cells slots) (hx : p.tables.exec = Jvm.exec) (hZ : Z.Warmed39 s.vm) (hown : s.vm.findClass own = some m.cls) (hd : decode c.code pc = .ok (.ldc index, 2)) (w : (Cond.constant own index i).before a0 Z = true)
    (k : own_Go p e below P T (mkF m (pc + 2) Ls (.int i :: st))) : own_Go p e below P T (mkF m pc Ls st) :=
  own_by (fun t k => X.ldcInt hx hown (mvT hZ w) (g := mkF m pc Ls st) rfl hd t k) k
theorem own_ldcJ {own : String} {index : Nat} {i : Int64} (X : Stand p l e R s m args below meth c T locs cells slots) (hx : p.tables.exec = Jvm.exec) (hZ : Z.Warmed39 s.vm) (hown : s.vm.findClass own = some m.cls) (hd : decode c.code pc = .ok (.ldc2_w index, 3)) (w : (Cond.constantLong own index i).before a0 Z = true)
    (k : own_Go p e below P T (mkF m (pc + 3) Ls (.long i :: st))) : own_Go p e below P T (mkF m pc Ls st) :=
  own_by (fun t k => X.ldc2Long hx hown (mvT hZ w) (g := mkF m pc Ls st) rfl hd t k) k
theorem own_ns {a : Addr} {C : String} (F : Exa Z h a C) : ∃ c : Cell, h[a]? = some c ∧ c.vm.isStatics = false := by obtain ⟨c, _, h1, -, -, h4, -⟩ := F; exact ⟨c, h1, h4⟩
theorem own_sta_keep {h' : Heap} {C n d : String} {v : Value} {ws : List Addr} (F : Sta Z h C n d v) (K : Keep h h' ws) (q : ∀ x ∈ ws, ∃ c : Cell, h[x]? = some c ∧ c.vm.isStatics = false) : Sta Z h' C n d v := by
  obtain ⟨cf, i, k, f, st, cell, h1, h2, h3, h4, h5, h6, h7⟩ := F
  refine ⟨cf, i, k, f, st, cell, h1, h2, h3, h4, K.2.1 st cell h5 fun z => ?_, h6, h7⟩
  obtain ⟨c, c1, c2⟩ := q st z
  cases h5.symm.trans c1
  rw [h6] at c2; cases c2
end Own
theorem d3_0 : decode jdk_30_method_1_code 0 = .ok (.aload_n 0, 1) := by decide +kernel
theorem d3_1 : decode jdk_30_method_1_code 1 = .ok (.invokespecial 1, 3) := by decide +kernel
theorem d3_4 : decode jdk_30_method_1_code 4 = .ok (.return_, 1) := by decide +kernel
theorem pn_java_lang_Record : plainName "java/lang/Record" = true := by first | (simp [plainName, overriddenIn]; done) | decide +kernel
theorem d5_0 : decode jdk_117_method_6_code 0 = .ok (.dload_n 0, 1) := by decide +kernel
theorem d5_1 : decode jdk_117_method_6_code 1 = .ok (.dload_n 0, 1) := by decide +kernel
theorem d5_2 : decode jdk_117_method_6_code 2 = .ok (.dcmp .l, 1) := by decide +kernel
theorem d5_3 : decode jdk_117_method_6_code 3 = .ok (.ifCond .eq 7, 3) := by decide +kernel
theorem d5_10 : decode jdk_117_method_6_code 10 = .ok (.iconst 0, 1) := by decide +kernel
theorem d5_11 : decode jdk_117_method_6_code 11 = .ok (.ireturn, 1) := by decide +kernel
theorem pn_java_lang_Double : plainName "java/lang/Double" = true := by first | (simp [plainName, overriddenIn]; done) | decide +kernel
theorem d2_0 : decode prog_51_method_1_code 0 = .ok (.aload_n 0, 1) := by decide +kernel
theorem d2_1 : decode prog_51_method_1_code 1 = .ok (.invokespecial 1, 3) := by decide +kernel
theorem pd___V : parseMethodDescriptor "()V" = some ⟨[], none⟩ := by decide +kernel
theorem d2_4 : decode prog_51_method_1_code 4 = .ok (.dload_n 1, 1) := by decide +kernel
theorem d2_5 : decode prog_51_method_1_code 5 = .ok (.invokestatic 7, 3) := by decide +kernel
theorem pd__D_Z : parseMethodDescriptor "(D)Z" = some ⟨[.double], some .boolean⟩ := by decide +kernel
theorem d2_8 : decode prog_51_method_1_code 8 = .ok (.ifCond .eq 17, 3) := by decide +kernel
theorem d2_25 : decode prog_51_method_1_code 25 = .ok (.aload_n 0, 1) := by decide +kernel
theorem d2_26 : decode prog_51_method_1_code 26 = .ok (.dload_n 1, 1) := by decide +kernel
theorem d2_27 : decode prog_51_method_1_code 27 = .ok (.putfield 22, 3) := by decide +kernel
theorem d2_30 : decode prog_51_method_1_code 30 = .ok (.return_, 1) := by decide +kernel
theorem pn_com_example_tollgraph_tollgraph_traversal_Threshold : plainName "com/example/tollgraph/tollgraph/traversal/Threshold" = true := by first | (simp [plainName, overriddenIn]; done) | decide +kernel
theorem d1_0 : decode prog_51_method_2_code 0 = .ok (.new 23, 3) := by decide +kernel
theorem d1_3 : decode prog_51_method_2_code 3 = .ok (.dup, 1) := by decide +kernel
theorem d1_4 : decode prog_51_method_2_code 4 = .ok (.dload_n 0, 1) := by decide +kernel
theorem d1_5 : decode prog_51_method_2_code 5 = .ok (.invokespecial 28, 3) := by decide +kernel
theorem pd__D_V : parseMethodDescriptor "(D)V" = some ⟨[.double], none⟩ := by decide +kernel
theorem d1_8 : decode prog_51_method_2_code 8 = .ok (.areturn, 1) := by decide +kernel
theorem d6_0 : decode prog_51_method_4_code 0 = .ok (.aload_n 1, 1) := by decide +kernel
theorem d6_1 : decode prog_51_method_4_code 1 = .ok (.getfield 22, 3) := by decide +kernel
theorem d6_4 : decode prog_51_method_4_code 4 = .ok (.aload_n 0, 1) := by decide +kernel
theorem d6_5 : decode prog_51_method_4_code 5 = .ok (.getfield 22, 3) := by decide +kernel
theorem d6_8 : decode prog_51_method_4_code 8 = .ok (.dcmp .g, 1) := by decide +kernel
theorem d6_9 : decode prog_51_method_4_code 9 = .ok (.ifCond .ge 7, 3) := by decide +kernel
theorem d6_12 : decode prog_51_method_4_code 12 = .ok (.aload_n 1, 1) := by decide +kernel
theorem d6_13 : decode prog_51_method_4_code 13 = .ok (.goto 4, 3) := by decide +kernel
theorem d6_17 : decode prog_51_method_4_code 17 = .ok (.areturn, 1) := by decide +kernel
theorem d6_16 : decode prog_51_method_4_code 16 = .ok (.aload_n 0, 1) := by decide +kernel
theorem pd__D_Lcom_example_tollgraph_tollgraph_traversal_Threshold_ : parseMethodDescriptor "(D)Lcom/example/tollgraph/tollgraph/traversal/Threshold;" = some ⟨[.double], some (.object "com/example/tollgraph/tollgraph/traversal/Threshold")⟩ := by decide +kernel
theorem pd__Lcom_example_tollgraph_tollgraph_traversal_Threshold_Lcom_example_tollgraph_tollgraph_traversal_Threshold__Lcom_example_tollgraph_tollgraph_traversal_Threshold_ : parseMethodDescriptor "(Lcom/example/tollgraph/tollgraph/traversal/Threshold;Lcom/example/tollgraph/tollgraph/traversal/Threshold;)Lcom/example/tollgraph/tollgraph/traversal/Threshold;" = some ⟨[(.object "com/example/tollgraph/tollgraph/traversal/Threshold"), (.object "com/example/tollgraph/tollgraph/traversal/Threshold")], some (.object "com/example/tollgraph/tollgraph/traversal/Threshold")⟩ := by decide +kernel
theorem pn_com_example_tollgraph_tollgraph_traversal_ThresholdMinPinLaw : plainName "com/example/tollgraph/tollgraph/traversal/ThresholdMinPinLaw" = true := by first | (simp [plainName, overriddenIn]; done) | decide +kernel
theorem ef_rmR (m : MethodId) (x0 : Addr) : entryFrame m #[(.ref x0)] 1 = mkF m 0 #[.val (.ref x0)] [] := by first | (simp [entryFrame, mkF, argsToLocals, Value.category]; done) | rfl
set_option maxRecDepth 65536 in
set_option maxHeartbeats 40000000 in
theorem rmR (l : Launch) (Z : State) (a0 : Array Value) (hw : ∀ d ∈ tables_1, d.before a0 Z = true) (ws : List Jvm.Cond) (a1 : Addr) (h0 : Heap)  :
    own_Ct l Z (⟨"java/lang/Record", "<init>", "()V"⟩ : MethodName) jdk_30_method_1_code 1 none ws ({ frames := 1, cells := 0, slots := 0, locals := 12 } : Room) #[(.ref a1)] h0 (fun v h L => v = none ∧ L = [] ∧ h = h0) := by
  refine own_of pn_java_lang_Record ?_
  intro p e s m below meth c s₁ hx hby hml hown hnm hret hlk hZ X0 e0
  rw [ef_rmR]
  refine own_by (T' := s₁) (f' := (mkF m 1 #[.val (.ref a1)] [(.ref a1)])) (fun t k => XS.aloadN X0.here hx rfl (hb hby d3_0) rfl rfl k) ?_
  refine own_init X0 hx hZ hown e0 (hb hby d3_1) 0 (hw _ (List.mem_of_getElem? (i := 14) rfl)) (hw _ (List.mem_of_getElem? (i := 15) rfl)) (hw _ (List.mem_of_getElem? (i := 16) rfl)) (by rw [hml]; rfl) (Nat.le_of_eq rfl) (by decide) (by decide) ?_
  intro T1 X1 e1
  show own_Go p e below _ T1 (mkF m 4 #[.val (.ref a1)] [])
  refine own_retV X1 hx hret hlk (hb hby d3_4) (by decide) (by decide) ?_
  try rw [e1]
  exact ⟨rfl, rfl, rfl⟩
theorem ef_rmN (m : MethodId) (x0 : UInt64) : entryFrame m #[(.double x0)] 2 = mkF m 0 #[.val (.double x0), .second] [] := by first | (simp [entryFrame, mkF, argsToLocals, Value.category]; done) | rfl
set_option maxRecDepth 65536 in
set_option maxHeartbeats 40000000 in
theorem rmN (l : Launch) (Z : State) (a0 : Array Value) (hw : ∀ d ∈ tables_1, d.before a0 Z = true) (ws : List Jvm.Cond) (p1 : UInt64) (h0 : Heap) (hn : Jvm.Free.Fl.NoNaN64 p1) :
    own_Ct l Z (⟨"java/lang/Double", "isNaN", "(D)Z"⟩ : MethodName) jdk_117_method_6_code 2 (some .boolean) ws ({ frames := 0, cells := 0, slots := 0, locals := 0 } : Room) #[(.double p1)] h0 (fun v h L => v = some (.int 0) ∧ L = [] ∧ h = h0) := by
  refine own_of pn_java_lang_Double ?_
  intro p e s m below meth c s₁ hx hby hml hown hnm hret hlk hZ X0 e0
  rw [ef_rmN]
  refine own_by (T' := s₁) (f' := (mkF m 1 #[.val (.double p1), .second] [(.double p1)])) (fun t k => XS.dloadN X0.here hx rfl (hb hby d5_0) rfl k) ?_
  refine own_by (T' := s₁) (f' := (mkF m 2 #[.val (.double p1), .second] [(.double p1), (.double p1)])) (fun t k => XS.dloadN X0.here hx rfl (hb hby d5_1) rfl k) ?_
  refine own_by (T' := s₁) (f' := (mkF m 3 #[.val (.double p1), .second] [(.int (cmpValue (FP.dcmp p1 p1) .l))])) (fun t k => XS.dcmpS X0.here hx rfl (hb hby d5_2) rfl rfl k) ?_
  have hc3_1 : (cmpValue (FP.dcmp p1 p1) .l) = (0 : Int32) := dcmpV_self hn _
  refine own_by (T' := s₁) (f' := (mkF m 10 #[.val (.double p1), .second] [])) (fun t k => XS.ifYes X0.here hx rfl (pc0 := 3) (pc' := 10) rfl (hb hby d5_3) rfl ((if0 _ _).trans (teq hc3_1).1) (by decide) (by decide) k) ?_
  refine own_by (T' := s₁) (f' := (mkF m 11 #[.val (.double p1), .second] [(.int (0 : Int32))])) (fun t k => XS.iconst X0.here hx rfl (hb hby d5_10) k) ?_
  refine own_retZ X0 hx hret hlk (hb hby d5_11) (Or.inl rfl) (by decide) (by decide) ?_
  try rw [e0]
  exact ⟨rfl, rfl, rfl⟩
theorem ef_rmI (m : MethodId) (x0 : Addr) (x1 : UInt64) : entryFrame m #[(.ref x0), (.double x1)] 3 = mkF m 0 #[.val (.ref x0), .val (.double x1), .second] [] := by first | (simp [entryFrame, mkF, argsToLocals, Value.category]; done) | rfl
set_option maxRecDepth 65536 in
set_option maxHeartbeats 40000000 in
theorem rmI (l : Launch) (Z : State) (a0 : Array Value) (hw : ∀ d ∈ tables_1, d.before a0 Z = true) (ws : List Jvm.Cond) (a1 : Addr) (p1 : UInt64) (u1 : Value) (h0 : Heap) (hn : Jvm.Free.Fl.NoNaN64 p1) (n0 : Nat) (Z0 : n0 ≤ h0.size) (g1 : n0 ≤ a1) (E1 : Exa Z h0 a1 "com/example/tollgraph/tollgraph/traversal/Threshold") (F1 : Fld Z h0 a1 "com/example/tollgraph/tollgraph/traversal/Threshold" "at" "D" u1) :
    own_Ct l Z (⟨"com/example/tollgraph/tollgraph/traversal/Threshold", "<init>", "(D)V"⟩ : MethodName) prog_51_method_1_code 3 none ws ({ frames := 2, cells := 0, slots := 0, locals := 40 } : Room) #[(.ref a1), (.double p1)] h0 (fun v h L => v = none ∧ Fr n0 L ∧ Keep h0 h [a1] ∧ Exa Z h a1 "com/example/tollgraph/tollgraph/traversal/Threshold" ∧ Fld Z h a1 "com/example/tollgraph/tollgraph/traversal/Threshold" "at" "D" (.double p1)) := by
  refine own_of pn_com_example_tollgraph_tollgraph_traversal_Threshold ?_
  intro p e s m below meth c s₁ hx hby hml hown hnm hret hlk hZ X0 e0
  have N0 := Fr.nil n0
  have K0 := Keep.refl h0 [a1]
  rw [ef_rmI]
  refine own_by (T' := s₁) (f' := (mkF m 1 #[.val (.ref a1), .val (.double p1), .second] [(.ref a1)])) (fun t k => XS.aloadN X0.here hx rfl (hb hby d2_0) rfl rfl k) ?_
  refine own_callN X0 hx hZ hown e0 (hb hby d2_1) [] [] 0 (rmR l Z a0 hw [] a1 h0) (hw _ (List.mem_of_getElem? (i := 9) rfl)) (hw _ (List.mem_of_getElem? (i := 10) rfl)) (hw _ (List.mem_of_getElem? (i := 12) rfl)) (hw _ (List.mem_of_getElem? (i := 13) rfl)) rfl (by decide) pd___V (by rw [hml]; rfl) rfl rfl (Nat.le_of_eq rfl) (by decide) (by decide) (by decide) (by decide) ?_
  rintro T11 _ L11 X11 ⟨rfl, rfl, e11⟩
  show own_Go p e below _ T11 (mkF m 4 #[.val (.ref a1), .val (.double p1), .second] [])
  rw [List.append_nil] at X11
  refine own_by (T' := T11) (f' := (mkF m 5 #[.val (.ref a1), .val (.double p1), .second] [(.double p1)])) (fun t k => XS.dloadN X11.here hx rfl (hb hby d2_4) rfl k) ?_
  refine own_callS X11 hx hZ hown e11 (hb hby d2_5) [(.double p1)] [] 0 (rmN l Z a0 hw [] p1 h0 hn) (hw _ (List.mem_of_getElem? (i := 17) rfl)) (hw _ (List.mem_of_getElem? (i := 18) rfl)) (hw _ (List.mem_of_getElem? (i := 19) rfl)) (hw _ (List.mem_of_getElem? (i := 20) rfl)) (by decide) pd__D_Z (by rw [hml]; rfl) rfl rfl (Nat.le_of_eq rfl) (by decide) (by decide) (by decide) (by decide) ?_
  rintro T12 _ L12 X12 ⟨rfl, rfl, e12⟩
  show own_Go p e below _ T12 (mkF m 8 #[.val (.ref a1), .val (.double p1), .second] [(.int (0 : Int32))])
  rw [List.append_nil] at X12
  refine own_by (T' := T12) (f' := (mkF m 25 #[.val (.ref a1), .val (.double p1), .second] [])) (fun t k => XS.ifYes X12.here hx rfl (pc0 := 8) (pc' := 25) rfl (hb hby d2_8) rfl ((if0 _ _).trans (teq (by decide)).1) (by decide) (by decide) k) ?_
  refine own_by (T' := T12) (f' := (mkF m 26 #[.val (.ref a1), .val (.double p1), .second] [(.ref a1)])) (fun t k => XS.aloadN X12.here hx rfl (hb hby d2_25) rfl rfl k) ?_
  refine own_by (T' := T12) (f' := (mkF m 27 #[.val (.ref a1), .val (.double p1), .second] [(.double p1), (.ref a1)])) (fun t k => XS.dloadN X12.here hx rfl (hb hby d2_26) rfl k) ?_
  refine own_putF (host := "") X12 hx hZ hown e12 (hb hby d2_27) (Or.inl (hw _ (List.mem_of_getElem? (i := 21) rfl))) Via.refl F1 E1 (Or.inr ⟨(hw _ (List.mem_of_getElem? (i := 22) rfl)), rfl, hnm⟩) (hw _ (List.mem_of_getElem? (i := 5) rfl)) (ty := .double) (by decide) rfl rfl ?_
  intro T13 h13 X13 e13 W13
  show own_Go p e below _ T13 (mkF m 30 #[.val (.ref a1), .val (.double p1), .second] [])
  have F13 := F1.same W13
  have sz14 : n0 ≤ h13.size := by rw [W13.size]; exact Z0
  have K15 := K0.wr W13 (Or.inl (List.mem_of_getElem? (i := 0) rfl))
  have N13 := Fr.snoc X13 N0 g1
  have f16 := (E1.wr W13)
  refine own_retV X13 hx hret hlk (hb hby d2_30) (by decide) (by decide) ?_
  try rw [e13]
  exact ⟨rfl, N13, K15, f16, F13⟩
theorem ef_rmB (m : MethodId) (x0 : UInt64) : entryFrame m #[(.double x0)] 2 = mkF m 0 #[.val (.double x0), .second] [] := by first | (simp [entryFrame, mkF, argsToLocals, Value.category]; done) | rfl
set_option maxRecDepth 65536 in
set_option maxHeartbeats 40000000 in
theorem rmB (l : Launch) (Z : State) (a0 : Array Value) (hw : ∀ d ∈ tables_1, d.before a0 Z = true) (ws : List Jvm.Cond) (p1 : UInt64) (h0 : Heap) (hn : Jvm.Free.Fl.NoNaN64 p1) (n0 : Nat) (Z0 : n0 ≤ h0.size) :
    own_Ct l Z (⟨"com/example/tollgraph/tollgraph/traversal/Threshold", "bid", "(D)Lcom/example/tollgraph/tollgraph/traversal/Threshold;"⟩ : MethodName) prog_51_method_2_code 2 (some (.object "com/example/tollgraph/tollgraph/traversal/Threshold")) ws ({ frames := 3, cells := 1, slots := 1, locals := 60 } : Room) #[(.double p1)] h0 (fun v h L => ∃ b : Addr, v = some (.ref b) ∧ Fr n0 L ∧ Keep h0 h [] ∧ Exa Z h b "com/example/tollgraph/tollgraph/traversal/Threshold" ∧ Fld Z h b "com/example/tollgraph/tollgraph/traversal/Threshold" "at" "D" (.double p1)) := by
  refine own_of pn_com_example_tollgraph_tollgraph_traversal_Threshold ?_
  intro p e s m below meth c s₁ hx hby hml hown hnm hret hlk hZ X0 e0
  have N0 := Fr.nil n0
  have K0 := Keep.refl h0 []
  rw [ef_rmB]
  refine own_new X0 hx hZ hown e0 (hb hby d1_0) (hw _ (List.mem_of_getElem? (i := 4) rfl)) (hw _ (List.mem_of_getElem? (i := 5) rfl)) (hw _ (List.mem_of_getElem? (i := 2) rfl)) (by decide) (by decide) ?_
  intro T11 h11 b11 X11 e11 g11 E11 A11 D11
  have gn11 : n0 ≤ b11 := by rw [g11]; exact Z0
  have gh11 : h0.size ≤ b11 := by rw [g11]; exact K0.1
  show own_Go p e below _ T11 (mkF m 3 #[.val (.double p1), .second] [(.ref b11)])
  have F11_at : Fld Z h11 b11 "com/example/tollgraph/tollgraph/traversal/Threshold" "at" "D" (.double 0) := D11 (Or.inr (hw _ (List.mem_of_getElem? (i := 22) rfl))) (ty := .double) (by decide)
  have sz12 : n0 ≤ h11.size := Nat.le_trans Z0 E11.1
  have K13 := K0.ext E11
  refine own_by (T' := T11) (f' := (mkF m 4 #[.val (.double p1), .second] [(.ref b11), (.ref b11)])) (fun t k => XS.dup X11.here hx rfl (hb hby d1_3) rfl rfl k) ?_
  refine own_by (T' := T11) (f' := (mkF m 5 #[.val (.double p1), .second] [(.double p1), (.ref b11), (.ref b11)])) (fun t k => XS.dloadN X11.here hx rfl (hb hby d1_4) rfl k) ?_
  have q14 : ∀ x ∈ [b11], ∃ c : Cell, h11[x]? = some c ∧ c.vm.isStatics = false := (allS (own_ns A11) all0)
  refine own_callN X11 hx hZ hown e11 (hb hby d1_5) [(.double p1)] [(.ref b11)] 1 (rmI l Z a0 hw [] b11 p1 _ h11 hn n0 sz12 gn11 A11 F11_at) (hw _ (List.mem_of_getElem? (i := 6) rfl)) (hw _ (List.mem_of_getElem? (i := 7) rfl)) (hw _ (List.mem_of_getElem? (i := 2) rfl)) (hw _ (List.mem_of_getElem? (i := 8) rfl)) rfl (by decide) pd__D_V (by rw [hml]; rfl) rfl rfl (Nat.le_of_eq rfl) (by decide) (by decide) (by decide) (by decide) ?_
  rintro T15 _ L15 X15 ⟨rfl, N15q, K15, A15, F15⟩
  show own_Go p e below _ T15 (mkF m 8 #[.val (.double p1), .second] [(.ref b11)])
  have N15 := Fr.app N0 N15q
  have sz16 : n0 ≤ T15.heap.size := Nat.le_trans sz12 K15.1
  have K17 := K13.trans K15 (allS (Or.inr gh11) all0)
  refine own_retA X15 hx hret hlk (hb hby d1_8) rfl rfl rfl (by decide) (by decide) ?_
  exact ⟨b11, rfl, N15, K17, A15, F15⟩
theorem ef_rmM (m : MethodId) (x0 : Addr) (x1 : Addr) : entryFrame m #[(.ref x0), (.ref x1)] 2 = mkF m 0 #[.val (.ref x0), .val (.ref x1)] [] := by first | (simp [entryFrame, mkF, argsToLocals, Value.category]; done) | rfl
set_option maxRecDepth 65536 in
set_option maxHeartbeats 40000000 in
theorem rmM (l : Launch) (Z : State) (a0 : Array Value) (hw : ∀ d ∈ tables_1, d.before a0 Z = true) (ws : List Jvm.Cond) (a1 a2 : Addr) (p1 p2 : UInt64) (h0 : Heap) (F1 : Fld Z h0 a1 "com/example/tollgraph/tollgraph/traversal/Threshold" "at" "D" (.double p1)) (F2 : Fld Z h0 a2 "com/example/tollgraph/tollgraph/traversal/Threshold" "at" "D" (.double p2)) :
    own_Ct l Z (⟨"com/example/tollgraph/tollgraph/traversal/Threshold", "min", "(Lcom/example/tollgraph/tollgraph/traversal/Threshold;Lcom/example/tollgraph/tollgraph/traversal/Threshold;)Lcom/example/tollgraph/tollgraph/traversal/Threshold;"⟩ : MethodName) prog_51_method_4_code 2 (some (.object "com/example/tollgraph/tollgraph/traversal/Threshold")) ws ({ frames := 0, cells := 0, slots := 0, locals := 0 } : Room) #[(.ref a1), (.ref a2)] h0 (fun v h L => v = some (.ref (if (cmpValue (FP.dcmp p2 p1) .g) < (0 : Int32) then a2 else a1)) ∧ L = [] ∧ h = h0) := by
  refine own_of pn_com_example_tollgraph_tollgraph_traversal_Threshold ?_
  intro p e s m below meth c s₁ hx hby hml hown hnm hret hlk hZ X0 e0
  rw [ef_rmM]
  refine own_by (T' := s₁) (f' := (mkF m 1 #[.val (.ref a1), .val (.ref a2)] [(.ref a2)])) (fun t k => XS.aloadN X0.here hx rfl (hb hby d6_0) rfl rfl k) ?_
  refine own_getF (host := "") X0 hx hZ hown e0 (hb hby d6_1) (Or.inl (hw _ (List.mem_of_getElem? (i := 21) rfl))) Via.refl F2 ?_
  intro T11 X11 e11
  show own_Go p e below _ T11 (mkF m 4 #[.val (.ref a1), .val (.ref a2)] [(.double p2)])
  refine own_by (T' := T11) (f' := (mkF m 5 #[.val (.ref a1), .val (.ref a2)] [(.ref a1), (.double p2)])) (fun t k => XS.aloadN X11.here hx rfl (hb hby d6_4) rfl rfl k) ?_
  refine own_getF (host := "") X11 hx hZ hown e11 (hb hby d6_5) (Or.inl (hw _ (List.mem_of_getElem? (i := 21) rfl))) Via.refl F1 ?_
  intro T12 X12 e12
  show own_Go p e below _ T12 (mkF m 8 #[.val (.ref a1), .val (.ref a2)] [(.double p1), (.double p2)])
  refine own_by (T' := T12) (f' := (mkF m 9 #[.val (.ref a1), .val (.ref a2)] [(.int (cmpValue (FP.dcmp p2 p1) .g))])) (fun t k => XS.dcmpS X12.here hx rfl (hb hby d6_8) rfl rfl k) ?_
  by_cases hc9_13 : (cmpValue (FP.dcmp p2 p1) .g) < (0 : Int32)
  · have _ := X12
    refine own_by (T' := T12) (f' := (mkF m 12 #[.val (.ref a1), .val (.ref a2)] [])) (fun t k => XS.ifNo X12.here hx rfl (hb hby d6_9) rfl ((if0 _ _).trans (tlt hc9_13).2.1) k) ?_
    refine own_by (T' := T12) (f' := (mkF m 13 #[.val (.ref a1), .val (.ref a2)] [(.ref a2)])) (fun t k => XS.aloadN X12.here hx rfl (hb hby d6_12) rfl rfl k) ?_
    refine own_by (T' := T12) (f' := (mkF m 17 #[.val (.ref a1), .val (.ref a2)] [(.ref a2)])) (fun t k => XS.goto X12.here hx rfl (pc0 := 13) (pc' := 17) rfl (hb hby d6_13) (by decide) (by decide) k) ?_
    refine own_retA X12 hx hret hlk (hb hby d6_17) rfl rfl rfl (by decide) (by decide) ?_
    try rw [e12]
    exact ⟨by rw [if_pos hc9_13], rfl, rfl⟩
  · have _ := X12
    refine own_by (T' := T12) (f' := (mkF m 16 #[.val (.ref a1), .val (.ref a2)] [])) (fun t k => XS.ifYes X12.here hx rfl (pc0 := 9) (pc' := 16) rfl (hb hby d6_9) rfl ((if0 _ _).trans (flt hc9_13).2.1) (by decide) (by decide) k) ?_
    refine own_by (T' := T12) (f' := (mkF m 17 #[.val (.ref a1), .val (.ref a2)] [(.ref a1)])) (fun t k => XS.aloadN X12.here hx rfl (hb hby d6_16) rfl rfl k) ?_
    refine own_retA X12 hx hret hlk (hb hby d6_17) rfl rfl rfl (by decide) (by decide) ?_
    try rw [e12]
    exact ⟨by rw [if_neg hc9_13], rfl, rfl⟩
theorem own_b53 (x : Int32) : B53 x.toInt64 := by
  have h := c_i2l x
  have r := rng32 x
  exact ⟨by omega, by omega⟩
theorem own_fin (x : Int32) : Jvm.Free.Fl.Fin64 (FP.i2d x) := by rw [i2d_w]; exact Jvm.Free.Fl.l2d_fin _
theorem own_nn {x : Int32} : Jvm.Free.Fl.NoNaN64 (FP.i2d x) := (own_fin x).noNaN
theorem own_c1 : ¬ ((cmpValue (FP.dcmp 9218868437227405312 9218868437227405312) .g) < (0 : Int32)) := by decide +kernel
theorem own_c2 (a : Int32) : ¬ ((cmpValue (FP.dcmp 9218868437227405312 (FP.i2d a)) .g) < (0 : Int32)) := by rw [dcmp_pinf' (own_fin a)]; decide
theorem own_c3 (a : Int32) : (cmpValue (FP.dcmp (FP.i2d a) 9218868437227405312) .g) < (0 : Int32) := by rw [dcmp_pinf (own_fin a)]; decide
theorem own_c4 (b a : Int32) : ((cmpValue (FP.dcmp (FP.i2d b) (FP.i2d a)) .g) < (0 : Int32)) ↔ b < a := by
  rw [i2d_w, i2d_w, dcmpV_w (own_b53 b) (own_b53 a), lw_lt, Int64.lt_iff_toInt_lt, c_i2l, c_i2l, Int32.lt_iff_toInt_lt]
theorem ef_rm0 (m : MethodId) (x0 : Int32) (x1 : Int32) (x2 : Int32) : entryFrame m #[(.int x0), (.int x1), (.int x2)] maxLocals = mkF m 0 #[.val (.int x0), .val (.int x1), .val (.int x2), .unset, .unset, .unset, .unset, .unset, .unset, .unset, .unset, .unset] [] := by first | (simp [entryFrame, mkF, argsToLocals, Value.category, maxLocals]; done) | rfl
set_option maxRecDepth 65536 in
set_option maxHeartbeats 40000000 in
theorem rm0 (l : Launch) (Z : State) (a0 : Array Value) (hw : ∀ d ∈ tables_1, d.before a0 Z = true) (ws : List Jvm.Cond) (i0 i1 i2 : Int32) (u0 : Addr) (h0 : Heap) (n0 : Nat) (Z0 : n0 ≤ h0.size) (S1 : Sta Z h0 "com/example/tollgraph/tollgraph/traversal/Threshold" "UNBOUNDED" "Lcom/example/tollgraph/tollgraph/traversal/Threshold;" (.ref u0)) (E1 : Exa Z h0 u0 "com/example/tollgraph/tollgraph/traversal/Threshold") (F1 : Fld Z h0 u0 "com/example/tollgraph/tollgraph/traversal/Threshold" "at" "D" (.double 9218868437227405312)) :
    own_Ct l Z x code maxLocals ret ws room_1 #[(.int i0), (.int i1), (.int i2)] h0 (fun v h L => v = some (.int 1) ∧ Fr n0 L) := by
  refine own_of pn_com_example_tollgraph_tollgraph_traversal_ThresholdMinPinLaw ?_
  intro p e s m below meth c s₁ hx hby hml hown hnm hret hlk hZ X0 e0
  have N0 := Fr.nil n0
  rw [ef_rm0]
  refine own_by (T' := s₁) (f' := (mkF m 1 #[.val (.int i0), .val (.int i1), .val (.int i2), .unset, .unset, .unset, .unset, .unset, .unset, .unset, .unset, .unset] [(.int i2)])) (fun t k => XS.iloadN X0.here hx rfl (hb hby at_0) rfl k) ?_
  refine own_by (T' := s₁) (f' := (mkF m 2 #[.val (.int i0), .val (.int i1), .val (.int i2), .unset, .unset, .unset, .unset, .unset, .unset, .unset, .unset, .unset] [(.int (1 : Int32)), (.int i2)])) (fun t k => XS.iconst X0.here hx rfl (hb hby at_1) k) ?_
  refine own_by (T' := s₁) (f' := (mkF m 3 #[.val (.int i0), .val (.int i1), .val (.int i2), .unset, .unset, .unset, .unset, .unset, .unset, .unset, .unset, .unset] [(.int (i2 &&& (1 : Int32)))])) (fun t k => XS.iand X0.here hx rfl (hb hby at_2) rfl k) ?_
  by_cases hc3_11 : (i2 &&& (1 : Int32)) = (0 : Int32)
  · have _ := X0
    refine own_by (T' := s₁) (f' := (mkF m 10 #[.val (.int i0), .val (.int i1), .val (.int i2), .unset, .unset, .unset, .unset, .unset, .unset, .unset, .unset, .unset] [])) (fun t k => XS.ifYes X0.here hx rfl (pc0 := 3) (pc' := 10) rfl (hb hby at_3) rfl ((if0 _ _).trans (teq hc3_11).1) (by decide) (by decide) k) ?_
    refine own_by (T' := s₁) (f' := (mkF m 11 #[.val (.int i0), .val (.int i1), .val (.int i2), .unset, .unset, .unset, .unset, .unset, .unset, .unset, .unset, .unset] [(.int (0 : Int32))])) (fun t k => XS.iconst X0.here hx rfl (hb hby at_10) k) ?_
    refine own_by (T' := s₁) (f' := (mkF m 12 #[.val (.int i0), .val (.int i1), .val (.int i2), .val (.int (0 : Int32)), .unset, .unset, .unset, .unset, .unset, .unset, .unset, .unset] [])) (fun t k => XS.istoreN X0.here hx rfl (hb hby at_11) rfl (l' := #[.val (.int i0), .val (.int i1), .val (.int i2), .val (.int (0 : Int32)), .unset, .unset, .unset, .unset, .unset, .unset, .unset, .unset]) rfl k) ?_
    refine own_by (T' := s₁) (f' := (mkF m 13 #[.val (.int i0), .val (.int i1), .val (.int i2), .val (.int (0 : Int32)), .unset, .unset, .unset, .unset, .unset, .unset, .unset, .unset] [(.int i2)])) (fun t k => XS.iloadN X0.here hx rfl (hb hby at_12) rfl k) ?_
    refine own_by (T' := s₁) (f' := (mkF m 14 #[.val (.int i0), .val (.int i1), .val (.int i2), .val (.int (0 : Int32)), .unset, .unset, .unset, .unset, .unset, .unset, .unset, .unset] [(.int (2 : Int32)), (.int i2)])) (fun t k => XS.iconst X0.here hx rfl (hb hby at_13) k) ?_
    refine own_by (T' := s₁) (f' := (mkF m 15 #[.val (.int i0), .val (.int i1), .val (.int i2), .val (.int (0 : Int32)), .unset, .unset, .unset, .unset, .unset, .unset, .unset, .unset] [(.int (i2 &&& (2 : Int32)))])) (fun t k => XS.iand X0.here hx rfl (hb hby at_14) rfl k) ?_
    by_cases hc15_12 : (i2 &&& (2 : Int32)) = (0 : Int32)
    · have _ := X0
      refine own_by (T' := s₁) (f' := (mkF m 22 #[.val (.int i0), .val (.int i1), .val (.int i2), .val (.int (0 : Int32)), .unset, .unset, .unset, .unset, .unset, .unset, .unset, .unset] [])) (fun t k => XS.ifYes X0.here hx rfl (pc0 := 15) (pc' := 22) rfl (hb hby at_15) rfl ((if0 _ _).trans (teq hc15_12).1) (by decide) (by decide) k) ?_
      refine own_by (T' := s₁) (f' := (mkF m 23 #[.val (.int i0), .val (.int i1), .val (.int i2), .val (.int (0 : Int32)), .unset, .unset, .unset, .unset, .unset, .unset, .unset, .unset] [(.int (0 : Int32))])) (fun t k => XS.iconst X0.here hx rfl (hb hby at_22) k) ?_
      refine own_by (T' := s₁) (f' := (mkF m 25 #[.val (.int i0), .val (.int i1), .val (.int i2), .val (.int (0 : Int32)), .val (.int (0 : Int32)), .unset, .unset, .unset, .unset, .unset, .unset, .unset] [])) (fun t k => XS.istore X0.here hx rfl (hb hby at_23) rfl (l' := #[.val (.int i0), .val (.int i1), .val (.int i2), .val (.int (0 : Int32)), .val (.int (0 : Int32)), .unset, .unset, .unset, .unset, .unset, .unset, .unset]) rfl k) ?_
      refine own_by (T' := s₁) (f' := (mkF m 26 #[.val (.int i0), .val (.int i1), .val (.int i2), .val (.int (0 : Int32)), .val (.int (0 : Int32)), .unset, .unset, .unset, .unset, .unset, .unset, .unset] [(.int i2)])) (fun t k => XS.iloadN X0.here hx rfl (hb hby at_25) rfl k) ?_
      refine own_by (T' := s₁) (f' := (mkF m 27 #[.val (.int i0), .val (.int i1), .val (.int i2), .val (.int (0 : Int32)), .val (.int (0 : Int32)), .unset, .unset, .unset, .unset, .unset, .unset, .unset] [(.int (4 : Int32)), (.int i2)])) (fun t k => XS.iconst X0.here hx rfl (hb hby at_26) k) ?_
      refine own_by (T' := s₁) (f' := (mkF m 28 #[.val (.int i0), .val (.int i1), .val (.int i2), .val (.int (0 : Int32)), .val (.int (0 : Int32)), .unset, .unset, .unset, .unset, .unset, .unset, .unset] [(.int (i2 &&& (4 : Int32)))])) (fun t k => XS.iand X0.here hx rfl (hb hby at_27) rfl k) ?_
      by_cases hc28_13 : (i2 &&& (4 : Int32)) = (0 : Int32)
      · have _ := X0
        refine own_by (T' := s₁) (f' := (mkF m 35 #[.val (.int i0), .val (.int i1), .val (.int i2), .val (.int (0 : Int32)), .val (.int (0 : Int32)), .unset, .unset, .unset, .unset, .unset, .unset, .unset] [])) (fun t k => XS.ifYes X0.here hx rfl (pc0 := 28) (pc' := 35) rfl (hb hby at_28) rfl ((if0 _ _).trans (teq hc28_13).1) (by decide) (by decide) k) ?_
        refine own_by (T' := s₁) (f' := (mkF m 36 #[.val (.int i0), .val (.int i1), .val (.int i2), .val (.int (0 : Int32)), .val (.int (0 : Int32)), .unset, .unset, .unset, .unset, .unset, .unset, .unset] [(.int (0 : Int32))])) (fun t k => XS.iconst X0.here hx rfl (hb hby at_35) k) ?_
        refine own_by (T' := s₁) (f' := (mkF m 38 #[.val (.int i0), .val (.int i1), .val (.int i2), .val (.int (0 : Int32)), .val (.int (0 : Int32)), .val (.int (0 : Int32)), .unset, .unset, .unset, .unset, .unset, .unset] [])) (fun t k => XS.istore X0.here hx rfl (hb hby at_36) rfl (l' := #[.val (.int i0), .val (.int i1), .val (.int i2), .val (.int (0 : Int32)), .val (.int (0 : Int32)), .val (.int (0 : Int32)), .unset, .unset, .unset, .unset, .unset, .unset]) rfl k) ?_
        refine own_by (T' := s₁) (f' := (mkF m 40 #[.val (.int i0), .val (.int i1), .val (.int i2), .val (.int (0 : Int32)), .val (.int (0 : Int32)), .val (.int (0 : Int32)), .unset, .unset, .unset, .unset, .unset, .unset] [(.int (0 : Int32))])) (fun t k => XS.iload X0.here hx rfl (hb hby at_38) rfl k) ?_
        refine own_by (T' := s₁) (f' := (mkF m 47 #[.val (.int i0), .val (.int i1), .val (.int i2), .val (.int (0 : Int32)), .val (.int (0 : Int32)), .val (.int (0 : Int32)), .unset, .unset, .unset, .unset, .unset, .unset] [])) (fun t k => XS.ifYes X0.here hx rfl (pc0 := 40) (pc' := 47) rfl (hb hby at_40) rfl ((if0 _ _).trans (teq (by decide)).1) (by decide) (by decide) k) ?_
        refine own_by (T' := s₁) (f' := (mkF m 48 #[.val (.int i0), .val (.int i1), .val (.int i2), .val (.int (0 : Int32)), .val (.int (0 : Int32)), .val (.int (0 : Int32)), .unset, .unset, .unset, .unset, .unset, .unset] [(.int i1)])) (fun t k => XS.iloadN X0.here hx rfl (hb hby at_47) rfl k) ?_
        refine own_by (T' := s₁) (f' := (mkF m 50 #[.val (.int i0), .val (.int i1), .val (.int i2), .val (.int (0 : Int32)), .val (.int (0 : Int32)), .val (.int (0 : Int32)), .val (.int i1), .unset, .unset, .unset, .unset, .unset] [])) (fun t k => XS.istore X0.here hx rfl (hb hby at_48) rfl (l' := #[.val (.int i0), .val (.int i1), .val (.int i2), .val (.int (0 : Int32)), .val (.int (0 : Int32)), .val (.int (0 : Int32)), .val (.int i1), .unset, .unset, .unset, .unset, .unset]) rfl k) ?_
        refine own_by (T' := s₁) (f' := (mkF m 51 #[.val (.int i0), .val (.int i1), .val (.int i2), .val (.int (0 : Int32)), .val (.int (0 : Int32)), .val (.int (0 : Int32)), .val (.int i1), .unset, .unset, .unset, .unset, .unset] [(.int (0 : Int32))])) (fun t k => XS.iloadN X0.here hx rfl (hb hby at_50) rfl k) ?_
        refine own_by (T' := s₁) (f' := (mkF m 60 #[.val (.int i0), .val (.int i1), .val (.int i2), .val (.int (0 : Int32)), .val (.int (0 : Int32)), .val (.int (0 : Int32)), .val (.int i1), .unset, .unset, .unset, .unset, .unset] [])) (fun t k => XS.ifYes X0.here hx rfl (pc0 := 51) (pc' := 60) rfl (hb hby at_51) rfl ((if0 _ _).trans (teq (by decide)).1) (by decide) (by decide) k) ?_
        refine own_by (T' := s₁) (f' := (mkF m 61 #[.val (.int i0), .val (.int i1), .val (.int i2), .val (.int (0 : Int32)), .val (.int (0 : Int32)), .val (.int (0 : Int32)), .val (.int i1), .unset, .unset, .unset, .unset, .unset] [(.int i0)])) (fun t k => XS.iloadN X0.here hx rfl (hb hby at_60) rfl k) ?_
        refine own_by (T' := s₁) (f' := (mkF m 62 #[.val (.int i0), .val (.int i1), .val (.int i2), .val (.int (0 : Int32)), .val (.int (0 : Int32)), .val (.int (0 : Int32)), .val (.int i1), .unset, .unset, .unset, .unset, .unset] [(.double (FP.i2d i0))])) (fun t k => XS.i2dS X0.here hx rfl (hb hby at_61) rfl rfl k) ?_
        refine own_callS X0 hx hZ hown e0 (hb hby at_62) [(.double (FP.i2d i0))] [] 0 (rmB l Z a0 hw [] (FP.i2d i0) h0 own_nn n0 Z0) (hw _ (List.mem_of_getElem? (i := 0) rfl)) (hw _ (List.mem_of_getElem? (i := 1) rfl)) (hw _ (List.mem_of_getElem? (i := 2) rfl)) (hw _ (List.mem_of_getElem? (i := 3) rfl)) (by decide) pd__D_Lcom_example_tollgraph_tollgraph_traversal_Threshold_ (by rw [hml]; rfl) rfl rfl (Nat.le_of_eq rfl) (by decide) (by decide) (by decide) (by decide) ?_
        rintro T14 _ L14 X14 ⟨b14, rfl, N14q, K14, A14, F14⟩
        show own_Go p e below _ T14 (mkF m 65 #[.val (.int i0), .val (.int i1), .val (.int i2), .val (.int (0 : Int32)), .val (.int (0 : Int32)), .val (.int (0 : Int32)), .val (.int i1), .unset, .unset, .unset, .unset, .unset] [(.ref b14)])
        have N14 := Fr.app N0 N14q
        have sz15 : n0 ≤ T14.heap.size := Nat.le_trans Z0 K14.1
        refine own_by (T' := T14) (f' := (mkF m 67 #[.val (.int i0), .val (.int i1), .val (.int i2), .val (.int (0 : Int32)), .val (.int (0 : Int32)), .val (.int (0 : Int32)), .val (.int i1), .val (.ref b14), .unset, .unset, .unset, .unset] [])) (fun t k => XS.astore X14.here hx rfl (hb hby at_65) rfl rfl (l' := #[.val (.int i0), .val (.int i1), .val (.int i2), .val (.int (0 : Int32)), .val (.int (0 : Int32)), .val (.int (0 : Int32)), .val (.int i1), .val (.ref b14), .unset, .unset, .unset, .unset]) rfl k) ?_
        refine own_by (T' := T14) (f' := (mkF m 69 #[.val (.int i0), .val (.int i1), .val (.int i2), .val (.int (0 : Int32)), .val (.int (0 : Int32)), .val (.int (0 : Int32)), .val (.int i1), .val (.ref b14), .unset, .unset, .unset, .unset] [(.int (0 : Int32))])) (fun t k => XS.iload X14.here hx rfl (hb hby at_67) rfl k) ?_
        refine own_by (T' := T14) (f' := (mkF m 78 #[.val (.int i0), .val (.int i1), .val (.int i2), .val (.int (0 : Int32)), .val (.int (0 : Int32)), .val (.int (0 : Int32)), .val (.int i1), .val (.ref b14), .unset, .unset, .unset, .unset] [])) (fun t k => XS.ifYes X14.here hx rfl (pc0 := 69) (pc' := 78) rfl (hb hby at_69) rfl ((if0 _ _).trans (teq (by decide)).1) (by decide) (by decide) k) ?_
        refine own_by (T' := T14) (f' := (mkF m 80 #[.val (.int i0), .val (.int i1), .val (.int i2), .val (.int (0 : Int32)), .val (.int (0 : Int32)), .val (.int (0 : Int32)), .val (.int i1), .val (.ref b14), .unset, .unset, .unset, .unset] [(.int i1)])) (fun t k => XS.iload X14.here hx rfl (hb hby at_78) rfl k) ?_
        refine own_by (T' := T14) (f' := (mkF m 81 #[.val (.int i0), .val (.int i1), .val (.int i2), .val (.int (0 : Int32)), .val (.int (0 : Int32)), .val (.int (0 : Int32)), .val (.int i1), .val (.ref b14), .unset, .unset, .unset, .unset] [(.double (FP.i2d i1))])) (fun t k => XS.i2dS X14.here hx rfl (hb hby at_80) rfl rfl k) ?_
        refine own_callS X14 hx hZ hown rfl (hb hby at_81) [(.double (FP.i2d i1))] [] 0 (rmB l Z a0 hw [] (FP.i2d i1) T14.heap own_nn n0 sz15) (hw _ (List.mem_of_getElem? (i := 0) rfl)) (hw _ (List.mem_of_getElem? (i := 1) rfl)) (hw _ (List.mem_of_getElem? (i := 2) rfl)) (hw _ (List.mem_of_getElem? (i := 3) rfl)) (by decide) pd__D_Lcom_example_tollgraph_tollgraph_traversal_Threshold_ (by rw [hml]; rfl) rfl rfl (Nat.le_of_eq rfl) (by decide) (by decide) (by decide) (by decide) ?_
        rintro T16 _ L16 X16 ⟨b16, rfl, N16q, K16, A16, F16⟩
        show own_Go p e below _ T16 (mkF m 84 #[.val (.int i0), .val (.int i1), .val (.int i2), .val (.int (0 : Int32)), .val (.int (0 : Int32)), .val (.int (0 : Int32)), .val (.int i1), .val (.ref b14), .unset, .unset, .unset, .unset] [(.ref b16)])
        have N16 := Fr.app N14 N16q
        have sz17 : n0 ≤ T16.heap.size := Nat.le_trans sz15 K16.1
        refine own_by (T' := T16) (f' := (mkF m 86 #[.val (.int i0), .val (.int i1), .val (.int i2), .val (.int (0 : Int32)), .val (.int (0 : Int32)), .val (.int (0 : Int32)), .val (.int i1), .val (.ref b14), .val (.ref b16), .unset, .unset, .unset] [])) (fun t k => XS.astore X16.here hx rfl (hb hby at_84) rfl rfl (l' := #[.val (.int i0), .val (.int i1), .val (.int i2), .val (.int (0 : Int32)), .val (.int (0 : Int32)), .val (.int (0 : Int32)), .val (.int i1), .val (.ref b14), .val (.ref b16), .unset, .unset, .unset]) rfl k) ?_
        refine own_by (T' := T16) (f' := (mkF m 88 #[.val (.int i0), .val (.int i1), .val (.int i2), .val (.int (0 : Int32)), .val (.int (0 : Int32)), .val (.int (0 : Int32)), .val (.int i1), .val (.ref b14), .val (.ref b16), .unset, .unset, .unset] [(.int (0 : Int32))])) (fun t k => XS.iload X16.here hx rfl (hb hby at_86) rfl k) ?_
        refine own_by (T' := T16) (f' := (mkF m 97 #[.val (.int i0), .val (.int i1), .val (.int i2), .val (.int (0 : Int32)), .val (.int (0 : Int32)), .val (.int (0 : Int32)), .val (.int i1), .val (.ref b14), .val (.ref b16), .unset, .unset, .unset] [])) (fun t k => XS.ifYes X16.here hx rfl (pc0 := 88) (pc' := 97) rfl (hb hby at_88) rfl ((if0 _ _).trans (teq (by decide)).1) (by decide) (by decide) k) ?_
        refine own_by (T' := T16) (f' := (mkF m 98 #[.val (.int i0), .val (.int i1), .val (.int i2), .val (.int (0 : Int32)), .val (.int (0 : Int32)), .val (.int (0 : Int32)), .val (.int i1), .val (.ref b14), .val (.ref b16), .unset, .unset, .unset] [(.int (0 : Int32))])) (fun t k => XS.iloadN X16.here hx rfl (hb hby at_97) rfl k) ?_
        refine own_by (T' := T16) (f' := (mkF m 107 #[.val (.int i0), .val (.int i1), .val (.int i2), .val (.int (0 : Int32)), .val (.int (0 : Int32)), .val (.int (0 : Int32)), .val (.int i1), .val (.ref b14), .val (.ref b16), .unset, .unset, .unset] [])) (fun t k => XS.ifYes X16.here hx rfl (pc0 := 98) (pc' := 107) rfl (hb hby at_98) rfl ((if0 _ _).trans (teq (by decide)).1) (by decide) (by decide) k) ?_
        refine own_by (T' := T16) (f' := (mkF m 109 #[.val (.int i0), .val (.int i1), .val (.int i2), .val (.int (0 : Int32)), .val (.int (0 : Int32)), .val (.int (0 : Int32)), .val (.int i1), .val (.ref b14), .val (.ref b16), .unset, .unset, .unset] [(.int i1)])) (fun t k => XS.iload X16.here hx rfl (hb hby at_107) rfl k) ?_
        refine own_by (T' := T16) (f' := (mkF m 110 #[.val (.int i0), .val (.int i1), .val (.int i2), .val (.int (0 : Int32)), .val (.int (0 : Int32)), .val (.int (0 : Int32)), .val (.int i1), .val (.ref b14), .val (.ref b16), .unset, .unset, .unset] [(.int i0), (.int i1)])) (fun t k => XS.iloadN X16.here hx rfl (hb hby at_109) rfl k) ?_
        by_cases hc110_18 : i1 < i0
        · have _ := X16
          refine own_by (T' := T16) (f' := (mkF m 113 #[.val (.int i0), .val (.int i1), .val (.int i2), .val (.int (0 : Int32)), .val (.int (0 : Int32)), .val (.int (0 : Int32)), .val (.int i1), .val (.ref b14), .val (.ref b16), .unset, .unset, .unset] [])) (fun t k => XS.icmpNo X16.here hx rfl (hb hby at_110) rfl (tlt hc110_18).2.1 k) ?_
          refine own_by (T' := T16) (f' := (mkF m 114 #[.val (.int i0), .val (.int i1), .val (.int i2), .val (.int (0 : Int32)), .val (.int (0 : Int32)), .val (.int (0 : Int32)), .val (.int i1), .val (.ref b14), .val (.ref b16), .unset, .unset, .unset] [(.int (1 : Int32))])) (fun t k => XS.iconst X16.here hx rfl (hb hby at_113) k) ?_
          refine own_by (T' := T16) (f' := (mkF m 118 #[.val (.int i0), .val (.int i1), .val (.int i2), .val (.int (0 : Int32)), .val (.int (0 : Int32)), .val (.int (0 : Int32)), .val (.int i1), .val (.ref b14), .val (.ref b16), .unset, .unset, .unset] [(.int (1 : Int32))])) (fun t k => XS.goto X16.here hx rfl (pc0 := 114) (pc' := 118) rfl (hb hby at_114) (by decide) (by decide) k) ?_
          refine own_by (T' := T16) (f' := (mkF m 120 #[.val (.int i0), .val (.int i1), .val (.int i2), .val (.int (0 : Int32)), .val (.int (0 : Int32)), .val (.int (0 : Int32)), .val (.int i1), .val (.ref b14), .val (.ref b16), .val (.int (1 : Int32)), .unset, .unset] [])) (fun t k => XS.istore X16.here hx rfl (hb hby at_118) rfl (l' := #[.val (.int i0), .val (.int i1), .val (.int i2), .val (.int (0 : Int32)), .val (.int (0 : Int32)), .val (.int (0 : Int32)), .val (.int i1), .val (.ref b14), .val (.ref b16), .val (.int (1 : Int32)), .unset, .unset]) rfl k) ?_
          refine own_by (T' := T16) (f' := (mkF m 122 #[.val (.int i0), .val (.int i1), .val (.int i2), .val (.int (0 : Int32)), .val (.int (0 : Int32)), .val (.int (0 : Int32)), .val (.int i1), .val (.ref b14), .val (.ref b16), .val (.int (1 : Int32)), .unset, .unset] [(.int (1 : Int32))])) (fun t k => XS.iload X16.here hx rfl (hb hby at_120) rfl k) ?_
          refine own_by (T' := T16) (f' := (mkF m 125 #[.val (.int i0), .val (.int i1), .val (.int i2), .val (.int (0 : Int32)), .val (.int (0 : Int32)), .val (.int (0 : Int32)), .val (.int i1), .val (.ref b14), .val (.ref b16), .val (.int (1 : Int32)), .unset, .unset] [])) (fun t k => XS.ifNo X16.here hx rfl (hb hby at_122) rfl ((if0 _ _).trans (feq (by decide)).1) k) ?_
          refine own_by (T' := T16) (f' := (mkF m 127 #[.val (.int i0), .val (.int i1), .val (.int i2), .val (.int (0 : Int32)), .val (.int (0 : Int32)), .val (.int (0 : Int32)), .val (.int i1), .val (.ref b14), .val (.ref b16), .val (.int (1 : Int32)), .unset, .unset] [(.ref b16)])) (fun t k => XS.aload X16.here hx rfl (hb hby at_125) rfl rfl k) ?_
          refine own_by (T' := T16) (f' := (mkF m 132 #[.val (.int i0), .val (.int i1), .val (.int i2), .val (.int (0 : Int32)), .val (.int (0 : Int32)), .val (.int (0 : Int32)), .val (.int i1), .val (.ref b14), .val (.ref b16), .val (.int (1 : Int32)), .unset, .unset] [(.ref b16)])) (fun t k => XS.goto X16.here hx rfl (pc0 := 127) (pc' := 132) rfl (hb hby at_127) (by decide) (by decide) k) ?_
          refine own_by (T' := T16) (f' := (mkF m 134 #[.val (.int i0), .val (.int i1), .val (.int i2), .val (.int (0 : Int32)), .val (.int (0 : Int32)), .val (.int (0 : Int32)), .val (.int i1), .val (.ref b14), .val (.ref b16), .val (.int (1 : Int32)), .val (.ref b16), .unset] [])) (fun t k => XS.astore X16.here hx rfl (hb hby at_132) rfl rfl (l' := #[.val (.int i0), .val (.int i1), .val (.int i2), .val (.int (0 : Int32)), .val (.int (0 : Int32)), .val (.int (0 : Int32)), .val (.int i1), .val (.ref b14), .val (.ref b16), .val (.int (1 : Int32)), .val (.ref b16), .unset]) rfl k) ?_
          refine own_by (T' := T16) (f' := (mkF m 136 #[.val (.int i0), .val (.int i1), .val (.int i2), .val (.int (0 : Int32)), .val (.int (0 : Int32)), .val (.int (0 : Int32)), .val (.int i1), .val (.ref b14), .val (.ref b16), .val (.int (1 : Int32)), .val (.ref b16), .unset] [(.ref b14)])) (fun t k => XS.aload X16.here hx rfl (hb hby at_134) rfl rfl k) ?_
          refine own_by (T' := T16) (f' := (mkF m 138 #[.val (.int i0), .val (.int i1), .val (.int i2), .val (.int (0 : Int32)), .val (.int (0 : Int32)), .val (.int (0 : Int32)), .val (.int i1), .val (.ref b14), .val (.ref b16), .val (.int (1 : Int32)), .val (.ref b16), .unset] [(.ref b16), (.ref b14)])) (fun t k => XS.aload X16.here hx rfl (hb hby at_136) rfl rfl k) ?_
          have f19 := (F14.keep K16 nin0)
          refine own_callS X16 hx hZ hown rfl (hb hby at_138) [(.ref b14), (.ref b16)] [] 0 (rmM l Z a0 hw [] b14 b16 _ _ T16.heap f19 F16) (hw _ (List.mem_of_getElem? (i := 25) rfl)) (hw _ (List.mem_of_getElem? (i := 26) rfl)) (hw _ (List.mem_of_getElem? (i := 2) rfl)) (hw _ (List.mem_of_getElem? (i := 27) rfl)) (by decide) pd__Lcom_example_tollgraph_tollgraph_traversal_Threshold_Lcom_example_tollgraph_tollgraph_traversal_Threshold__Lcom_example_tollgraph_tollgraph_traversal_Threshold_ (by rw [hml]; rfl) rfl rfl (Nat.le_of_eq rfl) (by decide) (by decide) (by decide) (by decide) ?_
          rintro T20 _ L20 X20 ⟨rfl, rfl, e20⟩
          show own_Go p e below _ T20 (mkF m 141 #[.val (.int i0), .val (.int i1), .val (.int i2), .val (.int (0 : Int32)), .val (.int (0 : Int32)), .val (.int (0 : Int32)), .val (.int i1), .val (.ref b14), .val (.ref b16), .val (.int (1 : Int32)), .val (.ref b16), .unset] [(.ref (if (cmpValue (FP.dcmp (FP.i2d i1) (FP.i2d i0)) .g) < (0 : Int32) then b16 else b14))])
          rw [List.append_nil] at X20
          rw [if_pos ((own_c4 _ _).mpr hc110_18)]
          show own_Go p e below _ T20 (mkF m 141 #[.val (.int i0), .val (.int i1), .val (.int i2), .val (.int (0 : Int32)), .val (.int (0 : Int32)), .val (.int (0 : Int32)), .val (.int i1), .val (.ref b14), .val (.ref b16), .val (.int (1 : Int32)), .val (.ref b16), .unset] [(.ref b16)])
          refine own_by (T' := T20) (f' := (mkF m 143 #[.val (.int i0), .val (.int i1), .val (.int i2), .val (.int (0 : Int32)), .val (.int (0 : Int32)), .val (.int (0 : Int32)), .val (.int i1), .val (.ref b14), .val (.ref b16), .val (.int (1 : Int32)), .val (.ref b16), .val (.ref b16)] [])) (fun t k => XS.astore X20.here hx rfl (hb hby at_141) rfl rfl (l' := #[.val (.int i0), .val (.int i1), .val (.int i2), .val (.int (0 : Int32)), .val (.int (0 : Int32)), .val (.int (0 : Int32)), .val (.int i1), .val (.ref b14), .val (.ref b16), .val (.int (1 : Int32)), .val (.ref b16), .val (.ref b16)]) rfl k) ?_
          refine own_by (T' := T20) (f' := (mkF m 145 #[.val (.int i0), .val (.int i1), .val (.int i2), .val (.int (0 : Int32)), .val (.int (0 : Int32)), .val (.int (0 : Int32)), .val (.int i1), .val (.ref b14), .val (.ref b16), .val (.int (1 : Int32)), .val (.ref b16), .val (.ref b16)] [(.ref b16)])) (fun t k => XS.aload X20.here hx rfl (hb hby at_143) rfl rfl k) ?_
          refine own_by (T' := T20) (f' := (mkF m 147 #[.val (.int i0), .val (.int i1), .val (.int i2), .val (.int (0 : Int32)), .val (.int (0 : Int32)), .val (.int (0 : Int32)), .val (.int i1), .val (.ref b14), .val (.ref b16), .val (.int (1 : Int32)), .val (.ref b16), .val (.ref b16)] [(.ref b16), (.ref b16)])) (fun t k => XS.aload X20.here hx rfl (hb hby at_145) rfl rfl k) ?_
          refine own_by (T' := T20) (f' := (mkF m 150 #[.val (.int i0), .val (.int i1), .val (.int i2), .val (.int (0 : Int32)), .val (.int (0 : Int32)), .val (.int (0 : Int32)), .val (.int i1), .val (.ref b14), .val (.ref b16), .val (.int (1 : Int32)), .val (.ref b16), .val (.ref b16)] [])) (fun t k => Jvm.RoadKit.acmp (g := (mkF m 147 #[.val (.int i0), .val (.int i1), .val (.int i2), .val (.int (0 : Int32)), .val (.int (0 : Int32)), .val (.int (0 : Int32)), .val (.int i1), .val (.ref b14), .val (.ref b16), .val (.int (1 : Int32)), .val (.ref b16), .val (.ref b16)] [(.ref b16), (.ref b16)])) X20 hx rfl rfl rfl (pc0 := 147) (pc' := 150) (same := true) rfl (hb hby at_147) rfl (decide_eq_true rfl) (by decide) (by decide) k) ?_
          refine own_by (T' := T20) (f' := (mkF m 151 #[.val (.int i0), .val (.int i1), .val (.int i2), .val (.int (0 : Int32)), .val (.int (0 : Int32)), .val (.int (0 : Int32)), .val (.int i1), .val (.ref b14), .val (.ref b16), .val (.int (1 : Int32)), .val (.ref b16), .val (.ref b16)] [(.int (1 : Int32))])) (fun t k => XS.iconst X20.here hx rfl (hb hby at_150) k) ?_
          refine own_by (T' := T20) (f' := (mkF m 155 #[.val (.int i0), .val (.int i1), .val (.int i2), .val (.int (0 : Int32)), .val (.int (0 : Int32)), .val (.int (0 : Int32)), .val (.int i1), .val (.ref b14), .val (.ref b16), .val (.int (1 : Int32)), .val (.ref b16), .val (.ref b16)] [(.int (1 : Int32))])) (fun t k => XS.goto X20.here hx rfl (pc0 := 151) (pc' := 155) rfl (hb hby at_151) (by decide) (by decide) k) ?_
          refine own_retZ X20 hx hret hlk (hb hby at_155) (Or.inr rfl) (by decide) (by decide) ?_
          try rw [e20]
          exact ⟨rfl, N16⟩
        · have _ := X16
          refine own_by (T' := T16) (f' := (mkF m 117 #[.val (.int i0), .val (.int i1), .val (.int i2), .val (.int (0 : Int32)), .val (.int (0 : Int32)), .val (.int (0 : Int32)), .val (.int i1), .val (.ref b14), .val (.ref b16), .unset, .unset, .unset] [])) (fun t k => XS.icmpYes X16.here hx rfl (pc0 := 110) (pc' := 117) rfl (hb hby at_110) rfl (flt hc110_18).2.1 (by decide) (by decide) k) ?_
          refine own_by (T' := T16) (f' := (mkF m 118 #[.val (.int i0), .val (.int i1), .val (.int i2), .val (.int (0 : Int32)), .val (.int (0 : Int32)), .val (.int (0 : Int32)), .val (.int i1), .val (.ref b14), .val (.ref b16), .unset, .unset, .unset] [(.int (0 : Int32))])) (fun t k => XS.iconst X16.here hx rfl (hb hby at_117) k) ?_
          refine own_by (T' := T16) (f' := (mkF m 120 #[.val (.int i0), .val (.int i1), .val (.int i2), .val (.int (0 : Int32)), .val (.int (0 : Int32)), .val (.int (0 : Int32)), .val (.int i1), .val (.ref b14), .val (.ref b16), .val (.int (0 : Int32)), .unset, .unset] [])) (fun t k => XS.istore X16.here hx rfl (hb hby at_118) rfl (l' := #[.val (.int i0), .val (.int i1), .val (.int i2), .val (.int (0 : Int32)), .val (.int (0 : Int32)), .val (.int (0 : Int32)), .val (.int i1), .val (.ref b14), .val (.ref b16), .val (.int (0 : Int32)), .unset, .unset]) rfl k) ?_
          refine own_by (T' := T16) (f' := (mkF m 122 #[.val (.int i0), .val (.int i1), .val (.int i2), .val (.int (0 : Int32)), .val (.int (0 : Int32)), .val (.int (0 : Int32)), .val (.int i1), .val (.ref b14), .val (.ref b16), .val (.int (0 : Int32)), .unset, .unset] [(.int (0 : Int32))])) (fun t k => XS.iload X16.here hx rfl (hb hby at_120) rfl k) ?_
          refine own_by (T' := T16) (f' := (mkF m 130 #[.val (.int i0), .val (.int i1), .val (.int i2), .val (.int (0 : Int32)), .val (.int (0 : Int32)), .val (.int (0 : Int32)), .val (.int i1), .val (.ref b14), .val (.ref b16), .val (.int (0 : Int32)), .unset, .unset] [])) (fun t k => XS.ifYes X16.here hx rfl (pc0 := 122) (pc' := 130) rfl (hb hby at_122) rfl ((if0 _ _).trans (teq (by decide)).1) (by decide) (by decide) k) ?_
          refine own_by (T' := T16) (f' := (mkF m 132 #[.val (.int i0), .val (.int i1), .val (.int i2), .val (.int (0 : Int32)), .val (.int (0 : Int32)), .val (.int (0 : Int32)), .val (.int i1), .val (.ref b14), .val (.ref b16), .val (.int (0 : Int32)), .unset, .unset] [(.ref b14)])) (fun t k => XS.aload X16.here hx rfl (hb hby at_130) rfl rfl k) ?_
          refine own_by (T' := T16) (f' := (mkF m 134 #[.val (.int i0), .val (.int i1), .val (.int i2), .val (.int (0 : Int32)), .val (.int (0 : Int32)), .val (.int (0 : Int32)), .val (.int i1), .val (.ref b14), .val (.ref b16), .val (.int (0 : Int32)), .val (.ref b14), .unset] [])) (fun t k => XS.astore X16.here hx rfl (hb hby at_132) rfl rfl (l' := #[.val (.int i0), .val (.int i1), .val (.int i2), .val (.int (0 : Int32)), .val (.int (0 : Int32)), .val (.int (0 : Int32)), .val (.int i1), .val (.ref b14), .val (.ref b16), .val (.int (0 : Int32)), .val (.ref b14), .unset]) rfl k) ?_
          refine own_by (T' := T16) (f' := (mkF m 136 #[.val (.int i0), .val (.int i1), .val (.int i2), .val (.int (0 : Int32)), .val (.int (0 : Int32)), .val (.int (0 : Int32)), .val (.int i1), .val (.ref b14), .val (.ref b16), .val (.int (0 : Int32)), .val (.ref b14), .unset] [(.ref b14)])) (fun t k => XS.aload X16.here hx rfl (hb hby at_134) rfl rfl k) ?_
          refine own_by (T' := T16) (f' := (mkF m 138 #[.val (.int i0), .val (.int i1), .val (.int i2), .val (.int (0 : Int32)), .val (.int (0 : Int32)), .val (.int (0 : Int32)), .val (.int i1), .val (.ref b14), .val (.ref b16), .val (.int (0 : Int32)), .val (.ref b14), .unset] [(.ref b16), (.ref b14)])) (fun t k => XS.aload X16.here hx rfl (hb hby at_136) rfl rfl k) ?_
          have f21 := (F14.keep K16 nin0)
          refine own_callS X16 hx hZ hown rfl (hb hby at_138) [(.ref b14), (.ref b16)] [] 0 (rmM l Z a0 hw [] b14 b16 _ _ T16.heap f21 F16) (hw _ (List.mem_of_getElem? (i := 25) rfl)) (hw _ (List.mem_of_getElem? (i := 26) rfl)) (hw _ (List.mem_of_getElem? (i := 2) rfl)) (hw _ (List.mem_of_getElem? (i := 27) rfl)) (by decide) pd__Lcom_example_tollgraph_tollgraph_traversal_Threshold_Lcom_example_tollgraph_tollgraph_traversal_Threshold__Lcom_example_tollgraph_tollgraph_traversal_Threshold_ (by rw [hml]; rfl) rfl rfl (Nat.le_of_eq rfl) (by decide) (by decide) (by decide) (by decide) ?_
          rintro T22 _ L22 X22 ⟨rfl, rfl, e22⟩
          show own_Go p e below _ T22 (mkF m 141 #[.val (.int i0), .val (.int i1), .val (.int i2), .val (.int (0 : Int32)), .val (.int (0 : Int32)), .val (.int (0 : Int32)), .val (.int i1), .val (.ref b14), .val (.ref b16), .val (.int (0 : Int32)), .val (.ref b14), .unset] [(.ref (if (cmpValue (FP.dcmp (FP.i2d i1) (FP.i2d i0)) .g) < (0 : Int32) then b16 else b14))])
          rw [List.append_nil] at X22
          rw [if_neg (mt (own_c4 _ _).mp hc110_18)]
          show own_Go p e below _ T22 (mkF m 141 #[.val (.int i0), .val (.int i1), .val (.int i2), .val (.int (0 : Int32)), .val (.int (0 : Int32)), .val (.int (0 : Int32)), .val (.int i1), .val (.ref b14), .val (.ref b16), .val (.int (0 : Int32)), .val (.ref b14), .unset] [(.ref b14)])
          refine own_by (T' := T22) (f' := (mkF m 143 #[.val (.int i0), .val (.int i1), .val (.int i2), .val (.int (0 : Int32)), .val (.int (0 : Int32)), .val (.int (0 : Int32)), .val (.int i1), .val (.ref b14), .val (.ref b16), .val (.int (0 : Int32)), .val (.ref b14), .val (.ref b14)] [])) (fun t k => XS.astore X22.here hx rfl (hb hby at_141) rfl rfl (l' := #[.val (.int i0), .val (.int i1), .val (.int i2), .val (.int (0 : Int32)), .val (.int (0 : Int32)), .val (.int (0 : Int32)), .val (.int i1), .val (.ref b14), .val (.ref b16), .val (.int (0 : Int32)), .val (.ref b14), .val (.ref b14)]) rfl k) ?_
          refine own_by (T' := T22) (f' := (mkF m 145 #[.val (.int i0), .val (.int i1), .val (.int i2), .val (.int (0 : Int32)), .val (.int (0 : Int32)), .val (.int (0 : Int32)), .val (.int i1), .val (.ref b14), .val (.ref b16), .val (.int (0 : Int32)), .val (.ref b14), .val (.ref b14)] [(.ref b14)])) (fun t k => XS.aload X22.here hx rfl (hb hby at_143) rfl rfl k) ?_
          refine own_by (T' := T22) (f' := (mkF m 147 #[.val (.int i0), .val (.int i1), .val (.int i2), .val (.int (0 : Int32)), .val (.int (0 : Int32)), .val (.int (0 : Int32)), .val (.int i1), .val (.ref b14), .val (.ref b16), .val (.int (0 : Int32)), .val (.ref b14), .val (.ref b14)] [(.ref b14), (.ref b14)])) (fun t k => XS.aload X22.here hx rfl (hb hby at_145) rfl rfl k) ?_
          refine own_by (T' := T22) (f' := (mkF m 150 #[.val (.int i0), .val (.int i1), .val (.int i2), .val (.int (0 : Int32)), .val (.int (0 : Int32)), .val (.int (0 : Int32)), .val (.int i1), .val (.ref b14), .val (.ref b16), .val (.int (0 : Int32)), .val (.ref b14), .val (.ref b14)] [])) (fun t k => Jvm.RoadKit.acmp (g := (mkF m 147 #[.val (.int i0), .val (.int i1), .val (.int i2), .val (.int (0 : Int32)), .val (.int (0 : Int32)), .val (.int (0 : Int32)), .val (.int i1), .val (.ref b14), .val (.ref b16), .val (.int (0 : Int32)), .val (.ref b14), .val (.ref b14)] [(.ref b14), (.ref b14)])) X22 hx rfl rfl rfl (pc0 := 147) (pc' := 150) (same := true) rfl (hb hby at_147) rfl (decide_eq_true rfl) (by decide) (by decide) k) ?_
          refine own_by (T' := T22) (f' := (mkF m 151 #[.val (.int i0), .val (.int i1), .val (.int i2), .val (.int (0 : Int32)), .val (.int (0 : Int32)), .val (.int (0 : Int32)), .val (.int i1), .val (.ref b14), .val (.ref b16), .val (.int (0 : Int32)), .val (.ref b14), .val (.ref b14)] [(.int (1 : Int32))])) (fun t k => XS.iconst X22.here hx rfl (hb hby at_150) k) ?_
          refine own_by (T' := T22) (f' := (mkF m 155 #[.val (.int i0), .val (.int i1), .val (.int i2), .val (.int (0 : Int32)), .val (.int (0 : Int32)), .val (.int (0 : Int32)), .val (.int i1), .val (.ref b14), .val (.ref b16), .val (.int (0 : Int32)), .val (.ref b14), .val (.ref b14)] [(.int (1 : Int32))])) (fun t k => XS.goto X22.here hx rfl (pc0 := 151) (pc' := 155) rfl (hb hby at_151) (by decide) (by decide) k) ?_
          refine own_retZ X22 hx hret hlk (hb hby at_155) (Or.inr rfl) (by decide) (by decide) ?_
          try rw [e22]
          exact ⟨rfl, N16⟩
      · have _ := X0
        refine own_by (T' := s₁) (f' := (mkF m 31 #[.val (.int i0), .val (.int i1), .val (.int i2), .val (.int (0 : Int32)), .val (.int (0 : Int32)), .unset, .unset, .unset, .unset, .unset, .unset, .unset] [])) (fun t k => XS.ifNo X0.here hx rfl (hb hby at_28) rfl ((if0 _ _).trans (feq hc28_13).1) k) ?_
        refine own_by (T' := s₁) (f' := (mkF m 32 #[.val (.int i0), .val (.int i1), .val (.int i2), .val (.int (0 : Int32)), .val (.int (0 : Int32)), .unset, .unset, .unset, .unset, .unset, .unset, .unset] [(.int (1 : Int32))])) (fun t k => XS.iconst X0.here hx rfl (hb hby at_31) k) ?_
        refine own_by (T' := s₁) (f' := (mkF m 36 #[.val (.int i0), .val (.int i1), .val (.int i2), .val (.int (0 : Int32)), .val (.int (0 : Int32)), .unset, .unset, .unset, .unset, .unset, .unset, .unset] [(.int (1 : Int32))])) (fun t k => XS.goto X0.here hx rfl (pc0 := 32) (pc' := 36) rfl (hb hby at_32) (by decide) (by decide) k) ?_
        refine own_by (T' := s₁) (f' := (mkF m 38 #[.val (.int i0), .val (.int i1), .val (.int i2), .val (.int (0 : Int32)), .val (.int (0 : Int32)), .val (.int (1 : Int32)), .unset, .unset, .unset, .unset, .unset, .unset] [])) (fun t k => XS.istore X0.here hx rfl (hb hby at_36) rfl (l' := #[.val (.int i0), .val (.int i1), .val (.int i2), .val (.int (0 : Int32)), .val (.int (0 : Int32)), .val (.int (1 : Int32)), .unset, .unset, .unset, .unset, .unset, .unset]) rfl k) ?_
        refine own_by (T' := s₁) (f' := (mkF m 40 #[.val (.int i0), .val (.int i1), .val (.int i2), .val (.int (0 : Int32)), .val (.int (0 : Int32)), .val (.int (1 : Int32)), .unset, .unset, .unset, .unset, .unset, .unset] [(.int (1 : Int32))])) (fun t k => XS.iload X0.here hx rfl (hb hby at_38) rfl k) ?_
        refine own_by (T' := s₁) (f' := (mkF m 43 #[.val (.int i0), .val (.int i1), .val (.int i2), .val (.int (0 : Int32)), .val (.int (0 : Int32)), .val (.int (1 : Int32)), .unset, .unset, .unset, .unset, .unset, .unset] [])) (fun t k => XS.ifNo X0.here hx rfl (hb hby at_40) rfl ((if0 _ _).trans (feq (by decide)).1) k) ?_
        refine own_by (T' := s₁) (f' := (mkF m 44 #[.val (.int i0), .val (.int i1), .val (.int i2), .val (.int (0 : Int32)), .val (.int (0 : Int32)), .val (.int (1 : Int32)), .unset, .unset, .unset, .unset, .unset, .unset] [(.int i0)])) (fun t k => XS.iloadN X0.here hx rfl (hb hby at_43) rfl k) ?_
        refine own_by (T' := s₁) (f' := (mkF m 48 #[.val (.int i0), .val (.int i1), .val (.int i2), .val (.int (0 : Int32)), .val (.int (0 : Int32)), .val (.int (1 : Int32)), .unset, .unset, .unset, .unset, .unset, .unset] [(.int i0)])) (fun t k => XS.goto X0.here hx rfl (pc0 := 44) (pc' := 48) rfl (hb hby at_44) (by decide) (by decide) k) ?_
        refine own_by (T' := s₁) (f' := (mkF m 50 #[.val (.int i0), .val (.int i1), .val (.int i2), .val (.int (0 : Int32)), .val (.int (0 : Int32)), .val (.int (1 : Int32)), .val (.int i0), .unset, .unset, .unset, .unset, .unset] [])) (fun t k => XS.istore X0.here hx rfl (hb hby at_48) rfl (l' := #[.val (.int i0), .val (.int i1), .val (.int i2), .val (.int (0 : Int32)), .val (.int (0 : Int32)), .val (.int (1 : Int32)), .val (.int i0), .unset, .unset, .unset, .unset, .unset]) rfl k) ?_
        refine own_by (T' := s₁) (f' := (mkF m 51 #[.val (.int i0), .val (.int i1), .val (.int i2), .val (.int (0 : Int32)), .val (.int (0 : Int32)), .val (.int (1 : Int32)), .val (.int i0), .unset, .unset, .unset, .unset, .unset] [(.int (0 : Int32))])) (fun t k => XS.iloadN X0.here hx rfl (hb hby at_50) rfl k) ?_
        refine own_by (T' := s₁) (f' := (mkF m 60 #[.val (.int i0), .val (.int i1), .val (.int i2), .val (.int (0 : Int32)), .val (.int (0 : Int32)), .val (.int (1 : Int32)), .val (.int i0), .unset, .unset, .unset, .unset, .unset] [])) (fun t k => XS.ifYes X0.here hx rfl (pc0 := 51) (pc' := 60) rfl (hb hby at_51) rfl ((if0 _ _).trans (teq (by decide)).1) (by decide) (by decide) k) ?_
        refine own_by (T' := s₁) (f' := (mkF m 61 #[.val (.int i0), .val (.int i1), .val (.int i2), .val (.int (0 : Int32)), .val (.int (0 : Int32)), .val (.int (1 : Int32)), .val (.int i0), .unset, .unset, .unset, .unset, .unset] [(.int i0)])) (fun t k => XS.iloadN X0.here hx rfl (hb hby at_60) rfl k) ?_
        refine own_by (T' := s₁) (f' := (mkF m 62 #[.val (.int i0), .val (.int i1), .val (.int i2), .val (.int (0 : Int32)), .val (.int (0 : Int32)), .val (.int (1 : Int32)), .val (.int i0), .unset, .unset, .unset, .unset, .unset] [(.double (FP.i2d i0))])) (fun t k => XS.i2dS X0.here hx rfl (hb hby at_61) rfl rfl k) ?_
        refine own_callS X0 hx hZ hown e0 (hb hby at_62) [(.double (FP.i2d i0))] [] 0 (rmB l Z a0 hw [] (FP.i2d i0) h0 own_nn n0 Z0) (hw _ (List.mem_of_getElem? (i := 0) rfl)) (hw _ (List.mem_of_getElem? (i := 1) rfl)) (hw _ (List.mem_of_getElem? (i := 2) rfl)) (hw _ (List.mem_of_getElem? (i := 3) rfl)) (by decide) pd__D_Lcom_example_tollgraph_tollgraph_traversal_Threshold_ (by rw [hml]; rfl) rfl rfl (Nat.le_of_eq rfl) (by decide) (by decide) (by decide) (by decide) ?_
        rintro T23 _ L23 X23 ⟨b23, rfl, N23q, K23, A23, F23⟩
        show own_Go p e below _ T23 (mkF m 65 #[.val (.int i0), .val (.int i1), .val (.int i2), .val (.int (0 : Int32)), .val (.int (0 : Int32)), .val (.int (1 : Int32)), .val (.int i0), .unset, .unset, .unset, .unset, .unset] [(.ref b23)])
        have N23 := Fr.app N0 N23q
        have sz24 : n0 ≤ T23.heap.size := Nat.le_trans Z0 K23.1
        refine own_by (T' := T23) (f' := (mkF m 67 #[.val (.int i0), .val (.int i1), .val (.int i2), .val (.int (0 : Int32)), .val (.int (0 : Int32)), .val (.int (1 : Int32)), .val (.int i0), .val (.ref b23), .unset, .unset, .unset, .unset] [])) (fun t k => XS.astore X23.here hx rfl (hb hby at_65) rfl rfl (l' := #[.val (.int i0), .val (.int i1), .val (.int i2), .val (.int (0 : Int32)), .val (.int (0 : Int32)), .val (.int (1 : Int32)), .val (.int i0), .val (.ref b23), .unset, .unset, .unset, .unset]) rfl k) ?_
        refine own_by (T' := T23) (f' := (mkF m 69 #[.val (.int i0), .val (.int i1), .val (.int i2), .val (.int (0 : Int32)), .val (.int (0 : Int32)), .val (.int (1 : Int32)), .val (.int i0), .val (.ref b23), .unset, .unset, .unset, .unset] [(.int (0 : Int32))])) (fun t k => XS.iload X23.here hx rfl (hb hby at_67) rfl k) ?_
        refine own_by (T' := T23) (f' := (mkF m 78 #[.val (.int i0), .val (.int i1), .val (.int i2), .val (.int (0 : Int32)), .val (.int (0 : Int32)), .val (.int (1 : Int32)), .val (.int i0), .val (.ref b23), .unset, .unset, .unset, .unset] [])) (fun t k => XS.ifYes X23.here hx rfl (pc0 := 69) (pc' := 78) rfl (hb hby at_69) rfl ((if0 _ _).trans (teq (by decide)).1) (by decide) (by decide) k) ?_
        refine own_by (T' := T23) (f' := (mkF m 80 #[.val (.int i0), .val (.int i1), .val (.int i2), .val (.int (0 : Int32)), .val (.int (0 : Int32)), .val (.int (1 : Int32)), .val (.int i0), .val (.ref b23), .unset, .unset, .unset, .unset] [(.int i0)])) (fun t k => XS.iload X23.here hx rfl (hb hby at_78) rfl k) ?_
        refine own_by (T' := T23) (f' := (mkF m 81 #[.val (.int i0), .val (.int i1), .val (.int i2), .val (.int (0 : Int32)), .val (.int (0 : Int32)), .val (.int (1 : Int32)), .val (.int i0), .val (.ref b23), .unset, .unset, .unset, .unset] [(.double (FP.i2d i0))])) (fun t k => XS.i2dS X23.here hx rfl (hb hby at_80) rfl rfl k) ?_
        refine own_callS X23 hx hZ hown rfl (hb hby at_81) [(.double (FP.i2d i0))] [] 0 (rmB l Z a0 hw [] (FP.i2d i0) T23.heap own_nn n0 sz24) (hw _ (List.mem_of_getElem? (i := 0) rfl)) (hw _ (List.mem_of_getElem? (i := 1) rfl)) (hw _ (List.mem_of_getElem? (i := 2) rfl)) (hw _ (List.mem_of_getElem? (i := 3) rfl)) (by decide) pd__D_Lcom_example_tollgraph_tollgraph_traversal_Threshold_ (by rw [hml]; rfl) rfl rfl (Nat.le_of_eq rfl) (by decide) (by decide) (by decide) (by decide) ?_
        rintro T25 _ L25 X25 ⟨b25, rfl, N25q, K25, A25, F25⟩
        show own_Go p e below _ T25 (mkF m 84 #[.val (.int i0), .val (.int i1), .val (.int i2), .val (.int (0 : Int32)), .val (.int (0 : Int32)), .val (.int (1 : Int32)), .val (.int i0), .val (.ref b23), .unset, .unset, .unset, .unset] [(.ref b25)])
        have N25 := Fr.app N23 N25q
        have sz26 : n0 ≤ T25.heap.size := Nat.le_trans sz24 K25.1
        refine own_by (T' := T25) (f' := (mkF m 86 #[.val (.int i0), .val (.int i1), .val (.int i2), .val (.int (0 : Int32)), .val (.int (0 : Int32)), .val (.int (1 : Int32)), .val (.int i0), .val (.ref b23), .val (.ref b25), .unset, .unset, .unset] [])) (fun t k => XS.astore X25.here hx rfl (hb hby at_84) rfl rfl (l' := #[.val (.int i0), .val (.int i1), .val (.int i2), .val (.int (0 : Int32)), .val (.int (0 : Int32)), .val (.int (1 : Int32)), .val (.int i0), .val (.ref b23), .val (.ref b25), .unset, .unset, .unset]) rfl k) ?_
        refine own_by (T' := T25) (f' := (mkF m 88 #[.val (.int i0), .val (.int i1), .val (.int i2), .val (.int (0 : Int32)), .val (.int (0 : Int32)), .val (.int (1 : Int32)), .val (.int i0), .val (.ref b23), .val (.ref b25), .unset, .unset, .unset] [(.int (0 : Int32))])) (fun t k => XS.iload X25.here hx rfl (hb hby at_86) rfl k) ?_
        refine own_by (T' := T25) (f' := (mkF m 97 #[.val (.int i0), .val (.int i1), .val (.int i2), .val (.int (0 : Int32)), .val (.int (0 : Int32)), .val (.int (1 : Int32)), .val (.int i0), .val (.ref b23), .val (.ref b25), .unset, .unset, .unset] [])) (fun t k => XS.ifYes X25.here hx rfl (pc0 := 88) (pc' := 97) rfl (hb hby at_88) rfl ((if0 _ _).trans (teq (by decide)).1) (by decide) (by decide) k) ?_
        refine own_by (T' := T25) (f' := (mkF m 98 #[.val (.int i0), .val (.int i1), .val (.int i2), .val (.int (0 : Int32)), .val (.int (0 : Int32)), .val (.int (1 : Int32)), .val (.int i0), .val (.ref b23), .val (.ref b25), .unset, .unset, .unset] [(.int (0 : Int32))])) (fun t k => XS.iloadN X25.here hx rfl (hb hby at_97) rfl k) ?_
        refine own_by (T' := T25) (f' := (mkF m 107 #[.val (.int i0), .val (.int i1), .val (.int i2), .val (.int (0 : Int32)), .val (.int (0 : Int32)), .val (.int (1 : Int32)), .val (.int i0), .val (.ref b23), .val (.ref b25), .unset, .unset, .unset] [])) (fun t k => XS.ifYes X25.here hx rfl (pc0 := 98) (pc' := 107) rfl (hb hby at_98) rfl ((if0 _ _).trans (teq (by decide)).1) (by decide) (by decide) k) ?_
        refine own_by (T' := T25) (f' := (mkF m 109 #[.val (.int i0), .val (.int i1), .val (.int i2), .val (.int (0 : Int32)), .val (.int (0 : Int32)), .val (.int (1 : Int32)), .val (.int i0), .val (.ref b23), .val (.ref b25), .unset, .unset, .unset] [(.int i0)])) (fun t k => XS.iload X25.here hx rfl (hb hby at_107) rfl k) ?_
        refine own_by (T' := T25) (f' := (mkF m 110 #[.val (.int i0), .val (.int i1), .val (.int i2), .val (.int (0 : Int32)), .val (.int (0 : Int32)), .val (.int (1 : Int32)), .val (.int i0), .val (.ref b23), .val (.ref b25), .unset, .unset, .unset] [(.int i0), (.int i0)])) (fun t k => XS.iloadN X25.here hx rfl (hb hby at_109) rfl k) ?_
        by_cases hc110_27 : i0 < i0
        · have _ := X25
          refine own_by (T' := T25) (f' := (mkF m 113 #[.val (.int i0), .val (.int i1), .val (.int i2), .val (.int (0 : Int32)), .val (.int (0 : Int32)), .val (.int (1 : Int32)), .val (.int i0), .val (.ref b23), .val (.ref b25), .unset, .unset, .unset] [])) (fun t k => XS.icmpNo X25.here hx rfl (hb hby at_110) rfl (tlt hc110_27).2.1 k) ?_
          refine own_by (T' := T25) (f' := (mkF m 114 #[.val (.int i0), .val (.int i1), .val (.int i2), .val (.int (0 : Int32)), .val (.int (0 : Int32)), .val (.int (1 : Int32)), .val (.int i0), .val (.ref b23), .val (.ref b25), .unset, .unset, .unset] [(.int (1 : Int32))])) (fun t k => XS.iconst X25.here hx rfl (hb hby at_113) k) ?_
          refine own_by (T' := T25) (f' := (mkF m 118 #[.val (.int i0), .val (.int i1), .val (.int i2), .val (.int (0 : Int32)), .val (.int (0 : Int32)), .val (.int (1 : Int32)), .val (.int i0), .val (.ref b23), .val (.ref b25), .unset, .unset, .unset] [(.int (1 : Int32))])) (fun t k => XS.goto X25.here hx rfl (pc0 := 114) (pc' := 118) rfl (hb hby at_114) (by decide) (by decide) k) ?_
          refine own_by (T' := T25) (f' := (mkF m 120 #[.val (.int i0), .val (.int i1), .val (.int i2), .val (.int (0 : Int32)), .val (.int (0 : Int32)), .val (.int (1 : Int32)), .val (.int i0), .val (.ref b23), .val (.ref b25), .val (.int (1 : Int32)), .unset, .unset] [])) (fun t k => XS.istore X25.here hx rfl (hb hby at_118) rfl (l' := #[.val (.int i0), .val (.int i1), .val (.int i2), .val (.int (0 : Int32)), .val (.int (0 : Int32)), .val (.int (1 : Int32)), .val (.int i0), .val (.ref b23), .val (.ref b25), .val (.int (1 : Int32)), .unset, .unset]) rfl k) ?_
          refine own_by (T' := T25) (f' := (mkF m 122 #[.val (.int i0), .val (.int i1), .val (.int i2), .val (.int (0 : Int32)), .val (.int (0 : Int32)), .val (.int (1 : Int32)), .val (.int i0), .val (.ref b23), .val (.ref b25), .val (.int (1 : Int32)), .unset, .unset] [(.int (1 : Int32))])) (fun t k => XS.iload X25.here hx rfl (hb hby at_120) rfl k) ?_
          refine own_by (T' := T25) (f' := (mkF m 125 #[.val (.int i0), .val (.int i1), .val (.int i2), .val (.int (0 : Int32)), .val (.int (0 : Int32)), .val (.int (1 : Int32)), .val (.int i0), .val (.ref b23), .val (.ref b25), .val (.int (1 : Int32)), .unset, .unset] [])) (fun t k => XS.ifNo X25.here hx rfl (hb hby at_122) rfl ((if0 _ _).trans (feq (by decide)).1) k) ?_
          refine own_by (T' := T25) (f' := (mkF m 127 #[.val (.int i0), .val (.int i1), .val (.int i2), .val (.int (0 : Int32)), .val (.int (0 : Int32)), .val (.int (1 : Int32)), .val (.int i0), .val (.ref b23), .val (.ref b25), .val (.int (1 : Int32)), .unset, .unset] [(.ref b25)])) (fun t k => XS.aload X25.here hx rfl (hb hby at_125) rfl rfl k) ?_
          refine own_by (T' := T25) (f' := (mkF m 132 #[.val (.int i0), .val (.int i1), .val (.int i2), .val (.int (0 : Int32)), .val (.int (0 : Int32)), .val (.int (1 : Int32)), .val (.int i0), .val (.ref b23), .val (.ref b25), .val (.int (1 : Int32)), .unset, .unset] [(.ref b25)])) (fun t k => XS.goto X25.here hx rfl (pc0 := 127) (pc' := 132) rfl (hb hby at_127) (by decide) (by decide) k) ?_
          refine own_by (T' := T25) (f' := (mkF m 134 #[.val (.int i0), .val (.int i1), .val (.int i2), .val (.int (0 : Int32)), .val (.int (0 : Int32)), .val (.int (1 : Int32)), .val (.int i0), .val (.ref b23), .val (.ref b25), .val (.int (1 : Int32)), .val (.ref b25), .unset] [])) (fun t k => XS.astore X25.here hx rfl (hb hby at_132) rfl rfl (l' := #[.val (.int i0), .val (.int i1), .val (.int i2), .val (.int (0 : Int32)), .val (.int (0 : Int32)), .val (.int (1 : Int32)), .val (.int i0), .val (.ref b23), .val (.ref b25), .val (.int (1 : Int32)), .val (.ref b25), .unset]) rfl k) ?_
          refine own_by (T' := T25) (f' := (mkF m 136 #[.val (.int i0), .val (.int i1), .val (.int i2), .val (.int (0 : Int32)), .val (.int (0 : Int32)), .val (.int (1 : Int32)), .val (.int i0), .val (.ref b23), .val (.ref b25), .val (.int (1 : Int32)), .val (.ref b25), .unset] [(.ref b23)])) (fun t k => XS.aload X25.here hx rfl (hb hby at_134) rfl rfl k) ?_
          refine own_by (T' := T25) (f' := (mkF m 138 #[.val (.int i0), .val (.int i1), .val (.int i2), .val (.int (0 : Int32)), .val (.int (0 : Int32)), .val (.int (1 : Int32)), .val (.int i0), .val (.ref b23), .val (.ref b25), .val (.int (1 : Int32)), .val (.ref b25), .unset] [(.ref b25), (.ref b23)])) (fun t k => XS.aload X25.here hx rfl (hb hby at_136) rfl rfl k) ?_
          have f28 := (F23.keep K25 nin0)
          refine own_callS X25 hx hZ hown rfl (hb hby at_138) [(.ref b23), (.ref b25)] [] 0 (rmM l Z a0 hw [] b23 b25 _ _ T25.heap f28 F25) (hw _ (List.mem_of_getElem? (i := 25) rfl)) (hw _ (List.mem_of_getElem? (i := 26) rfl)) (hw _ (List.mem_of_getElem? (i := 2) rfl)) (hw _ (List.mem_of_getElem? (i := 27) rfl)) (by decide) pd__Lcom_example_tollgraph_tollgraph_traversal_Threshold_Lcom_example_tollgraph_tollgraph_traversal_Threshold__Lcom_example_tollgraph_tollgraph_traversal_Threshold_ (by rw [hml]; rfl) rfl rfl (Nat.le_of_eq rfl) (by decide) (by decide) (by decide) (by decide) ?_
          rintro T29 _ L29 X29 ⟨rfl, rfl, e29⟩
          show own_Go p e below _ T29 (mkF m 141 #[.val (.int i0), .val (.int i1), .val (.int i2), .val (.int (0 : Int32)), .val (.int (0 : Int32)), .val (.int (1 : Int32)), .val (.int i0), .val (.ref b23), .val (.ref b25), .val (.int (1 : Int32)), .val (.ref b25), .unset] [(.ref (if (cmpValue (FP.dcmp (FP.i2d i0) (FP.i2d i0)) .g) < (0 : Int32) then b25 else b23))])
          rw [List.append_nil] at X29
          rw [if_pos ((own_c4 _ _).mpr hc110_27)]
          show own_Go p e below _ T29 (mkF m 141 #[.val (.int i0), .val (.int i1), .val (.int i2), .val (.int (0 : Int32)), .val (.int (0 : Int32)), .val (.int (1 : Int32)), .val (.int i0), .val (.ref b23), .val (.ref b25), .val (.int (1 : Int32)), .val (.ref b25), .unset] [(.ref b25)])
          refine own_by (T' := T29) (f' := (mkF m 143 #[.val (.int i0), .val (.int i1), .val (.int i2), .val (.int (0 : Int32)), .val (.int (0 : Int32)), .val (.int (1 : Int32)), .val (.int i0), .val (.ref b23), .val (.ref b25), .val (.int (1 : Int32)), .val (.ref b25), .val (.ref b25)] [])) (fun t k => XS.astore X29.here hx rfl (hb hby at_141) rfl rfl (l' := #[.val (.int i0), .val (.int i1), .val (.int i2), .val (.int (0 : Int32)), .val (.int (0 : Int32)), .val (.int (1 : Int32)), .val (.int i0), .val (.ref b23), .val (.ref b25), .val (.int (1 : Int32)), .val (.ref b25), .val (.ref b25)]) rfl k) ?_
          refine own_by (T' := T29) (f' := (mkF m 145 #[.val (.int i0), .val (.int i1), .val (.int i2), .val (.int (0 : Int32)), .val (.int (0 : Int32)), .val (.int (1 : Int32)), .val (.int i0), .val (.ref b23), .val (.ref b25), .val (.int (1 : Int32)), .val (.ref b25), .val (.ref b25)] [(.ref b25)])) (fun t k => XS.aload X29.here hx rfl (hb hby at_143) rfl rfl k) ?_
          refine own_by (T' := T29) (f' := (mkF m 147 #[.val (.int i0), .val (.int i1), .val (.int i2), .val (.int (0 : Int32)), .val (.int (0 : Int32)), .val (.int (1 : Int32)), .val (.int i0), .val (.ref b23), .val (.ref b25), .val (.int (1 : Int32)), .val (.ref b25), .val (.ref b25)] [(.ref b25), (.ref b25)])) (fun t k => XS.aload X29.here hx rfl (hb hby at_145) rfl rfl k) ?_
          refine own_by (T' := T29) (f' := (mkF m 150 #[.val (.int i0), .val (.int i1), .val (.int i2), .val (.int (0 : Int32)), .val (.int (0 : Int32)), .val (.int (1 : Int32)), .val (.int i0), .val (.ref b23), .val (.ref b25), .val (.int (1 : Int32)), .val (.ref b25), .val (.ref b25)] [])) (fun t k => Jvm.RoadKit.acmp (g := (mkF m 147 #[.val (.int i0), .val (.int i1), .val (.int i2), .val (.int (0 : Int32)), .val (.int (0 : Int32)), .val (.int (1 : Int32)), .val (.int i0), .val (.ref b23), .val (.ref b25), .val (.int (1 : Int32)), .val (.ref b25), .val (.ref b25)] [(.ref b25), (.ref b25)])) X29 hx rfl rfl rfl (pc0 := 147) (pc' := 150) (same := true) rfl (hb hby at_147) rfl (decide_eq_true rfl) (by decide) (by decide) k) ?_
          refine own_by (T' := T29) (f' := (mkF m 151 #[.val (.int i0), .val (.int i1), .val (.int i2), .val (.int (0 : Int32)), .val (.int (0 : Int32)), .val (.int (1 : Int32)), .val (.int i0), .val (.ref b23), .val (.ref b25), .val (.int (1 : Int32)), .val (.ref b25), .val (.ref b25)] [(.int (1 : Int32))])) (fun t k => XS.iconst X29.here hx rfl (hb hby at_150) k) ?_
          refine own_by (T' := T29) (f' := (mkF m 155 #[.val (.int i0), .val (.int i1), .val (.int i2), .val (.int (0 : Int32)), .val (.int (0 : Int32)), .val (.int (1 : Int32)), .val (.int i0), .val (.ref b23), .val (.ref b25), .val (.int (1 : Int32)), .val (.ref b25), .val (.ref b25)] [(.int (1 : Int32))])) (fun t k => XS.goto X29.here hx rfl (pc0 := 151) (pc' := 155) rfl (hb hby at_151) (by decide) (by decide) k) ?_
          refine own_retZ X29 hx hret hlk (hb hby at_155) (Or.inr rfl) (by decide) (by decide) ?_
          try rw [e29]
          exact ⟨rfl, N25⟩
        · have _ := X25
          refine own_by (T' := T25) (f' := (mkF m 117 #[.val (.int i0), .val (.int i1), .val (.int i2), .val (.int (0 : Int32)), .val (.int (0 : Int32)), .val (.int (1 : Int32)), .val (.int i0), .val (.ref b23), .val (.ref b25), .unset, .unset, .unset] [])) (fun t k => XS.icmpYes X25.here hx rfl (pc0 := 110) (pc' := 117) rfl (hb hby at_110) rfl (flt hc110_27).2.1 (by decide) (by decide) k) ?_
          refine own_by (T' := T25) (f' := (mkF m 118 #[.val (.int i0), .val (.int i1), .val (.int i2), .val (.int (0 : Int32)), .val (.int (0 : Int32)), .val (.int (1 : Int32)), .val (.int i0), .val (.ref b23), .val (.ref b25), .unset, .unset, .unset] [(.int (0 : Int32))])) (fun t k => XS.iconst X25.here hx rfl (hb hby at_117) k) ?_
          refine own_by (T' := T25) (f' := (mkF m 120 #[.val (.int i0), .val (.int i1), .val (.int i2), .val (.int (0 : Int32)), .val (.int (0 : Int32)), .val (.int (1 : Int32)), .val (.int i0), .val (.ref b23), .val (.ref b25), .val (.int (0 : Int32)), .unset, .unset] [])) (fun t k => XS.istore X25.here hx rfl (hb hby at_118) rfl (l' := #[.val (.int i0), .val (.int i1), .val (.int i2), .val (.int (0 : Int32)), .val (.int (0 : Int32)), .val (.int (1 : Int32)), .val (.int i0), .val (.ref b23), .val (.ref b25), .val (.int (0 : Int32)), .unset, .unset]) rfl k) ?_
          refine own_by (T' := T25) (f' := (mkF m 122 #[.val (.int i0), .val (.int i1), .val (.int i2), .val (.int (0 : Int32)), .val (.int (0 : Int32)), .val (.int (1 : Int32)), .val (.int i0), .val (.ref b23), .val (.ref b25), .val (.int (0 : Int32)), .unset, .unset] [(.int (0 : Int32))])) (fun t k => XS.iload X25.here hx rfl (hb hby at_120) rfl k) ?_
          refine own_by (T' := T25) (f' := (mkF m 130 #[.val (.int i0), .val (.int i1), .val (.int i2), .val (.int (0 : Int32)), .val (.int (0 : Int32)), .val (.int (1 : Int32)), .val (.int i0), .val (.ref b23), .val (.ref b25), .val (.int (0 : Int32)), .unset, .unset] [])) (fun t k => XS.ifYes X25.here hx rfl (pc0 := 122) (pc' := 130) rfl (hb hby at_122) rfl ((if0 _ _).trans (teq (by decide)).1) (by decide) (by decide) k) ?_
          refine own_by (T' := T25) (f' := (mkF m 132 #[.val (.int i0), .val (.int i1), .val (.int i2), .val (.int (0 : Int32)), .val (.int (0 : Int32)), .val (.int (1 : Int32)), .val (.int i0), .val (.ref b23), .val (.ref b25), .val (.int (0 : Int32)), .unset, .unset] [(.ref b23)])) (fun t k => XS.aload X25.here hx rfl (hb hby at_130) rfl rfl k) ?_
          refine own_by (T' := T25) (f' := (mkF m 134 #[.val (.int i0), .val (.int i1), .val (.int i2), .val (.int (0 : Int32)), .val (.int (0 : Int32)), .val (.int (1 : Int32)), .val (.int i0), .val (.ref b23), .val (.ref b25), .val (.int (0 : Int32)), .val (.ref b23), .unset] [])) (fun t k => XS.astore X25.here hx rfl (hb hby at_132) rfl rfl (l' := #[.val (.int i0), .val (.int i1), .val (.int i2), .val (.int (0 : Int32)), .val (.int (0 : Int32)), .val (.int (1 : Int32)), .val (.int i0), .val (.ref b23), .val (.ref b25), .val (.int (0 : Int32)), .val (.ref b23), .unset]) rfl k) ?_
          refine own_by (T' := T25) (f' := (mkF m 136 #[.val (.int i0), .val (.int i1), .val (.int i2), .val (.int (0 : Int32)), .val (.int (0 : Int32)), .val (.int (1 : Int32)), .val (.int i0), .val (.ref b23), .val (.ref b25), .val (.int (0 : Int32)), .val (.ref b23), .unset] [(.ref b23)])) (fun t k => XS.aload X25.here hx rfl (hb hby at_134) rfl rfl k) ?_
          refine own_by (T' := T25) (f' := (mkF m 138 #[.val (.int i0), .val (.int i1), .val (.int i2), .val (.int (0 : Int32)), .val (.int (0 : Int32)), .val (.int (1 : Int32)), .val (.int i0), .val (.ref b23), .val (.ref b25), .val (.int (0 : Int32)), .val (.ref b23), .unset] [(.ref b25), (.ref b23)])) (fun t k => XS.aload X25.here hx rfl (hb hby at_136) rfl rfl k) ?_
          have f30 := (F23.keep K25 nin0)
          refine own_callS X25 hx hZ hown rfl (hb hby at_138) [(.ref b23), (.ref b25)] [] 0 (rmM l Z a0 hw [] b23 b25 _ _ T25.heap f30 F25) (hw _ (List.mem_of_getElem? (i := 25) rfl)) (hw _ (List.mem_of_getElem? (i := 26) rfl)) (hw _ (List.mem_of_getElem? (i := 2) rfl)) (hw _ (List.mem_of_getElem? (i := 27) rfl)) (by decide) pd__Lcom_example_tollgraph_tollgraph_traversal_Threshold_Lcom_example_tollgraph_tollgraph_traversal_Threshold__Lcom_example_tollgraph_tollgraph_traversal_Threshold_ (by rw [hml]; rfl) rfl rfl (Nat.le_of_eq rfl) (by decide) (by decide) (by decide) (by decide) ?_
          rintro T31 _ L31 X31 ⟨rfl, rfl, e31⟩
          show own_Go p e below _ T31 (mkF m 141 #[.val (.int i0), .val (.int i1), .val (.int i2), .val (.int (0 : Int32)), .val (.int (0 : Int32)), .val (.int (1 : Int32)), .val (.int i0), .val (.ref b23), .val (.ref b25), .val (.int (0 : Int32)), .val (.ref b23), .unset] [(.ref (if (cmpValue (FP.dcmp (FP.i2d i0) (FP.i2d i0)) .g) < (0 : Int32) then b25 else b23))])
          rw [List.append_nil] at X31
          rw [if_neg (mt (own_c4 _ _).mp hc110_27)]
          show own_Go p e below _ T31 (mkF m 141 #[.val (.int i0), .val (.int i1), .val (.int i2), .val (.int (0 : Int32)), .val (.int (0 : Int32)), .val (.int (1 : Int32)), .val (.int i0), .val (.ref b23), .val (.ref b25), .val (.int (0 : Int32)), .val (.ref b23), .unset] [(.ref b23)])
          refine own_by (T' := T31) (f' := (mkF m 143 #[.val (.int i0), .val (.int i1), .val (.int i2), .val (.int (0 : Int32)), .val (.int (0 : Int32)), .val (.int (1 : Int32)), .val (.int i0), .val (.ref b23), .val (.ref b25), .val (.int (0 : Int32)), .val (.ref b23), .val (.ref b23)] [])) (fun t k => XS.astore X31.here hx rfl (hb hby at_141) rfl rfl (l' := #[.val (.int i0), .val (.int i1), .val (.int i2), .val (.int (0 : Int32)), .val (.int (0 : Int32)), .val (.int (1 : Int32)), .val (.int i0), .val (.ref b23), .val (.ref b25), .val (.int (0 : Int32)), .val (.ref b23), .val (.ref b23)]) rfl k) ?_
          refine own_by (T' := T31) (f' := (mkF m 145 #[.val (.int i0), .val (.int i1), .val (.int i2), .val (.int (0 : Int32)), .val (.int (0 : Int32)), .val (.int (1 : Int32)), .val (.int i0), .val (.ref b23), .val (.ref b25), .val (.int (0 : Int32)), .val (.ref b23), .val (.ref b23)] [(.ref b23)])) (fun t k => XS.aload X31.here hx rfl (hb hby at_143) rfl rfl k) ?_
          refine own_by (T' := T31) (f' := (mkF m 147 #[.val (.int i0), .val (.int i1), .val (.int i2), .val (.int (0 : Int32)), .val (.int (0 : Int32)), .val (.int (1 : Int32)), .val (.int i0), .val (.ref b23), .val (.ref b25), .val (.int (0 : Int32)), .val (.ref b23), .val (.ref b23)] [(.ref b23), (.ref b23)])) (fun t k => XS.aload X31.here hx rfl (hb hby at_145) rfl rfl k) ?_
          refine own_by (T' := T31) (f' := (mkF m 150 #[.val (.int i0), .val (.int i1), .val (.int i2), .val (.int (0 : Int32)), .val (.int (0 : Int32)), .val (.int (1 : Int32)), .val (.int i0), .val (.ref b23), .val (.ref b25), .val (.int (0 : Int32)), .val (.ref b23), .val (.ref b23)] [])) (fun t k => Jvm.RoadKit.acmp (g := (mkF m 147 #[.val (.int i0), .val (.int i1), .val (.int i2), .val (.int (0 : Int32)), .val (.int (0 : Int32)), .val (.int (1 : Int32)), .val (.int i0), .val (.ref b23), .val (.ref b25), .val (.int (0 : Int32)), .val (.ref b23), .val (.ref b23)] [(.ref b23), (.ref b23)])) X31 hx rfl rfl rfl (pc0 := 147) (pc' := 150) (same := true) rfl (hb hby at_147) rfl (decide_eq_true rfl) (by decide) (by decide) k) ?_
          refine own_by (T' := T31) (f' := (mkF m 151 #[.val (.int i0), .val (.int i1), .val (.int i2), .val (.int (0 : Int32)), .val (.int (0 : Int32)), .val (.int (1 : Int32)), .val (.int i0), .val (.ref b23), .val (.ref b25), .val (.int (0 : Int32)), .val (.ref b23), .val (.ref b23)] [(.int (1 : Int32))])) (fun t k => XS.iconst X31.here hx rfl (hb hby at_150) k) ?_
          refine own_by (T' := T31) (f' := (mkF m 155 #[.val (.int i0), .val (.int i1), .val (.int i2), .val (.int (0 : Int32)), .val (.int (0 : Int32)), .val (.int (1 : Int32)), .val (.int i0), .val (.ref b23), .val (.ref b25), .val (.int (0 : Int32)), .val (.ref b23), .val (.ref b23)] [(.int (1 : Int32))])) (fun t k => XS.goto X31.here hx rfl (pc0 := 151) (pc' := 155) rfl (hb hby at_151) (by decide) (by decide) k) ?_
          refine own_retZ X31 hx hret hlk (hb hby at_155) (Or.inr rfl) (by decide) (by decide) ?_
          try rw [e31]
          exact ⟨rfl, N25⟩
    · have _ := X0
      refine own_by (T' := s₁) (f' := (mkF m 18 #[.val (.int i0), .val (.int i1), .val (.int i2), .val (.int (0 : Int32)), .unset, .unset, .unset, .unset, .unset, .unset, .unset, .unset] [])) (fun t k => XS.ifNo X0.here hx rfl (hb hby at_15) rfl ((if0 _ _).trans (feq hc15_12).1) k) ?_
      refine own_by (T' := s₁) (f' := (mkF m 19 #[.val (.int i0), .val (.int i1), .val (.int i2), .val (.int (0 : Int32)), .unset, .unset, .unset, .unset, .unset, .unset, .unset, .unset] [(.int (1 : Int32))])) (fun t k => XS.iconst X0.here hx rfl (hb hby at_18) k) ?_
      refine own_by (T' := s₁) (f' := (mkF m 23 #[.val (.int i0), .val (.int i1), .val (.int i2), .val (.int (0 : Int32)), .unset, .unset, .unset, .unset, .unset, .unset, .unset, .unset] [(.int (1 : Int32))])) (fun t k => XS.goto X0.here hx rfl (pc0 := 19) (pc' := 23) rfl (hb hby at_19) (by decide) (by decide) k) ?_
      refine own_by (T' := s₁) (f' := (mkF m 25 #[.val (.int i0), .val (.int i1), .val (.int i2), .val (.int (0 : Int32)), .val (.int (1 : Int32)), .unset, .unset, .unset, .unset, .unset, .unset, .unset] [])) (fun t k => XS.istore X0.here hx rfl (hb hby at_23) rfl (l' := #[.val (.int i0), .val (.int i1), .val (.int i2), .val (.int (0 : Int32)), .val (.int (1 : Int32)), .unset, .unset, .unset, .unset, .unset, .unset, .unset]) rfl k) ?_
      refine own_by (T' := s₁) (f' := (mkF m 26 #[.val (.int i0), .val (.int i1), .val (.int i2), .val (.int (0 : Int32)), .val (.int (1 : Int32)), .unset, .unset, .unset, .unset, .unset, .unset, .unset] [(.int i2)])) (fun t k => XS.iloadN X0.here hx rfl (hb hby at_25) rfl k) ?_
      refine own_by (T' := s₁) (f' := (mkF m 27 #[.val (.int i0), .val (.int i1), .val (.int i2), .val (.int (0 : Int32)), .val (.int (1 : Int32)), .unset, .unset, .unset, .unset, .unset, .unset, .unset] [(.int (4 : Int32)), (.int i2)])) (fun t k => XS.iconst X0.here hx rfl (hb hby at_26) k) ?_
      refine own_by (T' := s₁) (f' := (mkF m 28 #[.val (.int i0), .val (.int i1), .val (.int i2), .val (.int (0 : Int32)), .val (.int (1 : Int32)), .unset, .unset, .unset, .unset, .unset, .unset, .unset] [(.int (i2 &&& (4 : Int32)))])) (fun t k => XS.iand X0.here hx rfl (hb hby at_27) rfl k) ?_
      by_cases hc28_32 : (i2 &&& (4 : Int32)) = (0 : Int32)
      · have _ := X0
        refine own_by (T' := s₁) (f' := (mkF m 35 #[.val (.int i0), .val (.int i1), .val (.int i2), .val (.int (0 : Int32)), .val (.int (1 : Int32)), .unset, .unset, .unset, .unset, .unset, .unset, .unset] [])) (fun t k => XS.ifYes X0.here hx rfl (pc0 := 28) (pc' := 35) rfl (hb hby at_28) rfl ((if0 _ _).trans (teq hc28_32).1) (by decide) (by decide) k) ?_
        refine own_by (T' := s₁) (f' := (mkF m 36 #[.val (.int i0), .val (.int i1), .val (.int i2), .val (.int (0 : Int32)), .val (.int (1 : Int32)), .unset, .unset, .unset, .unset, .unset, .unset, .unset] [(.int (0 : Int32))])) (fun t k => XS.iconst X0.here hx rfl (hb hby at_35) k) ?_
        refine own_by (T' := s₁) (f' := (mkF m 38 #[.val (.int i0), .val (.int i1), .val (.int i2), .val (.int (0 : Int32)), .val (.int (1 : Int32)), .val (.int (0 : Int32)), .unset, .unset, .unset, .unset, .unset, .unset] [])) (fun t k => XS.istore X0.here hx rfl (hb hby at_36) rfl (l' := #[.val (.int i0), .val (.int i1), .val (.int i2), .val (.int (0 : Int32)), .val (.int (1 : Int32)), .val (.int (0 : Int32)), .unset, .unset, .unset, .unset, .unset, .unset]) rfl k) ?_
        refine own_by (T' := s₁) (f' := (mkF m 40 #[.val (.int i0), .val (.int i1), .val (.int i2), .val (.int (0 : Int32)), .val (.int (1 : Int32)), .val (.int (0 : Int32)), .unset, .unset, .unset, .unset, .unset, .unset] [(.int (0 : Int32))])) (fun t k => XS.iload X0.here hx rfl (hb hby at_38) rfl k) ?_
        refine own_by (T' := s₁) (f' := (mkF m 47 #[.val (.int i0), .val (.int i1), .val (.int i2), .val (.int (0 : Int32)), .val (.int (1 : Int32)), .val (.int (0 : Int32)), .unset, .unset, .unset, .unset, .unset, .unset] [])) (fun t k => XS.ifYes X0.here hx rfl (pc0 := 40) (pc' := 47) rfl (hb hby at_40) rfl ((if0 _ _).trans (teq (by decide)).1) (by decide) (by decide) k) ?_
        refine own_by (T' := s₁) (f' := (mkF m 48 #[.val (.int i0), .val (.int i1), .val (.int i2), .val (.int (0 : Int32)), .val (.int (1 : Int32)), .val (.int (0 : Int32)), .unset, .unset, .unset, .unset, .unset, .unset] [(.int i1)])) (fun t k => XS.iloadN X0.here hx rfl (hb hby at_47) rfl k) ?_
        refine own_by (T' := s₁) (f' := (mkF m 50 #[.val (.int i0), .val (.int i1), .val (.int i2), .val (.int (0 : Int32)), .val (.int (1 : Int32)), .val (.int (0 : Int32)), .val (.int i1), .unset, .unset, .unset, .unset, .unset] [])) (fun t k => XS.istore X0.here hx rfl (hb hby at_48) rfl (l' := #[.val (.int i0), .val (.int i1), .val (.int i2), .val (.int (0 : Int32)), .val (.int (1 : Int32)), .val (.int (0 : Int32)), .val (.int i1), .unset, .unset, .unset, .unset, .unset]) rfl k) ?_
        refine own_by (T' := s₁) (f' := (mkF m 51 #[.val (.int i0), .val (.int i1), .val (.int i2), .val (.int (0 : Int32)), .val (.int (1 : Int32)), .val (.int (0 : Int32)), .val (.int i1), .unset, .unset, .unset, .unset, .unset] [(.int (0 : Int32))])) (fun t k => XS.iloadN X0.here hx rfl (hb hby at_50) rfl k) ?_
        refine own_by (T' := s₁) (f' := (mkF m 60 #[.val (.int i0), .val (.int i1), .val (.int i2), .val (.int (0 : Int32)), .val (.int (1 : Int32)), .val (.int (0 : Int32)), .val (.int i1), .unset, .unset, .unset, .unset, .unset] [])) (fun t k => XS.ifYes X0.here hx rfl (pc0 := 51) (pc' := 60) rfl (hb hby at_51) rfl ((if0 _ _).trans (teq (by decide)).1) (by decide) (by decide) k) ?_
        refine own_by (T' := s₁) (f' := (mkF m 61 #[.val (.int i0), .val (.int i1), .val (.int i2), .val (.int (0 : Int32)), .val (.int (1 : Int32)), .val (.int (0 : Int32)), .val (.int i1), .unset, .unset, .unset, .unset, .unset] [(.int i0)])) (fun t k => XS.iloadN X0.here hx rfl (hb hby at_60) rfl k) ?_
        refine own_by (T' := s₁) (f' := (mkF m 62 #[.val (.int i0), .val (.int i1), .val (.int i2), .val (.int (0 : Int32)), .val (.int (1 : Int32)), .val (.int (0 : Int32)), .val (.int i1), .unset, .unset, .unset, .unset, .unset] [(.double (FP.i2d i0))])) (fun t k => XS.i2dS X0.here hx rfl (hb hby at_61) rfl rfl k) ?_
        refine own_callS X0 hx hZ hown e0 (hb hby at_62) [(.double (FP.i2d i0))] [] 0 (rmB l Z a0 hw [] (FP.i2d i0) h0 own_nn n0 Z0) (hw _ (List.mem_of_getElem? (i := 0) rfl)) (hw _ (List.mem_of_getElem? (i := 1) rfl)) (hw _ (List.mem_of_getElem? (i := 2) rfl)) (hw _ (List.mem_of_getElem? (i := 3) rfl)) (by decide) pd__D_Lcom_example_tollgraph_tollgraph_traversal_Threshold_ (by rw [hml]; rfl) rfl rfl (Nat.le_of_eq rfl) (by decide) (by decide) (by decide) (by decide) ?_
        rintro T33 _ L33 X33 ⟨b33, rfl, N33q, K33, A33, F33⟩
        show own_Go p e below _ T33 (mkF m 65 #[.val (.int i0), .val (.int i1), .val (.int i2), .val (.int (0 : Int32)), .val (.int (1 : Int32)), .val (.int (0 : Int32)), .val (.int i1), .unset, .unset, .unset, .unset, .unset] [(.ref b33)])
        have N33 := Fr.app N0 N33q
        have sz34 : n0 ≤ T33.heap.size := Nat.le_trans Z0 K33.1
        refine own_by (T' := T33) (f' := (mkF m 67 #[.val (.int i0), .val (.int i1), .val (.int i2), .val (.int (0 : Int32)), .val (.int (1 : Int32)), .val (.int (0 : Int32)), .val (.int i1), .val (.ref b33), .unset, .unset, .unset, .unset] [])) (fun t k => XS.astore X33.here hx rfl (hb hby at_65) rfl rfl (l' := #[.val (.int i0), .val (.int i1), .val (.int i2), .val (.int (0 : Int32)), .val (.int (1 : Int32)), .val (.int (0 : Int32)), .val (.int i1), .val (.ref b33), .unset, .unset, .unset, .unset]) rfl k) ?_
        refine own_by (T' := T33) (f' := (mkF m 69 #[.val (.int i0), .val (.int i1), .val (.int i2), .val (.int (0 : Int32)), .val (.int (1 : Int32)), .val (.int (0 : Int32)), .val (.int i1), .val (.ref b33), .unset, .unset, .unset, .unset] [(.int (1 : Int32))])) (fun t k => XS.iload X33.here hx rfl (hb hby at_67) rfl k) ?_
        refine own_by (T' := T33) (f' := (mkF m 72 #[.val (.int i0), .val (.int i1), .val (.int i2), .val (.int (0 : Int32)), .val (.int (1 : Int32)), .val (.int (0 : Int32)), .val (.int i1), .val (.ref b33), .unset, .unset, .unset, .unset] [])) (fun t k => XS.ifNo X33.here hx rfl (hb hby at_69) rfl ((if0 _ _).trans (feq (by decide)).1) k) ?_
        have f35 := (own_sta_keep S1 K33 all0)
        refine own_getS (host := "") X33 hx hZ hown rfl (hb hby at_72) (Or.inl (hw _ (List.mem_of_getElem? (i := 23) rfl))) Via.refl f35 ?_
        intro T36 X36 e36
        show own_Go p e below _ T36 (mkF m 75 #[.val (.int i0), .val (.int i1), .val (.int i2), .val (.int (0 : Int32)), .val (.int (1 : Int32)), .val (.int (0 : Int32)), .val (.int i1), .val (.ref b33), .unset, .unset, .unset, .unset] [(.ref u0)])
        refine own_by (T' := T36) (f' := (mkF m 84 #[.val (.int i0), .val (.int i1), .val (.int i2), .val (.int (0 : Int32)), .val (.int (1 : Int32)), .val (.int (0 : Int32)), .val (.int i1), .val (.ref b33), .unset, .unset, .unset, .unset] [(.ref u0)])) (fun t k => XS.goto X36.here hx rfl (pc0 := 75) (pc' := 84) rfl (hb hby at_75) (by decide) (by decide) k) ?_
        refine own_by (T' := T36) (f' := (mkF m 86 #[.val (.int i0), .val (.int i1), .val (.int i2), .val (.int (0 : Int32)), .val (.int (1 : Int32)), .val (.int (0 : Int32)), .val (.int i1), .val (.ref b33), .val (.ref u0), .unset, .unset, .unset] [])) (fun t k => XS.astore X36.here hx rfl (hb hby at_84) rfl rfl (l' := #[.val (.int i0), .val (.int i1), .val (.int i2), .val (.int (0 : Int32)), .val (.int (1 : Int32)), .val (.int (0 : Int32)), .val (.int i1), .val (.ref b33), .val (.ref u0), .unset, .unset, .unset]) rfl k) ?_
        refine own_by (T' := T36) (f' := (mkF m 88 #[.val (.int i0), .val (.int i1), .val (.int i2), .val (.int (0 : Int32)), .val (.int (1 : Int32)), .val (.int (0 : Int32)), .val (.int i1), .val (.ref b33), .val (.ref u0), .unset, .unset, .unset] [(.int (1 : Int32))])) (fun t k => XS.iload X36.here hx rfl (hb hby at_86) rfl k) ?_
        refine own_by (T' := T36) (f' := (mkF m 91 #[.val (.int i0), .val (.int i1), .val (.int i2), .val (.int (0 : Int32)), .val (.int (1 : Int32)), .val (.int (0 : Int32)), .val (.int i1), .val (.ref b33), .val (.ref u0), .unset, .unset, .unset] [])) (fun t k => XS.ifNo X36.here hx rfl (hb hby at_88) rfl ((if0 _ _).trans (feq (by decide)).1) k) ?_
        refine own_by (T' := T36) (f' := (mkF m 92 #[.val (.int i0), .val (.int i1), .val (.int i2), .val (.int (0 : Int32)), .val (.int (1 : Int32)), .val (.int (0 : Int32)), .val (.int i1), .val (.ref b33), .val (.ref u0), .unset, .unset, .unset] [(.int (0 : Int32))])) (fun t k => XS.iconst X36.here hx rfl (hb hby at_91) k) ?_
        refine own_by (T' := T36) (f' := (mkF m 94 #[.val (.int i0), .val (.int i1), .val (.int i2), .val (.int (0 : Int32)), .val (.int (1 : Int32)), .val (.int (0 : Int32)), .val (.int i1), .val (.ref b33), .val (.ref u0), .val (.int (0 : Int32)), .unset, .unset] [])) (fun t k => XS.istore X36.here hx rfl (hb hby at_92) rfl (l' := #[.val (.int i0), .val (.int i1), .val (.int i2), .val (.int (0 : Int32)), .val (.int (1 : Int32)), .val (.int (0 : Int32)), .val (.int i1), .val (.ref b33), .val (.ref u0), .val (.int (0 : Int32)), .unset, .unset]) rfl k) ?_
        refine own_by (T' := T36) (f' := (mkF m 120 #[.val (.int i0), .val (.int i1), .val (.int i2), .val (.int (0 : Int32)), .val (.int (1 : Int32)), .val (.int (0 : Int32)), .val (.int i1), .val (.ref b33), .val (.ref u0), .val (.int (0 : Int32)), .unset, .unset] [])) (fun t k => XS.goto X36.here hx rfl (pc0 := 94) (pc' := 120) rfl (hb hby at_94) (by decide) (by decide) k) ?_
        refine own_by (T' := T36) (f' := (mkF m 122 #[.val (.int i0), .val (.int i1), .val (.int i2), .val (.int (0 : Int32)), .val (.int (1 : Int32)), .val (.int (0 : Int32)), .val (.int i1), .val (.ref b33), .val (.ref u0), .val (.int (0 : Int32)), .unset, .unset] [(.int (0 : Int32))])) (fun t k => XS.iload X36.here hx rfl (hb hby at_120) rfl k) ?_
        refine own_by (T' := T36) (f' := (mkF m 130 #[.val (.int i0), .val (.int i1), .val (.int i2), .val (.int (0 : Int32)), .val (.int (1 : Int32)), .val (.int (0 : Int32)), .val (.int i1), .val (.ref b33), .val (.ref u0), .val (.int (0 : Int32)), .unset, .unset] [])) (fun t k => XS.ifYes X36.here hx rfl (pc0 := 122) (pc' := 130) rfl (hb hby at_122) rfl ((if0 _ _).trans (teq (by decide)).1) (by decide) (by decide) k) ?_
        refine own_by (T' := T36) (f' := (mkF m 132 #[.val (.int i0), .val (.int i1), .val (.int i2), .val (.int (0 : Int32)), .val (.int (1 : Int32)), .val (.int (0 : Int32)), .val (.int i1), .val (.ref b33), .val (.ref u0), .val (.int (0 : Int32)), .unset, .unset] [(.ref b33)])) (fun t k => XS.aload X36.here hx rfl (hb hby at_130) rfl rfl k) ?_
        refine own_by (T' := T36) (f' := (mkF m 134 #[.val (.int i0), .val (.int i1), .val (.int i2), .val (.int (0 : Int32)), .val (.int (1 : Int32)), .val (.int (0 : Int32)), .val (.int i1), .val (.ref b33), .val (.ref u0), .val (.int (0 : Int32)), .val (.ref b33), .unset] [])) (fun t k => XS.astore X36.here hx rfl (hb hby at_132) rfl rfl (l' := #[.val (.int i0), .val (.int i1), .val (.int i2), .val (.int (0 : Int32)), .val (.int (1 : Int32)), .val (.int (0 : Int32)), .val (.int i1), .val (.ref b33), .val (.ref u0), .val (.int (0 : Int32)), .val (.ref b33), .unset]) rfl k) ?_
        refine own_by (T' := T36) (f' := (mkF m 136 #[.val (.int i0), .val (.int i1), .val (.int i2), .val (.int (0 : Int32)), .val (.int (1 : Int32)), .val (.int (0 : Int32)), .val (.int i1), .val (.ref b33), .val (.ref u0), .val (.int (0 : Int32)), .val (.ref b33), .unset] [(.ref b33)])) (fun t k => XS.aload X36.here hx rfl (hb hby at_134) rfl rfl k) ?_
        refine own_by (T' := T36) (f' := (mkF m 138 #[.val (.int i0), .val (.int i1), .val (.int i2), .val (.int (0 : Int32)), .val (.int (1 : Int32)), .val (.int (0 : Int32)), .val (.int i1), .val (.ref b33), .val (.ref u0), .val (.int (0 : Int32)), .val (.ref b33), .unset] [(.ref u0), (.ref b33)])) (fun t k => XS.aload X36.here hx rfl (hb hby at_136) rfl rfl k) ?_
        have f37 := (F1.keep K33 nin0)
        refine own_callS X36 hx hZ hown e36 (hb hby at_138) [(.ref b33), (.ref u0)] [] 0 (rmM l Z a0 hw [] b33 u0 _ _ T33.heap F33 f37) (hw _ (List.mem_of_getElem? (i := 25) rfl)) (hw _ (List.mem_of_getElem? (i := 26) rfl)) (hw _ (List.mem_of_getElem? (i := 2) rfl)) (hw _ (List.mem_of_getElem? (i := 27) rfl)) (by decide) pd__Lcom_example_tollgraph_tollgraph_traversal_Threshold_Lcom_example_tollgraph_tollgraph_traversal_Threshold__Lcom_example_tollgraph_tollgraph_traversal_Threshold_ (by rw [hml]; rfl) rfl rfl (Nat.le_of_eq rfl) (by decide) (by decide) (by decide) (by decide) ?_
        rintro T38 _ L38 X38 ⟨rfl, rfl, e38⟩
        show own_Go p e below _ T38 (mkF m 141 #[.val (.int i0), .val (.int i1), .val (.int i2), .val (.int (0 : Int32)), .val (.int (1 : Int32)), .val (.int (0 : Int32)), .val (.int i1), .val (.ref b33), .val (.ref u0), .val (.int (0 : Int32)), .val (.ref b33), .unset] [(.ref (if (cmpValue (FP.dcmp 9218868437227405312 (FP.i2d i0)) .g) < (0 : Int32) then u0 else b33))])
        rw [List.append_nil] at X38
        rw [if_neg (own_c2 _)]
        show own_Go p e below _ T38 (mkF m 141 #[.val (.int i0), .val (.int i1), .val (.int i2), .val (.int (0 : Int32)), .val (.int (1 : Int32)), .val (.int (0 : Int32)), .val (.int i1), .val (.ref b33), .val (.ref u0), .val (.int (0 : Int32)), .val (.ref b33), .unset] [(.ref b33)])
        refine own_by (T' := T38) (f' := (mkF m 143 #[.val (.int i0), .val (.int i1), .val (.int i2), .val (.int (0 : Int32)), .val (.int (1 : Int32)), .val (.int (0 : Int32)), .val (.int i1), .val (.ref b33), .val (.ref u0), .val (.int (0 : Int32)), .val (.ref b33), .val (.ref b33)] [])) (fun t k => XS.astore X38.here hx rfl (hb hby at_141) rfl rfl (l' := #[.val (.int i0), .val (.int i1), .val (.int i2), .val (.int (0 : Int32)), .val (.int (1 : Int32)), .val (.int (0 : Int32)), .val (.int i1), .val (.ref b33), .val (.ref u0), .val (.int (0 : Int32)), .val (.ref b33), .val (.ref b33)]) rfl k) ?_
        refine own_by (T' := T38) (f' := (mkF m 145 #[.val (.int i0), .val (.int i1), .val (.int i2), .val (.int (0 : Int32)), .val (.int (1 : Int32)), .val (.int (0 : Int32)), .val (.int i1), .val (.ref b33), .val (.ref u0), .val (.int (0 : Int32)), .val (.ref b33), .val (.ref b33)] [(.ref b33)])) (fun t k => XS.aload X38.here hx rfl (hb hby at_143) rfl rfl k) ?_
        refine own_by (T' := T38) (f' := (mkF m 147 #[.val (.int i0), .val (.int i1), .val (.int i2), .val (.int (0 : Int32)), .val (.int (1 : Int32)), .val (.int (0 : Int32)), .val (.int i1), .val (.ref b33), .val (.ref u0), .val (.int (0 : Int32)), .val (.ref b33), .val (.ref b33)] [(.ref b33), (.ref b33)])) (fun t k => XS.aload X38.here hx rfl (hb hby at_145) rfl rfl k) ?_
        refine own_by (T' := T38) (f' := (mkF m 150 #[.val (.int i0), .val (.int i1), .val (.int i2), .val (.int (0 : Int32)), .val (.int (1 : Int32)), .val (.int (0 : Int32)), .val (.int i1), .val (.ref b33), .val (.ref u0), .val (.int (0 : Int32)), .val (.ref b33), .val (.ref b33)] [])) (fun t k => Jvm.RoadKit.acmp (g := (mkF m 147 #[.val (.int i0), .val (.int i1), .val (.int i2), .val (.int (0 : Int32)), .val (.int (1 : Int32)), .val (.int (0 : Int32)), .val (.int i1), .val (.ref b33), .val (.ref u0), .val (.int (0 : Int32)), .val (.ref b33), .val (.ref b33)] [(.ref b33), (.ref b33)])) X38 hx rfl rfl rfl (pc0 := 147) (pc' := 150) (same := true) rfl (hb hby at_147) rfl (decide_eq_true rfl) (by decide) (by decide) k) ?_
        refine own_by (T' := T38) (f' := (mkF m 151 #[.val (.int i0), .val (.int i1), .val (.int i2), .val (.int (0 : Int32)), .val (.int (1 : Int32)), .val (.int (0 : Int32)), .val (.int i1), .val (.ref b33), .val (.ref u0), .val (.int (0 : Int32)), .val (.ref b33), .val (.ref b33)] [(.int (1 : Int32))])) (fun t k => XS.iconst X38.here hx rfl (hb hby at_150) k) ?_
        refine own_by (T' := T38) (f' := (mkF m 155 #[.val (.int i0), .val (.int i1), .val (.int i2), .val (.int (0 : Int32)), .val (.int (1 : Int32)), .val (.int (0 : Int32)), .val (.int i1), .val (.ref b33), .val (.ref u0), .val (.int (0 : Int32)), .val (.ref b33), .val (.ref b33)] [(.int (1 : Int32))])) (fun t k => XS.goto X38.here hx rfl (pc0 := 151) (pc' := 155) rfl (hb hby at_151) (by decide) (by decide) k) ?_
        refine own_retZ X38 hx hret hlk (hb hby at_155) (Or.inr rfl) (by decide) (by decide) ?_
        try rw [e38]
        exact ⟨rfl, N33⟩
      · have _ := X0
        refine own_by (T' := s₁) (f' := (mkF m 31 #[.val (.int i0), .val (.int i1), .val (.int i2), .val (.int (0 : Int32)), .val (.int (1 : Int32)), .unset, .unset, .unset, .unset, .unset, .unset, .unset] [])) (fun t k => XS.ifNo X0.here hx rfl (hb hby at_28) rfl ((if0 _ _).trans (feq hc28_32).1) k) ?_
        refine own_by (T' := s₁) (f' := (mkF m 32 #[.val (.int i0), .val (.int i1), .val (.int i2), .val (.int (0 : Int32)), .val (.int (1 : Int32)), .unset, .unset, .unset, .unset, .unset, .unset, .unset] [(.int (1 : Int32))])) (fun t k => XS.iconst X0.here hx rfl (hb hby at_31) k) ?_
        refine own_by (T' := s₁) (f' := (mkF m 36 #[.val (.int i0), .val (.int i1), .val (.int i2), .val (.int (0 : Int32)), .val (.int (1 : Int32)), .unset, .unset, .unset, .unset, .unset, .unset, .unset] [(.int (1 : Int32))])) (fun t k => XS.goto X0.here hx rfl (pc0 := 32) (pc' := 36) rfl (hb hby at_32) (by decide) (by decide) k) ?_
        refine own_by (T' := s₁) (f' := (mkF m 38 #[.val (.int i0), .val (.int i1), .val (.int i2), .val (.int (0 : Int32)), .val (.int (1 : Int32)), .val (.int (1 : Int32)), .unset, .unset, .unset, .unset, .unset, .unset] [])) (fun t k => XS.istore X0.here hx rfl (hb hby at_36) rfl (l' := #[.val (.int i0), .val (.int i1), .val (.int i2), .val (.int (0 : Int32)), .val (.int (1 : Int32)), .val (.int (1 : Int32)), .unset, .unset, .unset, .unset, .unset, .unset]) rfl k) ?_
        refine own_by (T' := s₁) (f' := (mkF m 40 #[.val (.int i0), .val (.int i1), .val (.int i2), .val (.int (0 : Int32)), .val (.int (1 : Int32)), .val (.int (1 : Int32)), .unset, .unset, .unset, .unset, .unset, .unset] [(.int (1 : Int32))])) (fun t k => XS.iload X0.here hx rfl (hb hby at_38) rfl k) ?_
        refine own_by (T' := s₁) (f' := (mkF m 43 #[.val (.int i0), .val (.int i1), .val (.int i2), .val (.int (0 : Int32)), .val (.int (1 : Int32)), .val (.int (1 : Int32)), .unset, .unset, .unset, .unset, .unset, .unset] [])) (fun t k => XS.ifNo X0.here hx rfl (hb hby at_40) rfl ((if0 _ _).trans (feq (by decide)).1) k) ?_
        refine own_by (T' := s₁) (f' := (mkF m 44 #[.val (.int i0), .val (.int i1), .val (.int i2), .val (.int (0 : Int32)), .val (.int (1 : Int32)), .val (.int (1 : Int32)), .unset, .unset, .unset, .unset, .unset, .unset] [(.int i0)])) (fun t k => XS.iloadN X0.here hx rfl (hb hby at_43) rfl k) ?_
        refine own_by (T' := s₁) (f' := (mkF m 48 #[.val (.int i0), .val (.int i1), .val (.int i2), .val (.int (0 : Int32)), .val (.int (1 : Int32)), .val (.int (1 : Int32)), .unset, .unset, .unset, .unset, .unset, .unset] [(.int i0)])) (fun t k => XS.goto X0.here hx rfl (pc0 := 44) (pc' := 48) rfl (hb hby at_44) (by decide) (by decide) k) ?_
        refine own_by (T' := s₁) (f' := (mkF m 50 #[.val (.int i0), .val (.int i1), .val (.int i2), .val (.int (0 : Int32)), .val (.int (1 : Int32)), .val (.int (1 : Int32)), .val (.int i0), .unset, .unset, .unset, .unset, .unset] [])) (fun t k => XS.istore X0.here hx rfl (hb hby at_48) rfl (l' := #[.val (.int i0), .val (.int i1), .val (.int i2), .val (.int (0 : Int32)), .val (.int (1 : Int32)), .val (.int (1 : Int32)), .val (.int i0), .unset, .unset, .unset, .unset, .unset]) rfl k) ?_
        refine own_by (T' := s₁) (f' := (mkF m 51 #[.val (.int i0), .val (.int i1), .val (.int i2), .val (.int (0 : Int32)), .val (.int (1 : Int32)), .val (.int (1 : Int32)), .val (.int i0), .unset, .unset, .unset, .unset, .unset] [(.int (0 : Int32))])) (fun t k => XS.iloadN X0.here hx rfl (hb hby at_50) rfl k) ?_
        refine own_by (T' := s₁) (f' := (mkF m 60 #[.val (.int i0), .val (.int i1), .val (.int i2), .val (.int (0 : Int32)), .val (.int (1 : Int32)), .val (.int (1 : Int32)), .val (.int i0), .unset, .unset, .unset, .unset, .unset] [])) (fun t k => XS.ifYes X0.here hx rfl (pc0 := 51) (pc' := 60) rfl (hb hby at_51) rfl ((if0 _ _).trans (teq (by decide)).1) (by decide) (by decide) k) ?_
        refine own_by (T' := s₁) (f' := (mkF m 61 #[.val (.int i0), .val (.int i1), .val (.int i2), .val (.int (0 : Int32)), .val (.int (1 : Int32)), .val (.int (1 : Int32)), .val (.int i0), .unset, .unset, .unset, .unset, .unset] [(.int i0)])) (fun t k => XS.iloadN X0.here hx rfl (hb hby at_60) rfl k) ?_
        refine own_by (T' := s₁) (f' := (mkF m 62 #[.val (.int i0), .val (.int i1), .val (.int i2), .val (.int (0 : Int32)), .val (.int (1 : Int32)), .val (.int (1 : Int32)), .val (.int i0), .unset, .unset, .unset, .unset, .unset] [(.double (FP.i2d i0))])) (fun t k => XS.i2dS X0.here hx rfl (hb hby at_61) rfl rfl k) ?_
        refine own_callS X0 hx hZ hown e0 (hb hby at_62) [(.double (FP.i2d i0))] [] 0 (rmB l Z a0 hw [] (FP.i2d i0) h0 own_nn n0 Z0) (hw _ (List.mem_of_getElem? (i := 0) rfl)) (hw _ (List.mem_of_getElem? (i := 1) rfl)) (hw _ (List.mem_of_getElem? (i := 2) rfl)) (hw _ (List.mem_of_getElem? (i := 3) rfl)) (by decide) pd__D_Lcom_example_tollgraph_tollgraph_traversal_Threshold_ (by rw [hml]; rfl) rfl rfl (Nat.le_of_eq rfl) (by decide) (by decide) (by decide) (by decide) ?_
        rintro T39 _ L39 X39 ⟨b39, rfl, N39q, K39, A39, F39⟩
        show own_Go p e below _ T39 (mkF m 65 #[.val (.int i0), .val (.int i1), .val (.int i2), .val (.int (0 : Int32)), .val (.int (1 : Int32)), .val (.int (1 : Int32)), .val (.int i0), .unset, .unset, .unset, .unset, .unset] [(.ref b39)])
        have N39 := Fr.app N0 N39q
        have sz40 : n0 ≤ T39.heap.size := Nat.le_trans Z0 K39.1
        refine own_by (T' := T39) (f' := (mkF m 67 #[.val (.int i0), .val (.int i1), .val (.int i2), .val (.int (0 : Int32)), .val (.int (1 : Int32)), .val (.int (1 : Int32)), .val (.int i0), .val (.ref b39), .unset, .unset, .unset, .unset] [])) (fun t k => XS.astore X39.here hx rfl (hb hby at_65) rfl rfl (l' := #[.val (.int i0), .val (.int i1), .val (.int i2), .val (.int (0 : Int32)), .val (.int (1 : Int32)), .val (.int (1 : Int32)), .val (.int i0), .val (.ref b39), .unset, .unset, .unset, .unset]) rfl k) ?_
        refine own_by (T' := T39) (f' := (mkF m 69 #[.val (.int i0), .val (.int i1), .val (.int i2), .val (.int (0 : Int32)), .val (.int (1 : Int32)), .val (.int (1 : Int32)), .val (.int i0), .val (.ref b39), .unset, .unset, .unset, .unset] [(.int (1 : Int32))])) (fun t k => XS.iload X39.here hx rfl (hb hby at_67) rfl k) ?_
        refine own_by (T' := T39) (f' := (mkF m 72 #[.val (.int i0), .val (.int i1), .val (.int i2), .val (.int (0 : Int32)), .val (.int (1 : Int32)), .val (.int (1 : Int32)), .val (.int i0), .val (.ref b39), .unset, .unset, .unset, .unset] [])) (fun t k => XS.ifNo X39.here hx rfl (hb hby at_69) rfl ((if0 _ _).trans (feq (by decide)).1) k) ?_
        have f41 := (own_sta_keep S1 K39 all0)
        refine own_getS (host := "") X39 hx hZ hown rfl (hb hby at_72) (Or.inl (hw _ (List.mem_of_getElem? (i := 23) rfl))) Via.refl f41 ?_
        intro T42 X42 e42
        show own_Go p e below _ T42 (mkF m 75 #[.val (.int i0), .val (.int i1), .val (.int i2), .val (.int (0 : Int32)), .val (.int (1 : Int32)), .val (.int (1 : Int32)), .val (.int i0), .val (.ref b39), .unset, .unset, .unset, .unset] [(.ref u0)])
        refine own_by (T' := T42) (f' := (mkF m 84 #[.val (.int i0), .val (.int i1), .val (.int i2), .val (.int (0 : Int32)), .val (.int (1 : Int32)), .val (.int (1 : Int32)), .val (.int i0), .val (.ref b39), .unset, .unset, .unset, .unset] [(.ref u0)])) (fun t k => XS.goto X42.here hx rfl (pc0 := 75) (pc' := 84) rfl (hb hby at_75) (by decide) (by decide) k) ?_
        refine own_by (T' := T42) (f' := (mkF m 86 #[.val (.int i0), .val (.int i1), .val (.int i2), .val (.int (0 : Int32)), .val (.int (1 : Int32)), .val (.int (1 : Int32)), .val (.int i0), .val (.ref b39), .val (.ref u0), .unset, .unset, .unset] [])) (fun t k => XS.astore X42.here hx rfl (hb hby at_84) rfl rfl (l' := #[.val (.int i0), .val (.int i1), .val (.int i2), .val (.int (0 : Int32)), .val (.int (1 : Int32)), .val (.int (1 : Int32)), .val (.int i0), .val (.ref b39), .val (.ref u0), .unset, .unset, .unset]) rfl k) ?_
        refine own_by (T' := T42) (f' := (mkF m 88 #[.val (.int i0), .val (.int i1), .val (.int i2), .val (.int (0 : Int32)), .val (.int (1 : Int32)), .val (.int (1 : Int32)), .val (.int i0), .val (.ref b39), .val (.ref u0), .unset, .unset, .unset] [(.int (1 : Int32))])) (fun t k => XS.iload X42.here hx rfl (hb hby at_86) rfl k) ?_
        refine own_by (T' := T42) (f' := (mkF m 91 #[.val (.int i0), .val (.int i1), .val (.int i2), .val (.int (0 : Int32)), .val (.int (1 : Int32)), .val (.int (1 : Int32)), .val (.int i0), .val (.ref b39), .val (.ref u0), .unset, .unset, .unset] [])) (fun t k => XS.ifNo X42.here hx rfl (hb hby at_88) rfl ((if0 _ _).trans (feq (by decide)).1) k) ?_
        refine own_by (T' := T42) (f' := (mkF m 92 #[.val (.int i0), .val (.int i1), .val (.int i2), .val (.int (0 : Int32)), .val (.int (1 : Int32)), .val (.int (1 : Int32)), .val (.int i0), .val (.ref b39), .val (.ref u0), .unset, .unset, .unset] [(.int (0 : Int32))])) (fun t k => XS.iconst X42.here hx rfl (hb hby at_91) k) ?_
        refine own_by (T' := T42) (f' := (mkF m 94 #[.val (.int i0), .val (.int i1), .val (.int i2), .val (.int (0 : Int32)), .val (.int (1 : Int32)), .val (.int (1 : Int32)), .val (.int i0), .val (.ref b39), .val (.ref u0), .val (.int (0 : Int32)), .unset, .unset] [])) (fun t k => XS.istore X42.here hx rfl (hb hby at_92) rfl (l' := #[.val (.int i0), .val (.int i1), .val (.int i2), .val (.int (0 : Int32)), .val (.int (1 : Int32)), .val (.int (1 : Int32)), .val (.int i0), .val (.ref b39), .val (.ref u0), .val (.int (0 : Int32)), .unset, .unset]) rfl k) ?_
        refine own_by (T' := T42) (f' := (mkF m 120 #[.val (.int i0), .val (.int i1), .val (.int i2), .val (.int (0 : Int32)), .val (.int (1 : Int32)), .val (.int (1 : Int32)), .val (.int i0), .val (.ref b39), .val (.ref u0), .val (.int (0 : Int32)), .unset, .unset] [])) (fun t k => XS.goto X42.here hx rfl (pc0 := 94) (pc' := 120) rfl (hb hby at_94) (by decide) (by decide) k) ?_
        refine own_by (T' := T42) (f' := (mkF m 122 #[.val (.int i0), .val (.int i1), .val (.int i2), .val (.int (0 : Int32)), .val (.int (1 : Int32)), .val (.int (1 : Int32)), .val (.int i0), .val (.ref b39), .val (.ref u0), .val (.int (0 : Int32)), .unset, .unset] [(.int (0 : Int32))])) (fun t k => XS.iload X42.here hx rfl (hb hby at_120) rfl k) ?_
        refine own_by (T' := T42) (f' := (mkF m 130 #[.val (.int i0), .val (.int i1), .val (.int i2), .val (.int (0 : Int32)), .val (.int (1 : Int32)), .val (.int (1 : Int32)), .val (.int i0), .val (.ref b39), .val (.ref u0), .val (.int (0 : Int32)), .unset, .unset] [])) (fun t k => XS.ifYes X42.here hx rfl (pc0 := 122) (pc' := 130) rfl (hb hby at_122) rfl ((if0 _ _).trans (teq (by decide)).1) (by decide) (by decide) k) ?_
        refine own_by (T' := T42) (f' := (mkF m 132 #[.val (.int i0), .val (.int i1), .val (.int i2), .val (.int (0 : Int32)), .val (.int (1 : Int32)), .val (.int (1 : Int32)), .val (.int i0), .val (.ref b39), .val (.ref u0), .val (.int (0 : Int32)), .unset, .unset] [(.ref b39)])) (fun t k => XS.aload X42.here hx rfl (hb hby at_130) rfl rfl k) ?_
        refine own_by (T' := T42) (f' := (mkF m 134 #[.val (.int i0), .val (.int i1), .val (.int i2), .val (.int (0 : Int32)), .val (.int (1 : Int32)), .val (.int (1 : Int32)), .val (.int i0), .val (.ref b39), .val (.ref u0), .val (.int (0 : Int32)), .val (.ref b39), .unset] [])) (fun t k => XS.astore X42.here hx rfl (hb hby at_132) rfl rfl (l' := #[.val (.int i0), .val (.int i1), .val (.int i2), .val (.int (0 : Int32)), .val (.int (1 : Int32)), .val (.int (1 : Int32)), .val (.int i0), .val (.ref b39), .val (.ref u0), .val (.int (0 : Int32)), .val (.ref b39), .unset]) rfl k) ?_
        refine own_by (T' := T42) (f' := (mkF m 136 #[.val (.int i0), .val (.int i1), .val (.int i2), .val (.int (0 : Int32)), .val (.int (1 : Int32)), .val (.int (1 : Int32)), .val (.int i0), .val (.ref b39), .val (.ref u0), .val (.int (0 : Int32)), .val (.ref b39), .unset] [(.ref b39)])) (fun t k => XS.aload X42.here hx rfl (hb hby at_134) rfl rfl k) ?_
        refine own_by (T' := T42) (f' := (mkF m 138 #[.val (.int i0), .val (.int i1), .val (.int i2), .val (.int (0 : Int32)), .val (.int (1 : Int32)), .val (.int (1 : Int32)), .val (.int i0), .val (.ref b39), .val (.ref u0), .val (.int (0 : Int32)), .val (.ref b39), .unset] [(.ref u0), (.ref b39)])) (fun t k => XS.aload X42.here hx rfl (hb hby at_136) rfl rfl k) ?_
        have f43 := (F1.keep K39 nin0)
        refine own_callS X42 hx hZ hown e42 (hb hby at_138) [(.ref b39), (.ref u0)] [] 0 (rmM l Z a0 hw [] b39 u0 _ _ T39.heap F39 f43) (hw _ (List.mem_of_getElem? (i := 25) rfl)) (hw _ (List.mem_of_getElem? (i := 26) rfl)) (hw _ (List.mem_of_getElem? (i := 2) rfl)) (hw _ (List.mem_of_getElem? (i := 27) rfl)) (by decide) pd__Lcom_example_tollgraph_tollgraph_traversal_Threshold_Lcom_example_tollgraph_tollgraph_traversal_Threshold__Lcom_example_tollgraph_tollgraph_traversal_Threshold_ (by rw [hml]; rfl) rfl rfl (Nat.le_of_eq rfl) (by decide) (by decide) (by decide) (by decide) ?_
        rintro T44 _ L44 X44 ⟨rfl, rfl, e44⟩
        show own_Go p e below _ T44 (mkF m 141 #[.val (.int i0), .val (.int i1), .val (.int i2), .val (.int (0 : Int32)), .val (.int (1 : Int32)), .val (.int (1 : Int32)), .val (.int i0), .val (.ref b39), .val (.ref u0), .val (.int (0 : Int32)), .val (.ref b39), .unset] [(.ref (if (cmpValue (FP.dcmp 9218868437227405312 (FP.i2d i0)) .g) < (0 : Int32) then u0 else b39))])
        rw [List.append_nil] at X44
        rw [if_neg (own_c2 _)]
        show own_Go p e below _ T44 (mkF m 141 #[.val (.int i0), .val (.int i1), .val (.int i2), .val (.int (0 : Int32)), .val (.int (1 : Int32)), .val (.int (1 : Int32)), .val (.int i0), .val (.ref b39), .val (.ref u0), .val (.int (0 : Int32)), .val (.ref b39), .unset] [(.ref b39)])
        refine own_by (T' := T44) (f' := (mkF m 143 #[.val (.int i0), .val (.int i1), .val (.int i2), .val (.int (0 : Int32)), .val (.int (1 : Int32)), .val (.int (1 : Int32)), .val (.int i0), .val (.ref b39), .val (.ref u0), .val (.int (0 : Int32)), .val (.ref b39), .val (.ref b39)] [])) (fun t k => XS.astore X44.here hx rfl (hb hby at_141) rfl rfl (l' := #[.val (.int i0), .val (.int i1), .val (.int i2), .val (.int (0 : Int32)), .val (.int (1 : Int32)), .val (.int (1 : Int32)), .val (.int i0), .val (.ref b39), .val (.ref u0), .val (.int (0 : Int32)), .val (.ref b39), .val (.ref b39)]) rfl k) ?_
        refine own_by (T' := T44) (f' := (mkF m 145 #[.val (.int i0), .val (.int i1), .val (.int i2), .val (.int (0 : Int32)), .val (.int (1 : Int32)), .val (.int (1 : Int32)), .val (.int i0), .val (.ref b39), .val (.ref u0), .val (.int (0 : Int32)), .val (.ref b39), .val (.ref b39)] [(.ref b39)])) (fun t k => XS.aload X44.here hx rfl (hb hby at_143) rfl rfl k) ?_
        refine own_by (T' := T44) (f' := (mkF m 147 #[.val (.int i0), .val (.int i1), .val (.int i2), .val (.int (0 : Int32)), .val (.int (1 : Int32)), .val (.int (1 : Int32)), .val (.int i0), .val (.ref b39), .val (.ref u0), .val (.int (0 : Int32)), .val (.ref b39), .val (.ref b39)] [(.ref b39), (.ref b39)])) (fun t k => XS.aload X44.here hx rfl (hb hby at_145) rfl rfl k) ?_
        refine own_by (T' := T44) (f' := (mkF m 150 #[.val (.int i0), .val (.int i1), .val (.int i2), .val (.int (0 : Int32)), .val (.int (1 : Int32)), .val (.int (1 : Int32)), .val (.int i0), .val (.ref b39), .val (.ref u0), .val (.int (0 : Int32)), .val (.ref b39), .val (.ref b39)] [])) (fun t k => Jvm.RoadKit.acmp (g := (mkF m 147 #[.val (.int i0), .val (.int i1), .val (.int i2), .val (.int (0 : Int32)), .val (.int (1 : Int32)), .val (.int (1 : Int32)), .val (.int i0), .val (.ref b39), .val (.ref u0), .val (.int (0 : Int32)), .val (.ref b39), .val (.ref b39)] [(.ref b39), (.ref b39)])) X44 hx rfl rfl rfl (pc0 := 147) (pc' := 150) (same := true) rfl (hb hby at_147) rfl (decide_eq_true rfl) (by decide) (by decide) k) ?_
        refine own_by (T' := T44) (f' := (mkF m 151 #[.val (.int i0), .val (.int i1), .val (.int i2), .val (.int (0 : Int32)), .val (.int (1 : Int32)), .val (.int (1 : Int32)), .val (.int i0), .val (.ref b39), .val (.ref u0), .val (.int (0 : Int32)), .val (.ref b39), .val (.ref b39)] [(.int (1 : Int32))])) (fun t k => XS.iconst X44.here hx rfl (hb hby at_150) k) ?_
        refine own_by (T' := T44) (f' := (mkF m 155 #[.val (.int i0), .val (.int i1), .val (.int i2), .val (.int (0 : Int32)), .val (.int (1 : Int32)), .val (.int (1 : Int32)), .val (.int i0), .val (.ref b39), .val (.ref u0), .val (.int (0 : Int32)), .val (.ref b39), .val (.ref b39)] [(.int (1 : Int32))])) (fun t k => XS.goto X44.here hx rfl (pc0 := 151) (pc' := 155) rfl (hb hby at_151) (by decide) (by decide) k) ?_
        refine own_retZ X44 hx hret hlk (hb hby at_155) (Or.inr rfl) (by decide) (by decide) ?_
        try rw [e44]
        exact ⟨rfl, N39⟩
  · have _ := X0
    refine own_by (T' := s₁) (f' := (mkF m 6 #[.val (.int i0), .val (.int i1), .val (.int i2), .unset, .unset, .unset, .unset, .unset, .unset, .unset, .unset, .unset] [])) (fun t k => XS.ifNo X0.here hx rfl (hb hby at_3) rfl ((if0 _ _).trans (feq hc3_11).1) k) ?_
    refine own_by (T' := s₁) (f' := (mkF m 7 #[.val (.int i0), .val (.int i1), .val (.int i2), .unset, .unset, .unset, .unset, .unset, .unset, .unset, .unset, .unset] [(.int (1 : Int32))])) (fun t k => XS.iconst X0.here hx rfl (hb hby at_6) k) ?_
    refine own_by (T' := s₁) (f' := (mkF m 11 #[.val (.int i0), .val (.int i1), .val (.int i2), .unset, .unset, .unset, .unset, .unset, .unset, .unset, .unset, .unset] [(.int (1 : Int32))])) (fun t k => XS.goto X0.here hx rfl (pc0 := 7) (pc' := 11) rfl (hb hby at_7) (by decide) (by decide) k) ?_
    refine own_by (T' := s₁) (f' := (mkF m 12 #[.val (.int i0), .val (.int i1), .val (.int i2), .val (.int (1 : Int32)), .unset, .unset, .unset, .unset, .unset, .unset, .unset, .unset] [])) (fun t k => XS.istoreN X0.here hx rfl (hb hby at_11) rfl (l' := #[.val (.int i0), .val (.int i1), .val (.int i2), .val (.int (1 : Int32)), .unset, .unset, .unset, .unset, .unset, .unset, .unset, .unset]) rfl k) ?_
    refine own_by (T' := s₁) (f' := (mkF m 13 #[.val (.int i0), .val (.int i1), .val (.int i2), .val (.int (1 : Int32)), .unset, .unset, .unset, .unset, .unset, .unset, .unset, .unset] [(.int i2)])) (fun t k => XS.iloadN X0.here hx rfl (hb hby at_12) rfl k) ?_
    refine own_by (T' := s₁) (f' := (mkF m 14 #[.val (.int i0), .val (.int i1), .val (.int i2), .val (.int (1 : Int32)), .unset, .unset, .unset, .unset, .unset, .unset, .unset, .unset] [(.int (2 : Int32)), (.int i2)])) (fun t k => XS.iconst X0.here hx rfl (hb hby at_13) k) ?_
    refine own_by (T' := s₁) (f' := (mkF m 15 #[.val (.int i0), .val (.int i1), .val (.int i2), .val (.int (1 : Int32)), .unset, .unset, .unset, .unset, .unset, .unset, .unset, .unset] [(.int (i2 &&& (2 : Int32)))])) (fun t k => XS.iand X0.here hx rfl (hb hby at_14) rfl k) ?_
    by_cases hc15_45 : (i2 &&& (2 : Int32)) = (0 : Int32)
    · have _ := X0
      refine own_by (T' := s₁) (f' := (mkF m 22 #[.val (.int i0), .val (.int i1), .val (.int i2), .val (.int (1 : Int32)), .unset, .unset, .unset, .unset, .unset, .unset, .unset, .unset] [])) (fun t k => XS.ifYes X0.here hx rfl (pc0 := 15) (pc' := 22) rfl (hb hby at_15) rfl ((if0 _ _).trans (teq hc15_45).1) (by decide) (by decide) k) ?_
      refine own_by (T' := s₁) (f' := (mkF m 23 #[.val (.int i0), .val (.int i1), .val (.int i2), .val (.int (1 : Int32)), .unset, .unset, .unset, .unset, .unset, .unset, .unset, .unset] [(.int (0 : Int32))])) (fun t k => XS.iconst X0.here hx rfl (hb hby at_22) k) ?_
      refine own_by (T' := s₁) (f' := (mkF m 25 #[.val (.int i0), .val (.int i1), .val (.int i2), .val (.int (1 : Int32)), .val (.int (0 : Int32)), .unset, .unset, .unset, .unset, .unset, .unset, .unset] [])) (fun t k => XS.istore X0.here hx rfl (hb hby at_23) rfl (l' := #[.val (.int i0), .val (.int i1), .val (.int i2), .val (.int (1 : Int32)), .val (.int (0 : Int32)), .unset, .unset, .unset, .unset, .unset, .unset, .unset]) rfl k) ?_
      refine own_by (T' := s₁) (f' := (mkF m 26 #[.val (.int i0), .val (.int i1), .val (.int i2), .val (.int (1 : Int32)), .val (.int (0 : Int32)), .unset, .unset, .unset, .unset, .unset, .unset, .unset] [(.int i2)])) (fun t k => XS.iloadN X0.here hx rfl (hb hby at_25) rfl k) ?_
      refine own_by (T' := s₁) (f' := (mkF m 27 #[.val (.int i0), .val (.int i1), .val (.int i2), .val (.int (1 : Int32)), .val (.int (0 : Int32)), .unset, .unset, .unset, .unset, .unset, .unset, .unset] [(.int (4 : Int32)), (.int i2)])) (fun t k => XS.iconst X0.here hx rfl (hb hby at_26) k) ?_
      refine own_by (T' := s₁) (f' := (mkF m 28 #[.val (.int i0), .val (.int i1), .val (.int i2), .val (.int (1 : Int32)), .val (.int (0 : Int32)), .unset, .unset, .unset, .unset, .unset, .unset, .unset] [(.int (i2 &&& (4 : Int32)))])) (fun t k => XS.iand X0.here hx rfl (hb hby at_27) rfl k) ?_
      by_cases hc28_46 : (i2 &&& (4 : Int32)) = (0 : Int32)
      · have _ := X0
        refine own_by (T' := s₁) (f' := (mkF m 35 #[.val (.int i0), .val (.int i1), .val (.int i2), .val (.int (1 : Int32)), .val (.int (0 : Int32)), .unset, .unset, .unset, .unset, .unset, .unset, .unset] [])) (fun t k => XS.ifYes X0.here hx rfl (pc0 := 28) (pc' := 35) rfl (hb hby at_28) rfl ((if0 _ _).trans (teq hc28_46).1) (by decide) (by decide) k) ?_
        refine own_by (T' := s₁) (f' := (mkF m 36 #[.val (.int i0), .val (.int i1), .val (.int i2), .val (.int (1 : Int32)), .val (.int (0 : Int32)), .unset, .unset, .unset, .unset, .unset, .unset, .unset] [(.int (0 : Int32))])) (fun t k => XS.iconst X0.here hx rfl (hb hby at_35) k) ?_
        refine own_by (T' := s₁) (f' := (mkF m 38 #[.val (.int i0), .val (.int i1), .val (.int i2), .val (.int (1 : Int32)), .val (.int (0 : Int32)), .val (.int (0 : Int32)), .unset, .unset, .unset, .unset, .unset, .unset] [])) (fun t k => XS.istore X0.here hx rfl (hb hby at_36) rfl (l' := #[.val (.int i0), .val (.int i1), .val (.int i2), .val (.int (1 : Int32)), .val (.int (0 : Int32)), .val (.int (0 : Int32)), .unset, .unset, .unset, .unset, .unset, .unset]) rfl k) ?_
        refine own_by (T' := s₁) (f' := (mkF m 40 #[.val (.int i0), .val (.int i1), .val (.int i2), .val (.int (1 : Int32)), .val (.int (0 : Int32)), .val (.int (0 : Int32)), .unset, .unset, .unset, .unset, .unset, .unset] [(.int (0 : Int32))])) (fun t k => XS.iload X0.here hx rfl (hb hby at_38) rfl k) ?_
        refine own_by (T' := s₁) (f' := (mkF m 47 #[.val (.int i0), .val (.int i1), .val (.int i2), .val (.int (1 : Int32)), .val (.int (0 : Int32)), .val (.int (0 : Int32)), .unset, .unset, .unset, .unset, .unset, .unset] [])) (fun t k => XS.ifYes X0.here hx rfl (pc0 := 40) (pc' := 47) rfl (hb hby at_40) rfl ((if0 _ _).trans (teq (by decide)).1) (by decide) (by decide) k) ?_
        refine own_by (T' := s₁) (f' := (mkF m 48 #[.val (.int i0), .val (.int i1), .val (.int i2), .val (.int (1 : Int32)), .val (.int (0 : Int32)), .val (.int (0 : Int32)), .unset, .unset, .unset, .unset, .unset, .unset] [(.int i1)])) (fun t k => XS.iloadN X0.here hx rfl (hb hby at_47) rfl k) ?_
        refine own_by (T' := s₁) (f' := (mkF m 50 #[.val (.int i0), .val (.int i1), .val (.int i2), .val (.int (1 : Int32)), .val (.int (0 : Int32)), .val (.int (0 : Int32)), .val (.int i1), .unset, .unset, .unset, .unset, .unset] [])) (fun t k => XS.istore X0.here hx rfl (hb hby at_48) rfl (l' := #[.val (.int i0), .val (.int i1), .val (.int i2), .val (.int (1 : Int32)), .val (.int (0 : Int32)), .val (.int (0 : Int32)), .val (.int i1), .unset, .unset, .unset, .unset, .unset]) rfl k) ?_
        refine own_by (T' := s₁) (f' := (mkF m 51 #[.val (.int i0), .val (.int i1), .val (.int i2), .val (.int (1 : Int32)), .val (.int (0 : Int32)), .val (.int (0 : Int32)), .val (.int i1), .unset, .unset, .unset, .unset, .unset] [(.int (1 : Int32))])) (fun t k => XS.iloadN X0.here hx rfl (hb hby at_50) rfl k) ?_
        refine own_by (T' := s₁) (f' := (mkF m 54 #[.val (.int i0), .val (.int i1), .val (.int i2), .val (.int (1 : Int32)), .val (.int (0 : Int32)), .val (.int (0 : Int32)), .val (.int i1), .unset, .unset, .unset, .unset, .unset] [])) (fun t k => XS.ifNo X0.here hx rfl (hb hby at_51) rfl ((if0 _ _).trans (feq (by decide)).1) k) ?_
        refine own_getS (host := "") X0 hx hZ hown e0 (hb hby at_54) (Or.inl (hw _ (List.mem_of_getElem? (i := 23) rfl))) Via.refl S1 ?_
        intro T47 X47 e47
        show own_Go p e below _ T47 (mkF m 57 #[.val (.int i0), .val (.int i1), .val (.int i2), .val (.int (1 : Int32)), .val (.int (0 : Int32)), .val (.int (0 : Int32)), .val (.int i1), .unset, .unset, .unset, .unset, .unset] [(.ref u0)])
        refine own_by (T' := T47) (f' := (mkF m 65 #[.val (.int i0), .val (.int i1), .val (.int i2), .val (.int (1 : Int32)), .val (.int (0 : Int32)), .val (.int (0 : Int32)), .val (.int i1), .unset, .unset, .unset, .unset, .unset] [(.ref u0)])) (fun t k => XS.goto X47.here hx rfl (pc0 := 57) (pc' := 65) rfl (hb hby at_57) (by decide) (by decide) k) ?_
        refine own_by (T' := T47) (f' := (mkF m 67 #[.val (.int i0), .val (.int i1), .val (.int i2), .val (.int (1 : Int32)), .val (.int (0 : Int32)), .val (.int (0 : Int32)), .val (.int i1), .val (.ref u0), .unset, .unset, .unset, .unset] [])) (fun t k => XS.astore X47.here hx rfl (hb hby at_65) rfl rfl (l' := #[.val (.int i0), .val (.int i1), .val (.int i2), .val (.int (1 : Int32)), .val (.int (0 : Int32)), .val (.int (0 : Int32)), .val (.int i1), .val (.ref u0), .unset, .unset, .unset, .unset]) rfl k) ?_
        refine own_by (T' := T47) (f' := (mkF m 69 #[.val (.int i0), .val (.int i1), .val (.int i2), .val (.int (1 : Int32)), .val (.int (0 : Int32)), .val (.int (0 : Int32)), .val (.int i1), .val (.ref u0), .unset, .unset, .unset, .unset] [(.int (0 : Int32))])) (fun t k => XS.iload X47.here hx rfl (hb hby at_67) rfl k) ?_
        refine own_by (T' := T47) (f' := (mkF m 78 #[.val (.int i0), .val (.int i1), .val (.int i2), .val (.int (1 : Int32)), .val (.int (0 : Int32)), .val (.int (0 : Int32)), .val (.int i1), .val (.ref u0), .unset, .unset, .unset, .unset] [])) (fun t k => XS.ifYes X47.here hx rfl (pc0 := 69) (pc' := 78) rfl (hb hby at_69) rfl ((if0 _ _).trans (teq (by decide)).1) (by decide) (by decide) k) ?_
        refine own_by (T' := T47) (f' := (mkF m 80 #[.val (.int i0), .val (.int i1), .val (.int i2), .val (.int (1 : Int32)), .val (.int (0 : Int32)), .val (.int (0 : Int32)), .val (.int i1), .val (.ref u0), .unset, .unset, .unset, .unset] [(.int i1)])) (fun t k => XS.iload X47.here hx rfl (hb hby at_78) rfl k) ?_
        refine own_by (T' := T47) (f' := (mkF m 81 #[.val (.int i0), .val (.int i1), .val (.int i2), .val (.int (1 : Int32)), .val (.int (0 : Int32)), .val (.int (0 : Int32)), .val (.int i1), .val (.ref u0), .unset, .unset, .unset, .unset] [(.double (FP.i2d i1))])) (fun t k => XS.i2dS X47.here hx rfl (hb hby at_80) rfl rfl k) ?_
        refine own_callS X47 hx hZ hown e47 (hb hby at_81) [(.double (FP.i2d i1))] [] 0 (rmB l Z a0 hw [] (FP.i2d i1) h0 own_nn n0 Z0) (hw _ (List.mem_of_getElem? (i := 0) rfl)) (hw _ (List.mem_of_getElem? (i := 1) rfl)) (hw _ (List.mem_of_getElem? (i := 2) rfl)) (hw _ (List.mem_of_getElem? (i := 3) rfl)) (by decide) pd__D_Lcom_example_tollgraph_tollgraph_traversal_Threshold_ (by rw [hml]; rfl) rfl rfl (Nat.le_of_eq rfl) (by decide) (by decide) (by decide) (by decide) ?_
        rintro T48 _ L48 X48 ⟨b48, rfl, N48q, K48, A48, F48⟩
        show own_Go p e below _ T48 (mkF m 84 #[.val (.int i0), .val (.int i1), .val (.int i2), .val (.int (1 : Int32)), .val (.int (0 : Int32)), .val (.int (0 : Int32)), .val (.int i1), .val (.ref u0), .unset, .unset, .unset, .unset] [(.ref b48)])
        have N48 := Fr.app N0 N48q
        have sz49 : n0 ≤ T48.heap.size := Nat.le_trans Z0 K48.1
        refine own_by (T' := T48) (f' := (mkF m 86 #[.val (.int i0), .val (.int i1), .val (.int i2), .val (.int (1 : Int32)), .val (.int (0 : Int32)), .val (.int (0 : Int32)), .val (.int i1), .val (.ref u0), .val (.ref b48), .unset, .unset, .unset] [])) (fun t k => XS.astore X48.here hx rfl (hb hby at_84) rfl rfl (l' := #[.val (.int i0), .val (.int i1), .val (.int i2), .val (.int (1 : Int32)), .val (.int (0 : Int32)), .val (.int (0 : Int32)), .val (.int i1), .val (.ref u0), .val (.ref b48), .unset, .unset, .unset]) rfl k) ?_
        refine own_by (T' := T48) (f' := (mkF m 88 #[.val (.int i0), .val (.int i1), .val (.int i2), .val (.int (1 : Int32)), .val (.int (0 : Int32)), .val (.int (0 : Int32)), .val (.int i1), .val (.ref u0), .val (.ref b48), .unset, .unset, .unset] [(.int (0 : Int32))])) (fun t k => XS.iload X48.here hx rfl (hb hby at_86) rfl k) ?_
        refine own_by (T' := T48) (f' := (mkF m 97 #[.val (.int i0), .val (.int i1), .val (.int i2), .val (.int (1 : Int32)), .val (.int (0 : Int32)), .val (.int (0 : Int32)), .val (.int i1), .val (.ref u0), .val (.ref b48), .unset, .unset, .unset] [])) (fun t k => XS.ifYes X48.here hx rfl (pc0 := 88) (pc' := 97) rfl (hb hby at_88) rfl ((if0 _ _).trans (teq (by decide)).1) (by decide) (by decide) k) ?_
        refine own_by (T' := T48) (f' := (mkF m 98 #[.val (.int i0), .val (.int i1), .val (.int i2), .val (.int (1 : Int32)), .val (.int (0 : Int32)), .val (.int (0 : Int32)), .val (.int i1), .val (.ref u0), .val (.ref b48), .unset, .unset, .unset] [(.int (1 : Int32))])) (fun t k => XS.iloadN X48.here hx rfl (hb hby at_97) rfl k) ?_
        refine own_by (T' := T48) (f' := (mkF m 101 #[.val (.int i0), .val (.int i1), .val (.int i2), .val (.int (1 : Int32)), .val (.int (0 : Int32)), .val (.int (0 : Int32)), .val (.int i1), .val (.ref u0), .val (.ref b48), .unset, .unset, .unset] [])) (fun t k => XS.ifNo X48.here hx rfl (hb hby at_98) rfl ((if0 _ _).trans (feq (by decide)).1) k) ?_
        refine own_by (T' := T48) (f' := (mkF m 102 #[.val (.int i0), .val (.int i1), .val (.int i2), .val (.int (1 : Int32)), .val (.int (0 : Int32)), .val (.int (0 : Int32)), .val (.int i1), .val (.ref u0), .val (.ref b48), .unset, .unset, .unset] [(.int (1 : Int32))])) (fun t k => XS.iconst X48.here hx rfl (hb hby at_101) k) ?_
        refine own_by (T' := T48) (f' := (mkF m 104 #[.val (.int i0), .val (.int i1), .val (.int i2), .val (.int (1 : Int32)), .val (.int (0 : Int32)), .val (.int (0 : Int32)), .val (.int i1), .val (.ref u0), .val (.ref b48), .val (.int (1 : Int32)), .unset, .unset] [])) (fun t k => XS.istore X48.here hx rfl (hb hby at_102) rfl (l' := #[.val (.int i0), .val (.int i1), .val (.int i2), .val (.int (1 : Int32)), .val (.int (0 : Int32)), .val (.int (0 : Int32)), .val (.int i1), .val (.ref u0), .val (.ref b48), .val (.int (1 : Int32)), .unset, .unset]) rfl k) ?_
        refine own_by (T' := T48) (f' := (mkF m 120 #[.val (.int i0), .val (.int i1), .val (.int i2), .val (.int (1 : Int32)), .val (.int (0 : Int32)), .val (.int (0 : Int32)), .val (.int i1), .val (.ref u0), .val (.ref b48), .val (.int (1 : Int32)), .unset, .unset] [])) (fun t k => XS.goto X48.here hx rfl (pc0 := 104) (pc' := 120) rfl (hb hby at_104) (by decide) (by decide) k) ?_
        refine own_by (T' := T48) (f' := (mkF m 122 #[.val (.int i0), .val (.int i1), .val (.int i2), .val (.int (1 : Int32)), .val (.int (0 : Int32)), .val (.int (0 : Int32)), .val (.int i1), .val (.ref u0), .val (.ref b48), .val (.int (1 : Int32)), .unset, .unset] [(.int (1 : Int32))])) (fun t k => XS.iload X48.here hx rfl (hb hby at_120) rfl k) ?_
        refine own_by (T' := T48) (f' := (mkF m 125 #[.val (.int i0), .val (.int i1), .val (.int i2), .val (.int (1 : Int32)), .val (.int (0 : Int32)), .val (.int (0 : Int32)), .val (.int i1), .val (.ref u0), .val (.ref b48), .val (.int (1 : Int32)), .unset, .unset] [])) (fun t k => XS.ifNo X48.here hx rfl (hb hby at_122) rfl ((if0 _ _).trans (feq (by decide)).1) k) ?_
        refine own_by (T' := T48) (f' := (mkF m 127 #[.val (.int i0), .val (.int i1), .val (.int i2), .val (.int (1 : Int32)), .val (.int (0 : Int32)), .val (.int (0 : Int32)), .val (.int i1), .val (.ref u0), .val (.ref b48), .val (.int (1 : Int32)), .unset, .unset] [(.ref b48)])) (fun t k => XS.aload X48.here hx rfl (hb hby at_125) rfl rfl k) ?_
        refine own_by (T' := T48) (f' := (mkF m 132 #[.val (.int i0), .val (.int i1), .val (.int i2), .val (.int (1 : Int32)), .val (.int (0 : Int32)), .val (.int (0 : Int32)), .val (.int i1), .val (.ref u0), .val (.ref b48), .val (.int (1 : Int32)), .unset, .unset] [(.ref b48)])) (fun t k => XS.goto X48.here hx rfl (pc0 := 127) (pc' := 132) rfl (hb hby at_127) (by decide) (by decide) k) ?_
        refine own_by (T' := T48) (f' := (mkF m 134 #[.val (.int i0), .val (.int i1), .val (.int i2), .val (.int (1 : Int32)), .val (.int (0 : Int32)), .val (.int (0 : Int32)), .val (.int i1), .val (.ref u0), .val (.ref b48), .val (.int (1 : Int32)), .val (.ref b48), .unset] [])) (fun t k => XS.astore X48.here hx rfl (hb hby at_132) rfl rfl (l' := #[.val (.int i0), .val (.int i1), .val (.int i2), .val (.int (1 : Int32)), .val (.int (0 : Int32)), .val (.int (0 : Int32)), .val (.int i1), .val (.ref u0), .val (.ref b48), .val (.int (1 : Int32)), .val (.ref b48), .unset]) rfl k) ?_
        refine own_by (T' := T48) (f' := (mkF m 136 #[.val (.int i0), .val (.int i1), .val (.int i2), .val (.int (1 : Int32)), .val (.int (0 : Int32)), .val (.int (0 : Int32)), .val (.int i1), .val (.ref u0), .val (.ref b48), .val (.int (1 : Int32)), .val (.ref b48), .unset] [(.ref u0)])) (fun t k => XS.aload X48.here hx rfl (hb hby at_134) rfl rfl k) ?_
        refine own_by (T' := T48) (f' := (mkF m 138 #[.val (.int i0), .val (.int i1), .val (.int i2), .val (.int (1 : Int32)), .val (.int (0 : Int32)), .val (.int (0 : Int32)), .val (.int i1), .val (.ref u0), .val (.ref b48), .val (.int (1 : Int32)), .val (.ref b48), .unset] [(.ref b48), (.ref u0)])) (fun t k => XS.aload X48.here hx rfl (hb hby at_136) rfl rfl k) ?_
        have f50 := (F1.keep K48 nin0)
        refine own_callS X48 hx hZ hown rfl (hb hby at_138) [(.ref u0), (.ref b48)] [] 0 (rmM l Z a0 hw [] u0 b48 _ _ T48.heap f50 F48) (hw _ (List.mem_of_getElem? (i := 25) rfl)) (hw _ (List.mem_of_getElem? (i := 26) rfl)) (hw _ (List.mem_of_getElem? (i := 2) rfl)) (hw _ (List.mem_of_getElem? (i := 27) rfl)) (by decide) pd__Lcom_example_tollgraph_tollgraph_traversal_Threshold_Lcom_example_tollgraph_tollgraph_traversal_Threshold__Lcom_example_tollgraph_tollgraph_traversal_Threshold_ (by rw [hml]; rfl) rfl rfl (Nat.le_of_eq rfl) (by decide) (by decide) (by decide) (by decide) ?_
        rintro T51 _ L51 X51 ⟨rfl, rfl, e51⟩
        show own_Go p e below _ T51 (mkF m 141 #[.val (.int i0), .val (.int i1), .val (.int i2), .val (.int (1 : Int32)), .val (.int (0 : Int32)), .val (.int (0 : Int32)), .val (.int i1), .val (.ref u0), .val (.ref b48), .val (.int (1 : Int32)), .val (.ref b48), .unset] [(.ref (if (cmpValue (FP.dcmp (FP.i2d i1) 9218868437227405312) .g) < (0 : Int32) then b48 else u0))])
        rw [List.append_nil] at X51
        rw [if_pos (own_c3 _)]
        show own_Go p e below _ T51 (mkF m 141 #[.val (.int i0), .val (.int i1), .val (.int i2), .val (.int (1 : Int32)), .val (.int (0 : Int32)), .val (.int (0 : Int32)), .val (.int i1), .val (.ref u0), .val (.ref b48), .val (.int (1 : Int32)), .val (.ref b48), .unset] [(.ref b48)])
        refine own_by (T' := T51) (f' := (mkF m 143 #[.val (.int i0), .val (.int i1), .val (.int i2), .val (.int (1 : Int32)), .val (.int (0 : Int32)), .val (.int (0 : Int32)), .val (.int i1), .val (.ref u0), .val (.ref b48), .val (.int (1 : Int32)), .val (.ref b48), .val (.ref b48)] [])) (fun t k => XS.astore X51.here hx rfl (hb hby at_141) rfl rfl (l' := #[.val (.int i0), .val (.int i1), .val (.int i2), .val (.int (1 : Int32)), .val (.int (0 : Int32)), .val (.int (0 : Int32)), .val (.int i1), .val (.ref u0), .val (.ref b48), .val (.int (1 : Int32)), .val (.ref b48), .val (.ref b48)]) rfl k) ?_
        refine own_by (T' := T51) (f' := (mkF m 145 #[.val (.int i0), .val (.int i1), .val (.int i2), .val (.int (1 : Int32)), .val (.int (0 : Int32)), .val (.int (0 : Int32)), .val (.int i1), .val (.ref u0), .val (.ref b48), .val (.int (1 : Int32)), .val (.ref b48), .val (.ref b48)] [(.ref b48)])) (fun t k => XS.aload X51.here hx rfl (hb hby at_143) rfl rfl k) ?_
        refine own_by (T' := T51) (f' := (mkF m 147 #[.val (.int i0), .val (.int i1), .val (.int i2), .val (.int (1 : Int32)), .val (.int (0 : Int32)), .val (.int (0 : Int32)), .val (.int i1), .val (.ref u0), .val (.ref b48), .val (.int (1 : Int32)), .val (.ref b48), .val (.ref b48)] [(.ref b48), (.ref b48)])) (fun t k => XS.aload X51.here hx rfl (hb hby at_145) rfl rfl k) ?_
        refine own_by (T' := T51) (f' := (mkF m 150 #[.val (.int i0), .val (.int i1), .val (.int i2), .val (.int (1 : Int32)), .val (.int (0 : Int32)), .val (.int (0 : Int32)), .val (.int i1), .val (.ref u0), .val (.ref b48), .val (.int (1 : Int32)), .val (.ref b48), .val (.ref b48)] [])) (fun t k => Jvm.RoadKit.acmp (g := (mkF m 147 #[.val (.int i0), .val (.int i1), .val (.int i2), .val (.int (1 : Int32)), .val (.int (0 : Int32)), .val (.int (0 : Int32)), .val (.int i1), .val (.ref u0), .val (.ref b48), .val (.int (1 : Int32)), .val (.ref b48), .val (.ref b48)] [(.ref b48), (.ref b48)])) X51 hx rfl rfl rfl (pc0 := 147) (pc' := 150) (same := true) rfl (hb hby at_147) rfl (decide_eq_true rfl) (by decide) (by decide) k) ?_
        refine own_by (T' := T51) (f' := (mkF m 151 #[.val (.int i0), .val (.int i1), .val (.int i2), .val (.int (1 : Int32)), .val (.int (0 : Int32)), .val (.int (0 : Int32)), .val (.int i1), .val (.ref u0), .val (.ref b48), .val (.int (1 : Int32)), .val (.ref b48), .val (.ref b48)] [(.int (1 : Int32))])) (fun t k => XS.iconst X51.here hx rfl (hb hby at_150) k) ?_
        refine own_by (T' := T51) (f' := (mkF m 155 #[.val (.int i0), .val (.int i1), .val (.int i2), .val (.int (1 : Int32)), .val (.int (0 : Int32)), .val (.int (0 : Int32)), .val (.int i1), .val (.ref u0), .val (.ref b48), .val (.int (1 : Int32)), .val (.ref b48), .val (.ref b48)] [(.int (1 : Int32))])) (fun t k => XS.goto X51.here hx rfl (pc0 := 151) (pc' := 155) rfl (hb hby at_151) (by decide) (by decide) k) ?_
        refine own_retZ X51 hx hret hlk (hb hby at_155) (Or.inr rfl) (by decide) (by decide) ?_
        try rw [e51]
        exact ⟨rfl, N48⟩
      · have _ := X0
        refine own_by (T' := s₁) (f' := (mkF m 31 #[.val (.int i0), .val (.int i1), .val (.int i2), .val (.int (1 : Int32)), .val (.int (0 : Int32)), .unset, .unset, .unset, .unset, .unset, .unset, .unset] [])) (fun t k => XS.ifNo X0.here hx rfl (hb hby at_28) rfl ((if0 _ _).trans (feq hc28_46).1) k) ?_
        refine own_by (T' := s₁) (f' := (mkF m 32 #[.val (.int i0), .val (.int i1), .val (.int i2), .val (.int (1 : Int32)), .val (.int (0 : Int32)), .unset, .unset, .unset, .unset, .unset, .unset, .unset] [(.int (1 : Int32))])) (fun t k => XS.iconst X0.here hx rfl (hb hby at_31) k) ?_
        refine own_by (T' := s₁) (f' := (mkF m 36 #[.val (.int i0), .val (.int i1), .val (.int i2), .val (.int (1 : Int32)), .val (.int (0 : Int32)), .unset, .unset, .unset, .unset, .unset, .unset, .unset] [(.int (1 : Int32))])) (fun t k => XS.goto X0.here hx rfl (pc0 := 32) (pc' := 36) rfl (hb hby at_32) (by decide) (by decide) k) ?_
        refine own_by (T' := s₁) (f' := (mkF m 38 #[.val (.int i0), .val (.int i1), .val (.int i2), .val (.int (1 : Int32)), .val (.int (0 : Int32)), .val (.int (1 : Int32)), .unset, .unset, .unset, .unset, .unset, .unset] [])) (fun t k => XS.istore X0.here hx rfl (hb hby at_36) rfl (l' := #[.val (.int i0), .val (.int i1), .val (.int i2), .val (.int (1 : Int32)), .val (.int (0 : Int32)), .val (.int (1 : Int32)), .unset, .unset, .unset, .unset, .unset, .unset]) rfl k) ?_
        refine own_by (T' := s₁) (f' := (mkF m 40 #[.val (.int i0), .val (.int i1), .val (.int i2), .val (.int (1 : Int32)), .val (.int (0 : Int32)), .val (.int (1 : Int32)), .unset, .unset, .unset, .unset, .unset, .unset] [(.int (1 : Int32))])) (fun t k => XS.iload X0.here hx rfl (hb hby at_38) rfl k) ?_
        refine own_by (T' := s₁) (f' := (mkF m 43 #[.val (.int i0), .val (.int i1), .val (.int i2), .val (.int (1 : Int32)), .val (.int (0 : Int32)), .val (.int (1 : Int32)), .unset, .unset, .unset, .unset, .unset, .unset] [])) (fun t k => XS.ifNo X0.here hx rfl (hb hby at_40) rfl ((if0 _ _).trans (feq (by decide)).1) k) ?_
        refine own_by (T' := s₁) (f' := (mkF m 44 #[.val (.int i0), .val (.int i1), .val (.int i2), .val (.int (1 : Int32)), .val (.int (0 : Int32)), .val (.int (1 : Int32)), .unset, .unset, .unset, .unset, .unset, .unset] [(.int i0)])) (fun t k => XS.iloadN X0.here hx rfl (hb hby at_43) rfl k) ?_
        refine own_by (T' := s₁) (f' := (mkF m 48 #[.val (.int i0), .val (.int i1), .val (.int i2), .val (.int (1 : Int32)), .val (.int (0 : Int32)), .val (.int (1 : Int32)), .unset, .unset, .unset, .unset, .unset, .unset] [(.int i0)])) (fun t k => XS.goto X0.here hx rfl (pc0 := 44) (pc' := 48) rfl (hb hby at_44) (by decide) (by decide) k) ?_
        refine own_by (T' := s₁) (f' := (mkF m 50 #[.val (.int i0), .val (.int i1), .val (.int i2), .val (.int (1 : Int32)), .val (.int (0 : Int32)), .val (.int (1 : Int32)), .val (.int i0), .unset, .unset, .unset, .unset, .unset] [])) (fun t k => XS.istore X0.here hx rfl (hb hby at_48) rfl (l' := #[.val (.int i0), .val (.int i1), .val (.int i2), .val (.int (1 : Int32)), .val (.int (0 : Int32)), .val (.int (1 : Int32)), .val (.int i0), .unset, .unset, .unset, .unset, .unset]) rfl k) ?_
        refine own_by (T' := s₁) (f' := (mkF m 51 #[.val (.int i0), .val (.int i1), .val (.int i2), .val (.int (1 : Int32)), .val (.int (0 : Int32)), .val (.int (1 : Int32)), .val (.int i0), .unset, .unset, .unset, .unset, .unset] [(.int (1 : Int32))])) (fun t k => XS.iloadN X0.here hx rfl (hb hby at_50) rfl k) ?_
        refine own_by (T' := s₁) (f' := (mkF m 54 #[.val (.int i0), .val (.int i1), .val (.int i2), .val (.int (1 : Int32)), .val (.int (0 : Int32)), .val (.int (1 : Int32)), .val (.int i0), .unset, .unset, .unset, .unset, .unset] [])) (fun t k => XS.ifNo X0.here hx rfl (hb hby at_51) rfl ((if0 _ _).trans (feq (by decide)).1) k) ?_
        refine own_getS (host := "") X0 hx hZ hown e0 (hb hby at_54) (Or.inl (hw _ (List.mem_of_getElem? (i := 23) rfl))) Via.refl S1 ?_
        intro T52 X52 e52
        show own_Go p e below _ T52 (mkF m 57 #[.val (.int i0), .val (.int i1), .val (.int i2), .val (.int (1 : Int32)), .val (.int (0 : Int32)), .val (.int (1 : Int32)), .val (.int i0), .unset, .unset, .unset, .unset, .unset] [(.ref u0)])
        refine own_by (T' := T52) (f' := (mkF m 65 #[.val (.int i0), .val (.int i1), .val (.int i2), .val (.int (1 : Int32)), .val (.int (0 : Int32)), .val (.int (1 : Int32)), .val (.int i0), .unset, .unset, .unset, .unset, .unset] [(.ref u0)])) (fun t k => XS.goto X52.here hx rfl (pc0 := 57) (pc' := 65) rfl (hb hby at_57) (by decide) (by decide) k) ?_
        refine own_by (T' := T52) (f' := (mkF m 67 #[.val (.int i0), .val (.int i1), .val (.int i2), .val (.int (1 : Int32)), .val (.int (0 : Int32)), .val (.int (1 : Int32)), .val (.int i0), .val (.ref u0), .unset, .unset, .unset, .unset] [])) (fun t k => XS.astore X52.here hx rfl (hb hby at_65) rfl rfl (l' := #[.val (.int i0), .val (.int i1), .val (.int i2), .val (.int (1 : Int32)), .val (.int (0 : Int32)), .val (.int (1 : Int32)), .val (.int i0), .val (.ref u0), .unset, .unset, .unset, .unset]) rfl k) ?_
        refine own_by (T' := T52) (f' := (mkF m 69 #[.val (.int i0), .val (.int i1), .val (.int i2), .val (.int (1 : Int32)), .val (.int (0 : Int32)), .val (.int (1 : Int32)), .val (.int i0), .val (.ref u0), .unset, .unset, .unset, .unset] [(.int (0 : Int32))])) (fun t k => XS.iload X52.here hx rfl (hb hby at_67) rfl k) ?_
        refine own_by (T' := T52) (f' := (mkF m 78 #[.val (.int i0), .val (.int i1), .val (.int i2), .val (.int (1 : Int32)), .val (.int (0 : Int32)), .val (.int (1 : Int32)), .val (.int i0), .val (.ref u0), .unset, .unset, .unset, .unset] [])) (fun t k => XS.ifYes X52.here hx rfl (pc0 := 69) (pc' := 78) rfl (hb hby at_69) rfl ((if0 _ _).trans (teq (by decide)).1) (by decide) (by decide) k) ?_
        refine own_by (T' := T52) (f' := (mkF m 80 #[.val (.int i0), .val (.int i1), .val (.int i2), .val (.int (1 : Int32)), .val (.int (0 : Int32)), .val (.int (1 : Int32)), .val (.int i0), .val (.ref u0), .unset, .unset, .unset, .unset] [(.int i0)])) (fun t k => XS.iload X52.here hx rfl (hb hby at_78) rfl k) ?_
        refine own_by (T' := T52) (f' := (mkF m 81 #[.val (.int i0), .val (.int i1), .val (.int i2), .val (.int (1 : Int32)), .val (.int (0 : Int32)), .val (.int (1 : Int32)), .val (.int i0), .val (.ref u0), .unset, .unset, .unset, .unset] [(.double (FP.i2d i0))])) (fun t k => XS.i2dS X52.here hx rfl (hb hby at_80) rfl rfl k) ?_
        refine own_callS X52 hx hZ hown e52 (hb hby at_81) [(.double (FP.i2d i0))] [] 0 (rmB l Z a0 hw [] (FP.i2d i0) h0 own_nn n0 Z0) (hw _ (List.mem_of_getElem? (i := 0) rfl)) (hw _ (List.mem_of_getElem? (i := 1) rfl)) (hw _ (List.mem_of_getElem? (i := 2) rfl)) (hw _ (List.mem_of_getElem? (i := 3) rfl)) (by decide) pd__D_Lcom_example_tollgraph_tollgraph_traversal_Threshold_ (by rw [hml]; rfl) rfl rfl (Nat.le_of_eq rfl) (by decide) (by decide) (by decide) (by decide) ?_
        rintro T53 _ L53 X53 ⟨b53, rfl, N53q, K53, A53, F53⟩
        show own_Go p e below _ T53 (mkF m 84 #[.val (.int i0), .val (.int i1), .val (.int i2), .val (.int (1 : Int32)), .val (.int (0 : Int32)), .val (.int (1 : Int32)), .val (.int i0), .val (.ref u0), .unset, .unset, .unset, .unset] [(.ref b53)])
        have N53 := Fr.app N0 N53q
        have sz54 : n0 ≤ T53.heap.size := Nat.le_trans Z0 K53.1
        refine own_by (T' := T53) (f' := (mkF m 86 #[.val (.int i0), .val (.int i1), .val (.int i2), .val (.int (1 : Int32)), .val (.int (0 : Int32)), .val (.int (1 : Int32)), .val (.int i0), .val (.ref u0), .val (.ref b53), .unset, .unset, .unset] [])) (fun t k => XS.astore X53.here hx rfl (hb hby at_84) rfl rfl (l' := #[.val (.int i0), .val (.int i1), .val (.int i2), .val (.int (1 : Int32)), .val (.int (0 : Int32)), .val (.int (1 : Int32)), .val (.int i0), .val (.ref u0), .val (.ref b53), .unset, .unset, .unset]) rfl k) ?_
        refine own_by (T' := T53) (f' := (mkF m 88 #[.val (.int i0), .val (.int i1), .val (.int i2), .val (.int (1 : Int32)), .val (.int (0 : Int32)), .val (.int (1 : Int32)), .val (.int i0), .val (.ref u0), .val (.ref b53), .unset, .unset, .unset] [(.int (0 : Int32))])) (fun t k => XS.iload X53.here hx rfl (hb hby at_86) rfl k) ?_
        refine own_by (T' := T53) (f' := (mkF m 97 #[.val (.int i0), .val (.int i1), .val (.int i2), .val (.int (1 : Int32)), .val (.int (0 : Int32)), .val (.int (1 : Int32)), .val (.int i0), .val (.ref u0), .val (.ref b53), .unset, .unset, .unset] [])) (fun t k => XS.ifYes X53.here hx rfl (pc0 := 88) (pc' := 97) rfl (hb hby at_88) rfl ((if0 _ _).trans (teq (by decide)).1) (by decide) (by decide) k) ?_
        refine own_by (T' := T53) (f' := (mkF m 98 #[.val (.int i0), .val (.int i1), .val (.int i2), .val (.int (1 : Int32)), .val (.int (0 : Int32)), .val (.int (1 : Int32)), .val (.int i0), .val (.ref u0), .val (.ref b53), .unset, .unset, .unset] [(.int (1 : Int32))])) (fun t k => XS.iloadN X53.here hx rfl (hb hby at_97) rfl k) ?_
        refine own_by (T' := T53) (f' := (mkF m 101 #[.val (.int i0), .val (.int i1), .val (.int i2), .val (.int (1 : Int32)), .val (.int (0 : Int32)), .val (.int (1 : Int32)), .val (.int i0), .val (.ref u0), .val (.ref b53), .unset, .unset, .unset] [])) (fun t k => XS.ifNo X53.here hx rfl (hb hby at_98) rfl ((if0 _ _).trans (feq (by decide)).1) k) ?_
        refine own_by (T' := T53) (f' := (mkF m 102 #[.val (.int i0), .val (.int i1), .val (.int i2), .val (.int (1 : Int32)), .val (.int (0 : Int32)), .val (.int (1 : Int32)), .val (.int i0), .val (.ref u0), .val (.ref b53), .unset, .unset, .unset] [(.int (1 : Int32))])) (fun t k => XS.iconst X53.here hx rfl (hb hby at_101) k) ?_
        refine own_by (T' := T53) (f' := (mkF m 104 #[.val (.int i0), .val (.int i1), .val (.int i2), .val (.int (1 : Int32)), .val (.int (0 : Int32)), .val (.int (1 : Int32)), .val (.int i0), .val (.ref u0), .val (.ref b53), .val (.int (1 : Int32)), .unset, .unset] [])) (fun t k => XS.istore X53.here hx rfl (hb hby at_102) rfl (l' := #[.val (.int i0), .val (.int i1), .val (.int i2), .val (.int (1 : Int32)), .val (.int (0 : Int32)), .val (.int (1 : Int32)), .val (.int i0), .val (.ref u0), .val (.ref b53), .val (.int (1 : Int32)), .unset, .unset]) rfl k) ?_
        refine own_by (T' := T53) (f' := (mkF m 120 #[.val (.int i0), .val (.int i1), .val (.int i2), .val (.int (1 : Int32)), .val (.int (0 : Int32)), .val (.int (1 : Int32)), .val (.int i0), .val (.ref u0), .val (.ref b53), .val (.int (1 : Int32)), .unset, .unset] [])) (fun t k => XS.goto X53.here hx rfl (pc0 := 104) (pc' := 120) rfl (hb hby at_104) (by decide) (by decide) k) ?_
        refine own_by (T' := T53) (f' := (mkF m 122 #[.val (.int i0), .val (.int i1), .val (.int i2), .val (.int (1 : Int32)), .val (.int (0 : Int32)), .val (.int (1 : Int32)), .val (.int i0), .val (.ref u0), .val (.ref b53), .val (.int (1 : Int32)), .unset, .unset] [(.int (1 : Int32))])) (fun t k => XS.iload X53.here hx rfl (hb hby at_120) rfl k) ?_
        refine own_by (T' := T53) (f' := (mkF m 125 #[.val (.int i0), .val (.int i1), .val (.int i2), .val (.int (1 : Int32)), .val (.int (0 : Int32)), .val (.int (1 : Int32)), .val (.int i0), .val (.ref u0), .val (.ref b53), .val (.int (1 : Int32)), .unset, .unset] [])) (fun t k => XS.ifNo X53.here hx rfl (hb hby at_122) rfl ((if0 _ _).trans (feq (by decide)).1) k) ?_
        refine own_by (T' := T53) (f' := (mkF m 127 #[.val (.int i0), .val (.int i1), .val (.int i2), .val (.int (1 : Int32)), .val (.int (0 : Int32)), .val (.int (1 : Int32)), .val (.int i0), .val (.ref u0), .val (.ref b53), .val (.int (1 : Int32)), .unset, .unset] [(.ref b53)])) (fun t k => XS.aload X53.here hx rfl (hb hby at_125) rfl rfl k) ?_
        refine own_by (T' := T53) (f' := (mkF m 132 #[.val (.int i0), .val (.int i1), .val (.int i2), .val (.int (1 : Int32)), .val (.int (0 : Int32)), .val (.int (1 : Int32)), .val (.int i0), .val (.ref u0), .val (.ref b53), .val (.int (1 : Int32)), .unset, .unset] [(.ref b53)])) (fun t k => XS.goto X53.here hx rfl (pc0 := 127) (pc' := 132) rfl (hb hby at_127) (by decide) (by decide) k) ?_
        refine own_by (T' := T53) (f' := (mkF m 134 #[.val (.int i0), .val (.int i1), .val (.int i2), .val (.int (1 : Int32)), .val (.int (0 : Int32)), .val (.int (1 : Int32)), .val (.int i0), .val (.ref u0), .val (.ref b53), .val (.int (1 : Int32)), .val (.ref b53), .unset] [])) (fun t k => XS.astore X53.here hx rfl (hb hby at_132) rfl rfl (l' := #[.val (.int i0), .val (.int i1), .val (.int i2), .val (.int (1 : Int32)), .val (.int (0 : Int32)), .val (.int (1 : Int32)), .val (.int i0), .val (.ref u0), .val (.ref b53), .val (.int (1 : Int32)), .val (.ref b53), .unset]) rfl k) ?_
        refine own_by (T' := T53) (f' := (mkF m 136 #[.val (.int i0), .val (.int i1), .val (.int i2), .val (.int (1 : Int32)), .val (.int (0 : Int32)), .val (.int (1 : Int32)), .val (.int i0), .val (.ref u0), .val (.ref b53), .val (.int (1 : Int32)), .val (.ref b53), .unset] [(.ref u0)])) (fun t k => XS.aload X53.here hx rfl (hb hby at_134) rfl rfl k) ?_
        refine own_by (T' := T53) (f' := (mkF m 138 #[.val (.int i0), .val (.int i1), .val (.int i2), .val (.int (1 : Int32)), .val (.int (0 : Int32)), .val (.int (1 : Int32)), .val (.int i0), .val (.ref u0), .val (.ref b53), .val (.int (1 : Int32)), .val (.ref b53), .unset] [(.ref b53), (.ref u0)])) (fun t k => XS.aload X53.here hx rfl (hb hby at_136) rfl rfl k) ?_
        have f55 := (F1.keep K53 nin0)
        refine own_callS X53 hx hZ hown rfl (hb hby at_138) [(.ref u0), (.ref b53)] [] 0 (rmM l Z a0 hw [] u0 b53 _ _ T53.heap f55 F53) (hw _ (List.mem_of_getElem? (i := 25) rfl)) (hw _ (List.mem_of_getElem? (i := 26) rfl)) (hw _ (List.mem_of_getElem? (i := 2) rfl)) (hw _ (List.mem_of_getElem? (i := 27) rfl)) (by decide) pd__Lcom_example_tollgraph_tollgraph_traversal_Threshold_Lcom_example_tollgraph_tollgraph_traversal_Threshold__Lcom_example_tollgraph_tollgraph_traversal_Threshold_ (by rw [hml]; rfl) rfl rfl (Nat.le_of_eq rfl) (by decide) (by decide) (by decide) (by decide) ?_
        rintro T56 _ L56 X56 ⟨rfl, rfl, e56⟩
        show own_Go p e below _ T56 (mkF m 141 #[.val (.int i0), .val (.int i1), .val (.int i2), .val (.int (1 : Int32)), .val (.int (0 : Int32)), .val (.int (1 : Int32)), .val (.int i0), .val (.ref u0), .val (.ref b53), .val (.int (1 : Int32)), .val (.ref b53), .unset] [(.ref (if (cmpValue (FP.dcmp (FP.i2d i0) 9218868437227405312) .g) < (0 : Int32) then b53 else u0))])
        rw [List.append_nil] at X56
        rw [if_pos (own_c3 _)]
        show own_Go p e below _ T56 (mkF m 141 #[.val (.int i0), .val (.int i1), .val (.int i2), .val (.int (1 : Int32)), .val (.int (0 : Int32)), .val (.int (1 : Int32)), .val (.int i0), .val (.ref u0), .val (.ref b53), .val (.int (1 : Int32)), .val (.ref b53), .unset] [(.ref b53)])
        refine own_by (T' := T56) (f' := (mkF m 143 #[.val (.int i0), .val (.int i1), .val (.int i2), .val (.int (1 : Int32)), .val (.int (0 : Int32)), .val (.int (1 : Int32)), .val (.int i0), .val (.ref u0), .val (.ref b53), .val (.int (1 : Int32)), .val (.ref b53), .val (.ref b53)] [])) (fun t k => XS.astore X56.here hx rfl (hb hby at_141) rfl rfl (l' := #[.val (.int i0), .val (.int i1), .val (.int i2), .val (.int (1 : Int32)), .val (.int (0 : Int32)), .val (.int (1 : Int32)), .val (.int i0), .val (.ref u0), .val (.ref b53), .val (.int (1 : Int32)), .val (.ref b53), .val (.ref b53)]) rfl k) ?_
        refine own_by (T' := T56) (f' := (mkF m 145 #[.val (.int i0), .val (.int i1), .val (.int i2), .val (.int (1 : Int32)), .val (.int (0 : Int32)), .val (.int (1 : Int32)), .val (.int i0), .val (.ref u0), .val (.ref b53), .val (.int (1 : Int32)), .val (.ref b53), .val (.ref b53)] [(.ref b53)])) (fun t k => XS.aload X56.here hx rfl (hb hby at_143) rfl rfl k) ?_
        refine own_by (T' := T56) (f' := (mkF m 147 #[.val (.int i0), .val (.int i1), .val (.int i2), .val (.int (1 : Int32)), .val (.int (0 : Int32)), .val (.int (1 : Int32)), .val (.int i0), .val (.ref u0), .val (.ref b53), .val (.int (1 : Int32)), .val (.ref b53), .val (.ref b53)] [(.ref b53), (.ref b53)])) (fun t k => XS.aload X56.here hx rfl (hb hby at_145) rfl rfl k) ?_
        refine own_by (T' := T56) (f' := (mkF m 150 #[.val (.int i0), .val (.int i1), .val (.int i2), .val (.int (1 : Int32)), .val (.int (0 : Int32)), .val (.int (1 : Int32)), .val (.int i0), .val (.ref u0), .val (.ref b53), .val (.int (1 : Int32)), .val (.ref b53), .val (.ref b53)] [])) (fun t k => Jvm.RoadKit.acmp (g := (mkF m 147 #[.val (.int i0), .val (.int i1), .val (.int i2), .val (.int (1 : Int32)), .val (.int (0 : Int32)), .val (.int (1 : Int32)), .val (.int i0), .val (.ref u0), .val (.ref b53), .val (.int (1 : Int32)), .val (.ref b53), .val (.ref b53)] [(.ref b53), (.ref b53)])) X56 hx rfl rfl rfl (pc0 := 147) (pc' := 150) (same := true) rfl (hb hby at_147) rfl (decide_eq_true rfl) (by decide) (by decide) k) ?_
        refine own_by (T' := T56) (f' := (mkF m 151 #[.val (.int i0), .val (.int i1), .val (.int i2), .val (.int (1 : Int32)), .val (.int (0 : Int32)), .val (.int (1 : Int32)), .val (.int i0), .val (.ref u0), .val (.ref b53), .val (.int (1 : Int32)), .val (.ref b53), .val (.ref b53)] [(.int (1 : Int32))])) (fun t k => XS.iconst X56.here hx rfl (hb hby at_150) k) ?_
        refine own_by (T' := T56) (f' := (mkF m 155 #[.val (.int i0), .val (.int i1), .val (.int i2), .val (.int (1 : Int32)), .val (.int (0 : Int32)), .val (.int (1 : Int32)), .val (.int i0), .val (.ref u0), .val (.ref b53), .val (.int (1 : Int32)), .val (.ref b53), .val (.ref b53)] [(.int (1 : Int32))])) (fun t k => XS.goto X56.here hx rfl (pc0 := 151) (pc' := 155) rfl (hb hby at_151) (by decide) (by decide) k) ?_
        refine own_retZ X56 hx hret hlk (hb hby at_155) (Or.inr rfl) (by decide) (by decide) ?_
        try rw [e56]
        exact ⟨rfl, N53⟩
    · have _ := X0
      refine own_by (T' := s₁) (f' := (mkF m 18 #[.val (.int i0), .val (.int i1), .val (.int i2), .val (.int (1 : Int32)), .unset, .unset, .unset, .unset, .unset, .unset, .unset, .unset] [])) (fun t k => XS.ifNo X0.here hx rfl (hb hby at_15) rfl ((if0 _ _).trans (feq hc15_45).1) k) ?_
      refine own_by (T' := s₁) (f' := (mkF m 19 #[.val (.int i0), .val (.int i1), .val (.int i2), .val (.int (1 : Int32)), .unset, .unset, .unset, .unset, .unset, .unset, .unset, .unset] [(.int (1 : Int32))])) (fun t k => XS.iconst X0.here hx rfl (hb hby at_18) k) ?_
      refine own_by (T' := s₁) (f' := (mkF m 23 #[.val (.int i0), .val (.int i1), .val (.int i2), .val (.int (1 : Int32)), .unset, .unset, .unset, .unset, .unset, .unset, .unset, .unset] [(.int (1 : Int32))])) (fun t k => XS.goto X0.here hx rfl (pc0 := 19) (pc' := 23) rfl (hb hby at_19) (by decide) (by decide) k) ?_
      refine own_by (T' := s₁) (f' := (mkF m 25 #[.val (.int i0), .val (.int i1), .val (.int i2), .val (.int (1 : Int32)), .val (.int (1 : Int32)), .unset, .unset, .unset, .unset, .unset, .unset, .unset] [])) (fun t k => XS.istore X0.here hx rfl (hb hby at_23) rfl (l' := #[.val (.int i0), .val (.int i1), .val (.int i2), .val (.int (1 : Int32)), .val (.int (1 : Int32)), .unset, .unset, .unset, .unset, .unset, .unset, .unset]) rfl k) ?_
      refine own_by (T' := s₁) (f' := (mkF m 26 #[.val (.int i0), .val (.int i1), .val (.int i2), .val (.int (1 : Int32)), .val (.int (1 : Int32)), .unset, .unset, .unset, .unset, .unset, .unset, .unset] [(.int i2)])) (fun t k => XS.iloadN X0.here hx rfl (hb hby at_25) rfl k) ?_
      refine own_by (T' := s₁) (f' := (mkF m 27 #[.val (.int i0), .val (.int i1), .val (.int i2), .val (.int (1 : Int32)), .val (.int (1 : Int32)), .unset, .unset, .unset, .unset, .unset, .unset, .unset] [(.int (4 : Int32)), (.int i2)])) (fun t k => XS.iconst X0.here hx rfl (hb hby at_26) k) ?_
      refine own_by (T' := s₁) (f' := (mkF m 28 #[.val (.int i0), .val (.int i1), .val (.int i2), .val (.int (1 : Int32)), .val (.int (1 : Int32)), .unset, .unset, .unset, .unset, .unset, .unset, .unset] [(.int (i2 &&& (4 : Int32)))])) (fun t k => XS.iand X0.here hx rfl (hb hby at_27) rfl k) ?_
      by_cases hc28_57 : (i2 &&& (4 : Int32)) = (0 : Int32)
      · have _ := X0
        refine own_by (T' := s₁) (f' := (mkF m 35 #[.val (.int i0), .val (.int i1), .val (.int i2), .val (.int (1 : Int32)), .val (.int (1 : Int32)), .unset, .unset, .unset, .unset, .unset, .unset, .unset] [])) (fun t k => XS.ifYes X0.here hx rfl (pc0 := 28) (pc' := 35) rfl (hb hby at_28) rfl ((if0 _ _).trans (teq hc28_57).1) (by decide) (by decide) k) ?_
        refine own_by (T' := s₁) (f' := (mkF m 36 #[.val (.int i0), .val (.int i1), .val (.int i2), .val (.int (1 : Int32)), .val (.int (1 : Int32)), .unset, .unset, .unset, .unset, .unset, .unset, .unset] [(.int (0 : Int32))])) (fun t k => XS.iconst X0.here hx rfl (hb hby at_35) k) ?_
        refine own_by (T' := s₁) (f' := (mkF m 38 #[.val (.int i0), .val (.int i1), .val (.int i2), .val (.int (1 : Int32)), .val (.int (1 : Int32)), .val (.int (0 : Int32)), .unset, .unset, .unset, .unset, .unset, .unset] [])) (fun t k => XS.istore X0.here hx rfl (hb hby at_36) rfl (l' := #[.val (.int i0), .val (.int i1), .val (.int i2), .val (.int (1 : Int32)), .val (.int (1 : Int32)), .val (.int (0 : Int32)), .unset, .unset, .unset, .unset, .unset, .unset]) rfl k) ?_
        refine own_by (T' := s₁) (f' := (mkF m 40 #[.val (.int i0), .val (.int i1), .val (.int i2), .val (.int (1 : Int32)), .val (.int (1 : Int32)), .val (.int (0 : Int32)), .unset, .unset, .unset, .unset, .unset, .unset] [(.int (0 : Int32))])) (fun t k => XS.iload X0.here hx rfl (hb hby at_38) rfl k) ?_
        refine own_by (T' := s₁) (f' := (mkF m 47 #[.val (.int i0), .val (.int i1), .val (.int i2), .val (.int (1 : Int32)), .val (.int (1 : Int32)), .val (.int (0 : Int32)), .unset, .unset, .unset, .unset, .unset, .unset] [])) (fun t k => XS.ifYes X0.here hx rfl (pc0 := 40) (pc' := 47) rfl (hb hby at_40) rfl ((if0 _ _).trans (teq (by decide)).1) (by decide) (by decide) k) ?_
        refine own_by (T' := s₁) (f' := (mkF m 48 #[.val (.int i0), .val (.int i1), .val (.int i2), .val (.int (1 : Int32)), .val (.int (1 : Int32)), .val (.int (0 : Int32)), .unset, .unset, .unset, .unset, .unset, .unset] [(.int i1)])) (fun t k => XS.iloadN X0.here hx rfl (hb hby at_47) rfl k) ?_
        refine own_by (T' := s₁) (f' := (mkF m 50 #[.val (.int i0), .val (.int i1), .val (.int i2), .val (.int (1 : Int32)), .val (.int (1 : Int32)), .val (.int (0 : Int32)), .val (.int i1), .unset, .unset, .unset, .unset, .unset] [])) (fun t k => XS.istore X0.here hx rfl (hb hby at_48) rfl (l' := #[.val (.int i0), .val (.int i1), .val (.int i2), .val (.int (1 : Int32)), .val (.int (1 : Int32)), .val (.int (0 : Int32)), .val (.int i1), .unset, .unset, .unset, .unset, .unset]) rfl k) ?_
        refine own_by (T' := s₁) (f' := (mkF m 51 #[.val (.int i0), .val (.int i1), .val (.int i2), .val (.int (1 : Int32)), .val (.int (1 : Int32)), .val (.int (0 : Int32)), .val (.int i1), .unset, .unset, .unset, .unset, .unset] [(.int (1 : Int32))])) (fun t k => XS.iloadN X0.here hx rfl (hb hby at_50) rfl k) ?_
        refine own_by (T' := s₁) (f' := (mkF m 54 #[.val (.int i0), .val (.int i1), .val (.int i2), .val (.int (1 : Int32)), .val (.int (1 : Int32)), .val (.int (0 : Int32)), .val (.int i1), .unset, .unset, .unset, .unset, .unset] [])) (fun t k => XS.ifNo X0.here hx rfl (hb hby at_51) rfl ((if0 _ _).trans (feq (by decide)).1) k) ?_
        refine own_getS (host := "") X0 hx hZ hown e0 (hb hby at_54) (Or.inl (hw _ (List.mem_of_getElem? (i := 23) rfl))) Via.refl S1 ?_
        intro T58 X58 e58
        show own_Go p e below _ T58 (mkF m 57 #[.val (.int i0), .val (.int i1), .val (.int i2), .val (.int (1 : Int32)), .val (.int (1 : Int32)), .val (.int (0 : Int32)), .val (.int i1), .unset, .unset, .unset, .unset, .unset] [(.ref u0)])
        refine own_by (T' := T58) (f' := (mkF m 65 #[.val (.int i0), .val (.int i1), .val (.int i2), .val (.int (1 : Int32)), .val (.int (1 : Int32)), .val (.int (0 : Int32)), .val (.int i1), .unset, .unset, .unset, .unset, .unset] [(.ref u0)])) (fun t k => XS.goto X58.here hx rfl (pc0 := 57) (pc' := 65) rfl (hb hby at_57) (by decide) (by decide) k) ?_
        refine own_by (T' := T58) (f' := (mkF m 67 #[.val (.int i0), .val (.int i1), .val (.int i2), .val (.int (1 : Int32)), .val (.int (1 : Int32)), .val (.int (0 : Int32)), .val (.int i1), .val (.ref u0), .unset, .unset, .unset, .unset] [])) (fun t k => XS.astore X58.here hx rfl (hb hby at_65) rfl rfl (l' := #[.val (.int i0), .val (.int i1), .val (.int i2), .val (.int (1 : Int32)), .val (.int (1 : Int32)), .val (.int (0 : Int32)), .val (.int i1), .val (.ref u0), .unset, .unset, .unset, .unset]) rfl k) ?_
        refine own_by (T' := T58) (f' := (mkF m 69 #[.val (.int i0), .val (.int i1), .val (.int i2), .val (.int (1 : Int32)), .val (.int (1 : Int32)), .val (.int (0 : Int32)), .val (.int i1), .val (.ref u0), .unset, .unset, .unset, .unset] [(.int (1 : Int32))])) (fun t k => XS.iload X58.here hx rfl (hb hby at_67) rfl k) ?_
        refine own_by (T' := T58) (f' := (mkF m 72 #[.val (.int i0), .val (.int i1), .val (.int i2), .val (.int (1 : Int32)), .val (.int (1 : Int32)), .val (.int (0 : Int32)), .val (.int i1), .val (.ref u0), .unset, .unset, .unset, .unset] [])) (fun t k => XS.ifNo X58.here hx rfl (hb hby at_69) rfl ((if0 _ _).trans (feq (by decide)).1) k) ?_
        refine own_getS (host := "") X58 hx hZ hown e58 (hb hby at_72) (Or.inl (hw _ (List.mem_of_getElem? (i := 23) rfl))) Via.refl S1 ?_
        intro T59 X59 e59
        show own_Go p e below _ T59 (mkF m 75 #[.val (.int i0), .val (.int i1), .val (.int i2), .val (.int (1 : Int32)), .val (.int (1 : Int32)), .val (.int (0 : Int32)), .val (.int i1), .val (.ref u0), .unset, .unset, .unset, .unset] [(.ref u0)])
        refine own_by (T' := T59) (f' := (mkF m 84 #[.val (.int i0), .val (.int i1), .val (.int i2), .val (.int (1 : Int32)), .val (.int (1 : Int32)), .val (.int (0 : Int32)), .val (.int i1), .val (.ref u0), .unset, .unset, .unset, .unset] [(.ref u0)])) (fun t k => XS.goto X59.here hx rfl (pc0 := 75) (pc' := 84) rfl (hb hby at_75) (by decide) (by decide) k) ?_
        refine own_by (T' := T59) (f' := (mkF m 86 #[.val (.int i0), .val (.int i1), .val (.int i2), .val (.int (1 : Int32)), .val (.int (1 : Int32)), .val (.int (0 : Int32)), .val (.int i1), .val (.ref u0), .val (.ref u0), .unset, .unset, .unset] [])) (fun t k => XS.astore X59.here hx rfl (hb hby at_84) rfl rfl (l' := #[.val (.int i0), .val (.int i1), .val (.int i2), .val (.int (1 : Int32)), .val (.int (1 : Int32)), .val (.int (0 : Int32)), .val (.int i1), .val (.ref u0), .val (.ref u0), .unset, .unset, .unset]) rfl k) ?_
        refine own_by (T' := T59) (f' := (mkF m 88 #[.val (.int i0), .val (.int i1), .val (.int i2), .val (.int (1 : Int32)), .val (.int (1 : Int32)), .val (.int (0 : Int32)), .val (.int i1), .val (.ref u0), .val (.ref u0), .unset, .unset, .unset] [(.int (1 : Int32))])) (fun t k => XS.iload X59.here hx rfl (hb hby at_86) rfl k) ?_
        refine own_by (T' := T59) (f' := (mkF m 91 #[.val (.int i0), .val (.int i1), .val (.int i2), .val (.int (1 : Int32)), .val (.int (1 : Int32)), .val (.int (0 : Int32)), .val (.int i1), .val (.ref u0), .val (.ref u0), .unset, .unset, .unset] [])) (fun t k => XS.ifNo X59.here hx rfl (hb hby at_88) rfl ((if0 _ _).trans (feq (by decide)).1) k) ?_
        refine own_by (T' := T59) (f' := (mkF m 92 #[.val (.int i0), .val (.int i1), .val (.int i2), .val (.int (1 : Int32)), .val (.int (1 : Int32)), .val (.int (0 : Int32)), .val (.int i1), .val (.ref u0), .val (.ref u0), .unset, .unset, .unset] [(.int (0 : Int32))])) (fun t k => XS.iconst X59.here hx rfl (hb hby at_91) k) ?_
        refine own_by (T' := T59) (f' := (mkF m 94 #[.val (.int i0), .val (.int i1), .val (.int i2), .val (.int (1 : Int32)), .val (.int (1 : Int32)), .val (.int (0 : Int32)), .val (.int i1), .val (.ref u0), .val (.ref u0), .val (.int (0 : Int32)), .unset, .unset] [])) (fun t k => XS.istore X59.here hx rfl (hb hby at_92) rfl (l' := #[.val (.int i0), .val (.int i1), .val (.int i2), .val (.int (1 : Int32)), .val (.int (1 : Int32)), .val (.int (0 : Int32)), .val (.int i1), .val (.ref u0), .val (.ref u0), .val (.int (0 : Int32)), .unset, .unset]) rfl k) ?_
        refine own_by (T' := T59) (f' := (mkF m 120 #[.val (.int i0), .val (.int i1), .val (.int i2), .val (.int (1 : Int32)), .val (.int (1 : Int32)), .val (.int (0 : Int32)), .val (.int i1), .val (.ref u0), .val (.ref u0), .val (.int (0 : Int32)), .unset, .unset] [])) (fun t k => XS.goto X59.here hx rfl (pc0 := 94) (pc' := 120) rfl (hb hby at_94) (by decide) (by decide) k) ?_
        refine own_by (T' := T59) (f' := (mkF m 122 #[.val (.int i0), .val (.int i1), .val (.int i2), .val (.int (1 : Int32)), .val (.int (1 : Int32)), .val (.int (0 : Int32)), .val (.int i1), .val (.ref u0), .val (.ref u0), .val (.int (0 : Int32)), .unset, .unset] [(.int (0 : Int32))])) (fun t k => XS.iload X59.here hx rfl (hb hby at_120) rfl k) ?_
        refine own_by (T' := T59) (f' := (mkF m 130 #[.val (.int i0), .val (.int i1), .val (.int i2), .val (.int (1 : Int32)), .val (.int (1 : Int32)), .val (.int (0 : Int32)), .val (.int i1), .val (.ref u0), .val (.ref u0), .val (.int (0 : Int32)), .unset, .unset] [])) (fun t k => XS.ifYes X59.here hx rfl (pc0 := 122) (pc' := 130) rfl (hb hby at_122) rfl ((if0 _ _).trans (teq (by decide)).1) (by decide) (by decide) k) ?_
        refine own_by (T' := T59) (f' := (mkF m 132 #[.val (.int i0), .val (.int i1), .val (.int i2), .val (.int (1 : Int32)), .val (.int (1 : Int32)), .val (.int (0 : Int32)), .val (.int i1), .val (.ref u0), .val (.ref u0), .val (.int (0 : Int32)), .unset, .unset] [(.ref u0)])) (fun t k => XS.aload X59.here hx rfl (hb hby at_130) rfl rfl k) ?_
        refine own_by (T' := T59) (f' := (mkF m 134 #[.val (.int i0), .val (.int i1), .val (.int i2), .val (.int (1 : Int32)), .val (.int (1 : Int32)), .val (.int (0 : Int32)), .val (.int i1), .val (.ref u0), .val (.ref u0), .val (.int (0 : Int32)), .val (.ref u0), .unset] [])) (fun t k => XS.astore X59.here hx rfl (hb hby at_132) rfl rfl (l' := #[.val (.int i0), .val (.int i1), .val (.int i2), .val (.int (1 : Int32)), .val (.int (1 : Int32)), .val (.int (0 : Int32)), .val (.int i1), .val (.ref u0), .val (.ref u0), .val (.int (0 : Int32)), .val (.ref u0), .unset]) rfl k) ?_
        refine own_by (T' := T59) (f' := (mkF m 136 #[.val (.int i0), .val (.int i1), .val (.int i2), .val (.int (1 : Int32)), .val (.int (1 : Int32)), .val (.int (0 : Int32)), .val (.int i1), .val (.ref u0), .val (.ref u0), .val (.int (0 : Int32)), .val (.ref u0), .unset] [(.ref u0)])) (fun t k => XS.aload X59.here hx rfl (hb hby at_134) rfl rfl k) ?_
        refine own_by (T' := T59) (f' := (mkF m 138 #[.val (.int i0), .val (.int i1), .val (.int i2), .val (.int (1 : Int32)), .val (.int (1 : Int32)), .val (.int (0 : Int32)), .val (.int i1), .val (.ref u0), .val (.ref u0), .val (.int (0 : Int32)), .val (.ref u0), .unset] [(.ref u0), (.ref u0)])) (fun t k => XS.aload X59.here hx rfl (hb hby at_136) rfl rfl k) ?_
        refine own_callS X59 hx hZ hown e59 (hb hby at_138) [(.ref u0), (.ref u0)] [] 0 (rmM l Z a0 hw [] u0 u0 _ _ h0 F1 F1) (hw _ (List.mem_of_getElem? (i := 25) rfl)) (hw _ (List.mem_of_getElem? (i := 26) rfl)) (hw _ (List.mem_of_getElem? (i := 2) rfl)) (hw _ (List.mem_of_getElem? (i := 27) rfl)) (by decide) pd__Lcom_example_tollgraph_tollgraph_traversal_Threshold_Lcom_example_tollgraph_tollgraph_traversal_Threshold__Lcom_example_tollgraph_tollgraph_traversal_Threshold_ (by rw [hml]; rfl) rfl rfl (Nat.le_of_eq rfl) (by decide) (by decide) (by decide) (by decide) ?_
        rintro T60 _ L60 X60 ⟨rfl, rfl, e60⟩
        show own_Go p e below _ T60 (mkF m 141 #[.val (.int i0), .val (.int i1), .val (.int i2), .val (.int (1 : Int32)), .val (.int (1 : Int32)), .val (.int (0 : Int32)), .val (.int i1), .val (.ref u0), .val (.ref u0), .val (.int (0 : Int32)), .val (.ref u0), .unset] [(.ref (if (cmpValue (FP.dcmp 9218868437227405312 9218868437227405312) .g) < (0 : Int32) then u0 else u0))])
        rw [List.append_nil] at X60
        rw [if_neg own_c1]
        show own_Go p e below _ T60 (mkF m 141 #[.val (.int i0), .val (.int i1), .val (.int i2), .val (.int (1 : Int32)), .val (.int (1 : Int32)), .val (.int (0 : Int32)), .val (.int i1), .val (.ref u0), .val (.ref u0), .val (.int (0 : Int32)), .val (.ref u0), .unset] [(.ref u0)])
        refine own_by (T' := T60) (f' := (mkF m 143 #[.val (.int i0), .val (.int i1), .val (.int i2), .val (.int (1 : Int32)), .val (.int (1 : Int32)), .val (.int (0 : Int32)), .val (.int i1), .val (.ref u0), .val (.ref u0), .val (.int (0 : Int32)), .val (.ref u0), .val (.ref u0)] [])) (fun t k => XS.astore X60.here hx rfl (hb hby at_141) rfl rfl (l' := #[.val (.int i0), .val (.int i1), .val (.int i2), .val (.int (1 : Int32)), .val (.int (1 : Int32)), .val (.int (0 : Int32)), .val (.int i1), .val (.ref u0), .val (.ref u0), .val (.int (0 : Int32)), .val (.ref u0), .val (.ref u0)]) rfl k) ?_
        refine own_by (T' := T60) (f' := (mkF m 145 #[.val (.int i0), .val (.int i1), .val (.int i2), .val (.int (1 : Int32)), .val (.int (1 : Int32)), .val (.int (0 : Int32)), .val (.int i1), .val (.ref u0), .val (.ref u0), .val (.int (0 : Int32)), .val (.ref u0), .val (.ref u0)] [(.ref u0)])) (fun t k => XS.aload X60.here hx rfl (hb hby at_143) rfl rfl k) ?_
        refine own_by (T' := T60) (f' := (mkF m 147 #[.val (.int i0), .val (.int i1), .val (.int i2), .val (.int (1 : Int32)), .val (.int (1 : Int32)), .val (.int (0 : Int32)), .val (.int i1), .val (.ref u0), .val (.ref u0), .val (.int (0 : Int32)), .val (.ref u0), .val (.ref u0)] [(.ref u0), (.ref u0)])) (fun t k => XS.aload X60.here hx rfl (hb hby at_145) rfl rfl k) ?_
        refine own_by (T' := T60) (f' := (mkF m 150 #[.val (.int i0), .val (.int i1), .val (.int i2), .val (.int (1 : Int32)), .val (.int (1 : Int32)), .val (.int (0 : Int32)), .val (.int i1), .val (.ref u0), .val (.ref u0), .val (.int (0 : Int32)), .val (.ref u0), .val (.ref u0)] [])) (fun t k => Jvm.RoadKit.acmp (g := (mkF m 147 #[.val (.int i0), .val (.int i1), .val (.int i2), .val (.int (1 : Int32)), .val (.int (1 : Int32)), .val (.int (0 : Int32)), .val (.int i1), .val (.ref u0), .val (.ref u0), .val (.int (0 : Int32)), .val (.ref u0), .val (.ref u0)] [(.ref u0), (.ref u0)])) X60 hx rfl rfl rfl (pc0 := 147) (pc' := 150) (same := true) rfl (hb hby at_147) rfl (decide_eq_true rfl) (by decide) (by decide) k) ?_
        refine own_by (T' := T60) (f' := (mkF m 151 #[.val (.int i0), .val (.int i1), .val (.int i2), .val (.int (1 : Int32)), .val (.int (1 : Int32)), .val (.int (0 : Int32)), .val (.int i1), .val (.ref u0), .val (.ref u0), .val (.int (0 : Int32)), .val (.ref u0), .val (.ref u0)] [(.int (1 : Int32))])) (fun t k => XS.iconst X60.here hx rfl (hb hby at_150) k) ?_
        refine own_by (T' := T60) (f' := (mkF m 155 #[.val (.int i0), .val (.int i1), .val (.int i2), .val (.int (1 : Int32)), .val (.int (1 : Int32)), .val (.int (0 : Int32)), .val (.int i1), .val (.ref u0), .val (.ref u0), .val (.int (0 : Int32)), .val (.ref u0), .val (.ref u0)] [(.int (1 : Int32))])) (fun t k => XS.goto X60.here hx rfl (pc0 := 151) (pc' := 155) rfl (hb hby at_151) (by decide) (by decide) k) ?_
        refine own_retZ X60 hx hret hlk (hb hby at_155) (Or.inr rfl) (by decide) (by decide) ?_
        try rw [e60]
        exact ⟨rfl, N0⟩
      · have _ := X0
        refine own_by (T' := s₁) (f' := (mkF m 31 #[.val (.int i0), .val (.int i1), .val (.int i2), .val (.int (1 : Int32)), .val (.int (1 : Int32)), .unset, .unset, .unset, .unset, .unset, .unset, .unset] [])) (fun t k => XS.ifNo X0.here hx rfl (hb hby at_28) rfl ((if0 _ _).trans (feq hc28_57).1) k) ?_
        refine own_by (T' := s₁) (f' := (mkF m 32 #[.val (.int i0), .val (.int i1), .val (.int i2), .val (.int (1 : Int32)), .val (.int (1 : Int32)), .unset, .unset, .unset, .unset, .unset, .unset, .unset] [(.int (1 : Int32))])) (fun t k => XS.iconst X0.here hx rfl (hb hby at_31) k) ?_
        refine own_by (T' := s₁) (f' := (mkF m 36 #[.val (.int i0), .val (.int i1), .val (.int i2), .val (.int (1 : Int32)), .val (.int (1 : Int32)), .unset, .unset, .unset, .unset, .unset, .unset, .unset] [(.int (1 : Int32))])) (fun t k => XS.goto X0.here hx rfl (pc0 := 32) (pc' := 36) rfl (hb hby at_32) (by decide) (by decide) k) ?_
        refine own_by (T' := s₁) (f' := (mkF m 38 #[.val (.int i0), .val (.int i1), .val (.int i2), .val (.int (1 : Int32)), .val (.int (1 : Int32)), .val (.int (1 : Int32)), .unset, .unset, .unset, .unset, .unset, .unset] [])) (fun t k => XS.istore X0.here hx rfl (hb hby at_36) rfl (l' := #[.val (.int i0), .val (.int i1), .val (.int i2), .val (.int (1 : Int32)), .val (.int (1 : Int32)), .val (.int (1 : Int32)), .unset, .unset, .unset, .unset, .unset, .unset]) rfl k) ?_
        refine own_by (T' := s₁) (f' := (mkF m 40 #[.val (.int i0), .val (.int i1), .val (.int i2), .val (.int (1 : Int32)), .val (.int (1 : Int32)), .val (.int (1 : Int32)), .unset, .unset, .unset, .unset, .unset, .unset] [(.int (1 : Int32))])) (fun t k => XS.iload X0.here hx rfl (hb hby at_38) rfl k) ?_
        refine own_by (T' := s₁) (f' := (mkF m 43 #[.val (.int i0), .val (.int i1), .val (.int i2), .val (.int (1 : Int32)), .val (.int (1 : Int32)), .val (.int (1 : Int32)), .unset, .unset, .unset, .unset, .unset, .unset] [])) (fun t k => XS.ifNo X0.here hx rfl (hb hby at_40) rfl ((if0 _ _).trans (feq (by decide)).1) k) ?_
        refine own_by (T' := s₁) (f' := (mkF m 44 #[.val (.int i0), .val (.int i1), .val (.int i2), .val (.int (1 : Int32)), .val (.int (1 : Int32)), .val (.int (1 : Int32)), .unset, .unset, .unset, .unset, .unset, .unset] [(.int i0)])) (fun t k => XS.iloadN X0.here hx rfl (hb hby at_43) rfl k) ?_
        refine own_by (T' := s₁) (f' := (mkF m 48 #[.val (.int i0), .val (.int i1), .val (.int i2), .val (.int (1 : Int32)), .val (.int (1 : Int32)), .val (.int (1 : Int32)), .unset, .unset, .unset, .unset, .unset, .unset] [(.int i0)])) (fun t k => XS.goto X0.here hx rfl (pc0 := 44) (pc' := 48) rfl (hb hby at_44) (by decide) (by decide) k) ?_
        refine own_by (T' := s₁) (f' := (mkF m 50 #[.val (.int i0), .val (.int i1), .val (.int i2), .val (.int (1 : Int32)), .val (.int (1 : Int32)), .val (.int (1 : Int32)), .val (.int i0), .unset, .unset, .unset, .unset, .unset] [])) (fun t k => XS.istore X0.here hx rfl (hb hby at_48) rfl (l' := #[.val (.int i0), .val (.int i1), .val (.int i2), .val (.int (1 : Int32)), .val (.int (1 : Int32)), .val (.int (1 : Int32)), .val (.int i0), .unset, .unset, .unset, .unset, .unset]) rfl k) ?_
        refine own_by (T' := s₁) (f' := (mkF m 51 #[.val (.int i0), .val (.int i1), .val (.int i2), .val (.int (1 : Int32)), .val (.int (1 : Int32)), .val (.int (1 : Int32)), .val (.int i0), .unset, .unset, .unset, .unset, .unset] [(.int (1 : Int32))])) (fun t k => XS.iloadN X0.here hx rfl (hb hby at_50) rfl k) ?_
        refine own_by (T' := s₁) (f' := (mkF m 54 #[.val (.int i0), .val (.int i1), .val (.int i2), .val (.int (1 : Int32)), .val (.int (1 : Int32)), .val (.int (1 : Int32)), .val (.int i0), .unset, .unset, .unset, .unset, .unset] [])) (fun t k => XS.ifNo X0.here hx rfl (hb hby at_51) rfl ((if0 _ _).trans (feq (by decide)).1) k) ?_
        refine own_getS (host := "") X0 hx hZ hown e0 (hb hby at_54) (Or.inl (hw _ (List.mem_of_getElem? (i := 23) rfl))) Via.refl S1 ?_
        intro T61 X61 e61
        show own_Go p e below _ T61 (mkF m 57 #[.val (.int i0), .val (.int i1), .val (.int i2), .val (.int (1 : Int32)), .val (.int (1 : Int32)), .val (.int (1 : Int32)), .val (.int i0), .unset, .unset, .unset, .unset, .unset] [(.ref u0)])
        refine own_by (T' := T61) (f' := (mkF m 65 #[.val (.int i0), .val (.int i1), .val (.int i2), .val (.int (1 : Int32)), .val (.int (1 : Int32)), .val (.int (1 : Int32)), .val (.int i0), .unset, .unset, .unset, .unset, .unset] [(.ref u0)])) (fun t k => XS.goto X61.here hx rfl (pc0 := 57) (pc' := 65) rfl (hb hby at_57) (by decide) (by decide) k) ?_
        refine own_by (T' := T61) (f' := (mkF m 67 #[.val (.int i0), .val (.int i1), .val (.int i2), .val (.int (1 : Int32)), .val (.int (1 : Int32)), .val (.int (1 : Int32)), .val (.int i0), .val (.ref u0), .unset, .unset, .unset, .unset] [])) (fun t k => XS.astore X61.here hx rfl (hb hby at_65) rfl rfl (l' := #[.val (.int i0), .val (.int i1), .val (.int i2), .val (.int (1 : Int32)), .val (.int (1 : Int32)), .val (.int (1 : Int32)), .val (.int i0), .val (.ref u0), .unset, .unset, .unset, .unset]) rfl k) ?_
        refine own_by (T' := T61) (f' := (mkF m 69 #[.val (.int i0), .val (.int i1), .val (.int i2), .val (.int (1 : Int32)), .val (.int (1 : Int32)), .val (.int (1 : Int32)), .val (.int i0), .val (.ref u0), .unset, .unset, .unset, .unset] [(.int (1 : Int32))])) (fun t k => XS.iload X61.here hx rfl (hb hby at_67) rfl k) ?_
        refine own_by (T' := T61) (f' := (mkF m 72 #[.val (.int i0), .val (.int i1), .val (.int i2), .val (.int (1 : Int32)), .val (.int (1 : Int32)), .val (.int (1 : Int32)), .val (.int i0), .val (.ref u0), .unset, .unset, .unset, .unset] [])) (fun t k => XS.ifNo X61.here hx rfl (hb hby at_69) rfl ((if0 _ _).trans (feq (by decide)).1) k) ?_
        refine own_getS (host := "") X61 hx hZ hown e61 (hb hby at_72) (Or.inl (hw _ (List.mem_of_getElem? (i := 23) rfl))) Via.refl S1 ?_
        intro T62 X62 e62
        show own_Go p e below _ T62 (mkF m 75 #[.val (.int i0), .val (.int i1), .val (.int i2), .val (.int (1 : Int32)), .val (.int (1 : Int32)), .val (.int (1 : Int32)), .val (.int i0), .val (.ref u0), .unset, .unset, .unset, .unset] [(.ref u0)])
        refine own_by (T' := T62) (f' := (mkF m 84 #[.val (.int i0), .val (.int i1), .val (.int i2), .val (.int (1 : Int32)), .val (.int (1 : Int32)), .val (.int (1 : Int32)), .val (.int i0), .val (.ref u0), .unset, .unset, .unset, .unset] [(.ref u0)])) (fun t k => XS.goto X62.here hx rfl (pc0 := 75) (pc' := 84) rfl (hb hby at_75) (by decide) (by decide) k) ?_
        refine own_by (T' := T62) (f' := (mkF m 86 #[.val (.int i0), .val (.int i1), .val (.int i2), .val (.int (1 : Int32)), .val (.int (1 : Int32)), .val (.int (1 : Int32)), .val (.int i0), .val (.ref u0), .val (.ref u0), .unset, .unset, .unset] [])) (fun t k => XS.astore X62.here hx rfl (hb hby at_84) rfl rfl (l' := #[.val (.int i0), .val (.int i1), .val (.int i2), .val (.int (1 : Int32)), .val (.int (1 : Int32)), .val (.int (1 : Int32)), .val (.int i0), .val (.ref u0), .val (.ref u0), .unset, .unset, .unset]) rfl k) ?_
        refine own_by (T' := T62) (f' := (mkF m 88 #[.val (.int i0), .val (.int i1), .val (.int i2), .val (.int (1 : Int32)), .val (.int (1 : Int32)), .val (.int (1 : Int32)), .val (.int i0), .val (.ref u0), .val (.ref u0), .unset, .unset, .unset] [(.int (1 : Int32))])) (fun t k => XS.iload X62.here hx rfl (hb hby at_86) rfl k) ?_
        refine own_by (T' := T62) (f' := (mkF m 91 #[.val (.int i0), .val (.int i1), .val (.int i2), .val (.int (1 : Int32)), .val (.int (1 : Int32)), .val (.int (1 : Int32)), .val (.int i0), .val (.ref u0), .val (.ref u0), .unset, .unset, .unset] [])) (fun t k => XS.ifNo X62.here hx rfl (hb hby at_88) rfl ((if0 _ _).trans (feq (by decide)).1) k) ?_
        refine own_by (T' := T62) (f' := (mkF m 92 #[.val (.int i0), .val (.int i1), .val (.int i2), .val (.int (1 : Int32)), .val (.int (1 : Int32)), .val (.int (1 : Int32)), .val (.int i0), .val (.ref u0), .val (.ref u0), .unset, .unset, .unset] [(.int (0 : Int32))])) (fun t k => XS.iconst X62.here hx rfl (hb hby at_91) k) ?_
        refine own_by (T' := T62) (f' := (mkF m 94 #[.val (.int i0), .val (.int i1), .val (.int i2), .val (.int (1 : Int32)), .val (.int (1 : Int32)), .val (.int (1 : Int32)), .val (.int i0), .val (.ref u0), .val (.ref u0), .val (.int (0 : Int32)), .unset, .unset] [])) (fun t k => XS.istore X62.here hx rfl (hb hby at_92) rfl (l' := #[.val (.int i0), .val (.int i1), .val (.int i2), .val (.int (1 : Int32)), .val (.int (1 : Int32)), .val (.int (1 : Int32)), .val (.int i0), .val (.ref u0), .val (.ref u0), .val (.int (0 : Int32)), .unset, .unset]) rfl k) ?_
        refine own_by (T' := T62) (f' := (mkF m 120 #[.val (.int i0), .val (.int i1), .val (.int i2), .val (.int (1 : Int32)), .val (.int (1 : Int32)), .val (.int (1 : Int32)), .val (.int i0), .val (.ref u0), .val (.ref u0), .val (.int (0 : Int32)), .unset, .unset] [])) (fun t k => XS.goto X62.here hx rfl (pc0 := 94) (pc' := 120) rfl (hb hby at_94) (by decide) (by decide) k) ?_
        refine own_by (T' := T62) (f' := (mkF m 122 #[.val (.int i0), .val (.int i1), .val (.int i2), .val (.int (1 : Int32)), .val (.int (1 : Int32)), .val (.int (1 : Int32)), .val (.int i0), .val (.ref u0), .val (.ref u0), .val (.int (0 : Int32)), .unset, .unset] [(.int (0 : Int32))])) (fun t k => XS.iload X62.here hx rfl (hb hby at_120) rfl k) ?_
        refine own_by (T' := T62) (f' := (mkF m 130 #[.val (.int i0), .val (.int i1), .val (.int i2), .val (.int (1 : Int32)), .val (.int (1 : Int32)), .val (.int (1 : Int32)), .val (.int i0), .val (.ref u0), .val (.ref u0), .val (.int (0 : Int32)), .unset, .unset] [])) (fun t k => XS.ifYes X62.here hx rfl (pc0 := 122) (pc' := 130) rfl (hb hby at_122) rfl ((if0 _ _).trans (teq (by decide)).1) (by decide) (by decide) k) ?_
        refine own_by (T' := T62) (f' := (mkF m 132 #[.val (.int i0), .val (.int i1), .val (.int i2), .val (.int (1 : Int32)), .val (.int (1 : Int32)), .val (.int (1 : Int32)), .val (.int i0), .val (.ref u0), .val (.ref u0), .val (.int (0 : Int32)), .unset, .unset] [(.ref u0)])) (fun t k => XS.aload X62.here hx rfl (hb hby at_130) rfl rfl k) ?_
        refine own_by (T' := T62) (f' := (mkF m 134 #[.val (.int i0), .val (.int i1), .val (.int i2), .val (.int (1 : Int32)), .val (.int (1 : Int32)), .val (.int (1 : Int32)), .val (.int i0), .val (.ref u0), .val (.ref u0), .val (.int (0 : Int32)), .val (.ref u0), .unset] [])) (fun t k => XS.astore X62.here hx rfl (hb hby at_132) rfl rfl (l' := #[.val (.int i0), .val (.int i1), .val (.int i2), .val (.int (1 : Int32)), .val (.int (1 : Int32)), .val (.int (1 : Int32)), .val (.int i0), .val (.ref u0), .val (.ref u0), .val (.int (0 : Int32)), .val (.ref u0), .unset]) rfl k) ?_
        refine own_by (T' := T62) (f' := (mkF m 136 #[.val (.int i0), .val (.int i1), .val (.int i2), .val (.int (1 : Int32)), .val (.int (1 : Int32)), .val (.int (1 : Int32)), .val (.int i0), .val (.ref u0), .val (.ref u0), .val (.int (0 : Int32)), .val (.ref u0), .unset] [(.ref u0)])) (fun t k => XS.aload X62.here hx rfl (hb hby at_134) rfl rfl k) ?_
        refine own_by (T' := T62) (f' := (mkF m 138 #[.val (.int i0), .val (.int i1), .val (.int i2), .val (.int (1 : Int32)), .val (.int (1 : Int32)), .val (.int (1 : Int32)), .val (.int i0), .val (.ref u0), .val (.ref u0), .val (.int (0 : Int32)), .val (.ref u0), .unset] [(.ref u0), (.ref u0)])) (fun t k => XS.aload X62.here hx rfl (hb hby at_136) rfl rfl k) ?_
        refine own_callS X62 hx hZ hown e62 (hb hby at_138) [(.ref u0), (.ref u0)] [] 0 (rmM l Z a0 hw [] u0 u0 _ _ h0 F1 F1) (hw _ (List.mem_of_getElem? (i := 25) rfl)) (hw _ (List.mem_of_getElem? (i := 26) rfl)) (hw _ (List.mem_of_getElem? (i := 2) rfl)) (hw _ (List.mem_of_getElem? (i := 27) rfl)) (by decide) pd__Lcom_example_tollgraph_tollgraph_traversal_Threshold_Lcom_example_tollgraph_tollgraph_traversal_Threshold__Lcom_example_tollgraph_tollgraph_traversal_Threshold_ (by rw [hml]; rfl) rfl rfl (Nat.le_of_eq rfl) (by decide) (by decide) (by decide) (by decide) ?_
        rintro T63 _ L63 X63 ⟨rfl, rfl, e63⟩
        show own_Go p e below _ T63 (mkF m 141 #[.val (.int i0), .val (.int i1), .val (.int i2), .val (.int (1 : Int32)), .val (.int (1 : Int32)), .val (.int (1 : Int32)), .val (.int i0), .val (.ref u0), .val (.ref u0), .val (.int (0 : Int32)), .val (.ref u0), .unset] [(.ref (if (cmpValue (FP.dcmp 9218868437227405312 9218868437227405312) .g) < (0 : Int32) then u0 else u0))])
        rw [List.append_nil] at X63
        rw [if_neg own_c1]
        show own_Go p e below _ T63 (mkF m 141 #[.val (.int i0), .val (.int i1), .val (.int i2), .val (.int (1 : Int32)), .val (.int (1 : Int32)), .val (.int (1 : Int32)), .val (.int i0), .val (.ref u0), .val (.ref u0), .val (.int (0 : Int32)), .val (.ref u0), .unset] [(.ref u0)])
        refine own_by (T' := T63) (f' := (mkF m 143 #[.val (.int i0), .val (.int i1), .val (.int i2), .val (.int (1 : Int32)), .val (.int (1 : Int32)), .val (.int (1 : Int32)), .val (.int i0), .val (.ref u0), .val (.ref u0), .val (.int (0 : Int32)), .val (.ref u0), .val (.ref u0)] [])) (fun t k => XS.astore X63.here hx rfl (hb hby at_141) rfl rfl (l' := #[.val (.int i0), .val (.int i1), .val (.int i2), .val (.int (1 : Int32)), .val (.int (1 : Int32)), .val (.int (1 : Int32)), .val (.int i0), .val (.ref u0), .val (.ref u0), .val (.int (0 : Int32)), .val (.ref u0), .val (.ref u0)]) rfl k) ?_
        refine own_by (T' := T63) (f' := (mkF m 145 #[.val (.int i0), .val (.int i1), .val (.int i2), .val (.int (1 : Int32)), .val (.int (1 : Int32)), .val (.int (1 : Int32)), .val (.int i0), .val (.ref u0), .val (.ref u0), .val (.int (0 : Int32)), .val (.ref u0), .val (.ref u0)] [(.ref u0)])) (fun t k => XS.aload X63.here hx rfl (hb hby at_143) rfl rfl k) ?_
        refine own_by (T' := T63) (f' := (mkF m 147 #[.val (.int i0), .val (.int i1), .val (.int i2), .val (.int (1 : Int32)), .val (.int (1 : Int32)), .val (.int (1 : Int32)), .val (.int i0), .val (.ref u0), .val (.ref u0), .val (.int (0 : Int32)), .val (.ref u0), .val (.ref u0)] [(.ref u0), (.ref u0)])) (fun t k => XS.aload X63.here hx rfl (hb hby at_145) rfl rfl k) ?_
        refine own_by (T' := T63) (f' := (mkF m 150 #[.val (.int i0), .val (.int i1), .val (.int i2), .val (.int (1 : Int32)), .val (.int (1 : Int32)), .val (.int (1 : Int32)), .val (.int i0), .val (.ref u0), .val (.ref u0), .val (.int (0 : Int32)), .val (.ref u0), .val (.ref u0)] [])) (fun t k => Jvm.RoadKit.acmp (g := (mkF m 147 #[.val (.int i0), .val (.int i1), .val (.int i2), .val (.int (1 : Int32)), .val (.int (1 : Int32)), .val (.int (1 : Int32)), .val (.int i0), .val (.ref u0), .val (.ref u0), .val (.int (0 : Int32)), .val (.ref u0), .val (.ref u0)] [(.ref u0), (.ref u0)])) X63 hx rfl rfl rfl (pc0 := 147) (pc' := 150) (same := true) rfl (hb hby at_147) rfl (decide_eq_true rfl) (by decide) (by decide) k) ?_
        refine own_by (T' := T63) (f' := (mkF m 151 #[.val (.int i0), .val (.int i1), .val (.int i2), .val (.int (1 : Int32)), .val (.int (1 : Int32)), .val (.int (1 : Int32)), .val (.int i0), .val (.ref u0), .val (.ref u0), .val (.int (0 : Int32)), .val (.ref u0), .val (.ref u0)] [(.int (1 : Int32))])) (fun t k => XS.iconst X63.here hx rfl (hb hby at_150) k) ?_
        refine own_by (T' := T63) (f' := (mkF m 155 #[.val (.int i0), .val (.int i1), .val (.int i2), .val (.int (1 : Int32)), .val (.int (1 : Int32)), .val (.int (1 : Int32)), .val (.int i0), .val (.ref u0), .val (.ref u0), .val (.int (0 : Int32)), .val (.ref u0), .val (.ref u0)] [(.int (1 : Int32))])) (fun t k => XS.goto X63.here hx rfl (pc0 := 151) (pc' := 155) rfl (hb hby at_151) (by decide) (by decide) k) ?_
        refine own_retZ X63 hx hret hlk (hb hby at_155) (Or.inr rfl) (by decide) (by decide) ?_
        try rw [e63]
        exact ⟨rfl, N0⟩
theorem own_eqd {args : Array Value} {first s : State} {o : Option Outcome} {idx : List Nat} {a b : Term} {k : UInt64} (h : (Jvm.Cond.eq a b).value args first o s idx = some true) (hb : b.eval args first o idx s = some (.double k)) : a.eval args first o idx s = some (.double k) := by
  cases ha : a.eval args first o idx s with
  | none => simp [Cond.value, ha] at h
  | some x => cases x <;> simp [Cond.value, ha, hb] at h ⊢; exact h
set_option maxRecDepth 65536 in
set_option maxHeartbeats 40000000 in
theorem comes_1 {Post : Tables → Env → Array Value → State → Outcome → State → Prop} (hpost : ∀ tb e args s v u, (limb_1_1.after args s (.returned v) u = true ∧ limb_1_2.after args s (.returned v) u = true ∧ True) → FrameEnd s (.returned v) u (Jvm.fieldLocs frame_1_writes args s ++ Jvm.arrayLocs frame_1_arrays args s ++ Jvm.staticLocs frame_1_statics s) 16 128 → Post tb e args s (.returned v) u) :
    ArmFor flags0 classFile x code maxLocals ret World_1 tables_1 room_1 Calls_1 rest_1 Pre_1 Post := by
  intro l hfl _ _ p e ha hc hk s m args below hf hA hF happ hP
  obtain ⟨hcalls, hrest, hpre⟩ := hP
  obtain ⟨-, -, -, hnamed, -, -, -, hat⟩ := (Spec.applies_iff hf).mp happ
  obtain ⟨hg, hn⟩ := and_e (Cond.before_iff.mp (show (Jvm.Cond.and given_1 narrow_1).before args s = true from hpre))
  obtain ⟨gc, gr0⟩ := and_e hg
  obtain ⟨ga0, gr1⟩ := and_e gr0
  obtain ⟨ga1, gr2⟩ := and_e gr1
  obtain ⟨w0, w1, w2, rfl⟩ : ∃ w0 w1 w2 : Value, args = #[w0, w1, w2] := by
    have hs : args.size = 3 := by simpa [Cond.value, given_1] using gc
    obtain ⟨L⟩ := args
    match L, hs with
    | [w0, w1, w2], _ => exact ⟨w0, w1, w2, rfl⟩
  have hw := fun d (hd : d ∈ tables_1) => atoms_spec (ws := Jvm.Cond.code x code maxLocals ret :: tables_1) hat d (List.mem_cons_of_mem _ hd)
  have hfit : Fit s := fun {y c} hc i hi => by
    obtain ⟨ha, rfl⟩ := Array.getElem?_eq_some_iff.mp hc
    have q := List.all_eq_true.mp ((Array.all_eq_true_iff_forall_mem.mp hF) _ (Array.getElem_mem ha)) i (List.mem_range.mpr hi)
    simpa [Array.getElem?_eq_getElem hi] using q
  obtain ⟨i0, ei0⟩ := is_v ga0
  obtain rfl : w0 = (.int i0) := Option.some.inj ei0
  obtain ⟨i1, ei1⟩ := is_v ga1
  obtain rfl : w1 = (.int i1) := Option.some.inj ei1
  obtain ⟨i2, ei2⟩ := is_v gr2
  obtain rfl : w2 = (.int i2) := Option.some.inj ei2
  obtain ⟨nq0, nq1⟩ := and_e hn
  obtain ⟨u0, ev0⟩ := exa_v nq0
  have EE := Exa.start ev0 nq0
  have SS := Sta.start ev0 (Or.inr ⟨(hw _ (List.mem_of_getElem? (i := 2) rfl)), (hw _ (List.mem_of_getElem? (i := 24) rfl))⟩)
  have OO := Fld.start ((fld_at ev0).symm.trans (own_eqd (k := 9218868437227405312) nq1 (by rfl)))
  obtain ⟨n, o, h1, h2, h3, _, L, rfl, ⟨rfl, N⟩, hq⟩ := rm0 l s _ hw tables_1 i0 i1 i2 u0 s.heap s.heap.size (Nat.le_refl _) SS EE OO p e ha hc hk s m _ below hf ((Spec.applies_iff_loose hf).mp happ).1 ⟨rfl, State.Warmed39.refl s, rfl⟩ trivial
  refine ⟨n, _, h1, h2, h3, hpost _ _ _ _ _ _ ⟨Cond.after_iff.mpr rfl, Cond.after_iff.mpr (eq_i res_at (Term.int_eval (1)) rfl), trivial⟩ ⟨hq.1, hq.2.1, (hq.2.2.sift fun y hy => Or.inr (N y hy)).mono (by decide) (by decide)⟩⟩
theorem main_1_1 : Claimed_1_1 := comes_1 fun _ _ _ _ _ _ h hF => ⟨h.1, hF⟩
theorem main_1_2 : Claimed_1_2 := comes_1 fun _ _ _ _ _ _ h hF => ⟨h.2.1, hF⟩
end Jvm.Pilot.@@N@@
namespace Jvm.Pilot.@@N@@
open Jvm Jvm.ClassFile Sem Op Lib Jvm.Free Jvm.Stand Jvm.Pilot.@@N@@.Jvm.D
/-! MADE BY PROGRAM (witnessworld.py) out of the Statement's table words and the real class files: 15 classes; the members and pool entries that the words name. The judged class is class 1, her method 1. -/
namespace start1
open Jvm.ClassFile
def u (s : String) : CpInfo := .utf8 (stringToUtf16 s)
/-- a pool by its gaps: so many unusable entries, then the entry; so many at the end -/
def gap : Nat → List CpInfo → List CpInfo
  | 0, r => r
  | n + 1, r => .unusable :: gap n r
def poolList (es : List (Nat × CpInfo)) (last : Nat) : List CpInfo := es.foldr (fun e r => gap e.1 (e.2 :: r)) (gap last [])
def pool (es : List (Nat × CpInfo)) (last : Nat) : Array CpInfo := ⟨poolList es last⟩
def fileOf (pool : Array CpInfo) (this : Nat) (attrs : Array Attribute := #[]) (ms : Array MethodInfo := #[]) (fl : Nat := 33) (sup : Nat := 0) (ifs : Array Nat := #[]) (fds : Array FieldInfo := #[]) : ClassFile where
  minorVersion := 0
  majorVersion := 65
  constantPool := pool
  accessFlags := fl
  thisClass := this
  superClass := sup
  interfaces := ifs
  fields := fds
  methods := ms
  attributes := attrs
def plain (name : String) (sup : Option ClassId) : Class where
  name := name
  kind := .ordinary
  loader := none
  accessFlags := 33
  super := sup
  interfaces := #[]
  cf := none
  fields := #[]
  methods := #[]
  instanceTypes := #[]
  staticTypes := #[]
  resolved := #[]
  callSites := []
  init := .initialized
  statics := none
  mirror := none

def pool0 : Array CpInfo := pool [(5, u "<init>"), (0, u "()V"), (1, .class_ 10), (1, u "java/lang/Object")] 113

def k0c0 : Code := { maxStack := 0, maxLocals := 1, code := object_method_1_code, exceptionTable := #[], attributes := #[] }
def k0m0 : Method := { name := "<init>", desc := "()V", sig := { parameters := [], returnType := none }, accessFlags := 1, code := some k0c0 }
/-- java/lang/Object -/
def k0 : Class := { plain "java/lang/Object" none with
  accessFlags := 33
  interfaces := #[]
  cf := some (fileOf pool0 8 #[] #[{ accessFlags := 1, nameIndex := 5, descriptorIndex := 6, attributes := #[] }] 33 0 #[] #[])
  fields := #[]
  methods := #[k0m0]
  instanceTypes := #[]
  staticTypes := #[]
  resolved := Array.replicate 124 none
  statics := none }

def pool1 : Array CpInfo := pool [(2, .class_ 4), (1, u "java/lang/Object"), (0, u "<init>"), (0, u "()V"), (0, .fieldref 8 9), (0, .class_ 10), (0, .nameAndType 11 12), (0, u "com/example/tollgraph/tollgraph/traversal/Threshold"), (0, u "UNBOUNDED"), (0, u "Lcom/example/tollgraph/tollgraph/traversal/Threshold;"), (0, .methodref 8 14), (0, .nameAndType 15 16), (0, u "bid"), (0, u "(D)Lcom/example/tollgraph/tollgraph/traversal/Threshold;"), (0, .methodref 8 18), (0, .nameAndType 19 20), (0, u "min"), (0, u "(Lcom/example/tollgraph/tollgraph/traversal/Threshold;Lcom/example/tollgraph/tollgraph/traversal/Threshold;)Lcom/example/tollgraph/tollgraph/traversal/Threshold;"), (0, .class_ 22), (0, u "com/example/tollgraph/tollgraph/traversal/ThresholdMinPinLaw"), (2, u "law"), (0, u "(III)Z")] 3

def k1m0 : Method := { name := "<init>", desc := "()V", sig := { parameters := [], returnType := none }, accessFlags := 2, code := none }
def k1c1 : Code := { maxStack := 2, maxLocals := 12, code := code, exceptionTable := #[], attributes := #[] }
def k1m1 : Method := { name := "law", desc := "(III)Z", sig := { parameters := [.int, .int, .int], returnType := some .boolean }, accessFlags := 9, code := some k1c1 }
/-- com/example/tollgraph/tollgraph/traversal/ThresholdMinPinLaw -/
def k1 : Class := { plain "com/example/tollgraph/tollgraph/traversal/ThresholdMinPinLaw" (some 0) with
  accessFlags := 49
  interfaces := #[]
  cf := some (fileOf pool1 21 #[] #[{ accessFlags := 2, nameIndex := 5, descriptorIndex := 6, attributes := #[] }, { accessFlags := 9, nameIndex := 25, descriptorIndex := 26, attributes := #[] }] 49 2 #[] #[])
  fields := #[]
  methods := #[k1m0, k1m1]
  instanceTypes := #[]
  staticTypes := #[]
  resolved := Array.replicate 30 none
  statics := none }

def pool2 : Array CpInfo := pool [(1, .methodref 2 3), (0, .class_ 4), (0, .nameAndType 5 6), (0, u "java/lang/Object"), (0, u "<init>"), (0, u "()V"), (0, .class_ 8), (0, u "java/lang/Record")] 13

def k2c0 : Code := { maxStack := 1, maxLocals := 1, code := jdk_30_method_1_code, exceptionTable := #[], attributes := #[] }
def k2m0 : Method := { name := "<init>", desc := "()V", sig := { parameters := [], returnType := none }, accessFlags := 4, code := some k2c0 }
/-- java/lang/Record -/
def k2 : Class := { plain "java/lang/Record" (some 0) with
  accessFlags := 1057
  interfaces := #[]
  cf := some (fileOf pool2 7 #[] #[{ accessFlags := 4, nameIndex := 5, descriptorIndex := 6, attributes := #[] }] 1057 2 #[] #[])
  fields := #[]
  methods := #[k2m0]
  instanceTypes := #[]
  staticTypes := #[]
  resolved := Array.replicate 22 none
  statics := none }

def pool3 : Array CpInfo := pool [(1, .methodref 2 3), (0, .class_ 4), (0, .nameAndType 5 6), (0, u "java/lang/Record"), (0, u "<init>"), (0, u "()V"), (0, .methodref 8 9), (0, .class_ 10), (0, .nameAndType 11 12), (0, u "java/lang/Double"), (0, u "isNaN"), (0, u "(D)Z"), (9, .fieldref 23 24), (0, .class_ 25), (0, .nameAndType 26 27), (0, u "com/example/tollgraph/tollgraph/traversal/Threshold"), (0, u "at"), (0, u "D"), (0, .methodref 23 29), (0, .nameAndType 5 30), (0, u "(D)V"), (22, u "UNBOUNDED"), (0, u "Lcom/example/tollgraph/tollgraph/traversal/Threshold;"), (4, u "bid"), (0, u "(D)Lcom/example/tollgraph/tollgraph/traversal/Threshold;"), (2, u "min"), (0, u "(Lcom/example/tollgraph/tollgraph/traversal/Threshold;Lcom/example/tollgraph/tollgraph/traversal/Threshold;)Lcom/example/tollgraph/tollgraph/traversal/Threshold;")] 31

def k3c0 : Code := { maxStack := 4, maxLocals := 3, code := prog_51_method_1_code, exceptionTable := #[], attributes := #[] }
def k3m0 : Method := { name := "<init>", desc := "(D)V", sig := { parameters := [.double], returnType := none }, accessFlags := 0, code := some k3c0 }
def k3c1 : Code := { maxStack := 4, maxLocals := 2, code := prog_51_method_2_code, exceptionTable := #[], attributes := #[] }
def k3m1 : Method := { name := "bid", desc := "(D)Lcom/example/tollgraph/tollgraph/traversal/Threshold;", sig := { parameters := [.double], returnType := some (.object "com/example/tollgraph/tollgraph/traversal/Threshold") }, accessFlags := 8, code := some k3c1 }
def k3c2 : Code := { maxStack := 4, maxLocals := 2, code := prog_51_method_4_code, exceptionTable := #[], attributes := #[] }
def k3m2 : Method := { name := "min", desc := "(Lcom/example/tollgraph/tollgraph/traversal/Threshold;Lcom/example/tollgraph/tollgraph/traversal/Threshold;)Lcom/example/tollgraph/tollgraph/traversal/Threshold;", sig := { parameters := [(.object "com/example/tollgraph/tollgraph/traversal/Threshold"), (.object "com/example/tollgraph/tollgraph/traversal/Threshold")], returnType := some (.object "com/example/tollgraph/tollgraph/traversal/Threshold") }, accessFlags := 8, code := some k3c2 }
/-- com/example/tollgraph/tollgraph/traversal/Threshold -/
def k3 : Class := { plain "com/example/tollgraph/tollgraph/traversal/Threshold" (some 2) with
  accessFlags := 48
  interfaces := #[]
  cf := some (fileOf pool3 23 #[] #[{ accessFlags := 0, nameIndex := 5, descriptorIndex := 30, attributes := #[] }, { accessFlags := 8, nameIndex := 59, descriptorIndex := 60, attributes := #[] }, { accessFlags := 8, nameIndex := 63, descriptorIndex := 64, attributes := #[] }] 48 2 #[] #[{ accessFlags := 18, nameIndex := 26, descriptorIndex := 27, attributes := #[] }, { accessFlags := 24, nameIndex := 53, descriptorIndex := 54, attributes := #[] }])
  fields := #[{ name := "at", type := .double, accessFlags := 18, slot := 0, constantValue := 0 }, { name := "UNBOUNDED", type := (.object "com/example/tollgraph/tollgraph/traversal/Threshold"), accessFlags := 24, slot := 0, constantValue := 0 }]
  methods := #[k3m0, k3m1, k3m2]
  instanceTypes := #[.double]
  staticTypes := #[(.object "com/example/tollgraph/tollgraph/traversal/Threshold")]
  resolved := Array.replicate 96 none
  statics := some 0 }

def pool4 : Array CpInfo := pool [(1, .class_ 2), (0, u "java/io/Serializable"), (0, .class_ 4), (0, u "java/lang/Object")] 2

/-- java/io/Serializable -/
def k4 : Class := { plain "java/io/Serializable" (some 0) with
  accessFlags := 1537
  interfaces := #[]
  cf := some (fileOf pool4 1 #[] #[] 1537 3 #[] #[])
  fields := #[]
  methods := #[]
  instanceTypes := #[]
  staticTypes := #[]
  resolved := Array.replicate 7 none
  statics := none }

def pool5 : Array CpInfo := pool [(2, .class_ 4), (1, u "java/lang/Object"), (0, u "<init>"), (0, u "()V"), (1, .class_ 10), (1, u "java/lang/Number"), (2, .class_ 14), (0, u "java/io/Serializable"), (0, u "serialVersionUID"), (0, u "J")] 20

def k5m0 : Method := { name := "<init>", desc := "()V", sig := { parameters := [], returnType := none }, accessFlags := 1, code := none }
/-- java/lang/Number -/
def k5 : Class := { plain "java/lang/Number" (some 0) with
  accessFlags := 1057
  interfaces := #[4]
  cf := some (fileOf pool5 8 #[] #[{ accessFlags := 1, nameIndex := 5, descriptorIndex := 6, attributes := #[] }] 1057 2 #[13] #[{ accessFlags := 26, nameIndex := 15, descriptorIndex := 16, attributes := #[] }])
  fields := #[{ name := "serialVersionUID", type := .long, accessFlags := 26, slot := 0, constantValue := 0 }]
  methods := #[k5m0]
  instanceTypes := #[]
  staticTypes := #[.long]
  resolved := Array.replicate 37 none
  statics := none }

def pool6 : Array CpInfo := pool [(1, .class_ 2), (0, u "java/lang/Comparable"), (0, .class_ 4), (0, u "java/lang/Object")] 7

/-- java/lang/Comparable -/
def k6 : Class := { plain "java/lang/Comparable" (some 0) with
  accessFlags := 1537
  interfaces := #[]
  cf := some (fileOf pool6 1 #[] #[] 1537 3 #[] #[])
  fields := #[]
  methods := #[]
  instanceTypes := #[]
  staticTypes := #[]
  resolved := Array.replicate 12 none
  statics := none }

def pool7 : Array CpInfo := pool [(1, .class_ 2), (0, u "java/lang/constant/Constable"), (0, .class_ 4), (0, u "java/lang/Object")] 6

/-- java/lang/constant/Constable -/
def k7 : Class := { plain "java/lang/constant/Constable" (some 0) with
  accessFlags := 1537
  interfaces := #[]
  cf := some (fileOf pool7 1 #[] #[] 1537 3 #[] #[])
  fields := #[]
  methods := #[]
  instanceTypes := #[]
  staticTypes := #[]
  resolved := Array.replicate 11 none
  statics := none }

def pool8 : Array CpInfo := pool [(1, .class_ 2), (0, u "java/lang/constant/ConstantDesc"), (0, .class_ 4), (0, u "java/lang/Object")] 32

/-- java/lang/constant/ConstantDesc -/
def k8 : Class := { plain "java/lang/constant/ConstantDesc" (some 0) with
  accessFlags := 1537
  interfaces := #[]
  cf := some (fileOf pool8 1 #[] #[] 1537 3 #[] #[])
  fields := #[]
  methods := #[]
  instanceTypes := #[]
  staticTypes := #[]
  resolved := Array.replicate 37 none
  statics := none }

def pool9 : Array CpInfo := pool [(1, .class_ 2), (0, u "java/lang/Double"), (11, u "(D)Z"), (99, .class_ 116), (1, u "java/lang/Number"), (3, u "value"), (0, u "D"), (2, u "isNaN"), (48, u "TYPE"), (0, u "Ljava/lang/Class;"), (0, .class_ 176), (0, u "java/lang/Comparable"), (0, .class_ 178), (0, u "java/lang/constant/Constable"), (0, .class_ 180), (0, u "java/lang/constant/ConstantDesc"), (0, u "POSITIVE_INFINITY"), (3, u "NEGATIVE_INFINITY"), (2, u "NaN"), (2, u "MAX_VALUE"), (0, u "MIN_NORMAL"), (0, u "MIN_VALUE"), (2, u "SIZE"), (0, u "I"), (1, u "PRECISION"), (1, u "MAX_EXPONENT"), (1, u "MIN_EXPONENT"), (1, u "BYTES"), (3, u "serialVersionUID"), (0, u "J")] 79

def k9c0 : Code := { maxStack := 4, maxLocals := 2, code := jdk_117_method_6_code, exceptionTable := #[], attributes := #[] }
def k9m0 : Method := { name := "isNaN", desc := "(D)Z", sig := { parameters := [.double], returnType := some .boolean }, accessFlags := 9, code := some k9c0 }
/-- java/lang/Double -/
def k9 : Class := { plain "java/lang/Double" (some 5) with
  accessFlags := 49
  interfaces := #[6, 7, 8]
  cf := some (fileOf pool9 1 #[] #[{ accessFlags := 9, nameIndex := 124, descriptorIndex := 14, attributes := #[] }] 49 114 #[175, 177, 179] #[{ accessFlags := 25, nameIndex := 181, descriptorIndex := 121, attributes := #[] }, { accessFlags := 25, nameIndex := 185, descriptorIndex := 121, attributes := #[] }, { accessFlags := 25, nameIndex := 188, descriptorIndex := 121, attributes := #[] }, { accessFlags := 25, nameIndex := 191, descriptorIndex := 121, attributes := #[] }, { accessFlags := 25, nameIndex := 192, descriptorIndex := 121, attributes := #[] }, { accessFlags := 25, nameIndex := 193, descriptorIndex := 121, attributes := #[] }, { accessFlags := 25, nameIndex := 196, descriptorIndex := 197, attributes := #[] }, { accessFlags := 25, nameIndex := 199, descriptorIndex := 197, attributes := #[] }, { accessFlags := 25, nameIndex := 201, descriptorIndex := 197, attributes := #[] }, { accessFlags := 25, nameIndex := 203, descriptorIndex := 197, attributes := #[] }, { accessFlags := 25, nameIndex := 205, descriptorIndex := 197, attributes := #[] }, { accessFlags := 25, nameIndex := 173, descriptorIndex := 174, attributes := #[] }, { accessFlags := 18, nameIndex := 120, descriptorIndex := 121, attributes := #[] }, { accessFlags := 26, nameIndex := 209, descriptorIndex := 210, attributes := #[] }])
  fields := #[{ name := "POSITIVE_INFINITY", type := .double, accessFlags := 25, slot := 0, constantValue := 0 }, { name := "NEGATIVE_INFINITY", type := .double, accessFlags := 25, slot := 1, constantValue := 0 }, { name := "NaN", type := .double, accessFlags := 25, slot := 2, constantValue := 0 }, { name := "MAX_VALUE", type := .double, accessFlags := 25, slot := 3, constantValue := 0 }, { name := "MIN_NORMAL", type := .double, accessFlags := 25, slot := 4, constantValue := 0 }, { name := "MIN_VALUE", type := .double, accessFlags := 25, slot := 5, constantValue := 0 }, { name := "SIZE", type := .int, accessFlags := 25, slot := 6, constantValue := 0 }, { name := "PRECISION", type := .int, accessFlags := 25, slot := 7, constantValue := 0 }, { name := "MAX_EXPONENT", type := .int, accessFlags := 25, slot := 8, constantValue := 0 }, { name := "MIN_EXPONENT", type := .int, accessFlags := 25, slot := 9, constantValue := 0 }, { name := "BYTES", type := .int, accessFlags := 25, slot := 10, constantValue := 0 }, { name := "TYPE", type := (.object "java/lang/Class"), accessFlags := 25, slot := 11, constantValue := 0 }, { name := "value", type := .double, accessFlags := 18, slot := 0, constantValue := 0 }, { name := "serialVersionUID", type := .long, accessFlags := 26, slot := 12, constantValue := 0 }]
  methods := #[k9m0]
  instanceTypes := #[.double]
  staticTypes := #[.double, .double, .double, .double, .double, .double, .int, .int, .int, .int, .int, (.object "java/lang/Class"), .long]
  resolved := Array.replicate 290 none
  statics := none }

def pool10 : Array CpInfo := pool [(1, u "java/lang/Cloneable"), (0, .class_ 1), (0, u "java/lang/Object"), (0, .class_ 3)] 3

/-- java/lang/Cloneable -/
def k10 : Class := { plain "java/lang/Cloneable" (some 0) with
  accessFlags := 1537
  interfaces := #[]
  cf := some (fileOf pool10 2 #[] #[] 1537 4 #[] #[])
  fields := #[]
  methods := #[]
  instanceTypes := #[]
  staticTypes := #[]
  resolved := Array.replicate 8 none
  statics := none }

/-- the primitive byte -/
def k11 : Class := { plain "byte" none with kind := .primitive 'B', accessFlags := 0x411 }
/-- [B -/
def k12 : Class := { plain "[B" (some 0) with kind := .array 11 .byte, interfaces := #[10, 4], accessFlags := 1041 }

/-- the primitive int -/
def k13 : Class := { plain "int" none with kind := .primitive 'I', accessFlags := 0x411 }
/-- [I -/
def k14 : Class := { plain "[I" (some 0) with kind := .array 13 .int, interfaces := #[10, 4], accessFlags := 1041 }

def heap : Heap := #[{ cls := 3, slots := #[.ref 1], vm := .statics 3 },
  { cls := 3, slots := #[.double 9218868437227405312], vm := .none }]
def classes : Array Class := #[k0, k1, k2, k3, k4, k5, k6, k7, k8, k9, k10, k11, k12, k13, k14]
def interned : List (Array UInt16 × Addr) := []
def slotsUsed : Nat := 2
def theMethod : MethodId := ⟨1, 1⟩
def args0 : Array Value := #[.int 5, .int 6, .int 7]
def aboutOver (below : List Frame) : State where
  vm := { classes := classes, interned := interned.toArray }
  heap := heap
  slotsUsed := slotsUsed
  threads := #[{ frames := .invoking theMethod args0 :: below }]
def below0 : List Frame := [.native { method := ⟨0, 0⟩, args := #[] }]
def about1 : State := aboutOver below0
def p0 : Program := .bare "" "" ""
def e0 : Env := launch0.env 0 0 0
theorem w_frames : about1.frames = Frame.invoking theMethod args0 :: below0 := rfl
set_option maxRecDepth 65536 in
theorem w_args : argsFit about1.vm theMethod args0 = true := by decide +kernel
set_option maxRecDepth 65536 in
theorem w_heap : heapFits about1 = true := by decide +kernel
set_option maxRecDepth 65536 in
theorem w_runnable : about1.curStatus? = some .runnable := by decide +kernel
set_option maxRecDepth 65536 in
theorem w_alone : about1.alone = true := by decide +kernel
set_option maxRecDepth 65536 in
theorem w_named : about1.methodNamed? x = some theMethod := by decide +kernel
set_option maxRecDepth 65536 in
theorem w_hears : about1.hears theMethod below0 = true := by decide +kernel
set_option maxRecDepth 65536 in
theorem w_ripe : about1.ripe theMethod args0 below0 = true := by decide +kernel
theorem w_running : about1.status = .running := rfl
set_option maxRecDepth 65536 in
theorem w_room : about1.hasRoom e0.platform room_1 = true :=
  launch0.hasRoom_least _ room_1 (by decide +kernel) (by decide +kernel) (by decide +kernel) (by decide +kernel) (by decide +kernel) (by decide +kernel)
theorem allAtoms_all (ts : List Jvm.Cond) (a : Array Jvm.Value) (st : Jvm.State) : (allAtoms ts).before a st = ts.all (fun c => c.before a st) := by
  induction ts with
  | nil => rfl
  | cons c t ih =>
    show (Jvm.Cond.and c (allAtoms t)).before a st = _
    rw [Jvm.Cond.before_and, ih, List.all_cons]
def words1 : List Jvm.Cond := Jvm.Cond.code x code maxLocals ret :: tables_1
/-- a 'code' word, met by the world's own term for the bytes: nothing is compared byte by byte -/
theorem code_word {y : MethodName} {bytes : ByteArray} {mx : Nat} {rt : Option FieldType} {a : Array Value} {s : State} {m : MethodId} {meth : Method} {c : Code} (h1 : s.methodNamed? y = some m) (h2 : s.vm.method? m = some meth) (h3 : meth.code = some c) (h4 : c.code = bytes)
    (h5 : (c.maxLocals == mx && c.exceptionTable.isEmpty && decide (c.maxStack ≤ mostOperands) && decide (meth.sig.returnType = rt) && !meth.locks && decide (parseMethodDescriptor y.desc = some meth.sig)) = true) : (Jvm.Cond.code y bytes mx rt).before a s = true := by
  simp only [Bool.and_eq_true, beq_iff_eq, Bool.not_eq_true', decide_eq_true_eq] at h5
  obtain ⟨⟨⟨⟨⟨g1, g2⟩, g3⟩, g4⟩, g5⟩, g6⟩ := h5
  simp [Cond.before, Cond.holds, Cond.value, h1, h2, h3, h4, g1, g2, g3, g4, g5, g6]
def isCode : Jvm.Cond → Bool
  | .code _ _ _ _ => true
  | _ => false
theorem all_split {L : List Jvm.Cond} {P : Jvm.Cond → Bool} (h1 : L.all (fun c => isCode c || P c) = true) (h2 : ∀ c ∈ L.filter isCode, P c = true) : L.all P = true := by
  refine List.all_eq_true.mpr fun c hc => ?_
  have h := List.all_eq_true.mp h1 c hc
  rcases Bool.eq_false_or_eq_true (isCode c) with hi | hi
  · exact h2 c (List.mem_filter.mpr ⟨hc, hi⟩)
  · simpa [hi] using h
set_option maxRecDepth 65536 in
theorem w_c0 : (Jvm.Cond.code x code maxLocals ret).before args0 about1 = true := code_word (m := ⟨1, 1⟩) (meth := k1m1) (c := k1c1) (by decide +kernel) rfl rfl rfl (by decide +kernel)
set_option maxRecDepth 65536 in
theorem w_c1 : (Jvm.Cond.code ({ cls := "com/example/tollgraph/tollgraph/traversal/Threshold", name := "bid", desc := "(D)Lcom/example/tollgraph/tollgraph/traversal/Threshold;" } : Jvm.MethodName) prog_51_method_2_code (2 : Nat) (Option.some (Jvm.ClassFile.FieldType.object "com/example/tollgraph/tollgraph/traversal/Threshold"))).before args0 about1 = true := code_word (m := ⟨3, 1⟩) (meth := k3m1) (c := k3c1) (by decide +kernel) rfl rfl rfl (by decide +kernel)
set_option maxRecDepth 65536 in
theorem w_c2 : (Jvm.Cond.code ({ cls := "com/example/tollgraph/tollgraph/traversal/Threshold", name := "<init>", desc := "(D)V" } : Jvm.MethodName) prog_51_method_1_code (3 : Nat) (Option.none : Option Jvm.ClassFile.FieldType)).before args0 about1 = true := code_word (m := ⟨3, 0⟩) (meth := k3m0) (c := k3c0) (by decide +kernel) rfl rfl rfl (by decide +kernel)
set_option maxRecDepth 65536 in
theorem w_c3 : (Jvm.Cond.code ({ cls := "java/lang/Record", name := "<init>", desc := "()V" } : Jvm.MethodName) jdk_30_method_1_code (1 : Nat) (Option.none : Option Jvm.ClassFile.FieldType)).before args0 about1 = true := code_word (m := ⟨2, 0⟩) (meth := k2m0) (c := k2c0) (by decide +kernel) rfl rfl rfl (by decide +kernel)
set_option maxRecDepth 65536 in
theorem w_c4 : (Jvm.Cond.code ({ cls := "java/lang/Object", name := "<init>", desc := "()V" } : Jvm.MethodName) object_method_1_code (1 : Nat) (Option.none : Option Jvm.ClassFile.FieldType)).before args0 about1 = true := code_word (m := ⟨0, 0⟩) (meth := k0m0) (c := k0c0) (by decide +kernel) rfl rfl rfl (by decide +kernel)
set_option maxRecDepth 65536 in
theorem w_c5 : (Jvm.Cond.code ({ cls := "java/lang/Double", name := "isNaN", desc := "(D)Z" } : Jvm.MethodName) jdk_117_method_6_code (2 : Nat) (Option.some Jvm.ClassFile.FieldType.boolean)).before args0 about1 = true := code_word (m := ⟨9, 0⟩) (meth := k9m0) (c := k9c0) (by decide +kernel) rfl rfl rfl (by decide +kernel)
set_option maxRecDepth 65536 in
theorem w_c6 : (Jvm.Cond.code ({ cls := "com/example/tollgraph/tollgraph/traversal/Threshold", name := "min", desc := "(Lcom/example/tollgraph/tollgraph/traversal/Threshold;Lcom/example/tollgraph/tollgraph/traversal/Threshold;)Lcom/example/tollgraph/tollgraph/traversal/Threshold;" } : Jvm.MethodName) prog_51_method_4_code (2 : Nat) (Option.some (Jvm.ClassFile.FieldType.object "com/example/tollgraph/tollgraph/traversal/Threshold"))).before args0 about1 = true := code_word (m := ⟨3, 2⟩) (meth := k3m2) (c := k3c2) (by decide +kernel) rfl rfl rfl (by decide +kernel)
def codes1 : List Jvm.Cond := [Jvm.Cond.code x code maxLocals ret, Jvm.Cond.code ({ cls := "com/example/tollgraph/tollgraph/traversal/Threshold", name := "bid", desc := "(D)Lcom/example/tollgraph/tollgraph/traversal/Threshold;" } : Jvm.MethodName) prog_51_method_2_code (2 : Nat) (Option.some (Jvm.ClassFile.FieldType.object "com/example/tollgraph/tollgraph/traversal/Threshold")), Jvm.Cond.code ({ cls := "com/example/tollgraph/tollgraph/traversal/Threshold", name := "<init>", desc := "(D)V" } : Jvm.MethodName) prog_51_method_1_code (3 : Nat) (Option.none : Option Jvm.ClassFile.FieldType), Jvm.Cond.code ({ cls := "java/lang/Record", name := "<init>", desc := "()V" } : Jvm.MethodName) jdk_30_method_1_code (1 : Nat) (Option.none : Option Jvm.ClassFile.FieldType), Jvm.Cond.code ({ cls := "java/lang/Object", name := "<init>", desc := "()V" } : Jvm.MethodName) object_method_1_code (1 : Nat) (Option.none : Option Jvm.ClassFile.FieldType), Jvm.Cond.code ({ cls := "java/lang/Double", name := "isNaN", desc := "(D)Z" } : Jvm.MethodName) jdk_117_method_6_code (2 : Nat) (Option.some Jvm.ClassFile.FieldType.boolean), Jvm.Cond.code ({ cls := "com/example/tollgraph/tollgraph/traversal/Threshold", name := "min", desc := "(Lcom/example/tollgraph/tollgraph/traversal/Threshold;Lcom/example/tollgraph/tollgraph/traversal/Threshold;)Lcom/example/tollgraph/tollgraph/traversal/Threshold;" } : Jvm.MethodName) prog_51_method_4_code (2 : Nat) (Option.some (Jvm.ClassFile.FieldType.object "com/example/tollgraph/tollgraph/traversal/Threshold"))]
set_option maxRecDepth 65536 in
theorem codes_eq : words1.filter isCode = codes1 := rfl
theorem w_codes : ∀ c ∈ words1.filter isCode, c.before args0 about1 = true := by
  rw [codes_eq]
  intro c hc
  simp only [codes1, List.mem_cons, List.not_mem_nil, or_false] at hc
  rcases hc with rfl | rfl | rfl | rfl | rfl | rfl | rfl
  · exact w_c0
  · exact w_c1
  · exact w_c2
  · exact w_c3
  · exact w_c4
  · exact w_c5
  · exact w_c6
set_option maxRecDepth 65536 in
theorem w_t1 : (words1.take 24).all (fun c => isCode c || c.before args0 about1) = true := by decide +kernel
set_option maxRecDepth 65536 in
theorem w_t2 : (words1.drop 24).all (fun c => isCode c || c.before args0 about1) = true := by decide +kernel
theorem w_tables : (allAtoms (Jvm.Cond.code x code maxLocals ret :: tables_1)).before args0 about1 = true := by
  rw [allAtoms_all]
  show words1.all (fun c => c.before args0 about1) = true
  refine all_split ?_ w_codes
  rw [← List.take_append_drop 24 words1, List.all_append, w_t1, w_t2]
  rfl
set_option maxRecDepth 65536 in
theorem w_case : (Jvm.Cond.and given_1 narrow_1).before args0 about1 = true := by decide +kernel
theorem w_applies : (headSpec (Jvm.Cond.code x code maxLocals ret :: tables_1) room_1).applies x e0.platform about1 = true :=
  (Spec.applies_iff w_frames).mpr ⟨w_running, w_runnable, w_alone, w_named, w_hears, w_ripe, w_room, w_tables⟩
theorem atStart : AtStart classFile x code maxLocals ret World_1 tables_1 room_1 Calls_1 rest_1 Pre_1 launch0 p0 e0 about1 theMethod args0 below0 :=
  ⟨lists_1, trivial, launch0.admits_env _ _ _, launch0.least_env, fairChoices_fair.cas, fairChoices_fair.clock, w_frames, w_args, w_heap, w_applies, trivial, trivial, w_case⟩
end start1
theorem witness_1 : WitnessClaimed_1 := ⟨start1.p0, start1.e0, start1.about1, start1.theMethod, start1.args0, start1.below0, start1.atStart⟩
end Jvm.Pilot.@@N@@
