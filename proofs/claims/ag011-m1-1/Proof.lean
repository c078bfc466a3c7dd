import JvmDerived
import JvmDerived.Pilot.@@N@@Statement
import JvmDerived.Pilot.@@N@@Code
set_option linter.unusedVariables false
set_option linter.unusedSimpArgs false
namespace Jvm.RoadKit
open Sem ClassFile Op Lib Jvm.Stand Jvm.Free Jvm.LawKit
section Own
variable {p : Program} {l : Launch} {e : Env} {R : Room} {s : State} {m : MethodId} {args : Array Value} {below : List Frame} {meth : Method} {c : Code} {T : State} {locs : List Loc} {cells slots : Nat}
def own_Go (p : Program) (e : Env) (below : List Frame) (K : State → Outcome → Prop) (T : State) (g : JFrame) : Prop :=
  ∃ t o, Steps p.tables e below (T.setTop g) t ∧ t.status = .running ∧ Ended t below o ∧ K t o
theorem own_go {K : State → Outcome → Prop} {T1 T2 : State} {g1 g2 : JFrame} (h : ∀ t, Steps p.tables e below (T2.setTop g2) t → Steps p.tables e below (T1.setTop g1) t) (k : own_Go p e below K T2 g2) : own_Go p e below K T1 g1 := by
  obtain ⟨t, o, h1, h2⟩ := k
  exact ⟨t, o, h t h1, h2⟩
theorem own_ap {T1 T2 t : State} {g1 g2 : JFrame} (h : ∀ t, Steps p.tables e below (T2.setTop g2) t → Steps p.tables e below (T1.setTop g1) t) (k : Steps p.tables e below (T2.setTop g2) t) : Steps p.tables e below (T1.setTop g1) t := h t k
def own_K (s : State) (Q : Option Value → Heap → List Loc → Prop) (C S : Nat) (t : State) (o : Outcome) : Prop := ∃ v L, o = .returned v ∧ Q v t.heap L ∧ FrameEnd s o t L C S
def own_QP (r : Option Value) (h0 : Heap) (v : Option Value) (h : Heap) (L : List Loc) : Prop := v = r ∧ L = [] ∧ h = h0
def own_Con (l : Launch) (Z : State) (y : MethodName) (bytes : ByteArray) (maxL : Nat) (ret : Option FieldType) (rm : Room) (as' : Array Value) (h : Heap) (Q : Option Value → Heap → List Loc → Prop) : Prop :=
  MetFree l y (head1 [Cond.code y bytes maxL ret] rm) (fun a U => a = as' ∧ Z.Warmed39 U.vm ∧ U.heap = h) (fun _ _ _ _ _ => True) (fun _ U o U' => ∃ v L, o = .returned v ∧ Q v U'.heap L ∧ FrameEnd U o U' L rm.cells rm.slots)
theorem own_end (X : Stand p l e R s m args below meth c T locs cells slots) {v : Option Value} (hl : meth.locks = false) (hv : meth.sig.returnType = none → v = none) {g : JFrame} {Q : Option Value → Heap → List Loc → Prop} {C S : Nat}
    (hstep : ∀ fs, (∀ (f : JFrame) (acts : List Action), f.method = m → f.locked = none → f.entered = [] → (doReturn e (T.setTop f) acts v).1 = T.setFrames fs) → Steps p.tables e below (T.setTop g) (T.setFrames fs))
    (hc : cells ≤ C) (hs : slots ≤ S) (hQ : Q v T.heap locs) : own_Go p e below (own_K s Q C S) T g := by
  obtain ⟨fs, hr, hrun, hended, hW, hsame⟩ := X.leave hv hl
  exact ⟨_, _, hstep fs hr, hrun, hended, v, locs, rfl, hQ, ⟨_, rfl⟩, hW, hsame.mono hc hs⟩
theorem own_endN (X : Stand p l e R s m args below meth c T locs cells slots) (hx : p.tables.exec = Jvm.exec) (hl : meth.locks = false) {pc : Nat} {Ls : Array Slot} {z z' : Int32} {t : FieldType} {rest : List Value} {Q : Option Value → Heap → List Loc → Prop} {C S : Nat}
    (hret : meth.sig.returnType = some t) (ht : t = .boolean ∨ t = .byte ∨ t = .char ∨ t = .short) (hd : decode c.code pc = .ok (.ireturn, 1)) (hz : nar t z = z') (hc : cells ≤ C) (hs : slots ≤ S) (hQ : Q (some (.int z')) T.heap locs) :
    own_Go p e below (own_K s Q C S) T (mkF m pc Ls (.int z :: rest)) := by
  subst hz
  exact own_end X hl (fun h => by rw [hret] at h; cases h) (fun fs hr => retN X hx hret ht hd hr) hc hs hQ
theorem own_endI (X : Stand p l e R s m args below meth c T locs cells slots) (hx : p.tables.exec = Jvm.exec) (hl : meth.locks = false) {pc : Nat} {Ls : Array Slot} {z : Int32} {rest : List Value} {Q : Option Value → Heap → List Loc → Prop} {C S : Nat}
    (hret : meth.sig.returnType = some .int) (hd : decode c.code pc = .ok (.ireturn, 1)) (hc : cells ≤ C) (hs : slots ≤ S) (hQ : Q (some (.int z)) T.heap locs) :
    own_Go p e below (own_K s Q C S) T (mkF m pc Ls (.int z :: rest)) :=
  own_end X hl (fun h => by rw [hret] at h; cases h) (fun fs hr => retOut X hx hret rfl (Or.inl ⟨rfl, Or.inl rfl, z, rfl⟩) hd hr) hc hs hQ
theorem own_endJ (X : Stand p l e R s m args below meth c T locs cells slots) (hx : p.tables.exec = Jvm.exec) (hl : meth.locks = false) {pc : Nat} {Ls : Array Slot} {z : Int64} {rest : List Value} {Q : Option Value → Heap → List Loc → Prop} {C S : Nat}
    (hret : meth.sig.returnType = some .long) (hd : decode c.code pc = .ok (.lreturn, 1)) (hc : cells ≤ C) (hs : slots ≤ S) (hQ : Q (some (.long z)) T.heap locs) :
    own_Go p e below (own_K s Q C S) T (mkF m pc Ls (.long z :: rest)) :=
  own_end X hl (fun h => by rw [hret] at h; cases h) (fun fs hr => retOut X hx hret rfl (Or.inr (Or.inl ⟨rfl, rfl, z, rfl⟩)) hd hr) hc hs hQ
theorem own_endR (X : Stand p l e R s m args below meth c T locs cells slots) (hx : p.tables.exec = Jvm.exec) (hl : meth.locks = false) {pc : Nat} {Ls : Array Slot} {w : Value} {t : FieldType} {rest : List Value} {Q : Option Value → Heap → List Loc → Prop} {C S : Nat}
    (hret : meth.sig.returnType = some t) (ht : t.isReference = true) (hw : w.isRef = true) (hd : decode c.code pc = .ok (.areturn, 1)) (hc : cells ≤ C) (hs : slots ≤ S) (hQ : Q (some w) T.heap locs) :
    own_Go p e below (own_K s Q C S) T (mkF m pc Ls (w :: rest)) :=
  own_end X hl (fun h => by rw [hret] at h; cases h) (fun fs hr => retOut X hx hret (by rcases ref_cases hw with rfl | ⟨a, rfl⟩ <;> cases t <;> first | rfl | (cases ht)) (Or.inr (Or.inr (Or.inr (Or.inr ⟨rfl, ht, hw⟩)))) hd hr) hc hs hQ
theorem own_endV (X : Stand p l e R s m args below meth c T locs cells slots) (hx : p.tables.exec = Jvm.exec) (hl : meth.locks = false) {pc : Nat} {Ls : Array Slot} {Q : Option Value → Heap → List Loc → Prop} {C S : Nat}
    (hret : meth.sig.returnType = none) (hd : decode c.code pc = .ok (.return_, 1)) (hc : cells ≤ C) (hs : slots ≤ S) (hQ : Q none T.heap locs) :
    own_Go p e below (own_K s Q C S) T (mkF m pc Ls []) :=
  own_end X hl (fun _ => rfl) (fun fs hr => X.returnOut hx hret hd hr) hc hs hQ
variable {Z : State} {a0 : Array Value} {h : Heap} {y z : MethodName} {bytes : ByteArray} {maxL : Nat} {ret : Option FieldType} {rm : Room} {as' : Array Value} {Q : Option Value → Heap → List Loc → Prop}
theorem own_static (X : Stand p l e R s m args below meth c T locs cells slots) (hx : p.tables.exec = Jvm.exec) (hZ : Z.Warmed39 s.vm) {own : String} {index : Nat} (hown : s.vm.findClass own = some m.cls)
    (w1 : (Cond.methodLink own index y).before a0 Z = true) (w2 : (Cond.static y).before a0 Z = true) (w3 : (Cond.initialized y.cls).before a0 Z = true) (w4 : (Cond.code y bytes maxL ret).before a0 Z = true) (hy : y.cls ≠ "java/lang/invoke/MethodHandle" ∧ y.cls ≠ "java/lang/invoke/VarHandle")
    (W : Nat) {argsL rest : List Value} (hM : own_Con l Z y bytes maxL ret rm argsL.toArray h Q) (hf : rm.frames + 1 ≤ R.frames) (hl : W + (maxL + 11) + rm.locals ≤ R.locals)
    {g : JFrame} (hg : g.method = m) (hsize : g.locals.size = c.maxLocals) (hlen : ∀ sig, parseMethodDescriptor y.desc = some sig → argsL.length = sig.parameters.length) (hstack : g.stack = argsL.reverse ++ rest)
    (hW : 2 * g.monitorRoom + (rest.map fun v => v.category).sum ≤ W) (hdg : decode c.code g.pc = .ok (.invokestatic index, 3)) (eT : T.heap = h) (hc : cells + rm.cells ≤ R.cells) (hs : slots + rm.slots ≤ R.slots) :
    ∃ (v : Option Value) (T' : State) (L : List Loc), Stand p l e R s m args below meth c T' (locs ++ L) (cells + rm.cells) (slots + rm.slots) ∧ Q v T'.heap L ∧
      ∀ target, Steps p.tables e below (T'.setTop { g with pc := g.pc + 3, stack := v.toList ++ rest }) target → Steps p.tables e below (T.setTop g) target := by
  obtain ⟨v, _, ⟨T', L', k', n'⟩, -, X', ⟨L, hQ, e1, e2, e3⟩, st⟩ := Jvm.LawKit.callS X hx (y := y) hown (mvT hZ w1) (mvT hZ w2) (mvT hZ w3) (mvT hZ w4) hy (backOf (W := W) hM hZ w4 w3 hf hl) hg hsize hlen hstack hW hdg (fun _ _ => ⟨rfl, eT, hc, hs⟩)
  dsimp only [Pt.U, Pt.locs, Pt.cells, Pt.slots] at X' e1 e2 e3 st hQ
  subst e1 e2 e3
  exact ⟨v, T', L, X', hQ, st⟩
theorem own_special (X : Stand p l e R s m args below meth c T locs cells slots) (hx : p.tables.exec = Jvm.exec) (hZ : Z.Warmed39 s.vm) {own : String} {index : Nat} (hy1 : y.name = "<init>") (hown : s.vm.findClass own = some m.cls)
    (w1 : (Cond.methodLink own index y).before a0 Z = true) (w2 : (Cond.instanceMethod y).before a0 Z = true) (w3 : (Cond.initialized y.cls).before a0 Z = true) (w4 : (Cond.code y bytes maxL none).before a0 Z = true) (hy : y.cls ≠ "java/lang/invoke/MethodHandle" ∧ y.cls ≠ "java/lang/invoke/VarHandle")
    (W : Nat) {a : Addr} {argsL rest : List Value} (hM : own_Con l Z y bytes maxL none rm (.ref a :: argsL).toArray h Q) (hf : rm.frames + 1 ≤ R.frames) (hl : W + (maxL + 11) + rm.locals ≤ R.locals)
    {g : JFrame} (hg : g.method = m) (hsize : g.locals.size = c.maxLocals) (hlen : ∀ sig, parseMethodDescriptor y.desc = some sig → argsL.length = sig.parameters.length) (hstack : g.stack = argsL.reverse ++ .ref a :: rest)
    (hW : 2 * g.monitorRoom + (rest.map fun v => v.category).sum ≤ W) (hdg : decode c.code g.pc = .ok (.invokespecial index, 3)) (eT : T.heap = h) (hc : cells + rm.cells ≤ R.cells) (hs : slots + rm.slots ≤ R.slots) :
    ∃ (v : Option Value) (T' : State) (L : List Loc), Stand p l e R s m args below meth c T' (locs ++ L) (cells + rm.cells) (slots + rm.slots) ∧ Q v T'.heap L ∧
      ∀ target, Steps p.tables e below (T'.setTop { g with pc := g.pc + 3, stack := v.toList ++ rest }) target → Steps p.tables e below (T.setTop g) target := by
  obtain ⟨v, _, ⟨T', L', k', n'⟩, -, X', ⟨L, hQ, e1, e2, e3⟩, st⟩ := X.specialBack hx (y := y) hy1 hown (mvT hZ w1) (mvT hZ w2) (mvT hZ w4) hy (backOf (W := W) hM hZ w4 w3 hf hl) hg hsize (Steps.refl _) hlen hstack hW hdg (fun _ _ => ⟨rfl, eT, hc, hs⟩)
  dsimp only [Pt.U, Pt.locs, Pt.cells, Pt.slots] at X' e1 e2 e3 st hQ
  subst e1 e2 e3
  exact ⟨v, T', L, X', hQ, fun t k => st.trans k⟩
theorem own_virtual (X : Stand p l e R s m args below meth c T locs cells slots) (hx : p.tables.exec = Jvm.exec) (hZ : Z.Warmed39 s.vm) {own C : String} {index : Nat} (hown : s.vm.findClass own = some m.cls)
    (w1 : (Cond.methodLink own index y).before a0 Z = true) (w2 : (Cond.declares y).before a0 Z = true) (hnf : NotFace s y) (w5 : (Cond.selects C y z).before a0 Z = true) (w6 : (Cond.instanceMethod z).before a0 Z = true)
    (w3 : (Cond.initialized z.cls).before a0 Z = true) (w4 : (Cond.code z bytes maxL ret).before a0 Z = true) (hy : y.cls ≠ "java/lang/invoke/MethodHandle" ∧ y.cls ≠ "java/lang/invoke/VarHandle")
    (W : Nat) {a : Addr} {argsL rest : List Value} (hM : own_Con l Z z bytes maxL ret rm (.ref a :: argsL).toArray h Q) (hf : rm.frames + 1 ≤ R.frames) (hl : W + (maxL + 11) + rm.locals ≤ R.locals) (E : Exa Z h a C)
    {g : JFrame} (hg : g.method = m) (hsize : g.locals.size = c.maxLocals) (hlen : ∀ sig, parseMethodDescriptor y.desc = some sig → argsL.length = sig.parameters.length) (hstack : g.stack = argsL.reverse ++ .ref a :: rest)
    (hW : 2 * g.monitorRoom + (rest.map fun v => v.category).sum ≤ W) (hdg : decode c.code g.pc = .ok (.invokevirtual index, 3)) (eT : T.heap = h) (hc : cells + rm.cells ≤ R.cells) (hs : slots + rm.slots ≤ R.slots) :
    ∃ (v : Option Value) (T' : State) (L : List Loc), Stand p l e R s m args below meth c T' (locs ++ L) (cells + rm.cells) (slots + rm.slots) ∧ Q v T'.heap L ∧
      ∀ target, Steps p.tables e below (T'.setTop { g with pc := g.pc + 3, stack := v.toList ++ rest }) target → Steps p.tables e below (T.setTop g) target := by
  obtain ⟨cB, kB, q1, -, q2⟩ := isOf hZ eT E
  obtain ⟨v, _, ⟨T', L', k', n'⟩, -, X', ⟨L, hQ, e1, e2, e3⟩, st⟩ := X.virtualBack hx (y := y) (z := z) hown (mvT hZ w1) (mvT hZ w2) hnf (mvT hZ w5) (mvT hZ w6) hy (backOf (W := W) hM hZ w4 w3 hf hl) q1 q2 hg hsize (Steps.refl _) hlen hstack hW hdg (fun _ _ => ⟨rfl, eT, hc, hs⟩)
  dsimp only [Pt.U, Pt.locs, Pt.cells, Pt.slots] at X' e1 e2 e3 st hQ
  subst e1 e2 e3
  exact ⟨v, T', L, X', hQ, fun t k => st.trans k⟩
theorem own_virtualUp (X : Stand p l e R s m args below meth c T locs cells slots) (hx : p.tables.exec = Jvm.exec) (hZ : Z.Warmed39 s.vm) {own C owner : String} {index : Nat} (hown : s.vm.findClass own = some m.cls)
    (w1 : (Cond.methodLink own index y).before a0 Z = true) (w7 : (Cond.sameMethod y.cls owner y.name y.desc).before a0 Z = true) (w2 : (Cond.declares ⟨owner, y.name, y.desc⟩).before a0 Z = true) (ho : owner ≠ "java/lang/invoke/MethodHandle" ∧ owner ≠ "java/lang/invoke/VarHandle") (w5 : (Cond.selects C y z).before a0 Z = true) (w6 : (Cond.instanceMethod z).before a0 Z = true)
    (w3 : (Cond.initialized z.cls).before a0 Z = true) (w4 : (Cond.code z bytes maxL ret).before a0 Z = true)
    (W : Nat) {a : Addr} {argsL rest : List Value} (hM : own_Con l Z z bytes maxL ret rm (.ref a :: argsL).toArray h Q) (hf : rm.frames + 1 ≤ R.frames) (hl : W + (maxL + 11) + rm.locals ≤ R.locals) (E : Exa Z h a C)
    {g : JFrame} (hg : g.method = m) (hsize : g.locals.size = c.maxLocals) (hlen : ∀ sig, parseMethodDescriptor y.desc = some sig → argsL.length = sig.parameters.length) (hstack : g.stack = argsL.reverse ++ .ref a :: rest)
    (hW : 2 * g.monitorRoom + (rest.map fun v => v.category).sum ≤ W) (hdg : decode c.code g.pc = .ok (.invokevirtual index, 3)) (eT : T.heap = h) (hc : cells + rm.cells ≤ R.cells) (hs : slots + rm.slots ≤ R.slots) :
    ∃ (v : Option Value) (T' : State) (L : List Loc), Stand p l e R s m args below meth c T' (locs ++ L) (cells + rm.cells) (slots + rm.slots) ∧ Q v T'.heap L ∧
      ∀ target, Steps p.tables e below (T'.setTop { g with pc := g.pc + 3, stack := v.toList ++ rest }) target → Steps p.tables e below (T.setTop g) target := by
  obtain ⟨cB, kB, q1, -, q2⟩ := isOf hZ eT E
  obtain ⟨v, _, ⟨T', L', k', n'⟩, -, X', ⟨L, hQ, e1, e2, e3⟩, st⟩ := X.virtualBackUp hx (x := y) (y := z) (owner := owner) hown (mvT hZ w1) (mvT hZ w7) (mvT hZ w2) ho (mvT hZ w5) (mvT hZ w6) (backOf (W := W) hM hZ w4 w3 hf hl) q1 q2 hg hsize (Steps.refl _) hlen hstack hW hdg (fun _ _ => ⟨rfl, eT, hc, hs⟩)
  dsimp only [Pt.U, Pt.locs, Pt.cells, Pt.slots] at X' e1 e2 e3 st hQ
  subst e1 e2 e3
  exact ⟨v, T', L, X', hQ, fun t k => st.trans k⟩
theorem own_wd {ts : List Cond} (hw : ∀ d ∈ ts, d.before a0 Z = true) {d : Cond} (n : Nat) (h : ts[n]? = some d) : d.before a0 Z = true := hw d (List.mem_of_getElem? h)
theorem own_fldI {t : Term} {w : Addr} {C n d : String} {k : Int32} (ev : t.eval args s none [] s = some (.ref w)) (h : (Cond.eq (Term.field t C n d) (Term.int k)).value args s none s [] = some true) : Fld s s.heap w C n d (.int k) := by
  apply Fld.start
  cases hf : s.fieldOf? w C n d with
  | none => simp [Cond.value, Term.eval, ev, hf] at h
  | some x => cases x <;> simp [Cond.value, Term.eval, ev, hf] at h ⊢; exact h
theorem own_fldN {t : Term} {w : Addr} {C n d : String} (ev : t.eval args s none [] s = some (.ref w)) (h : (Cond.eq (Term.field t C n d) Term.null).value args s none s [] = some true) : Fld s s.heap w C n d .null := by
  have q := null_v h
  rw [fld_at ev] at q
  exact Fld.start q
theorem own_fldR {t u : Term} {w b : Addr} {C n d : String} (ev : t.eval args s none [] s = some (.ref w)) (eu : u.eval args s none [] s = some (.ref b)) (h : (Cond.eq (Term.field t C n d) u).value args s none s [] = some true) : Fld s s.heap w C n d (.ref b) := by
  apply Fld.start
  cases hf : s.fieldOf? w C n d with
  | none => simp [Cond.value, Term.eval, ev, eu, hf] at h
  | some x => cases x <;> simp [Cond.value, Term.eval, ev, eu, hf] at h ⊢; exact h
theorem own_ne {t u : Term} {w b : Addr} (ev : t.eval args s none [] s = some (.ref w)) (eu : u.eval args s none [] s = some (.ref b)) (h : (Cond.not (Cond.eq t u)).value args s none s [] = some true) : w ≠ b := by
  have q := not_v h
  intro e
  subst e
  simp [Cond.value, ev, eu] at q
end Own
end Jvm.RoadKit
namespace Jvm.RoadKit
open Sem ClassFile Op Lib Jvm.Stand Jvm.Free Jvm.LawKit
section Own2
variable {p : Program} {l : Launch} {e : Env} {R : Room} {s : State} {m : MethodId} {args : Array Value} {below : List Frame} {meth : Method} {c : Code} {T : State} {locs : List Loc} {cells slots : Nat}
variable {Z : State} {a0 : Array Value} {h h0 h' : Heap} {y z : MethodName} {bytes : ByteArray} {maxL : Nat} {ret : Option FieldType} {rm : Room} {as' : Array Value} {Q : Option Value → Heap → List Loc → Prop} {ws ws' : List Addr} {L L' : List Loc}
/-- what a walk has done to the heap: old cells that aren't in ws stand as they were, so do the cells of statics; what was written lies in ws or is new -/
def own_Kp (h0 h : Heap) (ws : List Addr) (L : List Loc) : Prop := Keep h0 h ws ∧ (∀ y ∈ L, y.base ∈ ws ∨ h0.size ≤ y.base) ∧ ∀ (x : Addr) (c : Cell), h0[x]? = some c → c.vm.isStatics = true → h[x]? = some c
theorem own_kpRefl (h : Heap) (ws : List Addr) : own_Kp h h ws [] := ⟨Keep.refl _ _, fun _ q => (nomatch q), fun _ _ q _ => q⟩
theorem own_kpExt (K : own_Kp h0 h ws L) (E : Ext h h') : own_Kp h0 h' ws L := ⟨K.1.ext E, K.2.1, fun x c q r => E.2 x c (K.2.2 x c q r)⟩
theorem own_kpTrans (K : own_Kp h0 h ws L) (K' : own_Kp h h' ws' L') (q : ∀ x ∈ ws', x ∈ ws ∨ h0.size ≤ x) : own_Kp h0 h' ws (L ++ L') :=
  ⟨K.1.trans K'.1 q, fun y hy => (List.mem_append.mp hy).elim (K.2.1 y) fun hy' => (K'.2.1 y hy').elim (q _) fun r => Or.inr (Nat.le_trans K.1.1 r), fun x c r t => K'.2.2 x c (K.2.2 x c r t) t⟩
theorem own_kpWr {a : Addr} {sl : Nat} {v : Value} (K : own_Kp h0 h ws L) (W : Wr h h' a sl v) (q : a ∈ ws ∨ h0.size ≤ a) : own_Kp h0 h' ws (L ++ [⟨a, sl⟩]) := by
  refine ⟨K.1.wr W q, fun y hy => (List.mem_append.mp hy).elim (K.2.1 y) fun hy' => by cases List.mem_singleton.mp hy'; exact q, fun x c r t => ?_⟩
  obtain ⟨c', e1, -, -, -, e5, -, e7⟩ := wr_at W (K.2.2 x c r t)
  have ne : x ≠ a := fun e => by rw [(e7 e).2.2] at t; cases t
  rw [← e5 ne]; exact e1
theorem own_kpSta {C n d : String} {v : Value} (K : own_Kp h h' ws L) (F : Sta Z h C n d v) : Sta Z h' C n d v := by
  obtain ⟨cf, i, k, f, st, cell, h1, h2, h3, h4, h5, h6, h7⟩ := F
  exact ⟨cf, i, k, f, st, cell, h1, h2, h3, h4, K.2.2 _ _ h5 h6, h6, h7⟩
theorem own_kpFr (K : own_Kp h0 h [] L) : Fr h0.size L := fun y hy => (K.2.1 y hy).elim (fun q => nomatch q) id
def own_ConW (l : Launch) (Z : State) (y : MethodName) (bytes : ByteArray) (maxL : Nat) (ret : Option FieldType) (hs : List (Nat × Nat × Nat × Nat)) (rm : Room) (as' : Array Value) (h : Heap) (Q : Option Value → Heap → List Loc → Prop) : Prop :=
  MetFree l y (head1 [Cond.codeWith y bytes maxL ret hs] rm) (fun a U => a = as' ∧ Z.Warmed39 U.vm ∧ U.heap = h) (fun _ _ _ _ _ => True) (fun _ U o U' => ∃ v L, o = .returned v ∧ Q v U'.heap L ∧ FrameEnd U o U' L rm.cells rm.slots)
theorem own_interface (X : Stand p l e R s m args below meth c T locs cells slots) (hx : p.tables.exec = Jvm.exec) (hZ : Z.Warmed39 s.vm) {own C : String} {index count : Nat} (hown : s.vm.findClass own = some m.cls)
    (w1 : (Cond.methodLink own index y).before a0 Z = true) (w2 : (Cond.declares y).before a0 Z = true) (w7 : (Cond.interfaceMethod y.cls y.cls y.name y.desc).before a0 Z = true) (w5 : (Cond.selects C y z).before a0 Z = true) (w6 : (Cond.instanceMethod z).before a0 Z = true)
    (w8 : (Cond.publicMethod z).before a0 Z = true) (w9 : (Cond.unhidden C y.name y.desc).before a0 Z = true) (w10 : (Cond.castable C y.cls).before a0 Z = true)
    (w3 : (Cond.initialized z.cls).before a0 Z = true) (w4 : (Cond.code z bytes maxL ret).before a0 Z = true) (hy : y.cls ≠ "java/lang/invoke/MethodHandle" ∧ y.cls ≠ "java/lang/invoke/VarHandle")
    (W : Nat) {a : Addr} {argsL rest : List Value} (hM : own_Con l Z z bytes maxL ret rm (.ref a :: argsL).toArray h Q) (hf : rm.frames + 1 ≤ R.frames) (hl : W + (maxL + 11) + rm.locals ≤ R.locals) (E : Exa Z h a C)
    {g : JFrame} (hg : g.method = m) (hsize : g.locals.size = c.maxLocals) (hlen : ∀ sig, parseMethodDescriptor y.desc = some sig → argsL.length = sig.parameters.length) (hstack : g.stack = argsL.reverse ++ .ref a :: rest)
    (hW : 2 * g.monitorRoom + (rest.map fun v => v.category).sum ≤ W) (hdg : decode c.code g.pc = .ok (.invokeinterface index count, 5)) (eT : T.heap = h) (hc : cells + rm.cells ≤ R.cells) (hs : slots + rm.slots ≤ R.slots) :
    ∃ (v : Option Value) (T' : State) (L : List Loc), Stand p l e R s m args below meth c T' (locs ++ L) (cells + rm.cells) (slots + rm.slots) ∧ Q v T'.heap L ∧
      ∀ target, Steps p.tables e below (T'.setTop { g with pc := g.pc + 5, stack := v.toList ++ rest }) target → Steps p.tables e below (T.setTop g) target := by
  obtain ⟨cB, kB, q1, q2, q3⟩ := isOf hZ eT E
  obtain ⟨v, _, ⟨T', L', k', n'⟩, -, X', ⟨L, hQ, e1, e2, e3⟩, st⟩ := X.interfaceBack hx (xi := y) (y := z) hown (mvT hZ w1) (mvT hZ w2) (mvT hZ w7 (by simp [Cond.onTables, Cond.keepsFace, Cond.keeps, Cond.steady, Cond.faceAtom]; exact hy)) (mvT hZ w5) (mvT hZ w6) (mvT hZ w8) (mvT hZ w9) (mvT hZ w10) hy (backOf (W := W) hM hZ w4 w3 hf hl) q1 q2 q3 hg hsize (Steps.refl _) hlen hstack hW hdg (fun _ _ => ⟨rfl, eT, hc, hs⟩)
  dsimp only [Pt.U, Pt.locs, Pt.cells, Pt.slots] at X' e1 e2 e3 st hQ
  subst e1 e2 e3
  exact ⟨v, T', L, X', hQ, fun t k => st.trans k⟩
theorem own_interfaceW (X : Stand p l e R s m args below meth c T locs cells slots) (hx : p.tables.exec = Jvm.exec) (hZ : Z.Warmed39 s.vm) {own C : String} {index count : Nat} (hown : s.vm.findClass own = some m.cls)
    (w1 : (Cond.methodLink own index y).before a0 Z = true) (w2 : (Cond.declares y).before a0 Z = true) (w7 : (Cond.interfaceMethod y.cls y.cls y.name y.desc).before a0 Z = true) (w5 : (Cond.selects C y z).before a0 Z = true) (w6 : (Cond.instanceMethod z).before a0 Z = true)
    (w8 : (Cond.publicMethod z).before a0 Z = true) (w9 : (Cond.unhidden C y.name y.desc).before a0 Z = true) (w10 : (Cond.castable C y.cls).before a0 Z = true)
    (w3 : (Cond.initialized z.cls).before a0 Z = true) {hs : List (Nat × Nat × Nat × Nat)} (w4 : (Cond.codeWith z bytes maxL ret hs).before a0 Z = true) (hy : y.cls ≠ "java/lang/invoke/MethodHandle" ∧ y.cls ≠ "java/lang/invoke/VarHandle")
    (W : Nat) {a : Addr} {argsL rest : List Value} (hM : own_ConW l Z z bytes maxL ret hs rm (.ref a :: argsL).toArray h Q) (hf : rm.frames + 1 ≤ R.frames) (hl : W + (maxL + 11) + rm.locals ≤ R.locals) (E : Exa Z h a C)
    {g : JFrame} (hg : g.method = m) (hsize : g.locals.size = c.maxLocals) (hlen : ∀ sig, parseMethodDescriptor y.desc = some sig → argsL.length = sig.parameters.length) (hstack : g.stack = argsL.reverse ++ .ref a :: rest)
    (hW : 2 * g.monitorRoom + (rest.map fun v => v.category).sum ≤ W) (hdg : decode c.code g.pc = .ok (.invokeinterface index count, 5)) (eT : T.heap = h) (hc : cells + rm.cells ≤ R.cells) (hsl : slots + rm.slots ≤ R.slots) :
    ∃ (v : Option Value) (T' : State) (L : List Loc), Stand p l e R s m args below meth c T' (locs ++ L) (cells + rm.cells) (slots + rm.slots) ∧ Q v T'.heap L ∧
      ∀ target, Steps p.tables e below (T'.setTop { g with pc := g.pc + 5, stack := v.toList ++ rest }) target → Steps p.tables e below (T.setTop g) target := by
  obtain ⟨cB, kB, q1, q2, q3⟩ := isOf hZ eT E
  obtain ⟨v, _, ⟨T', L', k', n'⟩, -, X', ⟨L, hQ, e1, e2, e3⟩, st⟩ := X.interfaceBack hx (xi := y) (y := z) hown (mvT hZ w1) (mvT hZ w2) (mvT hZ w7 (by simp [Cond.onTables, Cond.keepsFace, Cond.keeps, Cond.steady, Cond.faceAtom]; exact hy)) (mvT hZ w5) (mvT hZ w6) (mvT hZ w8) (mvT hZ w9) (mvT hZ w10) hy (backOfWith (W := W) hM hZ w4 w3 hf hl) q1 q2 q3 hg hsize (Steps.refl _) hlen hstack hW hdg (fun _ _ => ⟨rfl, eT, hc, hsl⟩)
  dsimp only [Pt.U, Pt.locs, Pt.cells, Pt.slots] at X' e1 e2 e3 st hQ
  subst e1 e2 e3
  exact ⟨v, T', L, X', hQ, fun t k => st.trans k⟩
theorem own_private (X : Stand p l e R s m args below meth c T locs cells slots) (hx : p.tables.exec = Jvm.exec) (hZ : Z.Warmed39 s.vm) {own C : String} {index : Nat} (hown : s.vm.findClass own = some m.cls)
    (w1 : (Cond.methodLink own index y).before a0 Z = true) (w6 : (Cond.instanceMethod y).before a0 Z = true) {kk : Nat} (w5 : (Cond.instantiable y.cls kk).before a0 Z = true) (w7 : (Cond.privateMethod y).before a0 Z = true)
    (w3 : (Cond.initialized y.cls).before a0 Z = true) (w4 : (Cond.code y bytes maxL ret).before a0 Z = true) (hy : y.cls ≠ "java/lang/invoke/MethodHandle" ∧ y.cls ≠ "java/lang/invoke/VarHandle")
    (W : Nat) {a : Addr} {argsL rest : List Value} (hM : own_Con l Z y bytes maxL ret rm (.ref a :: argsL).toArray h Q) (hf : rm.frames + 1 ≤ R.frames) (hl : W + (maxL + 11) + rm.locals ≤ R.locals) (E : Exa Z h a C)
    {g : JFrame} (hg : g.method = m) (hsize : g.locals.size = c.maxLocals) (hlen : ∀ sig, parseMethodDescriptor y.desc = some sig → argsL.length = sig.parameters.length) (hstack : g.stack = argsL.reverse ++ .ref a :: rest)
    (hW : 2 * g.monitorRoom + (rest.map fun v => v.category).sum ≤ W) (hdg : decode c.code g.pc = .ok (.invokevirtual index, 3)) (eT : T.heap = h) (hc : cells + rm.cells ≤ R.cells) (hs : slots + rm.slots ≤ R.slots) :
    ∃ (v : Option Value) (T' : State) (L : List Loc), Stand p l e R s m args below meth c T' (locs ++ L) (cells + rm.cells) (slots + rm.slots) ∧ Q v T'.heap L ∧
      ∀ target, Steps p.tables e below (T'.setTop { g with pc := g.pc + 3, stack := v.toList ++ rest }) target → Steps p.tables e below (T.setTop g) target := by
  obtain ⟨cq, q1, q2⟩ := E.cell
  obtain ⟨ci, ki, i1, i2, -, i4, -⟩ := Cond.instantiable_spec (mvT (args := args) hZ w5)
  have hpv := Cond.privateMethod_at (mvP hZ w7 (args := args))
  have hse := selects_self_of_private (args := args) i1 i2 (Bool.or_eq_false_iff.mp i4).1 hpv (mvT hZ w6) hy
  obtain ⟨v, _, ⟨T', L', k', n'⟩, -, X', ⟨L, hQ, e1, e2, e3⟩, st⟩ := X.privateBack hx (y := y) hown (mvT hZ w1) (mvT hZ w6) hse (Cond.privateMethod_at (mvP hZ w7 (args := #[]))) (mvT hZ w4) hy (backOf (W := W) hM hZ w4 w3 hf hl) hg hsize (Steps.refl _) (by rw [eT]; exact q1) q2 hlen hstack hW hdg (fun _ _ => ⟨rfl, eT, hc, hs⟩)
  dsimp only [Pt.U, Pt.locs, Pt.cells, Pt.slots] at X' e1 e2 e3 st hQ
  subst e1 e2 e3
  exact ⟨v, T', L, X', hQ, fun t k => st.trans k⟩
theorem own_alen {g : JFrame} {target : State} (X : Stand p l e R s m args below meth c T locs cells slots) (hx : p.tables.exec = Jvm.exec) (hZ : Z.Warmed39 s.vm) (eT : T.heap = h) {a : Addr} {cl : Cell} {ty : FieldType} {z : Int32} (A : Arr Z h a cl ty) (S : cl.slots.size = z.toNatClampNeg) (N : ¬ z < 0)
    (hg : g.method = m) {rest : List Value} (hs : g.stack = .ref a :: rest) (hd : decode c.code g.pc = .ok (.arraylength, 1)) (hr : Steps p.tables e below (T.setTop { g with pc := g.pc + 1, stack := .int z :: rest }) target) : Steps p.tables e below (T.setTop g) target :=
  X.arraylength hx (by rw [eT]; exact A.1) (State.isArrayOf_alike hZ.alike A.2.1) hg hs hd _ (by rw [len_of S N]; exact hr)
/-! calls with the words of one site in a bundle -/
def own_SW (Z : State) (a0 : Array Value) (own : String) (index : Nat) (y : MethodName) (bytes : ByteArray) (maxL : Nat) (ret : Option FieldType) : Prop :=
  (Cond.methodLink own index y).before a0 Z = true ∧ (Cond.static y).before a0 Z = true ∧ (Cond.initialized y.cls).before a0 Z = true ∧ (Cond.code y bytes maxL ret).before a0 Z = true ∧ (y.cls ≠ "java/lang/invoke/MethodHandle" ∧ y.cls ≠ "java/lang/invoke/VarHandle")
def own_IW (Z : State) (a0 : Array Value) (own : String) (index : Nat) (y : MethodName) (bytes : ByteArray) (maxL : Nat) : Prop :=
  y.name = "<init>" ∧ (Cond.methodLink own index y).before a0 Z = true ∧ (Cond.instanceMethod y).before a0 Z = true ∧ (Cond.initialized y.cls).before a0 Z = true ∧ (Cond.code y bytes maxL none).before a0 Z = true ∧ (y.cls ≠ "java/lang/invoke/MethodHandle" ∧ y.cls ≠ "java/lang/invoke/VarHandle")
def own_VW (Z : State) (a0 : Array Value) (own : String) (index : Nat) (C : String) (y : MethodName) (bytes : ByteArray) (maxL : Nat) (ret : Option FieldType) : Prop :=
  (Cond.methodLink own index y).before a0 Z = true ∧ (Cond.declares y).before a0 Z = true ∧ (Cond.selects C y y).before a0 Z = true ∧ (Cond.instanceMethod y).before a0 Z = true ∧ (Cond.initialized y.cls).before a0 Z = true ∧ (Cond.code y bytes maxL ret).before a0 Z = true ∧ (y.cls ≠ "java/lang/invoke/MethodHandle" ∧ y.cls ≠ "java/lang/invoke/VarHandle")
def own_PW (Z : State) (a0 : Array Value) (own : String) (index : Nat) (y : MethodName) (bytes : ByteArray) (maxL : Nat) (ret : Option FieldType) : Prop :=
  (Cond.methodLink own index y).before a0 Z = true ∧ (Cond.instanceMethod y).before a0 Z = true ∧ (∃ kk, (Cond.instantiable y.cls kk).before a0 Z = true) ∧ (Cond.privateMethod y).before a0 Z = true ∧ (Cond.initialized y.cls).before a0 Z = true ∧ (Cond.code y bytes maxL ret).before a0 Z = true ∧ (y.cls ≠ "java/lang/invoke/MethodHandle" ∧ y.cls ≠ "java/lang/invoke/VarHandle")
theorem own_cs (X : Stand p l e R s m args below meth c T locs cells slots) (hx : p.tables.exec = Jvm.exec) (hZ : Z.Warmed39 s.vm) {own : String} {index ml : Nat} (hown : s.vm.findClass own = some m.cls) (V : own_SW Z a0 own index y bytes maxL ret) (hml : c.maxLocals = ml)
    {g : JFrame} (hdg : decode c.code g.pc = .ok (.invokestatic index, 3)) (eT : T.heap = h) (argsL rest : List Value) (hlen : ∀ sig, parseMethodDescriptor y.desc = some sig → argsL.length = sig.parameters.length) (hM : own_Con l Z y bytes maxL ret rm argsL.toArray h Q)
    (hg : g.method = m := by rfl) (hsize : g.locals.size = ml := by rfl) (hstack : g.stack = argsL.reverse ++ rest := by rfl) (hmo : 2 * g.monitorRoom = 0 := by rfl) (hf : rm.frames + 1 ≤ R.frames := by exact Nat.le_of_ble_eq_true rfl) (hl : (rest.map fun v => v.category).sum + (maxL + 11) + rm.locals ≤ R.locals := by exact Nat.le_of_ble_eq_true rfl) (hc : cells + rm.cells ≤ R.cells := by exact Nat.le_of_ble_eq_true rfl) (hs : slots + rm.slots ≤ R.slots := by exact Nat.le_of_ble_eq_true rfl) :
    ∃ (v : Option Value) (T' : State) (L : List Loc), Stand p l e R s m args below meth c T' (locs ++ L) (cells + rm.cells) (slots + rm.slots) ∧ Q v T'.heap L ∧
      ∀ target, Steps p.tables e below (T'.setTop { g with pc := g.pc + 3, stack := v.toList ++ rest }) target → Steps p.tables e below (T.setTop g) target :=
  own_static X hx hZ hown V.1 V.2.1 V.2.2.1 V.2.2.2.1 V.2.2.2.2 _ hM hf hl hg (hsize.trans hml.symm) hlen hstack (by rw [hmo, Nat.zero_add]; exact Nat.le_refl _) hdg eT hc hs
theorem own_ci (X : Stand p l e R s m args below meth c T locs cells slots) (hx : p.tables.exec = Jvm.exec) (hZ : Z.Warmed39 s.vm) {own : String} {index ml : Nat} (hown : s.vm.findClass own = some m.cls) (V : own_IW Z a0 own index y bytes maxL) (hml : c.maxLocals = ml)
    {g : JFrame} (hdg : decode c.code g.pc = .ok (.invokespecial index, 3)) (eT : T.heap = h) {a : Addr} (argsL rest : List Value) (hlen : ∀ sig, parseMethodDescriptor y.desc = some sig → argsL.length = sig.parameters.length) (hM : own_Con l Z y bytes maxL none rm (.ref a :: argsL).toArray h Q)
    (hg : g.method = m := by rfl) (hsize : g.locals.size = ml := by rfl) (hstack : g.stack = argsL.reverse ++ .ref a :: rest := by rfl) (hmo : 2 * g.monitorRoom = 0 := by rfl) (hf : rm.frames + 1 ≤ R.frames := by exact Nat.le_of_ble_eq_true rfl) (hl : (rest.map fun v => v.category).sum + (maxL + 11) + rm.locals ≤ R.locals := by exact Nat.le_of_ble_eq_true rfl) (hc : cells + rm.cells ≤ R.cells := by exact Nat.le_of_ble_eq_true rfl) (hs : slots + rm.slots ≤ R.slots := by exact Nat.le_of_ble_eq_true rfl) :
    ∃ (v : Option Value) (T' : State) (L : List Loc), Stand p l e R s m args below meth c T' (locs ++ L) (cells + rm.cells) (slots + rm.slots) ∧ Q v T'.heap L ∧
      ∀ target, Steps p.tables e below (T'.setTop { g with pc := g.pc + 3, stack := v.toList ++ rest }) target → Steps p.tables e below (T.setTop g) target :=
  own_special X hx hZ V.1 hown V.2.1 V.2.2.1 V.2.2.2.1 V.2.2.2.2.1 V.2.2.2.2.2 _ hM hf hl hg (hsize.trans hml.symm) hlen hstack (by rw [hmo, Nat.zero_add]; exact Nat.le_refl _) hdg eT hc hs
theorem own_cv (X : Stand p l e R s m args below meth c T locs cells slots) (hx : p.tables.exec = Jvm.exec) (hZ : Z.Warmed39 s.vm) {own C : String} {index ml : Nat} (hown : s.vm.findClass own = some m.cls) (V : own_VW Z a0 own index C y bytes maxL ret) (hml : c.maxLocals = ml)
    {g : JFrame} (hdg : decode c.code g.pc = .ok (.invokevirtual index, 3)) (eT : T.heap = h) {a : Addr} (E : Exa Z h a C) (argsL rest : List Value) (hlen : ∀ sig, parseMethodDescriptor y.desc = some sig → argsL.length = sig.parameters.length) (hM : own_Con l Z y bytes maxL ret rm (.ref a :: argsL).toArray h Q)
    (hg : g.method = m := by rfl) (hsize : g.locals.size = ml := by rfl) (hstack : g.stack = argsL.reverse ++ .ref a :: rest := by rfl) (hmo : 2 * g.monitorRoom = 0 := by rfl) (hf : rm.frames + 1 ≤ R.frames := by exact Nat.le_of_ble_eq_true rfl) (hl : (rest.map fun v => v.category).sum + (maxL + 11) + rm.locals ≤ R.locals := by exact Nat.le_of_ble_eq_true rfl) (hc : cells + rm.cells ≤ R.cells := by exact Nat.le_of_ble_eq_true rfl) (hs : slots + rm.slots ≤ R.slots := by exact Nat.le_of_ble_eq_true rfl) :
    ∃ (v : Option Value) (T' : State) (L : List Loc), Stand p l e R s m args below meth c T' (locs ++ L) (cells + rm.cells) (slots + rm.slots) ∧ Q v T'.heap L ∧
      ∀ target, Steps p.tables e below (T'.setTop { g with pc := g.pc + 3, stack := v.toList ++ rest }) target → Steps p.tables e below (T.setTop g) target :=
  own_virtual X hx hZ hown V.1 V.2.1 (notFace_of_selects (args := #[]) (mvT hZ V.2.2.1)) V.2.2.1 V.2.2.2.1 V.2.2.2.2.1 V.2.2.2.2.2.1 V.2.2.2.2.2.2 _ hM hf hl E hg (hsize.trans hml.symm) hlen hstack (by rw [hmo, Nat.zero_add]; exact Nat.le_refl _) hdg eT hc hs
theorem own_cp (X : Stand p l e R s m args below meth c T locs cells slots) (hx : p.tables.exec = Jvm.exec) (hZ : Z.Warmed39 s.vm) {own C : String} {index ml : Nat} (hown : s.vm.findClass own = some m.cls) (V : own_PW Z a0 own index y bytes maxL ret) (hml : c.maxLocals = ml)
    {g : JFrame} (hdg : decode c.code g.pc = .ok (.invokevirtual index, 3)) (eT : T.heap = h) {a : Addr} (E : Exa Z h a C) (argsL rest : List Value) (hlen : ∀ sig, parseMethodDescriptor y.desc = some sig → argsL.length = sig.parameters.length) (hM : own_Con l Z y bytes maxL ret rm (.ref a :: argsL).toArray h Q)
    (hg : g.method = m := by rfl) (hsize : g.locals.size = ml := by rfl) (hstack : g.stack = argsL.reverse ++ .ref a :: rest := by rfl) (hmo : 2 * g.monitorRoom = 0 := by rfl) (hf : rm.frames + 1 ≤ R.frames := by exact Nat.le_of_ble_eq_true rfl) (hl : (rest.map fun v => v.category).sum + (maxL + 11) + rm.locals ≤ R.locals := by exact Nat.le_of_ble_eq_true rfl) (hc : cells + rm.cells ≤ R.cells := by exact Nat.le_of_ble_eq_true rfl) (hs : slots + rm.slots ≤ R.slots := by exact Nat.le_of_ble_eq_true rfl) :
    ∃ (v : Option Value) (T' : State) (L : List Loc), Stand p l e R s m args below meth c T' (locs ++ L) (cells + rm.cells) (slots + rm.slots) ∧ Q v T'.heap L ∧
      ∀ target, Steps p.tables e below (T'.setTop { g with pc := g.pc + 3, stack := v.toList ++ rest }) target → Steps p.tables e below (T.setTop g) target := by
  obtain ⟨kk, wk⟩ := V.2.2.1
  exact own_private X hx hZ hown V.1 V.2.1 wk V.2.2.2.1 V.2.2.2.2.1 V.2.2.2.2.2.1 V.2.2.2.2.2.2 _ hM hf hl E hg (hsize.trans hml.symm) hlen hstack (by rw [hmo, Nat.zero_add]; exact Nat.le_refl _) hdg eT hc hs
/-! arrays out of the case's words -/
theorem own_oxE {Y : Heap} (X : Ext Y h) (E : Ext h h') : Ext Y h' := ⟨Nat.le_trans X.1 E.1, fun a c q => E.2 a c (X.2 a c q)⟩
theorem own_oxK {Y : Heap} (X : Ext Y h) (K : Keep h h' ws) (q : ∀ x ∈ ws, Y.size ≤ x) : Ext Y h' := ⟨Nat.le_trans X.1 K.1, fun a c r => K.2.1 a c (X.2 a c r) fun z => absurd (Array.getElem?_eq_some_iff.mp r).1 (Nat.not_lt.mpr (q a z))⟩
theorem own_oxW {Y : Heap} {a : Addr} {sl : Nat} {v : Value} (X : Ext Y h) (W : Wr h h' a sl v) (q : Y.size ≤ a) : Ext Y h' := own_oxK X (Keep.of_wr W) (allS q all0)
theorem own_neI {t : Term} {x k : Int32} (ev : t.eval args s none [] s = some (.int x)) (h : (Cond.not (Cond.eq t (Term.int k))).value args s none s [] = some true) : ¬ (x = k) := by
  have q := not_v h
  intro e
  subst e
  simp [Cond.value, ev, Term.eval] at q
theorem own_subix {j k : Int32} {f : State} {o : Option Outcome} (nn : ¬ j < 0) : (Term.sub (Term.index 0) (Term.int k)).eval args f o [j.toNatClampNeg] s = some (.int (j - k)) := by
  have q : (Term.index 0).eval args f o [j.toNatClampNeg] s = some (.int j) := idx_at nn
  simp only [Term.eval] at q ⊢
  have q2 : j.toNatClampNeg.toInt32 = j := by simpa using q
  simp [q2]
theorem own_evI {t : Term} {k : Int32} (h : (Cond.eq t (Term.int k)).value args s none s [] = some true) : t.eval args s none [] s = some (.int k) := by
  cases ht : t.eval args s none [] s with
  | none => simp [Cond.value, ht] at h
  | some x => cases x <;> simp [Cond.value, ht, Term.eval] at h ⊢; exact h
theorem own_evR {t u : Term} {b : Addr} (eu : u.eval args s none [] s = some (.ref b)) (h : (Cond.eq t u).value args s none s [] = some true) : t.eval args s none [] s = some (.ref b) := by
  cases ht : t.eval args s none [] s with
  | none => simp [Cond.value, ht] at h
  | some x => cases x <;> simp [Cond.value, ht, eu] at h ⊢; exact h
theorem own_arr {t : Term} {ty : FieldType} {a : Addr} (ev : t.eval args s none [] s = some (.ref a)) (h : (Cond.arrayOf t ty).value args s none s [] = some true) : ∃ cl, Arr s s.heap a cl ty := Arr.start ev h
theorem own_len {t : Term} {ty : FieldType} {a : Addr} {cl : Cell} {n : Int32} (ev : t.eval args s none [] s = some (.ref a)) (A : Arr s s.heap a cl ty) (h : (Cond.eq (Term.length t) (Term.int n)).value args s none s [] = some true) : cl.slots.size < 2 ^ 31 ∧ cl.slots.size.toInt32 = n := by
  have ha : s.arrayAt? a = some cl := A.fin (Vm.Alike.refl _)
  by_cases hl : cl.slots.size < 2 ^ 31
  · refine ⟨hl, ?_⟩
    have q := len_f (args := args) (first := s) (o := none) (idx := []) ev ha hl
    simp only [Cond.value, q, Term.int_eval] at h
    simpa using h
  · exfalso
    simp [Cond.value, Term.eval, ev, ha, hl] at h
theorem own_elem {t u : Term} {ty : FieldType} {a : Addr} {cl : Cell} {j : Int32} {v : Value} (ev : t.eval args s none [] s = some (.ref a)) (A : Arr s s.heap a cl ty) (eu : u.eval args s none [] s = some v) (hv : ∀ w, (Cond.eq (Term.elem t (Term.int j)) u).value args s none s [] = some true → (Term.elem t (Term.int j)).eval args s none [] s = some w → w = v)
    (h : (Cond.eq (Term.elem t (Term.int j)) u).value args s none s [] = some true) : cl.slots[j.toNatClampNeg]? = some v := by
  obtain ⟨x, w, h1, h2, -⟩ := cmp_v (Or.inl h)
  have q := (elem_in h1 ev rfl A.1).2
  rw [hv x h h1] at q
  exact q
theorem own_elemI {t : Term} {ty : FieldType} {a : Addr} {cl : Cell} {j k : Int32} (ev : t.eval args s none [] s = some (.ref a)) (A : Arr s s.heap a cl ty)
    (h : (Cond.eq (Term.elem t (Term.int j)) (Term.int k)).value args s none s [] = some true) : cl.slots[j.toNatClampNeg]? = some (.int k) :=
  own_elem ev A (Term.int_eval k) (fun w q r => by simp only [Cond.value, r, Term.int_eval] at q; cases w <;> simp at q ⊢; exact q) h
theorem own_elemR {t u : Term} {ty : FieldType} {a b : Addr} {cl : Cell} {j : Int32} (ev : t.eval args s none [] s = some (.ref a)) (A : Arr s s.heap a cl ty) (eu : u.eval args s none [] s = some (.ref b))
    (h : (Cond.eq (Term.elem t (Term.int j)) u).value args s none s [] = some true) : cl.slots[j.toNatClampNeg]? = some (.ref b) :=
  own_elem ev A eu (fun w q r => by simp only [Cond.value, r, eu] at q; cases w <;> simp at q ⊢; exact q) h
end Own2
end Jvm.RoadKit
namespace Jvm.Pilot.@@N@@
open Jvm Jvm.ClassFile Sem Op Lib Jvm.Free Jvm.Stand Jvm.LawKit Jvm.RoadKit Bundle Jvm.Pilot.@@N@@.Jvm.D
def own_Q0 (n0 : Nat) (v : Option Value) (h : Heap) (L : List Loc) : Prop := v = some (.int 1) ∧ Fr n0 L
theorem own_d1_0 : decode prog_11_method_8_code 0 = .ok (.iconst 0, 1) := by decide +kernel
theorem own_d1_1 : decode prog_11_method_8_code 1 = .ok (.istore_n 2, 1) := by decide +kernel
theorem own_d1_2 : decode prog_11_method_8_code 2 = .ok (.iload_n 2, 1) := by decide +kernel
theorem own_d1_3 : decode prog_11_method_8_code 3 = .ok (.iconst 4, 1) := by decide +kernel
theorem own_d1_4 : decode prog_11_method_8_code 4 = .ok (.if_icmp .ge 21, 3) := by decide +kernel
theorem own_d1_7 : decode prog_11_method_8_code 7 = .ok (.aload_n 1, 1) := by decide +kernel
theorem own_d1_8 : decode prog_11_method_8_code 8 = .ok (.aload_n 0, 1) := by decide +kernel
theorem own_d1_9 : decode prog_11_method_8_code 9 = .ok (.getfield 35, 3) := by decide +kernel
theorem own_d1_12 : decode prog_11_method_8_code 12 = .ok (.iload_n 2, 1) := by decide +kernel
theorem own_d1_13 : decode prog_11_method_8_code 13 = .ok (.iaload, 1) := by decide +kernel
theorem own_d1_14 : decode prog_11_method_8_code 14 = .ok (.iaload, 1) := by decide +kernel
theorem own_d1_15 : decode prog_11_method_8_code 15 = .ok (.iconst (-1), 1) := by decide +kernel
theorem own_d1_16 : decode prog_11_method_8_code 16 = .ok (.if_icmp .eq 9, 3) := by decide +kernel
theorem own_d1_25 : decode prog_11_method_8_code 25 = .ok (.iload_n 2, 1) := by decide +kernel
theorem own_d1_26 : decode prog_11_method_8_code 26 = .ok (.ireturn, 1) := by decide +kernel
theorem own_pn0 : plainName "com/example/chronoquad/chronoquad/QuadOrder" = true := by first | (simp [plainName, overriddenIn]; done) | decide +kernel
theorem own_ef84 (m : MethodId) (x0 : Addr) (x1 : Addr) : entryFrame m #[(.ref x0), (.ref x1)] 3 = mkF m 0 #[.val (.ref x0), .val (.ref x1), .unset] [] := by first | (simp [entryFrame, mkF, argsToLocals, Value.category]; done) | rfl
set_option maxRecDepth 65536 in
set_option maxHeartbeats 40000000 in
theorem own_rm84 (l : Launch) (Z : State) (a0 : Array Value) (hw : ∀ d ∈ tables_1, d.before a0 Z = true) (h0 : Heap) (a85 : Addr) (a86 : Addr) (a89 : Addr) (c94 : ClassId) (c97 : ClassId) (p98 : Int32) (p99 : Int32) (p100 : Int32) (p101 : Int32) (F90 : Fld Z h0 a85 "com/example/chronoquad/chronoquad/QuadOrder" "positions" "[I" (.ref a89)) (A95 : Arv Z h0 a89 c94 .int (4 : Int32) [(.int (0 : Int32)), (.int (1 : Int32)), (.int (2 : Int32)), (.int (3 : Int32))] (.int (0 : Int32))) (A102 : Arv Z h0 a86 c97 .int (4 : Int32) [(.int p98), (.int p99), (.int p100), (.int p101)] (.int (0 : Int32))) (hp104 : p98 = (-1 : Int32)) :
    own_Con l Z (⟨"com/example/chronoquad/chronoquad/QuadOrder", "leadingTerms", "([I)I"⟩ : MethodName) prog_11_method_8_code 3 (some .int) ({ frames := 0, cells := 0, slots := 0, locals := 0 } : Room) #[(.ref a85), (.ref a86)] h0 (own_QP (some (.int (0 : Int32))) h0) := by
  refine MetFree.of_bodySF (plainFor_of_name own_pn0) hisR ?_
  intro p e s m args below meth c s₁ Bd hml0 hP hK
  obtain ⟨rfl, hZ, hh⟩ := hP
  have hx := Bd.exec
  have hby := Bd.bytes
  have hml : c.maxLocals = 3 := hml0
  have hown : s.vm.findClass "com/example/chronoquad/chronoquad/QuadOrder" = some m.cls := findClass_of_methodNamed Bd.named
  have hnm := (name_of_methodNamed Bd.named Bd.method).1
  have X0 : Stand p l e ({ frames := 0, cells := 0, slots := 0, locals := 0 } : Room) s m #[(.ref a85), (.ref a86)] below meth c s₁ [] 0 0 := Stand.of_body Bd
  have e0 : s₁.heap = h0 := by rw [← hh, Bd.state]; rfl
  have K0 : own_Kp h0 h0 [] [] := own_kpRefl _ _
  show own_Go p e below (own_K s (own_QP (some (.int (0 : Int32))) h0) 0 0) s₁ (entryFrame m #[(.ref a85), (.ref a86)] 3)
  rw [own_ef84]
  obtain ⟨T91, X91, e91, st91⟩ := getF X0 hx hZ hown (host := "") (Or.inl (own_wd hw 9 rfl)) Via.refl e0 F90 (g := (mkF m 9 #[.val (.ref a85), .val (.ref a86), .val (.int (0 : Int32))] [(.ref a85), (.ref a86)])) rfl rfl (hb hby own_d1_9)
  obtain ⟨cl96, Ar96, q96, S96, N96, H96, G96⟩ := id A95
  have hin96 : ¬ ((0 : Int32) < 0 ∨ cl96.slots.size ≤ ((0 : Int32)).toNatClampNeg) := inb_of S96 ⟨by decide, by decide⟩
  obtain ⟨cl103, Ar103, q103, S103, N103, H103, G103⟩ := id A102
  have hin103 : ¬ ((0 : Int32) < 0 ∨ cl103.slots.size ≤ ((0 : Int32)).toNatClampNeg) := inb_of S103 ⟨by decide, by decide⟩
  refine own_go (T2 := T91) (g2 := (mkF m 16 #[.val (.ref a85), .val (.ref a86), .val (.int (0 : Int32))] [(.int (-1 : Int32)), (.int p98)])) (fun t k => XS.iconst X0.here hx rfl (hb hby own_d1_0) (XS.istoreN X0.here hx rfl (hb hby own_d1_1) rfl (l' := #[.val (.ref a85), .val (.ref a86), .val (.int (0 : Int32))]) rfl (XS.iloadN X0.here hx rfl (hb hby own_d1_2) rfl  (XS.iconst X0.here hx rfl (hb hby own_d1_3) (XS.icmpNo X0.here hx rfl (hb hby own_d1_4) rfl (tlt (show (0 : Int32) < (4 : Int32) from (by decide))).2.1 (XS.aloadN X0.here hx rfl (hb hby own_d1_7) rfl rfl (XS.aloadN X0.here hx rfl (hb hby own_d1_8) rfl rfl (st91 _ (XS.iloadN X91.here hx rfl (hb hby own_d1_12) rfl  (own_ap (X91.iaload hx (j := (0 : Int32)) (v := (.int (0 : Int32))) (by rw [e91]; exact Ar96.1) (State.isArrayOf_alike hZ.alike Ar96.2.1) Ar96.2.2 hin96 (Has.at H96 hin96 rfl) rfl rfl (hb hby own_d1_13)) (own_ap (X91.iaload hx (j := (0 : Int32)) (v := (.int p98)) (by rw [e91]; exact Ar103.1) (State.isArrayOf_alike hZ.alike Ar103.2.1) Ar103.2.2 hin103 (Has.at H103 hin103 rfl) rfl rfl (hb hby own_d1_14)) (XS.iconst X91.here hx rfl (hb hby own_d1_15) k)))))))))))) ?_
  refine own_go (T2 := T91) (g2 := (mkF m 26 #[.val (.ref a85), .val (.ref a86), .val (.int (0 : Int32))] [(.int (0 : Int32))])) (fun t k => XS.icmpYes X91.here hx rfl (pc0 := 16) (pc' := 25) rfl (hb hby own_d1_16) rfl (teq (show p98 = (-1 : Int32) from hp104)).1 (by decide) (by decide) (XS.iloadN X91.here hx rfl (hb hby own_d1_25) rfl  k)) ?_
  exact own_endI X91 hx Bd.notSynchronized Bd.returns (hb hby own_d1_26) (by decide) (by decide) ⟨rfl, rfl, e91⟩
theorem own_pd0 : parseMethodDescriptor "([I)I" = some ⟨[(.array .int)], some .int⟩ := by decide +kernel
theorem own_w106 {Z : State} {a0 : Array Value} (hw : ∀ d ∈ tables_1, d.before a0 Z = true) : own_VW Z a0 "com/example/chronoquad/chronoquad/QuadOrderLeadingTermsPinLaw" 22 "com/example/chronoquad/chronoquad/QuadOrder" (⟨"com/example/chronoquad/chronoquad/QuadOrder", "leadingTerms", "([I)I"⟩ : MethodName) prog_11_method_8_code 3 (some .int) := ⟨(own_wd hw 4 rfl), (own_wd hw 5 rfl), (own_wd hw 7 rfl), (own_wd hw 6 rfl), (own_wd hw 2 rfl), (own_wd hw 8 rfl), (by decide)⟩
theorem own_d1_19 : decode prog_11_method_8_code 19 = .ok (.iinc 2 1, 3) := by decide +kernel
theorem own_d1_22 : decode prog_11_method_8_code 22 = .ok (.goto (-20), 3) := by decide +kernel
theorem own_ef114 (m : MethodId) (x0 : Addr) (x1 : Addr) : entryFrame m #[(.ref x0), (.ref x1)] 3 = mkF m 0 #[.val (.ref x0), .val (.ref x1), .unset] [] := by first | (simp [entryFrame, mkF, argsToLocals, Value.category]; done) | rfl
set_option maxRecDepth 65536 in
set_option maxHeartbeats 40000000 in
theorem own_rm114 (l : Launch) (Z : State) (a0 : Array Value) (hw : ∀ d ∈ tables_1, d.before a0 Z = true) (h0 : Heap) (a115 : Addr) (a116 : Addr) (a119 : Addr) (c124 : ClassId) (c127 : ClassId) (p128 : Int32) (p129 : Int32) (p130 : Int32) (p131 : Int32) (F120 : Fld Z h0 a115 "com/example/chronoquad/chronoquad/QuadOrder" "positions" "[I" (.ref a119)) (A125 : Arv Z h0 a119 c124 .int (4 : Int32) [(.int (0 : Int32)), (.int (1 : Int32)), (.int (2 : Int32)), (.int (3 : Int32))] (.int (0 : Int32))) (A132 : Arv Z h0 a116 c127 .int (4 : Int32) [(.int p128), (.int p129), (.int p130), (.int p131)] (.int (0 : Int32))) (hp134 : ¬ (p128 = (-1 : Int32))) (hp138 : p129 = (-1 : Int32)) :
    own_Con l Z (⟨"com/example/chronoquad/chronoquad/QuadOrder", "leadingTerms", "([I)I"⟩ : MethodName) prog_11_method_8_code 3 (some .int) ({ frames := 0, cells := 0, slots := 0, locals := 0 } : Room) #[(.ref a115), (.ref a116)] h0 (own_QP (some (.int (1 : Int32))) h0) := by
  refine MetFree.of_bodySF (plainFor_of_name own_pn0) hisR ?_
  intro p e s m args below meth c s₁ Bd hml0 hP hK
  obtain ⟨rfl, hZ, hh⟩ := hP
  have hx := Bd.exec
  have hby := Bd.bytes
  have hml : c.maxLocals = 3 := hml0
  have hown : s.vm.findClass "com/example/chronoquad/chronoquad/QuadOrder" = some m.cls := findClass_of_methodNamed Bd.named
  have hnm := (name_of_methodNamed Bd.named Bd.method).1
  have X0 : Stand p l e ({ frames := 0, cells := 0, slots := 0, locals := 0 } : Room) s m #[(.ref a115), (.ref a116)] below meth c s₁ [] 0 0 := Stand.of_body Bd
  have e0 : s₁.heap = h0 := by rw [← hh, Bd.state]; rfl
  have K0 : own_Kp h0 h0 [] [] := own_kpRefl _ _
  show own_Go p e below (own_K s (own_QP (some (.int (1 : Int32))) h0) 0 0) s₁ (entryFrame m #[(.ref a115), (.ref a116)] 3)
  rw [own_ef114]
  obtain ⟨T121, X121, e121, st121⟩ := getF X0 hx hZ hown (host := "") (Or.inl (own_wd hw 9 rfl)) Via.refl e0 F120 (g := (mkF m 9 #[.val (.ref a115), .val (.ref a116), .val (.int (0 : Int32))] [(.ref a115), (.ref a116)])) rfl rfl (hb hby own_d1_9)
  obtain ⟨cl126, Ar126, q126, S126, N126, H126, G126⟩ := id A125
  have hin126 : ¬ ((0 : Int32) < 0 ∨ cl126.slots.size ≤ ((0 : Int32)).toNatClampNeg) := inb_of S126 ⟨by decide, by decide⟩
  obtain ⟨cl133, Ar133, q133, S133, N133, H133, G133⟩ := id A132
  have hin133 : ¬ ((0 : Int32) < 0 ∨ cl133.slots.size ≤ ((0 : Int32)).toNatClampNeg) := inb_of S133 ⟨by decide, by decide⟩
  refine own_go (T2 := T121) (g2 := (mkF m 16 #[.val (.ref a115), .val (.ref a116), .val (.int (0 : Int32))] [(.int (-1 : Int32)), (.int p128)])) (fun t k => XS.iconst X0.here hx rfl (hb hby own_d1_0) (XS.istoreN X0.here hx rfl (hb hby own_d1_1) rfl (l' := #[.val (.ref a115), .val (.ref a116), .val (.int (0 : Int32))]) rfl (XS.iloadN X0.here hx rfl (hb hby own_d1_2) rfl  (XS.iconst X0.here hx rfl (hb hby own_d1_3) (XS.icmpNo X0.here hx rfl (hb hby own_d1_4) rfl (tlt (show (0 : Int32) < (4 : Int32) from (by decide))).2.1 (XS.aloadN X0.here hx rfl (hb hby own_d1_7) rfl rfl (XS.aloadN X0.here hx rfl (hb hby own_d1_8) rfl rfl (st121 _ (XS.iloadN X121.here hx rfl (hb hby own_d1_12) rfl  (own_ap (X121.iaload hx (j := (0 : Int32)) (v := (.int (0 : Int32))) (by rw [e121]; exact Ar126.1) (State.isArrayOf_alike hZ.alike Ar126.2.1) Ar126.2.2 hin126 (Has.at H126 hin126 rfl) rfl rfl (hb hby own_d1_13)) (own_ap (X121.iaload hx (j := (0 : Int32)) (v := (.int p128)) (by rw [e121]; exact Ar133.1) (State.isArrayOf_alike hZ.alike Ar133.2.1) Ar133.2.2 hin133 (Has.at H133 hin133 rfl) rfl rfl (hb hby own_d1_14)) (XS.iconst X121.here hx rfl (hb hby own_d1_15) k)))))))))))) ?_
  obtain ⟨T135, X135, e135, st135⟩ := getF X121 hx hZ hown (host := "") (Or.inl (own_wd hw 9 rfl)) Via.refl e121 F120 (g := (mkF m 9 #[.val (.ref a115), .val (.ref a116), .val (.int (1 : Int32))] [(.ref a115), (.ref a116)])) rfl rfl (hb hby own_d1_9)
  obtain ⟨cl136, Ar136, q136, S136, N136, H136, G136⟩ := id A125
  have hin136 : ¬ ((1 : Int32) < 0 ∨ cl136.slots.size ≤ ((1 : Int32)).toNatClampNeg) := inb_of S136 ⟨by decide, by decide⟩
  obtain ⟨cl137, Ar137, q137, S137, N137, H137, G137⟩ := id A132
  have hin137 : ¬ ((1 : Int32) < 0 ∨ cl137.slots.size ≤ ((1 : Int32)).toNatClampNeg) := inb_of S137 ⟨by decide, by decide⟩
  refine own_go (T2 := T135) (g2 := (mkF m 15 #[.val (.ref a115), .val (.ref a116), .val (.int (1 : Int32))] [(.int p129)])) (fun t k => XS.icmpNo X121.here hx rfl (hb hby own_d1_16) rfl (feq (show ¬ (p128 = (-1 : Int32)) from hp134)).1 (XS.iinc X121.here hx rfl (hb hby own_d1_19) rfl (l' := #[.val (.ref a115), .val (.ref a116), .val (.int (1 : Int32))]) rfl (XS.goto X121.here hx rfl (pc0 := 22) (pc' := 2) rfl (hb hby own_d1_22) (by decide) (by decide) (XS.iloadN X121.here hx rfl (hb hby own_d1_2) rfl  (XS.iconst X121.here hx rfl (hb hby own_d1_3) (XS.icmpNo X121.here hx rfl (hb hby own_d1_4) rfl (tlt (show (1 : Int32) < (4 : Int32) from (by decide))).2.1 (XS.aloadN X121.here hx rfl (hb hby own_d1_7) rfl rfl (XS.aloadN X121.here hx rfl (hb hby own_d1_8) rfl rfl (st135 _ (XS.iloadN X135.here hx rfl (hb hby own_d1_12) rfl  (own_ap (X135.iaload hx (j := (1 : Int32)) (v := (.int (1 : Int32))) (by rw [e135]; exact Ar136.1) (State.isArrayOf_alike hZ.alike Ar136.2.1) Ar136.2.2 hin136 (Has.at H136 hin136 rfl) rfl rfl (hb hby own_d1_13)) (own_ap (X135.iaload hx (j := (1 : Int32)) (v := (.int p129)) (by rw [e135]; exact Ar137.1) (State.isArrayOf_alike hZ.alike Ar137.2.1) Ar137.2.2 hin137 (Has.at H137 hin137 rfl) rfl rfl (hb hby own_d1_14)) k)))))))))))) ?_
  refine own_go (T2 := T135) (g2 := (mkF m 26 #[.val (.ref a115), .val (.ref a116), .val (.int (1 : Int32))] [(.int (1 : Int32))])) (fun t k => XS.iconst X135.here hx rfl (hb hby own_d1_15) (XS.icmpYes X135.here hx rfl (pc0 := 16) (pc' := 25) rfl (hb hby own_d1_16) rfl (teq (show p129 = (-1 : Int32) from hp138)).1 (by decide) (by decide) (XS.iloadN X135.here hx rfl (hb hby own_d1_25) rfl  k))) ?_
  exact own_endI X135 hx Bd.notSynchronized Bd.returns (hb hby own_d1_26) (by decide) (by decide) ⟨rfl, rfl, e135⟩
theorem own_ef151 (m : MethodId) (x0 : Addr) (x1 : Addr) : entryFrame m #[(.ref x0), (.ref x1)] 3 = mkF m 0 #[.val (.ref x0), .val (.ref x1), .unset] [] := by first | (simp [entryFrame, mkF, argsToLocals, Value.category]; done) | rfl
set_option maxRecDepth 65536 in
set_option maxHeartbeats 40000000 in
theorem own_rm151 (l : Launch) (Z : State) (a0 : Array Value) (hw : ∀ d ∈ tables_1, d.before a0 Z = true) (h0 : Heap) (a152 : Addr) (a153 : Addr) (a156 : Addr) (c161 : ClassId) (c164 : ClassId) (p165 : Int32) (p166 : Int32) (p167 : Int32) (p168 : Int32) (F157 : Fld Z h0 a152 "com/example/chronoquad/chronoquad/QuadOrder" "positions" "[I" (.ref a156)) (A162 : Arv Z h0 a156 c161 .int (4 : Int32) [(.int (0 : Int32)), (.int (1 : Int32)), (.int (2 : Int32)), (.int (3 : Int32))] (.int (0 : Int32))) (A169 : Arv Z h0 a153 c164 .int (4 : Int32) [(.int p165), (.int p166), (.int p167), (.int p168)] (.int (0 : Int32))) (hp171 : ¬ (p165 = (-1 : Int32))) (hp175 : ¬ (p166 = (-1 : Int32))) (hp179 : p167 = (-1 : Int32)) :
    own_Con l Z (⟨"com/example/chronoquad/chronoquad/QuadOrder", "leadingTerms", "([I)I"⟩ : MethodName) prog_11_method_8_code 3 (some .int) ({ frames := 0, cells := 0, slots := 0, locals := 0 } : Room) #[(.ref a152), (.ref a153)] h0 (own_QP (some (.int (2 : Int32))) h0) := by
  refine MetFree.of_bodySF (plainFor_of_name own_pn0) hisR ?_
  intro p e s m args below meth c s₁ Bd hml0 hP hK
  obtain ⟨rfl, hZ, hh⟩ := hP
  have hx := Bd.exec
  have hby := Bd.bytes
  have hml : c.maxLocals = 3 := hml0
  have hown : s.vm.findClass "com/example/chronoquad/chronoquad/QuadOrder" = some m.cls := findClass_of_methodNamed Bd.named
  have hnm := (name_of_methodNamed Bd.named Bd.method).1
  have X0 : Stand p l e ({ frames := 0, cells := 0, slots := 0, locals := 0 } : Room) s m #[(.ref a152), (.ref a153)] below meth c s₁ [] 0 0 := Stand.of_body Bd
  have e0 : s₁.heap = h0 := by rw [← hh, Bd.state]; rfl
  have K0 : own_Kp h0 h0 [] [] := own_kpRefl _ _
  show own_Go p e below (own_K s (own_QP (some (.int (2 : Int32))) h0) 0 0) s₁ (entryFrame m #[(.ref a152), (.ref a153)] 3)
  rw [own_ef151]
  obtain ⟨T158, X158, e158, st158⟩ := getF X0 hx hZ hown (host := "") (Or.inl (own_wd hw 9 rfl)) Via.refl e0 F157 (g := (mkF m 9 #[.val (.ref a152), .val (.ref a153), .val (.int (0 : Int32))] [(.ref a152), (.ref a153)])) rfl rfl (hb hby own_d1_9)
  obtain ⟨cl163, Ar163, q163, S163, N163, H163, G163⟩ := id A162
  have hin163 : ¬ ((0 : Int32) < 0 ∨ cl163.slots.size ≤ ((0 : Int32)).toNatClampNeg) := inb_of S163 ⟨by decide, by decide⟩
  obtain ⟨cl170, Ar170, q170, S170, N170, H170, G170⟩ := id A169
  have hin170 : ¬ ((0 : Int32) < 0 ∨ cl170.slots.size ≤ ((0 : Int32)).toNatClampNeg) := inb_of S170 ⟨by decide, by decide⟩
  refine own_go (T2 := T158) (g2 := (mkF m 16 #[.val (.ref a152), .val (.ref a153), .val (.int (0 : Int32))] [(.int (-1 : Int32)), (.int p165)])) (fun t k => XS.iconst X0.here hx rfl (hb hby own_d1_0) (XS.istoreN X0.here hx rfl (hb hby own_d1_1) rfl (l' := #[.val (.ref a152), .val (.ref a153), .val (.int (0 : Int32))]) rfl (XS.iloadN X0.here hx rfl (hb hby own_d1_2) rfl  (XS.iconst X0.here hx rfl (hb hby own_d1_3) (XS.icmpNo X0.here hx rfl (hb hby own_d1_4) rfl (tlt (show (0 : Int32) < (4 : Int32) from (by decide))).2.1 (XS.aloadN X0.here hx rfl (hb hby own_d1_7) rfl rfl (XS.aloadN X0.here hx rfl (hb hby own_d1_8) rfl rfl (st158 _ (XS.iloadN X158.here hx rfl (hb hby own_d1_12) rfl  (own_ap (X158.iaload hx (j := (0 : Int32)) (v := (.int (0 : Int32))) (by rw [e158]; exact Ar163.1) (State.isArrayOf_alike hZ.alike Ar163.2.1) Ar163.2.2 hin163 (Has.at H163 hin163 rfl) rfl rfl (hb hby own_d1_13)) (own_ap (X158.iaload hx (j := (0 : Int32)) (v := (.int p165)) (by rw [e158]; exact Ar170.1) (State.isArrayOf_alike hZ.alike Ar170.2.1) Ar170.2.2 hin170 (Has.at H170 hin170 rfl) rfl rfl (hb hby own_d1_14)) (XS.iconst X158.here hx rfl (hb hby own_d1_15) k)))))))))))) ?_
  obtain ⟨T172, X172, e172, st172⟩ := getF X158 hx hZ hown (host := "") (Or.inl (own_wd hw 9 rfl)) Via.refl e158 F157 (g := (mkF m 9 #[.val (.ref a152), .val (.ref a153), .val (.int (1 : Int32))] [(.ref a152), (.ref a153)])) rfl rfl (hb hby own_d1_9)
  obtain ⟨cl173, Ar173, q173, S173, N173, H173, G173⟩ := id A162
  have hin173 : ¬ ((1 : Int32) < 0 ∨ cl173.slots.size ≤ ((1 : Int32)).toNatClampNeg) := inb_of S173 ⟨by decide, by decide⟩
  obtain ⟨cl174, Ar174, q174, S174, N174, H174, G174⟩ := id A169
  have hin174 : ¬ ((1 : Int32) < 0 ∨ cl174.slots.size ≤ ((1 : Int32)).toNatClampNeg) := inb_of S174 ⟨by decide, by decide⟩
  refine own_go (T2 := T172) (g2 := (mkF m 15 #[.val (.ref a152), .val (.ref a153), .val (.int (1 : Int32))] [(.int p166)])) (fun t k => XS.icmpNo X158.here hx rfl (hb hby own_d1_16) rfl (feq (show ¬ (p165 = (-1 : Int32)) from hp171)).1 (XS.iinc X158.here hx rfl (hb hby own_d1_19) rfl (l' := #[.val (.ref a152), .val (.ref a153), .val (.int (1 : Int32))]) rfl (XS.goto X158.here hx rfl (pc0 := 22) (pc' := 2) rfl (hb hby own_d1_22) (by decide) (by decide) (XS.iloadN X158.here hx rfl (hb hby own_d1_2) rfl  (XS.iconst X158.here hx rfl (hb hby own_d1_3) (XS.icmpNo X158.here hx rfl (hb hby own_d1_4) rfl (tlt (show (1 : Int32) < (4 : Int32) from (by decide))).2.1 (XS.aloadN X158.here hx rfl (hb hby own_d1_7) rfl rfl (XS.aloadN X158.here hx rfl (hb hby own_d1_8) rfl rfl (st172 _ (XS.iloadN X172.here hx rfl (hb hby own_d1_12) rfl  (own_ap (X172.iaload hx (j := (1 : Int32)) (v := (.int (1 : Int32))) (by rw [e172]; exact Ar173.1) (State.isArrayOf_alike hZ.alike Ar173.2.1) Ar173.2.2 hin173 (Has.at H173 hin173 rfl) rfl rfl (hb hby own_d1_13)) (own_ap (X172.iaload hx (j := (1 : Int32)) (v := (.int p166)) (by rw [e172]; exact Ar174.1) (State.isArrayOf_alike hZ.alike Ar174.2.1) Ar174.2.2 hin174 (Has.at H174 hin174 rfl) rfl rfl (hb hby own_d1_14)) k)))))))))))) ?_
  obtain ⟨T176, X176, e176, st176⟩ := getF X172 hx hZ hown (host := "") (Or.inl (own_wd hw 9 rfl)) Via.refl e172 F157 (g := (mkF m 9 #[.val (.ref a152), .val (.ref a153), .val (.int (2 : Int32))] [(.ref a152), (.ref a153)])) rfl rfl (hb hby own_d1_9)
  obtain ⟨cl177, Ar177, q177, S177, N177, H177, G177⟩ := id A162
  have hin177 : ¬ ((2 : Int32) < 0 ∨ cl177.slots.size ≤ ((2 : Int32)).toNatClampNeg) := inb_of S177 ⟨by decide, by decide⟩
  refine own_go (T2 := T176) (g2 := (mkF m 14 #[.val (.ref a152), .val (.ref a153), .val (.int (2 : Int32))] [(.int (2 : Int32)), (.ref a153)])) (fun t k => XS.iconst X172.here hx rfl (hb hby own_d1_15) (XS.icmpNo X172.here hx rfl (hb hby own_d1_16) rfl (feq (show ¬ (p166 = (-1 : Int32)) from hp175)).1 (XS.iinc X172.here hx rfl (hb hby own_d1_19) rfl (l' := #[.val (.ref a152), .val (.ref a153), .val (.int (2 : Int32))]) rfl (XS.goto X172.here hx rfl (pc0 := 22) (pc' := 2) rfl (hb hby own_d1_22) (by decide) (by decide) (XS.iloadN X172.here hx rfl (hb hby own_d1_2) rfl  (XS.iconst X172.here hx rfl (hb hby own_d1_3) (XS.icmpNo X172.here hx rfl (hb hby own_d1_4) rfl (tlt (show (2 : Int32) < (4 : Int32) from (by decide))).2.1 (XS.aloadN X172.here hx rfl (hb hby own_d1_7) rfl rfl (XS.aloadN X172.here hx rfl (hb hby own_d1_8) rfl rfl (st176 _ (XS.iloadN X176.here hx rfl (hb hby own_d1_12) rfl  (own_ap (X176.iaload hx (j := (2 : Int32)) (v := (.int (2 : Int32))) (by rw [e176]; exact Ar177.1) (State.isArrayOf_alike hZ.alike Ar177.2.1) Ar177.2.2 hin177 (Has.at H177 hin177 rfl) rfl rfl (hb hby own_d1_13)) k)))))))))))) ?_
  obtain ⟨cl178, Ar178, q178, S178, N178, H178, G178⟩ := id A169
  have hin178 : ¬ ((2 : Int32) < 0 ∨ cl178.slots.size ≤ ((2 : Int32)).toNatClampNeg) := inb_of S178 ⟨by decide, by decide⟩
  refine own_go (T2 := T176) (g2 := (mkF m 26 #[.val (.ref a152), .val (.ref a153), .val (.int (2 : Int32))] [(.int (2 : Int32))])) (fun t k => own_ap (X176.iaload hx (j := (2 : Int32)) (v := (.int p167)) (by rw [e176]; exact Ar178.1) (State.isArrayOf_alike hZ.alike Ar178.2.1) Ar178.2.2 hin178 (Has.at H178 hin178 rfl) rfl rfl (hb hby own_d1_14)) (XS.iconst X176.here hx rfl (hb hby own_d1_15) (XS.icmpYes X176.here hx rfl (pc0 := 16) (pc' := 25) rfl (hb hby own_d1_16) rfl (teq (show p167 = (-1 : Int32) from hp179)).1 (by decide) (by decide) (XS.iloadN X176.here hx rfl (hb hby own_d1_25) rfl  k)))) ?_
  exact own_endI X176 hx Bd.notSynchronized Bd.returns (hb hby own_d1_26) (by decide) (by decide) ⟨rfl, rfl, e176⟩
theorem own_ef196 (m : MethodId) (x0 : Addr) (x1 : Addr) : entryFrame m #[(.ref x0), (.ref x1)] 3 = mkF m 0 #[.val (.ref x0), .val (.ref x1), .unset] [] := by first | (simp [entryFrame, mkF, argsToLocals, Value.category]; done) | rfl
set_option maxRecDepth 65536 in
set_option maxHeartbeats 40000000 in
theorem own_rm196 (l : Launch) (Z : State) (a0 : Array Value) (hw : ∀ d ∈ tables_1, d.before a0 Z = true) (h0 : Heap) (a197 : Addr) (a198 : Addr) (a201 : Addr) (c206 : ClassId) (c209 : ClassId) (p210 : Int32) (p211 : Int32) (p212 : Int32) (p213 : Int32) (F202 : Fld Z h0 a197 "com/example/chronoquad/chronoquad/QuadOrder" "positions" "[I" (.ref a201)) (A207 : Arv Z h0 a201 c206 .int (4 : Int32) [(.int (0 : Int32)), (.int (1 : Int32)), (.int (2 : Int32)), (.int (3 : Int32))] (.int (0 : Int32))) (A214 : Arv Z h0 a198 c209 .int (4 : Int32) [(.int p210), (.int p211), (.int p212), (.int p213)] (.int (0 : Int32))) (hp216 : ¬ (p210 = (-1 : Int32))) (hp220 : ¬ (p211 = (-1 : Int32))) (hp224 : ¬ (p212 = (-1 : Int32))) (hp228 : p213 = (-1 : Int32)) :
    own_Con l Z (⟨"com/example/chronoquad/chronoquad/QuadOrder", "leadingTerms", "([I)I"⟩ : MethodName) prog_11_method_8_code 3 (some .int) ({ frames := 0, cells := 0, slots := 0, locals := 0 } : Room) #[(.ref a197), (.ref a198)] h0 (own_QP (some (.int (3 : Int32))) h0) := by
  refine MetFree.of_bodySF (plainFor_of_name own_pn0) hisR ?_
  intro p e s m args below meth c s₁ Bd hml0 hP hK
  obtain ⟨rfl, hZ, hh⟩ := hP
  have hx := Bd.exec
  have hby := Bd.bytes
  have hml : c.maxLocals = 3 := hml0
  have hown : s.vm.findClass "com/example/chronoquad/chronoquad/QuadOrder" = some m.cls := findClass_of_methodNamed Bd.named
  have hnm := (name_of_methodNamed Bd.named Bd.method).1
  have X0 : Stand p l e ({ frames := 0, cells := 0, slots := 0, locals := 0 } : Room) s m #[(.ref a197), (.ref a198)] below meth c s₁ [] 0 0 := Stand.of_body Bd
  have e0 : s₁.heap = h0 := by rw [← hh, Bd.state]; rfl
  have K0 : own_Kp h0 h0 [] [] := own_kpRefl _ _
  show own_Go p e below (own_K s (own_QP (some (.int (3 : Int32))) h0) 0 0) s₁ (entryFrame m #[(.ref a197), (.ref a198)] 3)
  rw [own_ef196]
  obtain ⟨T203, X203, e203, st203⟩ := getF X0 hx hZ hown (host := "") (Or.inl (own_wd hw 9 rfl)) Via.refl e0 F202 (g := (mkF m 9 #[.val (.ref a197), .val (.ref a198), .val (.int (0 : Int32))] [(.ref a197), (.ref a198)])) rfl rfl (hb hby own_d1_9)
  obtain ⟨cl208, Ar208, q208, S208, N208, H208, G208⟩ := id A207
  have hin208 : ¬ ((0 : Int32) < 0 ∨ cl208.slots.size ≤ ((0 : Int32)).toNatClampNeg) := inb_of S208 ⟨by decide, by decide⟩
  obtain ⟨cl215, Ar215, q215, S215, N215, H215, G215⟩ := id A214
  have hin215 : ¬ ((0 : Int32) < 0 ∨ cl215.slots.size ≤ ((0 : Int32)).toNatClampNeg) := inb_of S215 ⟨by decide, by decide⟩
  refine own_go (T2 := T203) (g2 := (mkF m 16 #[.val (.ref a197), .val (.ref a198), .val (.int (0 : Int32))] [(.int (-1 : Int32)), (.int p210)])) (fun t k => XS.iconst X0.here hx rfl (hb hby own_d1_0) (XS.istoreN X0.here hx rfl (hb hby own_d1_1) rfl (l' := #[.val (.ref a197), .val (.ref a198), .val (.int (0 : Int32))]) rfl (XS.iloadN X0.here hx rfl (hb hby own_d1_2) rfl  (XS.iconst X0.here hx rfl (hb hby own_d1_3) (XS.icmpNo X0.here hx rfl (hb hby own_d1_4) rfl (tlt (show (0 : Int32) < (4 : Int32) from (by decide))).2.1 (XS.aloadN X0.here hx rfl (hb hby own_d1_7) rfl rfl (XS.aloadN X0.here hx rfl (hb hby own_d1_8) rfl rfl (st203 _ (XS.iloadN X203.here hx rfl (hb hby own_d1_12) rfl  (own_ap (X203.iaload hx (j := (0 : Int32)) (v := (.int (0 : Int32))) (by rw [e203]; exact Ar208.1) (State.isArrayOf_alike hZ.alike Ar208.2.1) Ar208.2.2 hin208 (Has.at H208 hin208 rfl) rfl rfl (hb hby own_d1_13)) (own_ap (X203.iaload hx (j := (0 : Int32)) (v := (.int p210)) (by rw [e203]; exact Ar215.1) (State.isArrayOf_alike hZ.alike Ar215.2.1) Ar215.2.2 hin215 (Has.at H215 hin215 rfl) rfl rfl (hb hby own_d1_14)) (XS.iconst X203.here hx rfl (hb hby own_d1_15) k)))))))))))) ?_
  obtain ⟨T217, X217, e217, st217⟩ := getF X203 hx hZ hown (host := "") (Or.inl (own_wd hw 9 rfl)) Via.refl e203 F202 (g := (mkF m 9 #[.val (.ref a197), .val (.ref a198), .val (.int (1 : Int32))] [(.ref a197), (.ref a198)])) rfl rfl (hb hby own_d1_9)
  obtain ⟨cl218, Ar218, q218, S218, N218, H218, G218⟩ := id A207
  have hin218 : ¬ ((1 : Int32) < 0 ∨ cl218.slots.size ≤ ((1 : Int32)).toNatClampNeg) := inb_of S218 ⟨by decide, by decide⟩
  obtain ⟨cl219, Ar219, q219, S219, N219, H219, G219⟩ := id A214
  have hin219 : ¬ ((1 : Int32) < 0 ∨ cl219.slots.size ≤ ((1 : Int32)).toNatClampNeg) := inb_of S219 ⟨by decide, by decide⟩
  refine own_go (T2 := T217) (g2 := (mkF m 15 #[.val (.ref a197), .val (.ref a198), .val (.int (1 : Int32))] [(.int p211)])) (fun t k => XS.icmpNo X203.here hx rfl (hb hby own_d1_16) rfl (feq (show ¬ (p210 = (-1 : Int32)) from hp216)).1 (XS.iinc X203.here hx rfl (hb hby own_d1_19) rfl (l' := #[.val (.ref a197), .val (.ref a198), .val (.int (1 : Int32))]) rfl (XS.goto X203.here hx rfl (pc0 := 22) (pc' := 2) rfl (hb hby own_d1_22) (by decide) (by decide) (XS.iloadN X203.here hx rfl (hb hby own_d1_2) rfl  (XS.iconst X203.here hx rfl (hb hby own_d1_3) (XS.icmpNo X203.here hx rfl (hb hby own_d1_4) rfl (tlt (show (1 : Int32) < (4 : Int32) from (by decide))).2.1 (XS.aloadN X203.here hx rfl (hb hby own_d1_7) rfl rfl (XS.aloadN X203.here hx rfl (hb hby own_d1_8) rfl rfl (st217 _ (XS.iloadN X217.here hx rfl (hb hby own_d1_12) rfl  (own_ap (X217.iaload hx (j := (1 : Int32)) (v := (.int (1 : Int32))) (by rw [e217]; exact Ar218.1) (State.isArrayOf_alike hZ.alike Ar218.2.1) Ar218.2.2 hin218 (Has.at H218 hin218 rfl) rfl rfl (hb hby own_d1_13)) (own_ap (X217.iaload hx (j := (1 : Int32)) (v := (.int p211)) (by rw [e217]; exact Ar219.1) (State.isArrayOf_alike hZ.alike Ar219.2.1) Ar219.2.2 hin219 (Has.at H219 hin219 rfl) rfl rfl (hb hby own_d1_14)) k)))))))))))) ?_
  obtain ⟨T221, X221, e221, st221⟩ := getF X217 hx hZ hown (host := "") (Or.inl (own_wd hw 9 rfl)) Via.refl e217 F202 (g := (mkF m 9 #[.val (.ref a197), .val (.ref a198), .val (.int (2 : Int32))] [(.ref a197), (.ref a198)])) rfl rfl (hb hby own_d1_9)
  obtain ⟨cl222, Ar222, q222, S222, N222, H222, G222⟩ := id A207
  have hin222 : ¬ ((2 : Int32) < 0 ∨ cl222.slots.size ≤ ((2 : Int32)).toNatClampNeg) := inb_of S222 ⟨by decide, by decide⟩
  refine own_go (T2 := T221) (g2 := (mkF m 14 #[.val (.ref a197), .val (.ref a198), .val (.int (2 : Int32))] [(.int (2 : Int32)), (.ref a198)])) (fun t k => XS.iconst X217.here hx rfl (hb hby own_d1_15) (XS.icmpNo X217.here hx rfl (hb hby own_d1_16) rfl (feq (show ¬ (p211 = (-1 : Int32)) from hp220)).1 (XS.iinc X217.here hx rfl (hb hby own_d1_19) rfl (l' := #[.val (.ref a197), .val (.ref a198), .val (.int (2 : Int32))]) rfl (XS.goto X217.here hx rfl (pc0 := 22) (pc' := 2) rfl (hb hby own_d1_22) (by decide) (by decide) (XS.iloadN X217.here hx rfl (hb hby own_d1_2) rfl  (XS.iconst X217.here hx rfl (hb hby own_d1_3) (XS.icmpNo X217.here hx rfl (hb hby own_d1_4) rfl (tlt (show (2 : Int32) < (4 : Int32) from (by decide))).2.1 (XS.aloadN X217.here hx rfl (hb hby own_d1_7) rfl rfl (XS.aloadN X217.here hx rfl (hb hby own_d1_8) rfl rfl (st221 _ (XS.iloadN X221.here hx rfl (hb hby own_d1_12) rfl  (own_ap (X221.iaload hx (j := (2 : Int32)) (v := (.int (2 : Int32))) (by rw [e221]; exact Ar222.1) (State.isArrayOf_alike hZ.alike Ar222.2.1) Ar222.2.2 hin222 (Has.at H222 hin222 rfl) rfl rfl (hb hby own_d1_13)) k)))))))))))) ?_
  obtain ⟨cl223, Ar223, q223, S223, N223, H223, G223⟩ := id A214
  have hin223 : ¬ ((2 : Int32) < 0 ∨ cl223.slots.size ≤ ((2 : Int32)).toNatClampNeg) := inb_of S223 ⟨by decide, by decide⟩
  obtain ⟨T225, X225, e225, st225⟩ := getF X221 hx hZ hown (host := "") (Or.inl (own_wd hw 9 rfl)) Via.refl e221 F202 (g := (mkF m 9 #[.val (.ref a197), .val (.ref a198), .val (.int (3 : Int32))] [(.ref a197), (.ref a198)])) rfl rfl (hb hby own_d1_9)
  refine own_go (T2 := T225) (g2 := (mkF m 13 #[.val (.ref a197), .val (.ref a198), .val (.int (3 : Int32))] [(.int (3 : Int32)), (.ref a201), (.ref a198)])) (fun t k => own_ap (X221.iaload hx (j := (2 : Int32)) (v := (.int p212)) (by rw [e221]; exact Ar223.1) (State.isArrayOf_alike hZ.alike Ar223.2.1) Ar223.2.2 hin223 (Has.at H223 hin223 rfl) rfl rfl (hb hby own_d1_14)) (XS.iconst X221.here hx rfl (hb hby own_d1_15) (XS.icmpNo X221.here hx rfl (hb hby own_d1_16) rfl (feq (show ¬ (p212 = (-1 : Int32)) from hp224)).1 (XS.iinc X221.here hx rfl (hb hby own_d1_19) rfl (l' := #[.val (.ref a197), .val (.ref a198), .val (.int (3 : Int32))]) rfl (XS.goto X221.here hx rfl (pc0 := 22) (pc' := 2) rfl (hb hby own_d1_22) (by decide) (by decide) (XS.iloadN X221.here hx rfl (hb hby own_d1_2) rfl  (XS.iconst X221.here hx rfl (hb hby own_d1_3) (XS.icmpNo X221.here hx rfl (hb hby own_d1_4) rfl (tlt (show (3 : Int32) < (4 : Int32) from (by decide))).2.1 (XS.aloadN X221.here hx rfl (hb hby own_d1_7) rfl rfl (XS.aloadN X221.here hx rfl (hb hby own_d1_8) rfl rfl (st225 _ (XS.iloadN X225.here hx rfl (hb hby own_d1_12) rfl  k)))))))))))) ?_
  obtain ⟨cl226, Ar226, q226, S226, N226, H226, G226⟩ := id A207
  have hin226 : ¬ ((3 : Int32) < 0 ∨ cl226.slots.size ≤ ((3 : Int32)).toNatClampNeg) := inb_of S226 ⟨by decide, by decide⟩
  obtain ⟨cl227, Ar227, q227, S227, N227, H227, G227⟩ := id A214
  have hin227 : ¬ ((3 : Int32) < 0 ∨ cl227.slots.size ≤ ((3 : Int32)).toNatClampNeg) := inb_of S227 ⟨by decide, by decide⟩
  refine own_go (T2 := T225) (g2 := (mkF m 26 #[.val (.ref a197), .val (.ref a198), .val (.int (3 : Int32))] [(.int (3 : Int32))])) (fun t k => own_ap (X225.iaload hx (j := (3 : Int32)) (v := (.int (3 : Int32))) (by rw [e225]; exact Ar226.1) (State.isArrayOf_alike hZ.alike Ar226.2.1) Ar226.2.2 hin226 (Has.at H226 hin226 rfl) rfl rfl (hb hby own_d1_13)) (own_ap (X225.iaload hx (j := (3 : Int32)) (v := (.int p213)) (by rw [e225]; exact Ar227.1) (State.isArrayOf_alike hZ.alike Ar227.2.1) Ar227.2.2 hin227 (Has.at H227 hin227 rfl) rfl rfl (hb hby own_d1_14)) (XS.iconst X225.here hx rfl (hb hby own_d1_15) (XS.icmpYes X225.here hx rfl (pc0 := 16) (pc' := 25) rfl (hb hby own_d1_16) rfl (teq (show p213 = (-1 : Int32) from hp228)).1 (by decide) (by decide) (XS.iloadN X225.here hx rfl (hb hby own_d1_25) rfl  k))))) ?_
  exact own_endI X225 hx Bd.notSynchronized Bd.returns (hb hby own_d1_26) (by decide) (by decide) ⟨rfl, rfl, e225⟩
theorem own_ef247 (m : MethodId) (x0 : Addr) (x1 : Addr) : entryFrame m #[(.ref x0), (.ref x1)] 3 = mkF m 0 #[.val (.ref x0), .val (.ref x1), .unset] [] := by first | (simp [entryFrame, mkF, argsToLocals, Value.category]; done) | rfl
set_option maxRecDepth 65536 in
set_option maxHeartbeats 40000000 in
theorem own_rm247 (l : Launch) (Z : State) (a0 : Array Value) (hw : ∀ d ∈ tables_1, d.before a0 Z = true) (h0 : Heap) (a248 : Addr) (a249 : Addr) (a252 : Addr) (c257 : ClassId) (c260 : ClassId) (p261 : Int32) (p262 : Int32) (p263 : Int32) (p264 : Int32) (F253 : Fld Z h0 a248 "com/example/chronoquad/chronoquad/QuadOrder" "positions" "[I" (.ref a252)) (A258 : Arv Z h0 a252 c257 .int (4 : Int32) [(.int (0 : Int32)), (.int (1 : Int32)), (.int (2 : Int32)), (.int (3 : Int32))] (.int (0 : Int32))) (A265 : Arv Z h0 a249 c260 .int (4 : Int32) [(.int p261), (.int p262), (.int p263), (.int p264)] (.int (0 : Int32))) (hp267 : ¬ (p261 = (-1 : Int32))) (hp271 : ¬ (p262 = (-1 : Int32))) (hp275 : ¬ (p263 = (-1 : Int32))) (hp279 : ¬ (p264 = (-1 : Int32))) :
    own_Con l Z (⟨"com/example/chronoquad/chronoquad/QuadOrder", "leadingTerms", "([I)I"⟩ : MethodName) prog_11_method_8_code 3 (some .int) ({ frames := 0, cells := 0, slots := 0, locals := 0 } : Room) #[(.ref a248), (.ref a249)] h0 (own_QP (some (.int (4 : Int32))) h0) := by
  refine MetFree.of_bodySF (plainFor_of_name own_pn0) hisR ?_
  intro p e s m args below meth c s₁ Bd hml0 hP hK
  obtain ⟨rfl, hZ, hh⟩ := hP
  have hx := Bd.exec
  have hby := Bd.bytes
  have hml : c.maxLocals = 3 := hml0
  have hown : s.vm.findClass "com/example/chronoquad/chronoquad/QuadOrder" = some m.cls := findClass_of_methodNamed Bd.named
  have hnm := (name_of_methodNamed Bd.named Bd.method).1
  have X0 : Stand p l e ({ frames := 0, cells := 0, slots := 0, locals := 0 } : Room) s m #[(.ref a248), (.ref a249)] below meth c s₁ [] 0 0 := Stand.of_body Bd
  have e0 : s₁.heap = h0 := by rw [← hh, Bd.state]; rfl
  have K0 : own_Kp h0 h0 [] [] := own_kpRefl _ _
  show own_Go p e below (own_K s (own_QP (some (.int (4 : Int32))) h0) 0 0) s₁ (entryFrame m #[(.ref a248), (.ref a249)] 3)
  rw [own_ef247]
  obtain ⟨T254, X254, e254, st254⟩ := getF X0 hx hZ hown (host := "") (Or.inl (own_wd hw 9 rfl)) Via.refl e0 F253 (g := (mkF m 9 #[.val (.ref a248), .val (.ref a249), .val (.int (0 : Int32))] [(.ref a248), (.ref a249)])) rfl rfl (hb hby own_d1_9)
  obtain ⟨cl259, Ar259, q259, S259, N259, H259, G259⟩ := id A258
  have hin259 : ¬ ((0 : Int32) < 0 ∨ cl259.slots.size ≤ ((0 : Int32)).toNatClampNeg) := inb_of S259 ⟨by decide, by decide⟩
  obtain ⟨cl266, Ar266, q266, S266, N266, H266, G266⟩ := id A265
  have hin266 : ¬ ((0 : Int32) < 0 ∨ cl266.slots.size ≤ ((0 : Int32)).toNatClampNeg) := inb_of S266 ⟨by decide, by decide⟩
  refine own_go (T2 := T254) (g2 := (mkF m 16 #[.val (.ref a248), .val (.ref a249), .val (.int (0 : Int32))] [(.int (-1 : Int32)), (.int p261)])) (fun t k => XS.iconst X0.here hx rfl (hb hby own_d1_0) (XS.istoreN X0.here hx rfl (hb hby own_d1_1) rfl (l' := #[.val (.ref a248), .val (.ref a249), .val (.int (0 : Int32))]) rfl (XS.iloadN X0.here hx rfl (hb hby own_d1_2) rfl  (XS.iconst X0.here hx rfl (hb hby own_d1_3) (XS.icmpNo X0.here hx rfl (hb hby own_d1_4) rfl (tlt (show (0 : Int32) < (4 : Int32) from (by decide))).2.1 (XS.aloadN X0.here hx rfl (hb hby own_d1_7) rfl rfl (XS.aloadN X0.here hx rfl (hb hby own_d1_8) rfl rfl (st254 _ (XS.iloadN X254.here hx rfl (hb hby own_d1_12) rfl  (own_ap (X254.iaload hx (j := (0 : Int32)) (v := (.int (0 : Int32))) (by rw [e254]; exact Ar259.1) (State.isArrayOf_alike hZ.alike Ar259.2.1) Ar259.2.2 hin259 (Has.at H259 hin259 rfl) rfl rfl (hb hby own_d1_13)) (own_ap (X254.iaload hx (j := (0 : Int32)) (v := (.int p261)) (by rw [e254]; exact Ar266.1) (State.isArrayOf_alike hZ.alike Ar266.2.1) Ar266.2.2 hin266 (Has.at H266 hin266 rfl) rfl rfl (hb hby own_d1_14)) (XS.iconst X254.here hx rfl (hb hby own_d1_15) k)))))))))))) ?_
  obtain ⟨T268, X268, e268, st268⟩ := getF X254 hx hZ hown (host := "") (Or.inl (own_wd hw 9 rfl)) Via.refl e254 F253 (g := (mkF m 9 #[.val (.ref a248), .val (.ref a249), .val (.int (1 : Int32))] [(.ref a248), (.ref a249)])) rfl rfl (hb hby own_d1_9)
  obtain ⟨cl269, Ar269, q269, S269, N269, H269, G269⟩ := id A258
  have hin269 : ¬ ((1 : Int32) < 0 ∨ cl269.slots.size ≤ ((1 : Int32)).toNatClampNeg) := inb_of S269 ⟨by decide, by decide⟩
  obtain ⟨cl270, Ar270, q270, S270, N270, H270, G270⟩ := id A265
  have hin270 : ¬ ((1 : Int32) < 0 ∨ cl270.slots.size ≤ ((1 : Int32)).toNatClampNeg) := inb_of S270 ⟨by decide, by decide⟩
  refine own_go (T2 := T268) (g2 := (mkF m 15 #[.val (.ref a248), .val (.ref a249), .val (.int (1 : Int32))] [(.int p262)])) (fun t k => XS.icmpNo X254.here hx rfl (hb hby own_d1_16) rfl (feq (show ¬ (p261 = (-1 : Int32)) from hp267)).1 (XS.iinc X254.here hx rfl (hb hby own_d1_19) rfl (l' := #[.val (.ref a248), .val (.ref a249), .val (.int (1 : Int32))]) rfl (XS.goto X254.here hx rfl (pc0 := 22) (pc' := 2) rfl (hb hby own_d1_22) (by decide) (by decide) (XS.iloadN X254.here hx rfl (hb hby own_d1_2) rfl  (XS.iconst X254.here hx rfl (hb hby own_d1_3) (XS.icmpNo X254.here hx rfl (hb hby own_d1_4) rfl (tlt (show (1 : Int32) < (4 : Int32) from (by decide))).2.1 (XS.aloadN X254.here hx rfl (hb hby own_d1_7) rfl rfl (XS.aloadN X254.here hx rfl (hb hby own_d1_8) rfl rfl (st268 _ (XS.iloadN X268.here hx rfl (hb hby own_d1_12) rfl  (own_ap (X268.iaload hx (j := (1 : Int32)) (v := (.int (1 : Int32))) (by rw [e268]; exact Ar269.1) (State.isArrayOf_alike hZ.alike Ar269.2.1) Ar269.2.2 hin269 (Has.at H269 hin269 rfl) rfl rfl (hb hby own_d1_13)) (own_ap (X268.iaload hx (j := (1 : Int32)) (v := (.int p262)) (by rw [e268]; exact Ar270.1) (State.isArrayOf_alike hZ.alike Ar270.2.1) Ar270.2.2 hin270 (Has.at H270 hin270 rfl) rfl rfl (hb hby own_d1_14)) k)))))))))))) ?_
  obtain ⟨T272, X272, e272, st272⟩ := getF X268 hx hZ hown (host := "") (Or.inl (own_wd hw 9 rfl)) Via.refl e268 F253 (g := (mkF m 9 #[.val (.ref a248), .val (.ref a249), .val (.int (2 : Int32))] [(.ref a248), (.ref a249)])) rfl rfl (hb hby own_d1_9)
  obtain ⟨cl273, Ar273, q273, S273, N273, H273, G273⟩ := id A258
  have hin273 : ¬ ((2 : Int32) < 0 ∨ cl273.slots.size ≤ ((2 : Int32)).toNatClampNeg) := inb_of S273 ⟨by decide, by decide⟩
  refine own_go (T2 := T272) (g2 := (mkF m 14 #[.val (.ref a248), .val (.ref a249), .val (.int (2 : Int32))] [(.int (2 : Int32)), (.ref a249)])) (fun t k => XS.iconst X268.here hx rfl (hb hby own_d1_15) (XS.icmpNo X268.here hx rfl (hb hby own_d1_16) rfl (feq (show ¬ (p262 = (-1 : Int32)) from hp271)).1 (XS.iinc X268.here hx rfl (hb hby own_d1_19) rfl (l' := #[.val (.ref a248), .val (.ref a249), .val (.int (2 : Int32))]) rfl (XS.goto X268.here hx rfl (pc0 := 22) (pc' := 2) rfl (hb hby own_d1_22) (by decide) (by decide) (XS.iloadN X268.here hx rfl (hb hby own_d1_2) rfl  (XS.iconst X268.here hx rfl (hb hby own_d1_3) (XS.icmpNo X268.here hx rfl (hb hby own_d1_4) rfl (tlt (show (2 : Int32) < (4 : Int32) from (by decide))).2.1 (XS.aloadN X268.here hx rfl (hb hby own_d1_7) rfl rfl (XS.aloadN X268.here hx rfl (hb hby own_d1_8) rfl rfl (st272 _ (XS.iloadN X272.here hx rfl (hb hby own_d1_12) rfl  (own_ap (X272.iaload hx (j := (2 : Int32)) (v := (.int (2 : Int32))) (by rw [e272]; exact Ar273.1) (State.isArrayOf_alike hZ.alike Ar273.2.1) Ar273.2.2 hin273 (Has.at H273 hin273 rfl) rfl rfl (hb hby own_d1_13)) k)))))))))))) ?_
  obtain ⟨cl274, Ar274, q274, S274, N274, H274, G274⟩ := id A265
  have hin274 : ¬ ((2 : Int32) < 0 ∨ cl274.slots.size ≤ ((2 : Int32)).toNatClampNeg) := inb_of S274 ⟨by decide, by decide⟩
  obtain ⟨T276, X276, e276, st276⟩ := getF X272 hx hZ hown (host := "") (Or.inl (own_wd hw 9 rfl)) Via.refl e272 F253 (g := (mkF m 9 #[.val (.ref a248), .val (.ref a249), .val (.int (3 : Int32))] [(.ref a248), (.ref a249)])) rfl rfl (hb hby own_d1_9)
  refine own_go (T2 := T276) (g2 := (mkF m 13 #[.val (.ref a248), .val (.ref a249), .val (.int (3 : Int32))] [(.int (3 : Int32)), (.ref a252), (.ref a249)])) (fun t k => own_ap (X272.iaload hx (j := (2 : Int32)) (v := (.int p263)) (by rw [e272]; exact Ar274.1) (State.isArrayOf_alike hZ.alike Ar274.2.1) Ar274.2.2 hin274 (Has.at H274 hin274 rfl) rfl rfl (hb hby own_d1_14)) (XS.iconst X272.here hx rfl (hb hby own_d1_15) (XS.icmpNo X272.here hx rfl (hb hby own_d1_16) rfl (feq (show ¬ (p263 = (-1 : Int32)) from hp275)).1 (XS.iinc X272.here hx rfl (hb hby own_d1_19) rfl (l' := #[.val (.ref a248), .val (.ref a249), .val (.int (3 : Int32))]) rfl (XS.goto X272.here hx rfl (pc0 := 22) (pc' := 2) rfl (hb hby own_d1_22) (by decide) (by decide) (XS.iloadN X272.here hx rfl (hb hby own_d1_2) rfl  (XS.iconst X272.here hx rfl (hb hby own_d1_3) (XS.icmpNo X272.here hx rfl (hb hby own_d1_4) rfl (tlt (show (3 : Int32) < (4 : Int32) from (by decide))).2.1 (XS.aloadN X272.here hx rfl (hb hby own_d1_7) rfl rfl (XS.aloadN X272.here hx rfl (hb hby own_d1_8) rfl rfl (st276 _ (XS.iloadN X276.here hx rfl (hb hby own_d1_12) rfl  k)))))))))))) ?_
  obtain ⟨cl277, Ar277, q277, S277, N277, H277, G277⟩ := id A258
  have hin277 : ¬ ((3 : Int32) < 0 ∨ cl277.slots.size ≤ ((3 : Int32)).toNatClampNeg) := inb_of S277 ⟨by decide, by decide⟩
  obtain ⟨cl278, Ar278, q278, S278, N278, H278, G278⟩ := id A265
  have hin278 : ¬ ((3 : Int32) < 0 ∨ cl278.slots.size ≤ ((3 : Int32)).toNatClampNeg) := inb_of S278 ⟨by decide, by decide⟩
  refine own_go (T2 := T276) (g2 := (mkF m 26 #[.val (.ref a248), .val (.ref a249), .val (.int (4 : Int32))] [(.int (4 : Int32))])) (fun t k => own_ap (X276.iaload hx (j := (3 : Int32)) (v := (.int (3 : Int32))) (by rw [e276]; exact Ar277.1) (State.isArrayOf_alike hZ.alike Ar277.2.1) Ar277.2.2 hin277 (Has.at H277 hin277 rfl) rfl rfl (hb hby own_d1_13)) (own_ap (X276.iaload hx (j := (3 : Int32)) (v := (.int p264)) (by rw [e276]; exact Ar278.1) (State.isArrayOf_alike hZ.alike Ar278.2.1) Ar278.2.2 hin278 (Has.at H278 hin278 rfl) rfl rfl (hb hby own_d1_14)) (XS.iconst X276.here hx rfl (hb hby own_d1_15) (XS.icmpNo X276.here hx rfl (hb hby own_d1_16) rfl (feq (show ¬ (p264 = (-1 : Int32)) from hp279)).1 (XS.iinc X276.here hx rfl (hb hby own_d1_19) rfl (l' := #[.val (.ref a248), .val (.ref a249), .val (.int (4 : Int32))]) rfl (XS.goto X276.here hx rfl (pc0 := 22) (pc' := 2) rfl (hb hby own_d1_22) (by decide) (by decide) (XS.iloadN X276.here hx rfl (hb hby own_d1_2) rfl  (XS.iconst X276.here hx rfl (hb hby own_d1_3) (XS.icmpYes X276.here hx rfl (pc0 := 4) (pc' := 25) rfl (hb hby own_d1_4) rfl (flt (show ¬ ((4 : Int32) < (4 : Int32)) from (by decide))).2.1 (by decide) (by decide) (XS.iloadN X276.here hx rfl (hb hby own_d1_25) rfl  k)))))))))) ?_
  exact own_endI X276 hx Bd.notSynchronized Bd.returns (hb hby own_d1_26) (by decide) (by decide) ⟨rfl, rfl, e276⟩
theorem own_ef307 (m : MethodId) (x0 : Addr) (x1 : Addr) : entryFrame m #[(.ref x0), (.ref x1)] 3 = mkF m 0 #[.val (.ref x0), .val (.ref x1), .unset] [] := by first | (simp [entryFrame, mkF, argsToLocals, Value.category]; done) | rfl
set_option maxRecDepth 65536 in
set_option maxHeartbeats 40000000 in
theorem own_rm307 (l : Launch) (Z : State) (a0 : Array Value) (hw : ∀ d ∈ tables_1, d.before a0 Z = true) (h0 : Heap) (a308 : Addr) (a309 : Addr) (a312 : Addr) (c317 : ClassId) (c320 : ClassId) (p321 : Int32) (p322 : Int32) (p323 : Int32) (p324 : Int32) (F313 : Fld Z h0 a308 "com/example/chronoquad/chronoquad/QuadOrder" "positions" "[I" (.ref a312)) (A318 : Arv Z h0 a312 c317 .int (4 : Int32) [(.int (1 : Int32)), (.int (2 : Int32)), (.int (0 : Int32)), (.int (3 : Int32))] (.int (0 : Int32))) (A325 : Arv Z h0 a309 c320 .int (4 : Int32) [(.int p321), (.int p322), (.int p323), (.int p324)] (.int (0 : Int32))) (hp327 : p322 = (-1 : Int32)) :
    own_Con l Z (⟨"com/example/chronoquad/chronoquad/QuadOrder", "leadingTerms", "([I)I"⟩ : MethodName) prog_11_method_8_code 3 (some .int) ({ frames := 0, cells := 0, slots := 0, locals := 0 } : Room) #[(.ref a308), (.ref a309)] h0 (own_QP (some (.int (0 : Int32))) h0) := by
  refine MetFree.of_bodySF (plainFor_of_name own_pn0) hisR ?_
  intro p e s m args below meth c s₁ Bd hml0 hP hK
  obtain ⟨rfl, hZ, hh⟩ := hP
  have hx := Bd.exec
  have hby := Bd.bytes
  have hml : c.maxLocals = 3 := hml0
  have hown : s.vm.findClass "com/example/chronoquad/chronoquad/QuadOrder" = some m.cls := findClass_of_methodNamed Bd.named
  have hnm := (name_of_methodNamed Bd.named Bd.method).1
  have X0 : Stand p l e ({ frames := 0, cells := 0, slots := 0, locals := 0 } : Room) s m #[(.ref a308), (.ref a309)] below meth c s₁ [] 0 0 := Stand.of_body Bd
  have e0 : s₁.heap = h0 := by rw [← hh, Bd.state]; rfl
  have K0 : own_Kp h0 h0 [] [] := own_kpRefl _ _
  show own_Go p e below (own_K s (own_QP (some (.int (0 : Int32))) h0) 0 0) s₁ (entryFrame m #[(.ref a308), (.ref a309)] 3)
  rw [own_ef307]
  obtain ⟨T314, X314, e314, st314⟩ := getF X0 hx hZ hown (host := "") (Or.inl (own_wd hw 9 rfl)) Via.refl e0 F313 (g := (mkF m 9 #[.val (.ref a308), .val (.ref a309), .val (.int (0 : Int32))] [(.ref a308), (.ref a309)])) rfl rfl (hb hby own_d1_9)
  obtain ⟨cl319, Ar319, q319, S319, N319, H319, G319⟩ := id A318
  have hin319 : ¬ ((0 : Int32) < 0 ∨ cl319.slots.size ≤ ((0 : Int32)).toNatClampNeg) := inb_of S319 ⟨by decide, by decide⟩
  obtain ⟨cl326, Ar326, q326, S326, N326, H326, G326⟩ := id A325
  have hin326 : ¬ ((1 : Int32) < 0 ∨ cl326.slots.size ≤ ((1 : Int32)).toNatClampNeg) := inb_of S326 ⟨by decide, by decide⟩
  refine own_go (T2 := T314) (g2 := (mkF m 16 #[.val (.ref a308), .val (.ref a309), .val (.int (0 : Int32))] [(.int (-1 : Int32)), (.int p322)])) (fun t k => XS.iconst X0.here hx rfl (hb hby own_d1_0) (XS.istoreN X0.here hx rfl (hb hby own_d1_1) rfl (l' := #[.val (.ref a308), .val (.ref a309), .val (.int (0 : Int32))]) rfl (XS.iloadN X0.here hx rfl (hb hby own_d1_2) rfl  (XS.iconst X0.here hx rfl (hb hby own_d1_3) (XS.icmpNo X0.here hx rfl (hb hby own_d1_4) rfl (tlt (show (0 : Int32) < (4 : Int32) from (by decide))).2.1 (XS.aloadN X0.here hx rfl (hb hby own_d1_7) rfl rfl (XS.aloadN X0.here hx rfl (hb hby own_d1_8) rfl rfl (st314 _ (XS.iloadN X314.here hx rfl (hb hby own_d1_12) rfl  (own_ap (X314.iaload hx (j := (0 : Int32)) (v := (.int (1 : Int32))) (by rw [e314]; exact Ar319.1) (State.isArrayOf_alike hZ.alike Ar319.2.1) Ar319.2.2 hin319 (Has.at H319 hin319 rfl) rfl rfl (hb hby own_d1_13)) (own_ap (X314.iaload hx (j := (1 : Int32)) (v := (.int p322)) (by rw [e314]; exact Ar326.1) (State.isArrayOf_alike hZ.alike Ar326.2.1) Ar326.2.2 hin326 (Has.at H326 hin326 rfl) rfl rfl (hb hby own_d1_14)) (XS.iconst X314.here hx rfl (hb hby own_d1_15) k)))))))))))) ?_
  refine own_go (T2 := T314) (g2 := (mkF m 26 #[.val (.ref a308), .val (.ref a309), .val (.int (0 : Int32))] [(.int (0 : Int32))])) (fun t k => XS.icmpYes X314.here hx rfl (pc0 := 16) (pc' := 25) rfl (hb hby own_d1_16) rfl (teq (show p322 = (-1 : Int32) from hp327)).1 (by decide) (by decide) (XS.iloadN X314.here hx rfl (hb hby own_d1_25) rfl  k)) ?_
  exact own_endI X314 hx Bd.notSynchronized Bd.returns (hb hby own_d1_26) (by decide) (by decide) ⟨rfl, rfl, e314⟩
theorem own_ef356 (m : MethodId) (x0 : Addr) (x1 : Addr) : entryFrame m #[(.ref x0), (.ref x1)] 3 = mkF m 0 #[.val (.ref x0), .val (.ref x1), .unset] [] := by first | (simp [entryFrame, mkF, argsToLocals, Value.category]; done) | rfl
set_option maxRecDepth 65536 in
set_option maxHeartbeats 40000000 in
theorem own_rm356 (l : Launch) (Z : State) (a0 : Array Value) (hw : ∀ d ∈ tables_1, d.before a0 Z = true) (h0 : Heap) (a357 : Addr) (a358 : Addr) (a361 : Addr) (c366 : ClassId) (c369 : ClassId) (p370 : Int32) (p371 : Int32) (p372 : Int32) (p373 : Int32) (F362 : Fld Z h0 a357 "com/example/chronoquad/chronoquad/QuadOrder" "positions" "[I" (.ref a361)) (A367 : Arv Z h0 a361 c366 .int (4 : Int32) [(.int (1 : Int32)), (.int (2 : Int32)), (.int (0 : Int32)), (.int (3 : Int32))] (.int (0 : Int32))) (A374 : Arv Z h0 a358 c369 .int (4 : Int32) [(.int p370), (.int p371), (.int p372), (.int p373)] (.int (0 : Int32))) (hp376 : ¬ (p371 = (-1 : Int32))) (hp380 : p372 = (-1 : Int32)) :
    own_Con l Z (⟨"com/example/chronoquad/chronoquad/QuadOrder", "leadingTerms", "([I)I"⟩ : MethodName) prog_11_method_8_code 3 (some .int) ({ frames := 0, cells := 0, slots := 0, locals := 0 } : Room) #[(.ref a357), (.ref a358)] h0 (own_QP (some (.int (1 : Int32))) h0) := by
  refine MetFree.of_bodySF (plainFor_of_name own_pn0) hisR ?_
  intro p e s m args below meth c s₁ Bd hml0 hP hK
  obtain ⟨rfl, hZ, hh⟩ := hP
  have hx := Bd.exec
  have hby := Bd.bytes
  have hml : c.maxLocals = 3 := hml0
  have hown : s.vm.findClass "com/example/chronoquad/chronoquad/QuadOrder" = some m.cls := findClass_of_methodNamed Bd.named
  have hnm := (name_of_methodNamed Bd.named Bd.method).1
  have X0 : Stand p l e ({ frames := 0, cells := 0, slots := 0, locals := 0 } : Room) s m #[(.ref a357), (.ref a358)] below meth c s₁ [] 0 0 := Stand.of_body Bd
  have e0 : s₁.heap = h0 := by rw [← hh, Bd.state]; rfl
  have K0 : own_Kp h0 h0 [] [] := own_kpRefl _ _
  show own_Go p e below (own_K s (own_QP (some (.int (1 : Int32))) h0) 0 0) s₁ (entryFrame m #[(.ref a357), (.ref a358)] 3)
  rw [own_ef356]
  obtain ⟨T363, X363, e363, st363⟩ := getF X0 hx hZ hown (host := "") (Or.inl (own_wd hw 9 rfl)) Via.refl e0 F362 (g := (mkF m 9 #[.val (.ref a357), .val (.ref a358), .val (.int (0 : Int32))] [(.ref a357), (.ref a358)])) rfl rfl (hb hby own_d1_9)
  obtain ⟨cl368, Ar368, q368, S368, N368, H368, G368⟩ := id A367
  have hin368 : ¬ ((0 : Int32) < 0 ∨ cl368.slots.size ≤ ((0 : Int32)).toNatClampNeg) := inb_of S368 ⟨by decide, by decide⟩
  obtain ⟨cl375, Ar375, q375, S375, N375, H375, G375⟩ := id A374
  have hin375 : ¬ ((1 : Int32) < 0 ∨ cl375.slots.size ≤ ((1 : Int32)).toNatClampNeg) := inb_of S375 ⟨by decide, by decide⟩
  refine own_go (T2 := T363) (g2 := (mkF m 16 #[.val (.ref a357), .val (.ref a358), .val (.int (0 : Int32))] [(.int (-1 : Int32)), (.int p371)])) (fun t k => XS.iconst X0.here hx rfl (hb hby own_d1_0) (XS.istoreN X0.here hx rfl (hb hby own_d1_1) rfl (l' := #[.val (.ref a357), .val (.ref a358), .val (.int (0 : Int32))]) rfl (XS.iloadN X0.here hx rfl (hb hby own_d1_2) rfl  (XS.iconst X0.here hx rfl (hb hby own_d1_3) (XS.icmpNo X0.here hx rfl (hb hby own_d1_4) rfl (tlt (show (0 : Int32) < (4 : Int32) from (by decide))).2.1 (XS.aloadN X0.here hx rfl (hb hby own_d1_7) rfl rfl (XS.aloadN X0.here hx rfl (hb hby own_d1_8) rfl rfl (st363 _ (XS.iloadN X363.here hx rfl (hb hby own_d1_12) rfl  (own_ap (X363.iaload hx (j := (0 : Int32)) (v := (.int (1 : Int32))) (by rw [e363]; exact Ar368.1) (State.isArrayOf_alike hZ.alike Ar368.2.1) Ar368.2.2 hin368 (Has.at H368 hin368 rfl) rfl rfl (hb hby own_d1_13)) (own_ap (X363.iaload hx (j := (1 : Int32)) (v := (.int p371)) (by rw [e363]; exact Ar375.1) (State.isArrayOf_alike hZ.alike Ar375.2.1) Ar375.2.2 hin375 (Has.at H375 hin375 rfl) rfl rfl (hb hby own_d1_14)) (XS.iconst X363.here hx rfl (hb hby own_d1_15) k)))))))))))) ?_
  obtain ⟨T377, X377, e377, st377⟩ := getF X363 hx hZ hown (host := "") (Or.inl (own_wd hw 9 rfl)) Via.refl e363 F362 (g := (mkF m 9 #[.val (.ref a357), .val (.ref a358), .val (.int (1 : Int32))] [(.ref a357), (.ref a358)])) rfl rfl (hb hby own_d1_9)
  obtain ⟨cl378, Ar378, q378, S378, N378, H378, G378⟩ := id A367
  have hin378 : ¬ ((1 : Int32) < 0 ∨ cl378.slots.size ≤ ((1 : Int32)).toNatClampNeg) := inb_of S378 ⟨by decide, by decide⟩
  obtain ⟨cl379, Ar379, q379, S379, N379, H379, G379⟩ := id A374
  have hin379 : ¬ ((2 : Int32) < 0 ∨ cl379.slots.size ≤ ((2 : Int32)).toNatClampNeg) := inb_of S379 ⟨by decide, by decide⟩
  refine own_go (T2 := T377) (g2 := (mkF m 15 #[.val (.ref a357), .val (.ref a358), .val (.int (1 : Int32))] [(.int p372)])) (fun t k => XS.icmpNo X363.here hx rfl (hb hby own_d1_16) rfl (feq (show ¬ (p371 = (-1 : Int32)) from hp376)).1 (XS.iinc X363.here hx rfl (hb hby own_d1_19) rfl (l' := #[.val (.ref a357), .val (.ref a358), .val (.int (1 : Int32))]) rfl (XS.goto X363.here hx rfl (pc0 := 22) (pc' := 2) rfl (hb hby own_d1_22) (by decide) (by decide) (XS.iloadN X363.here hx rfl (hb hby own_d1_2) rfl  (XS.iconst X363.here hx rfl (hb hby own_d1_3) (XS.icmpNo X363.here hx rfl (hb hby own_d1_4) rfl (tlt (show (1 : Int32) < (4 : Int32) from (by decide))).2.1 (XS.aloadN X363.here hx rfl (hb hby own_d1_7) rfl rfl (XS.aloadN X363.here hx rfl (hb hby own_d1_8) rfl rfl (st377 _ (XS.iloadN X377.here hx rfl (hb hby own_d1_12) rfl  (own_ap (X377.iaload hx (j := (1 : Int32)) (v := (.int (2 : Int32))) (by rw [e377]; exact Ar378.1) (State.isArrayOf_alike hZ.alike Ar378.2.1) Ar378.2.2 hin378 (Has.at H378 hin378 rfl) rfl rfl (hb hby own_d1_13)) (own_ap (X377.iaload hx (j := (2 : Int32)) (v := (.int p372)) (by rw [e377]; exact Ar379.1) (State.isArrayOf_alike hZ.alike Ar379.2.1) Ar379.2.2 hin379 (Has.at H379 hin379 rfl) rfl rfl (hb hby own_d1_14)) k)))))))))))) ?_
  refine own_go (T2 := T377) (g2 := (mkF m 26 #[.val (.ref a357), .val (.ref a358), .val (.int (1 : Int32))] [(.int (1 : Int32))])) (fun t k => XS.iconst X377.here hx rfl (hb hby own_d1_15) (XS.icmpYes X377.here hx rfl (pc0 := 16) (pc' := 25) rfl (hb hby own_d1_16) rfl (teq (show p372 = (-1 : Int32) from hp380)).1 (by decide) (by decide) (XS.iloadN X377.here hx rfl (hb hby own_d1_25) rfl  k))) ?_
  exact own_endI X377 hx Bd.notSynchronized Bd.returns (hb hby own_d1_26) (by decide) (by decide) ⟨rfl, rfl, e377⟩
theorem own_ef413 (m : MethodId) (x0 : Addr) (x1 : Addr) : entryFrame m #[(.ref x0), (.ref x1)] 3 = mkF m 0 #[.val (.ref x0), .val (.ref x1), .unset] [] := by first | (simp [entryFrame, mkF, argsToLocals, Value.category]; done) | rfl
set_option maxRecDepth 65536 in
set_option maxHeartbeats 40000000 in
theorem own_rm413 (l : Launch) (Z : State) (a0 : Array Value) (hw : ∀ d ∈ tables_1, d.before a0 Z = true) (h0 : Heap) (a414 : Addr) (a415 : Addr) (a418 : Addr) (c423 : ClassId) (c426 : ClassId) (p427 : Int32) (p428 : Int32) (p429 : Int32) (p430 : Int32) (F419 : Fld Z h0 a414 "com/example/chronoquad/chronoquad/QuadOrder" "positions" "[I" (.ref a418)) (A424 : Arv Z h0 a418 c423 .int (4 : Int32) [(.int (1 : Int32)), (.int (2 : Int32)), (.int (0 : Int32)), (.int (3 : Int32))] (.int (0 : Int32))) (A431 : Arv Z h0 a415 c426 .int (4 : Int32) [(.int p427), (.int p428), (.int p429), (.int p430)] (.int (0 : Int32))) (hp433 : ¬ (p428 = (-1 : Int32))) (hp437 : ¬ (p429 = (-1 : Int32))) (hp441 : p427 = (-1 : Int32)) :
    own_Con l Z (⟨"com/example/chronoquad/chronoquad/QuadOrder", "leadingTerms", "([I)I"⟩ : MethodName) prog_11_method_8_code 3 (some .int) ({ frames := 0, cells := 0, slots := 0, locals := 0 } : Room) #[(.ref a414), (.ref a415)] h0 (own_QP (some (.int (2 : Int32))) h0) := by
  refine MetFree.of_bodySF (plainFor_of_name own_pn0) hisR ?_
  intro p e s m args below meth c s₁ Bd hml0 hP hK
  obtain ⟨rfl, hZ, hh⟩ := hP
  have hx := Bd.exec
  have hby := Bd.bytes
  have hml : c.maxLocals = 3 := hml0
  have hown : s.vm.findClass "com/example/chronoquad/chronoquad/QuadOrder" = some m.cls := findClass_of_methodNamed Bd.named
  have hnm := (name_of_methodNamed Bd.named Bd.method).1
  have X0 : Stand p l e ({ frames := 0, cells := 0, slots := 0, locals := 0 } : Room) s m #[(.ref a414), (.ref a415)] below meth c s₁ [] 0 0 := Stand.of_body Bd
  have e0 : s₁.heap = h0 := by rw [← hh, Bd.state]; rfl
  have K0 : own_Kp h0 h0 [] [] := own_kpRefl _ _
  show own_Go p e below (own_K s (own_QP (some (.int (2 : Int32))) h0) 0 0) s₁ (entryFrame m #[(.ref a414), (.ref a415)] 3)
  rw [own_ef413]
  obtain ⟨T420, X420, e420, st420⟩ := getF X0 hx hZ hown (host := "") (Or.inl (own_wd hw 9 rfl)) Via.refl e0 F419 (g := (mkF m 9 #[.val (.ref a414), .val (.ref a415), .val (.int (0 : Int32))] [(.ref a414), (.ref a415)])) rfl rfl (hb hby own_d1_9)
  obtain ⟨cl425, Ar425, q425, S425, N425, H425, G425⟩ := id A424
  have hin425 : ¬ ((0 : Int32) < 0 ∨ cl425.slots.size ≤ ((0 : Int32)).toNatClampNeg) := inb_of S425 ⟨by decide, by decide⟩
  obtain ⟨cl432, Ar432, q432, S432, N432, H432, G432⟩ := id A431
  have hin432 : ¬ ((1 : Int32) < 0 ∨ cl432.slots.size ≤ ((1 : Int32)).toNatClampNeg) := inb_of S432 ⟨by decide, by decide⟩
  refine own_go (T2 := T420) (g2 := (mkF m 16 #[.val (.ref a414), .val (.ref a415), .val (.int (0 : Int32))] [(.int (-1 : Int32)), (.int p428)])) (fun t k => XS.iconst X0.here hx rfl (hb hby own_d1_0) (XS.istoreN X0.here hx rfl (hb hby own_d1_1) rfl (l' := #[.val (.ref a414), .val (.ref a415), .val (.int (0 : Int32))]) rfl (XS.iloadN X0.here hx rfl (hb hby own_d1_2) rfl  (XS.iconst X0.here hx rfl (hb hby own_d1_3) (XS.icmpNo X0.here hx rfl (hb hby own_d1_4) rfl (tlt (show (0 : Int32) < (4 : Int32) from (by decide))).2.1 (XS.aloadN X0.here hx rfl (hb hby own_d1_7) rfl rfl (XS.aloadN X0.here hx rfl (hb hby own_d1_8) rfl rfl (st420 _ (XS.iloadN X420.here hx rfl (hb hby own_d1_12) rfl  (own_ap (X420.iaload hx (j := (0 : Int32)) (v := (.int (1 : Int32))) (by rw [e420]; exact Ar425.1) (State.isArrayOf_alike hZ.alike Ar425.2.1) Ar425.2.2 hin425 (Has.at H425 hin425 rfl) rfl rfl (hb hby own_d1_13)) (own_ap (X420.iaload hx (j := (1 : Int32)) (v := (.int p428)) (by rw [e420]; exact Ar432.1) (State.isArrayOf_alike hZ.alike Ar432.2.1) Ar432.2.2 hin432 (Has.at H432 hin432 rfl) rfl rfl (hb hby own_d1_14)) (XS.iconst X420.here hx rfl (hb hby own_d1_15) k)))))))))))) ?_
  obtain ⟨T434, X434, e434, st434⟩ := getF X420 hx hZ hown (host := "") (Or.inl (own_wd hw 9 rfl)) Via.refl e420 F419 (g := (mkF m 9 #[.val (.ref a414), .val (.ref a415), .val (.int (1 : Int32))] [(.ref a414), (.ref a415)])) rfl rfl (hb hby own_d1_9)
  obtain ⟨cl435, Ar435, q435, S435, N435, H435, G435⟩ := id A424
  have hin435 : ¬ ((1 : Int32) < 0 ∨ cl435.slots.size ≤ ((1 : Int32)).toNatClampNeg) := inb_of S435 ⟨by decide, by decide⟩
  obtain ⟨cl436, Ar436, q436, S436, N436, H436, G436⟩ := id A431
  have hin436 : ¬ ((2 : Int32) < 0 ∨ cl436.slots.size ≤ ((2 : Int32)).toNatClampNeg) := inb_of S436 ⟨by decide, by decide⟩
  refine own_go (T2 := T434) (g2 := (mkF m 15 #[.val (.ref a414), .val (.ref a415), .val (.int (1 : Int32))] [(.int p429)])) (fun t k => XS.icmpNo X420.here hx rfl (hb hby own_d1_16) rfl (feq (show ¬ (p428 = (-1 : Int32)) from hp433)).1 (XS.iinc X420.here hx rfl (hb hby own_d1_19) rfl (l' := #[.val (.ref a414), .val (.ref a415), .val (.int (1 : Int32))]) rfl (XS.goto X420.here hx rfl (pc0 := 22) (pc' := 2) rfl (hb hby own_d1_22) (by decide) (by decide) (XS.iloadN X420.here hx rfl (hb hby own_d1_2) rfl  (XS.iconst X420.here hx rfl (hb hby own_d1_3) (XS.icmpNo X420.here hx rfl (hb hby own_d1_4) rfl (tlt (show (1 : Int32) < (4 : Int32) from (by decide))).2.1 (XS.aloadN X420.here hx rfl (hb hby own_d1_7) rfl rfl (XS.aloadN X420.here hx rfl (hb hby own_d1_8) rfl rfl (st434 _ (XS.iloadN X434.here hx rfl (hb hby own_d1_12) rfl  (own_ap (X434.iaload hx (j := (1 : Int32)) (v := (.int (2 : Int32))) (by rw [e434]; exact Ar435.1) (State.isArrayOf_alike hZ.alike Ar435.2.1) Ar435.2.2 hin435 (Has.at H435 hin435 rfl) rfl rfl (hb hby own_d1_13)) (own_ap (X434.iaload hx (j := (2 : Int32)) (v := (.int p429)) (by rw [e434]; exact Ar436.1) (State.isArrayOf_alike hZ.alike Ar436.2.1) Ar436.2.2 hin436 (Has.at H436 hin436 rfl) rfl rfl (hb hby own_d1_14)) k)))))))))))) ?_
  obtain ⟨T438, X438, e438, st438⟩ := getF X434 hx hZ hown (host := "") (Or.inl (own_wd hw 9 rfl)) Via.refl e434 F419 (g := (mkF m 9 #[.val (.ref a414), .val (.ref a415), .val (.int (2 : Int32))] [(.ref a414), (.ref a415)])) rfl rfl (hb hby own_d1_9)
  obtain ⟨cl439, Ar439, q439, S439, N439, H439, G439⟩ := id A424
  have hin439 : ¬ ((2 : Int32) < 0 ∨ cl439.slots.size ≤ ((2 : Int32)).toNatClampNeg) := inb_of S439 ⟨by decide, by decide⟩
  refine own_go (T2 := T438) (g2 := (mkF m 14 #[.val (.ref a414), .val (.ref a415), .val (.int (2 : Int32))] [(.int (0 : Int32)), (.ref a415)])) (fun t k => XS.iconst X434.here hx rfl (hb hby own_d1_15) (XS.icmpNo X434.here hx rfl (hb hby own_d1_16) rfl (feq (show ¬ (p429 = (-1 : Int32)) from hp437)).1 (XS.iinc X434.here hx rfl (hb hby own_d1_19) rfl (l' := #[.val (.ref a414), .val (.ref a415), .val (.int (2 : Int32))]) rfl (XS.goto X434.here hx rfl (pc0 := 22) (pc' := 2) rfl (hb hby own_d1_22) (by decide) (by decide) (XS.iloadN X434.here hx rfl (hb hby own_d1_2) rfl  (XS.iconst X434.here hx rfl (hb hby own_d1_3) (XS.icmpNo X434.here hx rfl (hb hby own_d1_4) rfl (tlt (show (2 : Int32) < (4 : Int32) from (by decide))).2.1 (XS.aloadN X434.here hx rfl (hb hby own_d1_7) rfl rfl (XS.aloadN X434.here hx rfl (hb hby own_d1_8) rfl rfl (st438 _ (XS.iloadN X438.here hx rfl (hb hby own_d1_12) rfl  (own_ap (X438.iaload hx (j := (2 : Int32)) (v := (.int (0 : Int32))) (by rw [e438]; exact Ar439.1) (State.isArrayOf_alike hZ.alike Ar439.2.1) Ar439.2.2 hin439 (Has.at H439 hin439 rfl) rfl rfl (hb hby own_d1_13)) k)))))))))))) ?_
  obtain ⟨cl440, Ar440, q440, S440, N440, H440, G440⟩ := id A431
  have hin440 : ¬ ((0 : Int32) < 0 ∨ cl440.slots.size ≤ ((0 : Int32)).toNatClampNeg) := inb_of S440 ⟨by decide, by decide⟩
  refine own_go (T2 := T438) (g2 := (mkF m 26 #[.val (.ref a414), .val (.ref a415), .val (.int (2 : Int32))] [(.int (2 : Int32))])) (fun t k => own_ap (X438.iaload hx (j := (0 : Int32)) (v := (.int p427)) (by rw [e438]; exact Ar440.1) (State.isArrayOf_alike hZ.alike Ar440.2.1) Ar440.2.2 hin440 (Has.at H440 hin440 rfl) rfl rfl (hb hby own_d1_14)) (XS.iconst X438.here hx rfl (hb hby own_d1_15) (XS.icmpYes X438.here hx rfl (pc0 := 16) (pc' := 25) rfl (hb hby own_d1_16) rfl (teq (show p427 = (-1 : Int32) from hp441)).1 (by decide) (by decide) (XS.iloadN X438.here hx rfl (hb hby own_d1_25) rfl  k)))) ?_
  exact own_endI X438 hx Bd.notSynchronized Bd.returns (hb hby own_d1_26) (by decide) (by decide) ⟨rfl, rfl, e438⟩
theorem own_ef478 (m : MethodId) (x0 : Addr) (x1 : Addr) : entryFrame m #[(.ref x0), (.ref x1)] 3 = mkF m 0 #[.val (.ref x0), .val (.ref x1), .unset] [] := by first | (simp [entryFrame, mkF, argsToLocals, Value.category]; done) | rfl
set_option maxRecDepth 65536 in
set_option maxHeartbeats 40000000 in
theorem own_rm478 (l : Launch) (Z : State) (a0 : Array Value) (hw : ∀ d ∈ tables_1, d.before a0 Z = true) (h0 : Heap) (a479 : Addr) (a480 : Addr) (a483 : Addr) (c488 : ClassId) (c491 : ClassId) (p492 : Int32) (p493 : Int32) (p494 : Int32) (p495 : Int32) (F484 : Fld Z h0 a479 "com/example/chronoquad/chronoquad/QuadOrder" "positions" "[I" (.ref a483)) (A489 : Arv Z h0 a483 c488 .int (4 : Int32) [(.int (1 : Int32)), (.int (2 : Int32)), (.int (0 : Int32)), (.int (3 : Int32))] (.int (0 : Int32))) (A496 : Arv Z h0 a480 c491 .int (4 : Int32) [(.int p492), (.int p493), (.int p494), (.int p495)] (.int (0 : Int32))) (hp498 : ¬ (p493 = (-1 : Int32))) (hp502 : ¬ (p494 = (-1 : Int32))) (hp506 : ¬ (p492 = (-1 : Int32))) (hp510 : p495 = (-1 : Int32)) :
    own_Con l Z (⟨"com/example/chronoquad/chronoquad/QuadOrder", "leadingTerms", "([I)I"⟩ : MethodName) prog_11_method_8_code 3 (some .int) ({ frames := 0, cells := 0, slots := 0, locals := 0 } : Room) #[(.ref a479), (.ref a480)] h0 (own_QP (some (.int (3 : Int32))) h0) := by
  refine MetFree.of_bodySF (plainFor_of_name own_pn0) hisR ?_
  intro p e s m args below meth c s₁ Bd hml0 hP hK
  obtain ⟨rfl, hZ, hh⟩ := hP
  have hx := Bd.exec
  have hby := Bd.bytes
  have hml : c.maxLocals = 3 := hml0
  have hown : s.vm.findClass "com/example/chronoquad/chronoquad/QuadOrder" = some m.cls := findClass_of_methodNamed Bd.named
  have hnm := (name_of_methodNamed Bd.named Bd.method).1
  have X0 : Stand p l e ({ frames := 0, cells := 0, slots := 0, locals := 0 } : Room) s m #[(.ref a479), (.ref a480)] below meth c s₁ [] 0 0 := Stand.of_body Bd
  have e0 : s₁.heap = h0 := by rw [← hh, Bd.state]; rfl
  have K0 : own_Kp h0 h0 [] [] := own_kpRefl _ _
  show own_Go p e below (own_K s (own_QP (some (.int (3 : Int32))) h0) 0 0) s₁ (entryFrame m #[(.ref a479), (.ref a480)] 3)
  rw [own_ef478]
  obtain ⟨T485, X485, e485, st485⟩ := getF X0 hx hZ hown (host := "") (Or.inl (own_wd hw 9 rfl)) Via.refl e0 F484 (g := (mkF m 9 #[.val (.ref a479), .val (.ref a480), .val (.int (0 : Int32))] [(.ref a479), (.ref a480)])) rfl rfl (hb hby own_d1_9)
  obtain ⟨cl490, Ar490, q490, S490, N490, H490, G490⟩ := id A489
  have hin490 : ¬ ((0 : Int32) < 0 ∨ cl490.slots.size ≤ ((0 : Int32)).toNatClampNeg) := inb_of S490 ⟨by decide, by decide⟩
  obtain ⟨cl497, Ar497, q497, S497, N497, H497, G497⟩ := id A496
  have hin497 : ¬ ((1 : Int32) < 0 ∨ cl497.slots.size ≤ ((1 : Int32)).toNatClampNeg) := inb_of S497 ⟨by decide, by decide⟩
  refine own_go (T2 := T485) (g2 := (mkF m 16 #[.val (.ref a479), .val (.ref a480), .val (.int (0 : Int32))] [(.int (-1 : Int32)), (.int p493)])) (fun t k => XS.iconst X0.here hx rfl (hb hby own_d1_0) (XS.istoreN X0.here hx rfl (hb hby own_d1_1) rfl (l' := #[.val (.ref a479), .val (.ref a480), .val (.int (0 : Int32))]) rfl (XS.iloadN X0.here hx rfl (hb hby own_d1_2) rfl  (XS.iconst X0.here hx rfl (hb hby own_d1_3) (XS.icmpNo X0.here hx rfl (hb hby own_d1_4) rfl (tlt (show (0 : Int32) < (4 : Int32) from (by decide))).2.1 (XS.aloadN X0.here hx rfl (hb hby own_d1_7) rfl rfl (XS.aloadN X0.here hx rfl (hb hby own_d1_8) rfl rfl (st485 _ (XS.iloadN X485.here hx rfl (hb hby own_d1_12) rfl  (own_ap (X485.iaload hx (j := (0 : Int32)) (v := (.int (1 : Int32))) (by rw [e485]; exact Ar490.1) (State.isArrayOf_alike hZ.alike Ar490.2.1) Ar490.2.2 hin490 (Has.at H490 hin490 rfl) rfl rfl (hb hby own_d1_13)) (own_ap (X485.iaload hx (j := (1 : Int32)) (v := (.int p493)) (by rw [e485]; exact Ar497.1) (State.isArrayOf_alike hZ.alike Ar497.2.1) Ar497.2.2 hin497 (Has.at H497 hin497 rfl) rfl rfl (hb hby own_d1_14)) (XS.iconst X485.here hx rfl (hb hby own_d1_15) k)))))))))))) ?_
  obtain ⟨T499, X499, e499, st499⟩ := getF X485 hx hZ hown (host := "") (Or.inl (own_wd hw 9 rfl)) Via.refl e485 F484 (g := (mkF m 9 #[.val (.ref a479), .val (.ref a480), .val (.int (1 : Int32))] [(.ref a479), (.ref a480)])) rfl rfl (hb hby own_d1_9)
  obtain ⟨cl500, Ar500, q500, S500, N500, H500, G500⟩ := id A489
  have hin500 : ¬ ((1 : Int32) < 0 ∨ cl500.slots.size ≤ ((1 : Int32)).toNatClampNeg) := inb_of S500 ⟨by decide, by decide⟩
  obtain ⟨cl501, Ar501, q501, S501, N501, H501, G501⟩ := id A496
  have hin501 : ¬ ((2 : Int32) < 0 ∨ cl501.slots.size ≤ ((2 : Int32)).toNatClampNeg) := inb_of S501 ⟨by decide, by decide⟩
  refine own_go (T2 := T499) (g2 := (mkF m 15 #[.val (.ref a479), .val (.ref a480), .val (.int (1 : Int32))] [(.int p494)])) (fun t k => XS.icmpNo X485.here hx rfl (hb hby own_d1_16) rfl (feq (show ¬ (p493 = (-1 : Int32)) from hp498)).1 (XS.iinc X485.here hx rfl (hb hby own_d1_19) rfl (l' := #[.val (.ref a479), .val (.ref a480), .val (.int (1 : Int32))]) rfl (XS.goto X485.here hx rfl (pc0 := 22) (pc' := 2) rfl (hb hby own_d1_22) (by decide) (by decide) (XS.iloadN X485.here hx rfl (hb hby own_d1_2) rfl  (XS.iconst X485.here hx rfl (hb hby own_d1_3) (XS.icmpNo X485.here hx rfl (hb hby own_d1_4) rfl (tlt (show (1 : Int32) < (4 : Int32) from (by decide))).2.1 (XS.aloadN X485.here hx rfl (hb hby own_d1_7) rfl rfl (XS.aloadN X485.here hx rfl (hb hby own_d1_8) rfl rfl (st499 _ (XS.iloadN X499.here hx rfl (hb hby own_d1_12) rfl  (own_ap (X499.iaload hx (j := (1 : Int32)) (v := (.int (2 : Int32))) (by rw [e499]; exact Ar500.1) (State.isArrayOf_alike hZ.alike Ar500.2.1) Ar500.2.2 hin500 (Has.at H500 hin500 rfl) rfl rfl (hb hby own_d1_13)) (own_ap (X499.iaload hx (j := (2 : Int32)) (v := (.int p494)) (by rw [e499]; exact Ar501.1) (State.isArrayOf_alike hZ.alike Ar501.2.1) Ar501.2.2 hin501 (Has.at H501 hin501 rfl) rfl rfl (hb hby own_d1_14)) k)))))))))))) ?_
  obtain ⟨T503, X503, e503, st503⟩ := getF X499 hx hZ hown (host := "") (Or.inl (own_wd hw 9 rfl)) Via.refl e499 F484 (g := (mkF m 9 #[.val (.ref a479), .val (.ref a480), .val (.int (2 : Int32))] [(.ref a479), (.ref a480)])) rfl rfl (hb hby own_d1_9)
  obtain ⟨cl504, Ar504, q504, S504, N504, H504, G504⟩ := id A489
  have hin504 : ¬ ((2 : Int32) < 0 ∨ cl504.slots.size ≤ ((2 : Int32)).toNatClampNeg) := inb_of S504 ⟨by decide, by decide⟩
  refine own_go (T2 := T503) (g2 := (mkF m 14 #[.val (.ref a479), .val (.ref a480), .val (.int (2 : Int32))] [(.int (0 : Int32)), (.ref a480)])) (fun t k => XS.iconst X499.here hx rfl (hb hby own_d1_15) (XS.icmpNo X499.here hx rfl (hb hby own_d1_16) rfl (feq (show ¬ (p494 = (-1 : Int32)) from hp502)).1 (XS.iinc X499.here hx rfl (hb hby own_d1_19) rfl (l' := #[.val (.ref a479), .val (.ref a480), .val (.int (2 : Int32))]) rfl (XS.goto X499.here hx rfl (pc0 := 22) (pc' := 2) rfl (hb hby own_d1_22) (by decide) (by decide) (XS.iloadN X499.here hx rfl (hb hby own_d1_2) rfl  (XS.iconst X499.here hx rfl (hb hby own_d1_3) (XS.icmpNo X499.here hx rfl (hb hby own_d1_4) rfl (tlt (show (2 : Int32) < (4 : Int32) from (by decide))).2.1 (XS.aloadN X499.here hx rfl (hb hby own_d1_7) rfl rfl (XS.aloadN X499.here hx rfl (hb hby own_d1_8) rfl rfl (st503 _ (XS.iloadN X503.here hx rfl (hb hby own_d1_12) rfl  (own_ap (X503.iaload hx (j := (2 : Int32)) (v := (.int (0 : Int32))) (by rw [e503]; exact Ar504.1) (State.isArrayOf_alike hZ.alike Ar504.2.1) Ar504.2.2 hin504 (Has.at H504 hin504 rfl) rfl rfl (hb hby own_d1_13)) k)))))))))))) ?_
  obtain ⟨cl505, Ar505, q505, S505, N505, H505, G505⟩ := id A496
  have hin505 : ¬ ((0 : Int32) < 0 ∨ cl505.slots.size ≤ ((0 : Int32)).toNatClampNeg) := inb_of S505 ⟨by decide, by decide⟩
  obtain ⟨T507, X507, e507, st507⟩ := getF X503 hx hZ hown (host := "") (Or.inl (own_wd hw 9 rfl)) Via.refl e503 F484 (g := (mkF m 9 #[.val (.ref a479), .val (.ref a480), .val (.int (3 : Int32))] [(.ref a479), (.ref a480)])) rfl rfl (hb hby own_d1_9)
  refine own_go (T2 := T507) (g2 := (mkF m 13 #[.val (.ref a479), .val (.ref a480), .val (.int (3 : Int32))] [(.int (3 : Int32)), (.ref a483), (.ref a480)])) (fun t k => own_ap (X503.iaload hx (j := (0 : Int32)) (v := (.int p492)) (by rw [e503]; exact Ar505.1) (State.isArrayOf_alike hZ.alike Ar505.2.1) Ar505.2.2 hin505 (Has.at H505 hin505 rfl) rfl rfl (hb hby own_d1_14)) (XS.iconst X503.here hx rfl (hb hby own_d1_15) (XS.icmpNo X503.here hx rfl (hb hby own_d1_16) rfl (feq (show ¬ (p492 = (-1 : Int32)) from hp506)).1 (XS.iinc X503.here hx rfl (hb hby own_d1_19) rfl (l' := #[.val (.ref a479), .val (.ref a480), .val (.int (3 : Int32))]) rfl (XS.goto X503.here hx rfl (pc0 := 22) (pc' := 2) rfl (hb hby own_d1_22) (by decide) (by decide) (XS.iloadN X503.here hx rfl (hb hby own_d1_2) rfl  (XS.iconst X503.here hx rfl (hb hby own_d1_3) (XS.icmpNo X503.here hx rfl (hb hby own_d1_4) rfl (tlt (show (3 : Int32) < (4 : Int32) from (by decide))).2.1 (XS.aloadN X503.here hx rfl (hb hby own_d1_7) rfl rfl (XS.aloadN X503.here hx rfl (hb hby own_d1_8) rfl rfl (st507 _ (XS.iloadN X507.here hx rfl (hb hby own_d1_12) rfl  k)))))))))))) ?_
  obtain ⟨cl508, Ar508, q508, S508, N508, H508, G508⟩ := id A489
  have hin508 : ¬ ((3 : Int32) < 0 ∨ cl508.slots.size ≤ ((3 : Int32)).toNatClampNeg) := inb_of S508 ⟨by decide, by decide⟩
  obtain ⟨cl509, Ar509, q509, S509, N509, H509, G509⟩ := id A496
  have hin509 : ¬ ((3 : Int32) < 0 ∨ cl509.slots.size ≤ ((3 : Int32)).toNatClampNeg) := inb_of S509 ⟨by decide, by decide⟩
  refine own_go (T2 := T507) (g2 := (mkF m 26 #[.val (.ref a479), .val (.ref a480), .val (.int (3 : Int32))] [(.int (3 : Int32))])) (fun t k => own_ap (X507.iaload hx (j := (3 : Int32)) (v := (.int (3 : Int32))) (by rw [e507]; exact Ar508.1) (State.isArrayOf_alike hZ.alike Ar508.2.1) Ar508.2.2 hin508 (Has.at H508 hin508 rfl) rfl rfl (hb hby own_d1_13)) (own_ap (X507.iaload hx (j := (3 : Int32)) (v := (.int p495)) (by rw [e507]; exact Ar509.1) (State.isArrayOf_alike hZ.alike Ar509.2.1) Ar509.2.2 hin509 (Has.at H509 hin509 rfl) rfl rfl (hb hby own_d1_14)) (XS.iconst X507.here hx rfl (hb hby own_d1_15) (XS.icmpYes X507.here hx rfl (pc0 := 16) (pc' := 25) rfl (hb hby own_d1_16) rfl (teq (show p495 = (-1 : Int32) from hp510)).1 (by decide) (by decide) (XS.iloadN X507.here hx rfl (hb hby own_d1_25) rfl  k))))) ?_
  exact own_endI X507 hx Bd.notSynchronized Bd.returns (hb hby own_d1_26) (by decide) (by decide) ⟨rfl, rfl, e507⟩
theorem own_ef549 (m : MethodId) (x0 : Addr) (x1 : Addr) : entryFrame m #[(.ref x0), (.ref x1)] 3 = mkF m 0 #[.val (.ref x0), .val (.ref x1), .unset] [] := by first | (simp [entryFrame, mkF, argsToLocals, Value.category]; done) | rfl
set_option maxRecDepth 65536 in
set_option maxHeartbeats 40000000 in
theorem own_rm549 (l : Launch) (Z : State) (a0 : Array Value) (hw : ∀ d ∈ tables_1, d.before a0 Z = true) (h0 : Heap) (a550 : Addr) (a551 : Addr) (a554 : Addr) (c559 : ClassId) (c562 : ClassId) (p563 : Int32) (p564 : Int32) (p565 : Int32) (p566 : Int32) (F555 : Fld Z h0 a550 "com/example/chronoquad/chronoquad/QuadOrder" "positions" "[I" (.ref a554)) (A560 : Arv Z h0 a554 c559 .int (4 : Int32) [(.int (1 : Int32)), (.int (2 : Int32)), (.int (0 : Int32)), (.int (3 : Int32))] (.int (0 : Int32))) (A567 : Arv Z h0 a551 c562 .int (4 : Int32) [(.int p563), (.int p564), (.int p565), (.int p566)] (.int (0 : Int32))) (hp569 : ¬ (p564 = (-1 : Int32))) (hp573 : ¬ (p565 = (-1 : Int32))) (hp577 : ¬ (p563 = (-1 : Int32))) (hp581 : ¬ (p566 = (-1 : Int32))) :
    own_Con l Z (⟨"com/example/chronoquad/chronoquad/QuadOrder", "leadingTerms", "([I)I"⟩ : MethodName) prog_11_method_8_code 3 (some .int) ({ frames := 0, cells := 0, slots := 0, locals := 0 } : Room) #[(.ref a550), (.ref a551)] h0 (own_QP (some (.int (4 : Int32))) h0) := by
  refine MetFree.of_bodySF (plainFor_of_name own_pn0) hisR ?_
  intro p e s m args below meth c s₁ Bd hml0 hP hK
  obtain ⟨rfl, hZ, hh⟩ := hP
  have hx := Bd.exec
  have hby := Bd.bytes
  have hml : c.maxLocals = 3 := hml0
  have hown : s.vm.findClass "com/example/chronoquad/chronoquad/QuadOrder" = some m.cls := findClass_of_methodNamed Bd.named
  have hnm := (name_of_methodNamed Bd.named Bd.method).1
  have X0 : Stand p l e ({ frames := 0, cells := 0, slots := 0, locals := 0 } : Room) s m #[(.ref a550), (.ref a551)] below meth c s₁ [] 0 0 := Stand.of_body Bd
  have e0 : s₁.heap = h0 := by rw [← hh, Bd.state]; rfl
  have K0 : own_Kp h0 h0 [] [] := own_kpRefl _ _
  show own_Go p e below (own_K s (own_QP (some (.int (4 : Int32))) h0) 0 0) s₁ (entryFrame m #[(.ref a550), (.ref a551)] 3)
  rw [own_ef549]
  obtain ⟨T556, X556, e556, st556⟩ := getF X0 hx hZ hown (host := "") (Or.inl (own_wd hw 9 rfl)) Via.refl e0 F555 (g := (mkF m 9 #[.val (.ref a550), .val (.ref a551), .val (.int (0 : Int32))] [(.ref a550), (.ref a551)])) rfl rfl (hb hby own_d1_9)
  obtain ⟨cl561, Ar561, q561, S561, N561, H561, G561⟩ := id A560
  have hin561 : ¬ ((0 : Int32) < 0 ∨ cl561.slots.size ≤ ((0 : Int32)).toNatClampNeg) := inb_of S561 ⟨by decide, by decide⟩
  obtain ⟨cl568, Ar568, q568, S568, N568, H568, G568⟩ := id A567
  have hin568 : ¬ ((1 : Int32) < 0 ∨ cl568.slots.size ≤ ((1 : Int32)).toNatClampNeg) := inb_of S568 ⟨by decide, by decide⟩
  refine own_go (T2 := T556) (g2 := (mkF m 16 #[.val (.ref a550), .val (.ref a551), .val (.int (0 : Int32))] [(.int (-1 : Int32)), (.int p564)])) (fun t k => XS.iconst X0.here hx rfl (hb hby own_d1_0) (XS.istoreN X0.here hx rfl (hb hby own_d1_1) rfl (l' := #[.val (.ref a550), .val (.ref a551), .val (.int (0 : Int32))]) rfl (XS.iloadN X0.here hx rfl (hb hby own_d1_2) rfl  (XS.iconst X0.here hx rfl (hb hby own_d1_3) (XS.icmpNo X0.here hx rfl (hb hby own_d1_4) rfl (tlt (show (0 : Int32) < (4 : Int32) from (by decide))).2.1 (XS.aloadN X0.here hx rfl (hb hby own_d1_7) rfl rfl (XS.aloadN X0.here hx rfl (hb hby own_d1_8) rfl rfl (st556 _ (XS.iloadN X556.here hx rfl (hb hby own_d1_12) rfl  (own_ap (X556.iaload hx (j := (0 : Int32)) (v := (.int (1 : Int32))) (by rw [e556]; exact Ar561.1) (State.isArrayOf_alike hZ.alike Ar561.2.1) Ar561.2.2 hin561 (Has.at H561 hin561 rfl) rfl rfl (hb hby own_d1_13)) (own_ap (X556.iaload hx (j := (1 : Int32)) (v := (.int p564)) (by rw [e556]; exact Ar568.1) (State.isArrayOf_alike hZ.alike Ar568.2.1) Ar568.2.2 hin568 (Has.at H568 hin568 rfl) rfl rfl (hb hby own_d1_14)) (XS.iconst X556.here hx rfl (hb hby own_d1_15) k)))))))))))) ?_
  obtain ⟨T570, X570, e570, st570⟩ := getF X556 hx hZ hown (host := "") (Or.inl (own_wd hw 9 rfl)) Via.refl e556 F555 (g := (mkF m 9 #[.val (.ref a550), .val (.ref a551), .val (.int (1 : Int32))] [(.ref a550), (.ref a551)])) rfl rfl (hb hby own_d1_9)
  obtain ⟨cl571, Ar571, q571, S571, N571, H571, G571⟩ := id A560
  have hin571 : ¬ ((1 : Int32) < 0 ∨ cl571.slots.size ≤ ((1 : Int32)).toNatClampNeg) := inb_of S571 ⟨by decide, by decide⟩
  obtain ⟨cl572, Ar572, q572, S572, N572, H572, G572⟩ := id A567
  have hin572 : ¬ ((2 : Int32) < 0 ∨ cl572.slots.size ≤ ((2 : Int32)).toNatClampNeg) := inb_of S572 ⟨by decide, by decide⟩
  refine own_go (T2 := T570) (g2 := (mkF m 15 #[.val (.ref a550), .val (.ref a551), .val (.int (1 : Int32))] [(.int p565)])) (fun t k => XS.icmpNo X556.here hx rfl (hb hby own_d1_16) rfl (feq (show ¬ (p564 = (-1 : Int32)) from hp569)).1 (XS.iinc X556.here hx rfl (hb hby own_d1_19) rfl (l' := #[.val (.ref a550), .val (.ref a551), .val (.int (1 : Int32))]) rfl (XS.goto X556.here hx rfl (pc0 := 22) (pc' := 2) rfl (hb hby own_d1_22) (by decide) (by decide) (XS.iloadN X556.here hx rfl (hb hby own_d1_2) rfl  (XS.iconst X556.here hx rfl (hb hby own_d1_3) (XS.icmpNo X556.here hx rfl (hb hby own_d1_4) rfl (tlt (show (1 : Int32) < (4 : Int32) from (by decide))).2.1 (XS.aloadN X556.here hx rfl (hb hby own_d1_7) rfl rfl (XS.aloadN X556.here hx rfl (hb hby own_d1_8) rfl rfl (st570 _ (XS.iloadN X570.here hx rfl (hb hby own_d1_12) rfl  (own_ap (X570.iaload hx (j := (1 : Int32)) (v := (.int (2 : Int32))) (by rw [e570]; exact Ar571.1) (State.isArrayOf_alike hZ.alike Ar571.2.1) Ar571.2.2 hin571 (Has.at H571 hin571 rfl) rfl rfl (hb hby own_d1_13)) (own_ap (X570.iaload hx (j := (2 : Int32)) (v := (.int p565)) (by rw [e570]; exact Ar572.1) (State.isArrayOf_alike hZ.alike Ar572.2.1) Ar572.2.2 hin572 (Has.at H572 hin572 rfl) rfl rfl (hb hby own_d1_14)) k)))))))))))) ?_
  obtain ⟨T574, X574, e574, st574⟩ := getF X570 hx hZ hown (host := "") (Or.inl (own_wd hw 9 rfl)) Via.refl e570 F555 (g := (mkF m 9 #[.val (.ref a550), .val (.ref a551), .val (.int (2 : Int32))] [(.ref a550), (.ref a551)])) rfl rfl (hb hby own_d1_9)
  obtain ⟨cl575, Ar575, q575, S575, N575, H575, G575⟩ := id A560
  have hin575 : ¬ ((2 : Int32) < 0 ∨ cl575.slots.size ≤ ((2 : Int32)).toNatClampNeg) := inb_of S575 ⟨by decide, by decide⟩
  refine own_go (T2 := T574) (g2 := (mkF m 14 #[.val (.ref a550), .val (.ref a551), .val (.int (2 : Int32))] [(.int (0 : Int32)), (.ref a551)])) (fun t k => XS.iconst X570.here hx rfl (hb hby own_d1_15) (XS.icmpNo X570.here hx rfl (hb hby own_d1_16) rfl (feq (show ¬ (p565 = (-1 : Int32)) from hp573)).1 (XS.iinc X570.here hx rfl (hb hby own_d1_19) rfl (l' := #[.val (.ref a550), .val (.ref a551), .val (.int (2 : Int32))]) rfl (XS.goto X570.here hx rfl (pc0 := 22) (pc' := 2) rfl (hb hby own_d1_22) (by decide) (by decide) (XS.iloadN X570.here hx rfl (hb hby own_d1_2) rfl  (XS.iconst X570.here hx rfl (hb hby own_d1_3) (XS.icmpNo X570.here hx rfl (hb hby own_d1_4) rfl (tlt (show (2 : Int32) < (4 : Int32) from (by decide))).2.1 (XS.aloadN X570.here hx rfl (hb hby own_d1_7) rfl rfl (XS.aloadN X570.here hx rfl (hb hby own_d1_8) rfl rfl (st574 _ (XS.iloadN X574.here hx rfl (hb hby own_d1_12) rfl  (own_ap (X574.iaload hx (j := (2 : Int32)) (v := (.int (0 : Int32))) (by rw [e574]; exact Ar575.1) (State.isArrayOf_alike hZ.alike Ar575.2.1) Ar575.2.2 hin575 (Has.at H575 hin575 rfl) rfl rfl (hb hby own_d1_13)) k)))))))))))) ?_
  obtain ⟨cl576, Ar576, q576, S576, N576, H576, G576⟩ := id A567
  have hin576 : ¬ ((0 : Int32) < 0 ∨ cl576.slots.size ≤ ((0 : Int32)).toNatClampNeg) := inb_of S576 ⟨by decide, by decide⟩
  obtain ⟨T578, X578, e578, st578⟩ := getF X574 hx hZ hown (host := "") (Or.inl (own_wd hw 9 rfl)) Via.refl e574 F555 (g := (mkF m 9 #[.val (.ref a550), .val (.ref a551), .val (.int (3 : Int32))] [(.ref a550), (.ref a551)])) rfl rfl (hb hby own_d1_9)
  refine own_go (T2 := T578) (g2 := (mkF m 13 #[.val (.ref a550), .val (.ref a551), .val (.int (3 : Int32))] [(.int (3 : Int32)), (.ref a554), (.ref a551)])) (fun t k => own_ap (X574.iaload hx (j := (0 : Int32)) (v := (.int p563)) (by rw [e574]; exact Ar576.1) (State.isArrayOf_alike hZ.alike Ar576.2.1) Ar576.2.2 hin576 (Has.at H576 hin576 rfl) rfl rfl (hb hby own_d1_14)) (XS.iconst X574.here hx rfl (hb hby own_d1_15) (XS.icmpNo X574.here hx rfl (hb hby own_d1_16) rfl (feq (show ¬ (p563 = (-1 : Int32)) from hp577)).1 (XS.iinc X574.here hx rfl (hb hby own_d1_19) rfl (l' := #[.val (.ref a550), .val (.ref a551), .val (.int (3 : Int32))]) rfl (XS.goto X574.here hx rfl (pc0 := 22) (pc' := 2) rfl (hb hby own_d1_22) (by decide) (by decide) (XS.iloadN X574.here hx rfl (hb hby own_d1_2) rfl  (XS.iconst X574.here hx rfl (hb hby own_d1_3) (XS.icmpNo X574.here hx rfl (hb hby own_d1_4) rfl (tlt (show (3 : Int32) < (4 : Int32) from (by decide))).2.1 (XS.aloadN X574.here hx rfl (hb hby own_d1_7) rfl rfl (XS.aloadN X574.here hx rfl (hb hby own_d1_8) rfl rfl (st578 _ (XS.iloadN X578.here hx rfl (hb hby own_d1_12) rfl  k)))))))))))) ?_
  obtain ⟨cl579, Ar579, q579, S579, N579, H579, G579⟩ := id A560
  have hin579 : ¬ ((3 : Int32) < 0 ∨ cl579.slots.size ≤ ((3 : Int32)).toNatClampNeg) := inb_of S579 ⟨by decide, by decide⟩
  obtain ⟨cl580, Ar580, q580, S580, N580, H580, G580⟩ := id A567
  have hin580 : ¬ ((3 : Int32) < 0 ∨ cl580.slots.size ≤ ((3 : Int32)).toNatClampNeg) := inb_of S580 ⟨by decide, by decide⟩
  refine own_go (T2 := T578) (g2 := (mkF m 26 #[.val (.ref a550), .val (.ref a551), .val (.int (4 : Int32))] [(.int (4 : Int32))])) (fun t k => own_ap (X578.iaload hx (j := (3 : Int32)) (v := (.int (3 : Int32))) (by rw [e578]; exact Ar579.1) (State.isArrayOf_alike hZ.alike Ar579.2.1) Ar579.2.2 hin579 (Has.at H579 hin579 rfl) rfl rfl (hb hby own_d1_13)) (own_ap (X578.iaload hx (j := (3 : Int32)) (v := (.int p566)) (by rw [e578]; exact Ar580.1) (State.isArrayOf_alike hZ.alike Ar580.2.1) Ar580.2.2 hin580 (Has.at H580 hin580 rfl) rfl rfl (hb hby own_d1_14)) (XS.iconst X578.here hx rfl (hb hby own_d1_15) (XS.icmpNo X578.here hx rfl (hb hby own_d1_16) rfl (feq (show ¬ (p566 = (-1 : Int32)) from hp581)).1 (XS.iinc X578.here hx rfl (hb hby own_d1_19) rfl (l' := #[.val (.ref a550), .val (.ref a551), .val (.int (4 : Int32))]) rfl (XS.goto X578.here hx rfl (pc0 := 22) (pc' := 2) rfl (hb hby own_d1_22) (by decide) (by decide) (XS.iloadN X578.here hx rfl (hb hby own_d1_2) rfl  (XS.iconst X578.here hx rfl (hb hby own_d1_3) (XS.icmpYes X578.here hx rfl (pc0 := 4) (pc' := 25) rfl (hb hby own_d1_4) rfl (flt (show ¬ ((4 : Int32) < (4 : Int32)) from (by decide))).2.1 (by decide) (by decide) (XS.iloadN X578.here hx rfl (hb hby own_d1_25) rfl  k)))))))))) ?_
  exact own_endI X578 hx Bd.notSynchronized Bd.returns (hb hby own_d1_26) (by decide) (by decide) ⟨rfl, rfl, e578⟩
theorem own_ef629 (m : MethodId) (x0 : Addr) (x1 : Addr) : entryFrame m #[(.ref x0), (.ref x1)] 3 = mkF m 0 #[.val (.ref x0), .val (.ref x1), .unset] [] := by first | (simp [entryFrame, mkF, argsToLocals, Value.category]; done) | rfl
set_option maxRecDepth 65536 in
set_option maxHeartbeats 40000000 in
theorem own_rm629 (l : Launch) (Z : State) (a0 : Array Value) (hw : ∀ d ∈ tables_1, d.before a0 Z = true) (h0 : Heap) (a630 : Addr) (a631 : Addr) (a634 : Addr) (c639 : ClassId) (c642 : ClassId) (p643 : Int32) (p644 : Int32) (p645 : Int32) (p646 : Int32) (F635 : Fld Z h0 a630 "com/example/chronoquad/chronoquad/QuadOrder" "positions" "[I" (.ref a634)) (A640 : Arv Z h0 a634 c639 .int (4 : Int32) [(.int (2 : Int32)), (.int (0 : Int32)), (.int (1 : Int32)), (.int (3 : Int32))] (.int (0 : Int32))) (A647 : Arv Z h0 a631 c642 .int (4 : Int32) [(.int p643), (.int p644), (.int p645), (.int p646)] (.int (0 : Int32))) (hp649 : p645 = (-1 : Int32)) :
    own_Con l Z (⟨"com/example/chronoquad/chronoquad/QuadOrder", "leadingTerms", "([I)I"⟩ : MethodName) prog_11_method_8_code 3 (some .int) ({ frames := 0, cells := 0, slots := 0, locals := 0 } : Room) #[(.ref a630), (.ref a631)] h0 (own_QP (some (.int (0 : Int32))) h0) := by
  refine MetFree.of_bodySF (plainFor_of_name own_pn0) hisR ?_
  intro p e s m args below meth c s₁ Bd hml0 hP hK
  obtain ⟨rfl, hZ, hh⟩ := hP
  have hx := Bd.exec
  have hby := Bd.bytes
  have hml : c.maxLocals = 3 := hml0
  have hown : s.vm.findClass "com/example/chronoquad/chronoquad/QuadOrder" = some m.cls := findClass_of_methodNamed Bd.named
  have hnm := (name_of_methodNamed Bd.named Bd.method).1
  have X0 : Stand p l e ({ frames := 0, cells := 0, slots := 0, locals := 0 } : Room) s m #[(.ref a630), (.ref a631)] below meth c s₁ [] 0 0 := Stand.of_body Bd
  have e0 : s₁.heap = h0 := by rw [← hh, Bd.state]; rfl
  have K0 : own_Kp h0 h0 [] [] := own_kpRefl _ _
  show own_Go p e below (own_K s (own_QP (some (.int (0 : Int32))) h0) 0 0) s₁ (entryFrame m #[(.ref a630), (.ref a631)] 3)
  rw [own_ef629]
  obtain ⟨T636, X636, e636, st636⟩ := getF X0 hx hZ hown (host := "") (Or.inl (own_wd hw 9 rfl)) Via.refl e0 F635 (g := (mkF m 9 #[.val (.ref a630), .val (.ref a631), .val (.int (0 : Int32))] [(.ref a630), (.ref a631)])) rfl rfl (hb hby own_d1_9)
  obtain ⟨cl641, Ar641, q641, S641, N641, H641, G641⟩ := id A640
  have hin641 : ¬ ((0 : Int32) < 0 ∨ cl641.slots.size ≤ ((0 : Int32)).toNatClampNeg) := inb_of S641 ⟨by decide, by decide⟩
  obtain ⟨cl648, Ar648, q648, S648, N648, H648, G648⟩ := id A647
  have hin648 : ¬ ((2 : Int32) < 0 ∨ cl648.slots.size ≤ ((2 : Int32)).toNatClampNeg) := inb_of S648 ⟨by decide, by decide⟩
  refine own_go (T2 := T636) (g2 := (mkF m 16 #[.val (.ref a630), .val (.ref a631), .val (.int (0 : Int32))] [(.int (-1 : Int32)), (.int p645)])) (fun t k => XS.iconst X0.here hx rfl (hb hby own_d1_0) (XS.istoreN X0.here hx rfl (hb hby own_d1_1) rfl (l' := #[.val (.ref a630), .val (.ref a631), .val (.int (0 : Int32))]) rfl (XS.iloadN X0.here hx rfl (hb hby own_d1_2) rfl  (XS.iconst X0.here hx rfl (hb hby own_d1_3) (XS.icmpNo X0.here hx rfl (hb hby own_d1_4) rfl (tlt (show (0 : Int32) < (4 : Int32) from (by decide))).2.1 (XS.aloadN X0.here hx rfl (hb hby own_d1_7) rfl rfl (XS.aloadN X0.here hx rfl (hb hby own_d1_8) rfl rfl (st636 _ (XS.iloadN X636.here hx rfl (hb hby own_d1_12) rfl  (own_ap (X636.iaload hx (j := (0 : Int32)) (v := (.int (2 : Int32))) (by rw [e636]; exact Ar641.1) (State.isArrayOf_alike hZ.alike Ar641.2.1) Ar641.2.2 hin641 (Has.at H641 hin641 rfl) rfl rfl (hb hby own_d1_13)) (own_ap (X636.iaload hx (j := (2 : Int32)) (v := (.int p645)) (by rw [e636]; exact Ar648.1) (State.isArrayOf_alike hZ.alike Ar648.2.1) Ar648.2.2 hin648 (Has.at H648 hin648 rfl) rfl rfl (hb hby own_d1_14)) (XS.iconst X636.here hx rfl (hb hby own_d1_15) k)))))))))))) ?_
  refine own_go (T2 := T636) (g2 := (mkF m 26 #[.val (.ref a630), .val (.ref a631), .val (.int (0 : Int32))] [(.int (0 : Int32))])) (fun t k => XS.icmpYes X636.here hx rfl (pc0 := 16) (pc' := 25) rfl (hb hby own_d1_16) rfl (teq (show p645 = (-1 : Int32) from hp649)).1 (by decide) (by decide) (XS.iloadN X636.here hx rfl (hb hby own_d1_25) rfl  k)) ?_
  exact own_endI X636 hx Bd.notSynchronized Bd.returns (hb hby own_d1_26) (by decide) (by decide) ⟨rfl, rfl, e636⟩
theorem own_ef698 (m : MethodId) (x0 : Addr) (x1 : Addr) : entryFrame m #[(.ref x0), (.ref x1)] 3 = mkF m 0 #[.val (.ref x0), .val (.ref x1), .unset] [] := by first | (simp [entryFrame, mkF, argsToLocals, Value.category]; done) | rfl
set_option maxRecDepth 65536 in
set_option maxHeartbeats 40000000 in
theorem own_rm698 (l : Launch) (Z : State) (a0 : Array Value) (hw : ∀ d ∈ tables_1, d.before a0 Z = true) (h0 : Heap) (a699 : Addr) (a700 : Addr) (a703 : Addr) (c708 : ClassId) (c711 : ClassId) (p712 : Int32) (p713 : Int32) (p714 : Int32) (p715 : Int32) (F704 : Fld Z h0 a699 "com/example/chronoquad/chronoquad/QuadOrder" "positions" "[I" (.ref a703)) (A709 : Arv Z h0 a703 c708 .int (4 : Int32) [(.int (2 : Int32)), (.int (0 : Int32)), (.int (1 : Int32)), (.int (3 : Int32))] (.int (0 : Int32))) (A716 : Arv Z h0 a700 c711 .int (4 : Int32) [(.int p712), (.int p713), (.int p714), (.int p715)] (.int (0 : Int32))) (hp718 : ¬ (p714 = (-1 : Int32))) (hp722 : p712 = (-1 : Int32)) :
    own_Con l Z (⟨"com/example/chronoquad/chronoquad/QuadOrder", "leadingTerms", "([I)I"⟩ : MethodName) prog_11_method_8_code 3 (some .int) ({ frames := 0, cells := 0, slots := 0, locals := 0 } : Room) #[(.ref a699), (.ref a700)] h0 (own_QP (some (.int (1 : Int32))) h0) := by
  refine MetFree.of_bodySF (plainFor_of_name own_pn0) hisR ?_
  intro p e s m args below meth c s₁ Bd hml0 hP hK
  obtain ⟨rfl, hZ, hh⟩ := hP
  have hx := Bd.exec
  have hby := Bd.bytes
  have hml : c.maxLocals = 3 := hml0
  have hown : s.vm.findClass "com/example/chronoquad/chronoquad/QuadOrder" = some m.cls := findClass_of_methodNamed Bd.named
  have hnm := (name_of_methodNamed Bd.named Bd.method).1
  have X0 : Stand p l e ({ frames := 0, cells := 0, slots := 0, locals := 0 } : Room) s m #[(.ref a699), (.ref a700)] below meth c s₁ [] 0 0 := Stand.of_body Bd
  have e0 : s₁.heap = h0 := by rw [← hh, Bd.state]; rfl
  have K0 : own_Kp h0 h0 [] [] := own_kpRefl _ _
  show own_Go p e below (own_K s (own_QP (some (.int (1 : Int32))) h0) 0 0) s₁ (entryFrame m #[(.ref a699), (.ref a700)] 3)
  rw [own_ef698]
  obtain ⟨T705, X705, e705, st705⟩ := getF X0 hx hZ hown (host := "") (Or.inl (own_wd hw 9 rfl)) Via.refl e0 F704 (g := (mkF m 9 #[.val (.ref a699), .val (.ref a700), .val (.int (0 : Int32))] [(.ref a699), (.ref a700)])) rfl rfl (hb hby own_d1_9)
  obtain ⟨cl710, Ar710, q710, S710, N710, H710, G710⟩ := id A709
  have hin710 : ¬ ((0 : Int32) < 0 ∨ cl710.slots.size ≤ ((0 : Int32)).toNatClampNeg) := inb_of S710 ⟨by decide, by decide⟩
  obtain ⟨cl717, Ar717, q717, S717, N717, H717, G717⟩ := id A716
  have hin717 : ¬ ((2 : Int32) < 0 ∨ cl717.slots.size ≤ ((2 : Int32)).toNatClampNeg) := inb_of S717 ⟨by decide, by decide⟩
  refine own_go (T2 := T705) (g2 := (mkF m 16 #[.val (.ref a699), .val (.ref a700), .val (.int (0 : Int32))] [(.int (-1 : Int32)), (.int p714)])) (fun t k => XS.iconst X0.here hx rfl (hb hby own_d1_0) (XS.istoreN X0.here hx rfl (hb hby own_d1_1) rfl (l' := #[.val (.ref a699), .val (.ref a700), .val (.int (0 : Int32))]) rfl (XS.iloadN X0.here hx rfl (hb hby own_d1_2) rfl  (XS.iconst X0.here hx rfl (hb hby own_d1_3) (XS.icmpNo X0.here hx rfl (hb hby own_d1_4) rfl (tlt (show (0 : Int32) < (4 : Int32) from (by decide))).2.1 (XS.aloadN X0.here hx rfl (hb hby own_d1_7) rfl rfl (XS.aloadN X0.here hx rfl (hb hby own_d1_8) rfl rfl (st705 _ (XS.iloadN X705.here hx rfl (hb hby own_d1_12) rfl  (own_ap (X705.iaload hx (j := (0 : Int32)) (v := (.int (2 : Int32))) (by rw [e705]; exact Ar710.1) (State.isArrayOf_alike hZ.alike Ar710.2.1) Ar710.2.2 hin710 (Has.at H710 hin710 rfl) rfl rfl (hb hby own_d1_13)) (own_ap (X705.iaload hx (j := (2 : Int32)) (v := (.int p714)) (by rw [e705]; exact Ar717.1) (State.isArrayOf_alike hZ.alike Ar717.2.1) Ar717.2.2 hin717 (Has.at H717 hin717 rfl) rfl rfl (hb hby own_d1_14)) (XS.iconst X705.here hx rfl (hb hby own_d1_15) k)))))))))))) ?_
  obtain ⟨T719, X719, e719, st719⟩ := getF X705 hx hZ hown (host := "") (Or.inl (own_wd hw 9 rfl)) Via.refl e705 F704 (g := (mkF m 9 #[.val (.ref a699), .val (.ref a700), .val (.int (1 : Int32))] [(.ref a699), (.ref a700)])) rfl rfl (hb hby own_d1_9)
  obtain ⟨cl720, Ar720, q720, S720, N720, H720, G720⟩ := id A709
  have hin720 : ¬ ((1 : Int32) < 0 ∨ cl720.slots.size ≤ ((1 : Int32)).toNatClampNeg) := inb_of S720 ⟨by decide, by decide⟩
  obtain ⟨cl721, Ar721, q721, S721, N721, H721, G721⟩ := id A716
  have hin721 : ¬ ((0 : Int32) < 0 ∨ cl721.slots.size ≤ ((0 : Int32)).toNatClampNeg) := inb_of S721 ⟨by decide, by decide⟩
  refine own_go (T2 := T719) (g2 := (mkF m 15 #[.val (.ref a699), .val (.ref a700), .val (.int (1 : Int32))] [(.int p712)])) (fun t k => XS.icmpNo X705.here hx rfl (hb hby own_d1_16) rfl (feq (show ¬ (p714 = (-1 : Int32)) from hp718)).1 (XS.iinc X705.here hx rfl (hb hby own_d1_19) rfl (l' := #[.val (.ref a699), .val (.ref a700), .val (.int (1 : Int32))]) rfl (XS.goto X705.here hx rfl (pc0 := 22) (pc' := 2) rfl (hb hby own_d1_22) (by decide) (by decide) (XS.iloadN X705.here hx rfl (hb hby own_d1_2) rfl  (XS.iconst X705.here hx rfl (hb hby own_d1_3) (XS.icmpNo X705.here hx rfl (hb hby own_d1_4) rfl (tlt (show (1 : Int32) < (4 : Int32) from (by decide))).2.1 (XS.aloadN X705.here hx rfl (hb hby own_d1_7) rfl rfl (XS.aloadN X705.here hx rfl (hb hby own_d1_8) rfl rfl (st719 _ (XS.iloadN X719.here hx rfl (hb hby own_d1_12) rfl  (own_ap (X719.iaload hx (j := (1 : Int32)) (v := (.int (0 : Int32))) (by rw [e719]; exact Ar720.1) (State.isArrayOf_alike hZ.alike Ar720.2.1) Ar720.2.2 hin720 (Has.at H720 hin720 rfl) rfl rfl (hb hby own_d1_13)) (own_ap (X719.iaload hx (j := (0 : Int32)) (v := (.int p712)) (by rw [e719]; exact Ar721.1) (State.isArrayOf_alike hZ.alike Ar721.2.1) Ar721.2.2 hin721 (Has.at H721 hin721 rfl) rfl rfl (hb hby own_d1_14)) k)))))))))))) ?_
  refine own_go (T2 := T719) (g2 := (mkF m 26 #[.val (.ref a699), .val (.ref a700), .val (.int (1 : Int32))] [(.int (1 : Int32))])) (fun t k => XS.iconst X719.here hx rfl (hb hby own_d1_15) (XS.icmpYes X719.here hx rfl (pc0 := 16) (pc' := 25) rfl (hb hby own_d1_16) rfl (teq (show p712 = (-1 : Int32) from hp722)).1 (by decide) (by decide) (XS.iloadN X719.here hx rfl (hb hby own_d1_25) rfl  k))) ?_
  exact own_endI X719 hx Bd.notSynchronized Bd.returns (hb hby own_d1_26) (by decide) (by decide) ⟨rfl, rfl, e719⟩
theorem own_ef775 (m : MethodId) (x0 : Addr) (x1 : Addr) : entryFrame m #[(.ref x0), (.ref x1)] 3 = mkF m 0 #[.val (.ref x0), .val (.ref x1), .unset] [] := by first | (simp [entryFrame, mkF, argsToLocals, Value.category]; done) | rfl
set_option maxRecDepth 65536 in
set_option maxHeartbeats 40000000 in
theorem own_rm775 (l : Launch) (Z : State) (a0 : Array Value) (hw : ∀ d ∈ tables_1, d.before a0 Z = true) (h0 : Heap) (a776 : Addr) (a777 : Addr) (a780 : Addr) (c785 : ClassId) (c788 : ClassId) (p789 : Int32) (p790 : Int32) (p791 : Int32) (p792 : Int32) (F781 : Fld Z h0 a776 "com/example/chronoquad/chronoquad/QuadOrder" "positions" "[I" (.ref a780)) (A786 : Arv Z h0 a780 c785 .int (4 : Int32) [(.int (2 : Int32)), (.int (0 : Int32)), (.int (1 : Int32)), (.int (3 : Int32))] (.int (0 : Int32))) (A793 : Arv Z h0 a777 c788 .int (4 : Int32) [(.int p789), (.int p790), (.int p791), (.int p792)] (.int (0 : Int32))) (hp795 : ¬ (p791 = (-1 : Int32))) (hp799 : ¬ (p789 = (-1 : Int32))) (hp803 : p790 = (-1 : Int32)) :
    own_Con l Z (⟨"com/example/chronoquad/chronoquad/QuadOrder", "leadingTerms", "([I)I"⟩ : MethodName) prog_11_method_8_code 3 (some .int) ({ frames := 0, cells := 0, slots := 0, locals := 0 } : Room) #[(.ref a776), (.ref a777)] h0 (own_QP (some (.int (2 : Int32))) h0) := by
  refine MetFree.of_bodySF (plainFor_of_name own_pn0) hisR ?_
  intro p e s m args below meth c s₁ Bd hml0 hP hK
  obtain ⟨rfl, hZ, hh⟩ := hP
  have hx := Bd.exec
  have hby := Bd.bytes
  have hml : c.maxLocals = 3 := hml0
  have hown : s.vm.findClass "com/example/chronoquad/chronoquad/QuadOrder" = some m.cls := findClass_of_methodNamed Bd.named
  have hnm := (name_of_methodNamed Bd.named Bd.method).1
  have X0 : Stand p l e ({ frames := 0, cells := 0, slots := 0, locals := 0 } : Room) s m #[(.ref a776), (.ref a777)] below meth c s₁ [] 0 0 := Stand.of_body Bd
  have e0 : s₁.heap = h0 := by rw [← hh, Bd.state]; rfl
  have K0 : own_Kp h0 h0 [] [] := own_kpRefl _ _
  show own_Go p e below (own_K s (own_QP (some (.int (2 : Int32))) h0) 0 0) s₁ (entryFrame m #[(.ref a776), (.ref a777)] 3)
  rw [own_ef775]
  obtain ⟨T782, X782, e782, st782⟩ := getF X0 hx hZ hown (host := "") (Or.inl (own_wd hw 9 rfl)) Via.refl e0 F781 (g := (mkF m 9 #[.val (.ref a776), .val (.ref a777), .val (.int (0 : Int32))] [(.ref a776), (.ref a777)])) rfl rfl (hb hby own_d1_9)
  obtain ⟨cl787, Ar787, q787, S787, N787, H787, G787⟩ := id A786
  have hin787 : ¬ ((0 : Int32) < 0 ∨ cl787.slots.size ≤ ((0 : Int32)).toNatClampNeg) := inb_of S787 ⟨by decide, by decide⟩
  obtain ⟨cl794, Ar794, q794, S794, N794, H794, G794⟩ := id A793
  have hin794 : ¬ ((2 : Int32) < 0 ∨ cl794.slots.size ≤ ((2 : Int32)).toNatClampNeg) := inb_of S794 ⟨by decide, by decide⟩
  refine own_go (T2 := T782) (g2 := (mkF m 16 #[.val (.ref a776), .val (.ref a777), .val (.int (0 : Int32))] [(.int (-1 : Int32)), (.int p791)])) (fun t k => XS.iconst X0.here hx rfl (hb hby own_d1_0) (XS.istoreN X0.here hx rfl (hb hby own_d1_1) rfl (l' := #[.val (.ref a776), .val (.ref a777), .val (.int (0 : Int32))]) rfl (XS.iloadN X0.here hx rfl (hb hby own_d1_2) rfl  (XS.iconst X0.here hx rfl (hb hby own_d1_3) (XS.icmpNo X0.here hx rfl (hb hby own_d1_4) rfl (tlt (show (0 : Int32) < (4 : Int32) from (by decide))).2.1 (XS.aloadN X0.here hx rfl (hb hby own_d1_7) rfl rfl (XS.aloadN X0.here hx rfl (hb hby own_d1_8) rfl rfl (st782 _ (XS.iloadN X782.here hx rfl (hb hby own_d1_12) rfl  (own_ap (X782.iaload hx (j := (0 : Int32)) (v := (.int (2 : Int32))) (by rw [e782]; exact Ar787.1) (State.isArrayOf_alike hZ.alike Ar787.2.1) Ar787.2.2 hin787 (Has.at H787 hin787 rfl) rfl rfl (hb hby own_d1_13)) (own_ap (X782.iaload hx (j := (2 : Int32)) (v := (.int p791)) (by rw [e782]; exact Ar794.1) (State.isArrayOf_alike hZ.alike Ar794.2.1) Ar794.2.2 hin794 (Has.at H794 hin794 rfl) rfl rfl (hb hby own_d1_14)) (XS.iconst X782.here hx rfl (hb hby own_d1_15) k)))))))))))) ?_
  obtain ⟨T796, X796, e796, st796⟩ := getF X782 hx hZ hown (host := "") (Or.inl (own_wd hw 9 rfl)) Via.refl e782 F781 (g := (mkF m 9 #[.val (.ref a776), .val (.ref a777), .val (.int (1 : Int32))] [(.ref a776), (.ref a777)])) rfl rfl (hb hby own_d1_9)
  obtain ⟨cl797, Ar797, q797, S797, N797, H797, G797⟩ := id A786
  have hin797 : ¬ ((1 : Int32) < 0 ∨ cl797.slots.size ≤ ((1 : Int32)).toNatClampNeg) := inb_of S797 ⟨by decide, by decide⟩
  obtain ⟨cl798, Ar798, q798, S798, N798, H798, G798⟩ := id A793
  have hin798 : ¬ ((0 : Int32) < 0 ∨ cl798.slots.size ≤ ((0 : Int32)).toNatClampNeg) := inb_of S798 ⟨by decide, by decide⟩
  refine own_go (T2 := T796) (g2 := (mkF m 15 #[.val (.ref a776), .val (.ref a777), .val (.int (1 : Int32))] [(.int p789)])) (fun t k => XS.icmpNo X782.here hx rfl (hb hby own_d1_16) rfl (feq (show ¬ (p791 = (-1 : Int32)) from hp795)).1 (XS.iinc X782.here hx rfl (hb hby own_d1_19) rfl (l' := #[.val (.ref a776), .val (.ref a777), .val (.int (1 : Int32))]) rfl (XS.goto X782.here hx rfl (pc0 := 22) (pc' := 2) rfl (hb hby own_d1_22) (by decide) (by decide) (XS.iloadN X782.here hx rfl (hb hby own_d1_2) rfl  (XS.iconst X782.here hx rfl (hb hby own_d1_3) (XS.icmpNo X782.here hx rfl (hb hby own_d1_4) rfl (tlt (show (1 : Int32) < (4 : Int32) from (by decide))).2.1 (XS.aloadN X782.here hx rfl (hb hby own_d1_7) rfl rfl (XS.aloadN X782.here hx rfl (hb hby own_d1_8) rfl rfl (st796 _ (XS.iloadN X796.here hx rfl (hb hby own_d1_12) rfl  (own_ap (X796.iaload hx (j := (1 : Int32)) (v := (.int (0 : Int32))) (by rw [e796]; exact Ar797.1) (State.isArrayOf_alike hZ.alike Ar797.2.1) Ar797.2.2 hin797 (Has.at H797 hin797 rfl) rfl rfl (hb hby own_d1_13)) (own_ap (X796.iaload hx (j := (0 : Int32)) (v := (.int p789)) (by rw [e796]; exact Ar798.1) (State.isArrayOf_alike hZ.alike Ar798.2.1) Ar798.2.2 hin798 (Has.at H798 hin798 rfl) rfl rfl (hb hby own_d1_14)) k)))))))))))) ?_
  obtain ⟨T800, X800, e800, st800⟩ := getF X796 hx hZ hown (host := "") (Or.inl (own_wd hw 9 rfl)) Via.refl e796 F781 (g := (mkF m 9 #[.val (.ref a776), .val (.ref a777), .val (.int (2 : Int32))] [(.ref a776), (.ref a777)])) rfl rfl (hb hby own_d1_9)
  obtain ⟨cl801, Ar801, q801, S801, N801, H801, G801⟩ := id A786
  have hin801 : ¬ ((2 : Int32) < 0 ∨ cl801.slots.size ≤ ((2 : Int32)).toNatClampNeg) := inb_of S801 ⟨by decide, by decide⟩
  refine own_go (T2 := T800) (g2 := (mkF m 14 #[.val (.ref a776), .val (.ref a777), .val (.int (2 : Int32))] [(.int (1 : Int32)), (.ref a777)])) (fun t k => XS.iconst X796.here hx rfl (hb hby own_d1_15) (XS.icmpNo X796.here hx rfl (hb hby own_d1_16) rfl (feq (show ¬ (p789 = (-1 : Int32)) from hp799)).1 (XS.iinc X796.here hx rfl (hb hby own_d1_19) rfl (l' := #[.val (.ref a776), .val (.ref a777), .val (.int (2 : Int32))]) rfl (XS.goto X796.here hx rfl (pc0 := 22) (pc' := 2) rfl (hb hby own_d1_22) (by decide) (by decide) (XS.iloadN X796.here hx rfl (hb hby own_d1_2) rfl  (XS.iconst X796.here hx rfl (hb hby own_d1_3) (XS.icmpNo X796.here hx rfl (hb hby own_d1_4) rfl (tlt (show (2 : Int32) < (4 : Int32) from (by decide))).2.1 (XS.aloadN X796.here hx rfl (hb hby own_d1_7) rfl rfl (XS.aloadN X796.here hx rfl (hb hby own_d1_8) rfl rfl (st800 _ (XS.iloadN X800.here hx rfl (hb hby own_d1_12) rfl  (own_ap (X800.iaload hx (j := (2 : Int32)) (v := (.int (1 : Int32))) (by rw [e800]; exact Ar801.1) (State.isArrayOf_alike hZ.alike Ar801.2.1) Ar801.2.2 hin801 (Has.at H801 hin801 rfl) rfl rfl (hb hby own_d1_13)) k)))))))))))) ?_
  obtain ⟨cl802, Ar802, q802, S802, N802, H802, G802⟩ := id A793
  have hin802 : ¬ ((1 : Int32) < 0 ∨ cl802.slots.size ≤ ((1 : Int32)).toNatClampNeg) := inb_of S802 ⟨by decide, by decide⟩
  refine own_go (T2 := T800) (g2 := (mkF m 26 #[.val (.ref a776), .val (.ref a777), .val (.int (2 : Int32))] [(.int (2 : Int32))])) (fun t k => own_ap (X800.iaload hx (j := (1 : Int32)) (v := (.int p790)) (by rw [e800]; exact Ar802.1) (State.isArrayOf_alike hZ.alike Ar802.2.1) Ar802.2.2 hin802 (Has.at H802 hin802 rfl) rfl rfl (hb hby own_d1_14)) (XS.iconst X800.here hx rfl (hb hby own_d1_15) (XS.icmpYes X800.here hx rfl (pc0 := 16) (pc' := 25) rfl (hb hby own_d1_16) rfl (teq (show p790 = (-1 : Int32) from hp803)).1 (by decide) (by decide) (XS.iloadN X800.here hx rfl (hb hby own_d1_25) rfl  k)))) ?_
  exact own_endI X800 hx Bd.notSynchronized Bd.returns (hb hby own_d1_26) (by decide) (by decide) ⟨rfl, rfl, e800⟩
theorem own_ef860 (m : MethodId) (x0 : Addr) (x1 : Addr) : entryFrame m #[(.ref x0), (.ref x1)] 3 = mkF m 0 #[.val (.ref x0), .val (.ref x1), .unset] [] := by first | (simp [entryFrame, mkF, argsToLocals, Value.category]; done) | rfl
set_option maxRecDepth 65536 in
set_option maxHeartbeats 40000000 in
theorem own_rm860 (l : Launch) (Z : State) (a0 : Array Value) (hw : ∀ d ∈ tables_1, d.before a0 Z = true) (h0 : Heap) (a861 : Addr) (a862 : Addr) (a865 : Addr) (c870 : ClassId) (c873 : ClassId) (p874 : Int32) (p875 : Int32) (p876 : Int32) (p877 : Int32) (F866 : Fld Z h0 a861 "com/example/chronoquad/chronoquad/QuadOrder" "positions" "[I" (.ref a865)) (A871 : Arv Z h0 a865 c870 .int (4 : Int32) [(.int (2 : Int32)), (.int (0 : Int32)), (.int (1 : Int32)), (.int (3 : Int32))] (.int (0 : Int32))) (A878 : Arv Z h0 a862 c873 .int (4 : Int32) [(.int p874), (.int p875), (.int p876), (.int p877)] (.int (0 : Int32))) (hp880 : ¬ (p876 = (-1 : Int32))) (hp884 : ¬ (p874 = (-1 : Int32))) (hp888 : ¬ (p875 = (-1 : Int32))) (hp892 : p877 = (-1 : Int32)) :
    own_Con l Z (⟨"com/example/chronoquad/chronoquad/QuadOrder", "leadingTerms", "([I)I"⟩ : MethodName) prog_11_method_8_code 3 (some .int) ({ frames := 0, cells := 0, slots := 0, locals := 0 } : Room) #[(.ref a861), (.ref a862)] h0 (own_QP (some (.int (3 : Int32))) h0) := by
  refine MetFree.of_bodySF (plainFor_of_name own_pn0) hisR ?_
  intro p e s m args below meth c s₁ Bd hml0 hP hK
  obtain ⟨rfl, hZ, hh⟩ := hP
  have hx := Bd.exec
  have hby := Bd.bytes
  have hml : c.maxLocals = 3 := hml0
  have hown : s.vm.findClass "com/example/chronoquad/chronoquad/QuadOrder" = some m.cls := findClass_of_methodNamed Bd.named
  have hnm := (name_of_methodNamed Bd.named Bd.method).1
  have X0 : Stand p l e ({ frames := 0, cells := 0, slots := 0, locals := 0 } : Room) s m #[(.ref a861), (.ref a862)] below meth c s₁ [] 0 0 := Stand.of_body Bd
  have e0 : s₁.heap = h0 := by rw [← hh, Bd.state]; rfl
  have K0 : own_Kp h0 h0 [] [] := own_kpRefl _ _
  show own_Go p e below (own_K s (own_QP (some (.int (3 : Int32))) h0) 0 0) s₁ (entryFrame m #[(.ref a861), (.ref a862)] 3)
  rw [own_ef860]
  obtain ⟨T867, X867, e867, st867⟩ := getF X0 hx hZ hown (host := "") (Or.inl (own_wd hw 9 rfl)) Via.refl e0 F866 (g := (mkF m 9 #[.val (.ref a861), .val (.ref a862), .val (.int (0 : Int32))] [(.ref a861), (.ref a862)])) rfl rfl (hb hby own_d1_9)
  obtain ⟨cl872, Ar872, q872, S872, N872, H872, G872⟩ := id A871
  have hin872 : ¬ ((0 : Int32) < 0 ∨ cl872.slots.size ≤ ((0 : Int32)).toNatClampNeg) := inb_of S872 ⟨by decide, by decide⟩
  obtain ⟨cl879, Ar879, q879, S879, N879, H879, G879⟩ := id A878
  have hin879 : ¬ ((2 : Int32) < 0 ∨ cl879.slots.size ≤ ((2 : Int32)).toNatClampNeg) := inb_of S879 ⟨by decide, by decide⟩
  refine own_go (T2 := T867) (g2 := (mkF m 16 #[.val (.ref a861), .val (.ref a862), .val (.int (0 : Int32))] [(.int (-1 : Int32)), (.int p876)])) (fun t k => XS.iconst X0.here hx rfl (hb hby own_d1_0) (XS.istoreN X0.here hx rfl (hb hby own_d1_1) rfl (l' := #[.val (.ref a861), .val (.ref a862), .val (.int (0 : Int32))]) rfl (XS.iloadN X0.here hx rfl (hb hby own_d1_2) rfl  (XS.iconst X0.here hx rfl (hb hby own_d1_3) (XS.icmpNo X0.here hx rfl (hb hby own_d1_4) rfl (tlt (show (0 : Int32) < (4 : Int32) from (by decide))).2.1 (XS.aloadN X0.here hx rfl (hb hby own_d1_7) rfl rfl (XS.aloadN X0.here hx rfl (hb hby own_d1_8) rfl rfl (st867 _ (XS.iloadN X867.here hx rfl (hb hby own_d1_12) rfl  (own_ap (X867.iaload hx (j := (0 : Int32)) (v := (.int (2 : Int32))) (by rw [e867]; exact Ar872.1) (State.isArrayOf_alike hZ.alike Ar872.2.1) Ar872.2.2 hin872 (Has.at H872 hin872 rfl) rfl rfl (hb hby own_d1_13)) (own_ap (X867.iaload hx (j := (2 : Int32)) (v := (.int p876)) (by rw [e867]; exact Ar879.1) (State.isArrayOf_alike hZ.alike Ar879.2.1) Ar879.2.2 hin879 (Has.at H879 hin879 rfl) rfl rfl (hb hby own_d1_14)) (XS.iconst X867.here hx rfl (hb hby own_d1_15) k)))))))))))) ?_
  obtain ⟨T881, X881, e881, st881⟩ := getF X867 hx hZ hown (host := "") (Or.inl (own_wd hw 9 rfl)) Via.refl e867 F866 (g := (mkF m 9 #[.val (.ref a861), .val (.ref a862), .val (.int (1 : Int32))] [(.ref a861), (.ref a862)])) rfl rfl (hb hby own_d1_9)
  obtain ⟨cl882, Ar882, q882, S882, N882, H882, G882⟩ := id A871
  have hin882 : ¬ ((1 : Int32) < 0 ∨ cl882.slots.size ≤ ((1 : Int32)).toNatClampNeg) := inb_of S882 ⟨by decide, by decide⟩
  obtain ⟨cl883, Ar883, q883, S883, N883, H883, G883⟩ := id A878
  have hin883 : ¬ ((0 : Int32) < 0 ∨ cl883.slots.size ≤ ((0 : Int32)).toNatClampNeg) := inb_of S883 ⟨by decide, by decide⟩
  refine own_go (T2 := T881) (g2 := (mkF m 15 #[.val (.ref a861), .val (.ref a862), .val (.int (1 : Int32))] [(.int p874)])) (fun t k => XS.icmpNo X867.here hx rfl (hb hby own_d1_16) rfl (feq (show ¬ (p876 = (-1 : Int32)) from hp880)).1 (XS.iinc X867.here hx rfl (hb hby own_d1_19) rfl (l' := #[.val (.ref a861), .val (.ref a862), .val (.int (1 : Int32))]) rfl (XS.goto X867.here hx rfl (pc0 := 22) (pc' := 2) rfl (hb hby own_d1_22) (by decide) (by decide) (XS.iloadN X867.here hx rfl (hb hby own_d1_2) rfl  (XS.iconst X867.here hx rfl (hb hby own_d1_3) (XS.icmpNo X867.here hx rfl (hb hby own_d1_4) rfl (tlt (show (1 : Int32) < (4 : Int32) from (by decide))).2.1 (XS.aloadN X867.here hx rfl (hb hby own_d1_7) rfl rfl (XS.aloadN X867.here hx rfl (hb hby own_d1_8) rfl rfl (st881 _ (XS.iloadN X881.here hx rfl (hb hby own_d1_12) rfl  (own_ap (X881.iaload hx (j := (1 : Int32)) (v := (.int (0 : Int32))) (by rw [e881]; exact Ar882.1) (State.isArrayOf_alike hZ.alike Ar882.2.1) Ar882.2.2 hin882 (Has.at H882 hin882 rfl) rfl rfl (hb hby own_d1_13)) (own_ap (X881.iaload hx (j := (0 : Int32)) (v := (.int p874)) (by rw [e881]; exact Ar883.1) (State.isArrayOf_alike hZ.alike Ar883.2.1) Ar883.2.2 hin883 (Has.at H883 hin883 rfl) rfl rfl (hb hby own_d1_14)) k)))))))))))) ?_
  obtain ⟨T885, X885, e885, st885⟩ := getF X881 hx hZ hown (host := "") (Or.inl (own_wd hw 9 rfl)) Via.refl e881 F866 (g := (mkF m 9 #[.val (.ref a861), .val (.ref a862), .val (.int (2 : Int32))] [(.ref a861), (.ref a862)])) rfl rfl (hb hby own_d1_9)
  obtain ⟨cl886, Ar886, q886, S886, N886, H886, G886⟩ := id A871
  have hin886 : ¬ ((2 : Int32) < 0 ∨ cl886.slots.size ≤ ((2 : Int32)).toNatClampNeg) := inb_of S886 ⟨by decide, by decide⟩
  refine own_go (T2 := T885) (g2 := (mkF m 14 #[.val (.ref a861), .val (.ref a862), .val (.int (2 : Int32))] [(.int (1 : Int32)), (.ref a862)])) (fun t k => XS.iconst X881.here hx rfl (hb hby own_d1_15) (XS.icmpNo X881.here hx rfl (hb hby own_d1_16) rfl (feq (show ¬ (p874 = (-1 : Int32)) from hp884)).1 (XS.iinc X881.here hx rfl (hb hby own_d1_19) rfl (l' := #[.val (.ref a861), .val (.ref a862), .val (.int (2 : Int32))]) rfl (XS.goto X881.here hx rfl (pc0 := 22) (pc' := 2) rfl (hb hby own_d1_22) (by decide) (by decide) (XS.iloadN X881.here hx rfl (hb hby own_d1_2) rfl  (XS.iconst X881.here hx rfl (hb hby own_d1_3) (XS.icmpNo X881.here hx rfl (hb hby own_d1_4) rfl (tlt (show (2 : Int32) < (4 : Int32) from (by decide))).2.1 (XS.aloadN X881.here hx rfl (hb hby own_d1_7) rfl rfl (XS.aloadN X881.here hx rfl (hb hby own_d1_8) rfl rfl (st885 _ (XS.iloadN X885.here hx rfl (hb hby own_d1_12) rfl  (own_ap (X885.iaload hx (j := (2 : Int32)) (v := (.int (1 : Int32))) (by rw [e885]; exact Ar886.1) (State.isArrayOf_alike hZ.alike Ar886.2.1) Ar886.2.2 hin886 (Has.at H886 hin886 rfl) rfl rfl (hb hby own_d1_13)) k)))))))))))) ?_
  obtain ⟨cl887, Ar887, q887, S887, N887, H887, G887⟩ := id A878
  have hin887 : ¬ ((1 : Int32) < 0 ∨ cl887.slots.size ≤ ((1 : Int32)).toNatClampNeg) := inb_of S887 ⟨by decide, by decide⟩
  obtain ⟨T889, X889, e889, st889⟩ := getF X885 hx hZ hown (host := "") (Or.inl (own_wd hw 9 rfl)) Via.refl e885 F866 (g := (mkF m 9 #[.val (.ref a861), .val (.ref a862), .val (.int (3 : Int32))] [(.ref a861), (.ref a862)])) rfl rfl (hb hby own_d1_9)
  refine own_go (T2 := T889) (g2 := (mkF m 13 #[.val (.ref a861), .val (.ref a862), .val (.int (3 : Int32))] [(.int (3 : Int32)), (.ref a865), (.ref a862)])) (fun t k => own_ap (X885.iaload hx (j := (1 : Int32)) (v := (.int p875)) (by rw [e885]; exact Ar887.1) (State.isArrayOf_alike hZ.alike Ar887.2.1) Ar887.2.2 hin887 (Has.at H887 hin887 rfl) rfl rfl (hb hby own_d1_14)) (XS.iconst X885.here hx rfl (hb hby own_d1_15) (XS.icmpNo X885.here hx rfl (hb hby own_d1_16) rfl (feq (show ¬ (p875 = (-1 : Int32)) from hp888)).1 (XS.iinc X885.here hx rfl (hb hby own_d1_19) rfl (l' := #[.val (.ref a861), .val (.ref a862), .val (.int (3 : Int32))]) rfl (XS.goto X885.here hx rfl (pc0 := 22) (pc' := 2) rfl (hb hby own_d1_22) (by decide) (by decide) (XS.iloadN X885.here hx rfl (hb hby own_d1_2) rfl  (XS.iconst X885.here hx rfl (hb hby own_d1_3) (XS.icmpNo X885.here hx rfl (hb hby own_d1_4) rfl (tlt (show (3 : Int32) < (4 : Int32) from (by decide))).2.1 (XS.aloadN X885.here hx rfl (hb hby own_d1_7) rfl rfl (XS.aloadN X885.here hx rfl (hb hby own_d1_8) rfl rfl (st889 _ (XS.iloadN X889.here hx rfl (hb hby own_d1_12) rfl  k)))))))))))) ?_
  obtain ⟨cl890, Ar890, q890, S890, N890, H890, G890⟩ := id A871
  have hin890 : ¬ ((3 : Int32) < 0 ∨ cl890.slots.size ≤ ((3 : Int32)).toNatClampNeg) := inb_of S890 ⟨by decide, by decide⟩
  obtain ⟨cl891, Ar891, q891, S891, N891, H891, G891⟩ := id A878
  have hin891 : ¬ ((3 : Int32) < 0 ∨ cl891.slots.size ≤ ((3 : Int32)).toNatClampNeg) := inb_of S891 ⟨by decide, by decide⟩
  refine own_go (T2 := T889) (g2 := (mkF m 26 #[.val (.ref a861), .val (.ref a862), .val (.int (3 : Int32))] [(.int (3 : Int32))])) (fun t k => own_ap (X889.iaload hx (j := (3 : Int32)) (v := (.int (3 : Int32))) (by rw [e889]; exact Ar890.1) (State.isArrayOf_alike hZ.alike Ar890.2.1) Ar890.2.2 hin890 (Has.at H890 hin890 rfl) rfl rfl (hb hby own_d1_13)) (own_ap (X889.iaload hx (j := (3 : Int32)) (v := (.int p877)) (by rw [e889]; exact Ar891.1) (State.isArrayOf_alike hZ.alike Ar891.2.1) Ar891.2.2 hin891 (Has.at H891 hin891 rfl) rfl rfl (hb hby own_d1_14)) (XS.iconst X889.here hx rfl (hb hby own_d1_15) (XS.icmpYes X889.here hx rfl (pc0 := 16) (pc' := 25) rfl (hb hby own_d1_16) rfl (teq (show p877 = (-1 : Int32) from hp892)).1 (by decide) (by decide) (XS.iloadN X889.here hx rfl (hb hby own_d1_25) rfl  k))))) ?_
  exact own_endI X889 hx Bd.notSynchronized Bd.returns (hb hby own_d1_26) (by decide) (by decide) ⟨rfl, rfl, e889⟩
theorem own_ef951 (m : MethodId) (x0 : Addr) (x1 : Addr) : entryFrame m #[(.ref x0), (.ref x1)] 3 = mkF m 0 #[.val (.ref x0), .val (.ref x1), .unset] [] := by first | (simp [entryFrame, mkF, argsToLocals, Value.category]; done) | rfl
set_option maxRecDepth 65536 in
set_option maxHeartbeats 40000000 in
theorem own_rm951 (l : Launch) (Z : State) (a0 : Array Value) (hw : ∀ d ∈ tables_1, d.before a0 Z = true) (h0 : Heap) (a952 : Addr) (a953 : Addr) (a956 : Addr) (c961 : ClassId) (c964 : ClassId) (p965 : Int32) (p966 : Int32) (p967 : Int32) (p968 : Int32) (F957 : Fld Z h0 a952 "com/example/chronoquad/chronoquad/QuadOrder" "positions" "[I" (.ref a956)) (A962 : Arv Z h0 a956 c961 .int (4 : Int32) [(.int (2 : Int32)), (.int (0 : Int32)), (.int (1 : Int32)), (.int (3 : Int32))] (.int (0 : Int32))) (A969 : Arv Z h0 a953 c964 .int (4 : Int32) [(.int p965), (.int p966), (.int p967), (.int p968)] (.int (0 : Int32))) (hp971 : ¬ (p967 = (-1 : Int32))) (hp975 : ¬ (p965 = (-1 : Int32))) (hp979 : ¬ (p966 = (-1 : Int32))) (hp983 : ¬ (p968 = (-1 : Int32))) :
    own_Con l Z (⟨"com/example/chronoquad/chronoquad/QuadOrder", "leadingTerms", "([I)I"⟩ : MethodName) prog_11_method_8_code 3 (some .int) ({ frames := 0, cells := 0, slots := 0, locals := 0 } : Room) #[(.ref a952), (.ref a953)] h0 (own_QP (some (.int (4 : Int32))) h0) := by
  refine MetFree.of_bodySF (plainFor_of_name own_pn0) hisR ?_
  intro p e s m args below meth c s₁ Bd hml0 hP hK
  obtain ⟨rfl, hZ, hh⟩ := hP
  have hx := Bd.exec
  have hby := Bd.bytes
  have hml : c.maxLocals = 3 := hml0
  have hown : s.vm.findClass "com/example/chronoquad/chronoquad/QuadOrder" = some m.cls := findClass_of_methodNamed Bd.named
  have hnm := (name_of_methodNamed Bd.named Bd.method).1
  have X0 : Stand p l e ({ frames := 0, cells := 0, slots := 0, locals := 0 } : Room) s m #[(.ref a952), (.ref a953)] below meth c s₁ [] 0 0 := Stand.of_body Bd
  have e0 : s₁.heap = h0 := by rw [← hh, Bd.state]; rfl
  have K0 : own_Kp h0 h0 [] [] := own_kpRefl _ _
  show own_Go p e below (own_K s (own_QP (some (.int (4 : Int32))) h0) 0 0) s₁ (entryFrame m #[(.ref a952), (.ref a953)] 3)
  rw [own_ef951]
  obtain ⟨T958, X958, e958, st958⟩ := getF X0 hx hZ hown (host := "") (Or.inl (own_wd hw 9 rfl)) Via.refl e0 F957 (g := (mkF m 9 #[.val (.ref a952), .val (.ref a953), .val (.int (0 : Int32))] [(.ref a952), (.ref a953)])) rfl rfl (hb hby own_d1_9)
  obtain ⟨cl963, Ar963, q963, S963, N963, H963, G963⟩ := id A962
  have hin963 : ¬ ((0 : Int32) < 0 ∨ cl963.slots.size ≤ ((0 : Int32)).toNatClampNeg) := inb_of S963 ⟨by decide, by decide⟩
  obtain ⟨cl970, Ar970, q970, S970, N970, H970, G970⟩ := id A969
  have hin970 : ¬ ((2 : Int32) < 0 ∨ cl970.slots.size ≤ ((2 : Int32)).toNatClampNeg) := inb_of S970 ⟨by decide, by decide⟩
  refine own_go (T2 := T958) (g2 := (mkF m 16 #[.val (.ref a952), .val (.ref a953), .val (.int (0 : Int32))] [(.int (-1 : Int32)), (.int p967)])) (fun t k => XS.iconst X0.here hx rfl (hb hby own_d1_0) (XS.istoreN X0.here hx rfl (hb hby own_d1_1) rfl (l' := #[.val (.ref a952), .val (.ref a953), .val (.int (0 : Int32))]) rfl (XS.iloadN X0.here hx rfl (hb hby own_d1_2) rfl  (XS.iconst X0.here hx rfl (hb hby own_d1_3) (XS.icmpNo X0.here hx rfl (hb hby own_d1_4) rfl (tlt (show (0 : Int32) < (4 : Int32) from (by decide))).2.1 (XS.aloadN X0.here hx rfl (hb hby own_d1_7) rfl rfl (XS.aloadN X0.here hx rfl (hb hby own_d1_8) rfl rfl (st958 _ (XS.iloadN X958.here hx rfl (hb hby own_d1_12) rfl  (own_ap (X958.iaload hx (j := (0 : Int32)) (v := (.int (2 : Int32))) (by rw [e958]; exact Ar963.1) (State.isArrayOf_alike hZ.alike Ar963.2.1) Ar963.2.2 hin963 (Has.at H963 hin963 rfl) rfl rfl (hb hby own_d1_13)) (own_ap (X958.iaload hx (j := (2 : Int32)) (v := (.int p967)) (by rw [e958]; exact Ar970.1) (State.isArrayOf_alike hZ.alike Ar970.2.1) Ar970.2.2 hin970 (Has.at H970 hin970 rfl) rfl rfl (hb hby own_d1_14)) (XS.iconst X958.here hx rfl (hb hby own_d1_15) k)))))))))))) ?_
  obtain ⟨T972, X972, e972, st972⟩ := getF X958 hx hZ hown (host := "") (Or.inl (own_wd hw 9 rfl)) Via.refl e958 F957 (g := (mkF m 9 #[.val (.ref a952), .val (.ref a953), .val (.int (1 : Int32))] [(.ref a952), (.ref a953)])) rfl rfl (hb hby own_d1_9)
  obtain ⟨cl973, Ar973, q973, S973, N973, H973, G973⟩ := id A962
  have hin973 : ¬ ((1 : Int32) < 0 ∨ cl973.slots.size ≤ ((1 : Int32)).toNatClampNeg) := inb_of S973 ⟨by decide, by decide⟩
  obtain ⟨cl974, Ar974, q974, S974, N974, H974, G974⟩ := id A969
  have hin974 : ¬ ((0 : Int32) < 0 ∨ cl974.slots.size ≤ ((0 : Int32)).toNatClampNeg) := inb_of S974 ⟨by decide, by decide⟩
  refine own_go (T2 := T972) (g2 := (mkF m 15 #[.val (.ref a952), .val (.ref a953), .val (.int (1 : Int32))] [(.int p965)])) (fun t k => XS.icmpNo X958.here hx rfl (hb hby own_d1_16) rfl (feq (show ¬ (p967 = (-1 : Int32)) from hp971)).1 (XS.iinc X958.here hx rfl (hb hby own_d1_19) rfl (l' := #[.val (.ref a952), .val (.ref a953), .val (.int (1 : Int32))]) rfl (XS.goto X958.here hx rfl (pc0 := 22) (pc' := 2) rfl (hb hby own_d1_22) (by decide) (by decide) (XS.iloadN X958.here hx rfl (hb hby own_d1_2) rfl  (XS.iconst X958.here hx rfl (hb hby own_d1_3) (XS.icmpNo X958.here hx rfl (hb hby own_d1_4) rfl (tlt (show (1 : Int32) < (4 : Int32) from (by decide))).2.1 (XS.aloadN X958.here hx rfl (hb hby own_d1_7) rfl rfl (XS.aloadN X958.here hx rfl (hb hby own_d1_8) rfl rfl (st972 _ (XS.iloadN X972.here hx rfl (hb hby own_d1_12) rfl  (own_ap (X972.iaload hx (j := (1 : Int32)) (v := (.int (0 : Int32))) (by rw [e972]; exact Ar973.1) (State.isArrayOf_alike hZ.alike Ar973.2.1) Ar973.2.2 hin973 (Has.at H973 hin973 rfl) rfl rfl (hb hby own_d1_13)) (own_ap (X972.iaload hx (j := (0 : Int32)) (v := (.int p965)) (by rw [e972]; exact Ar974.1) (State.isArrayOf_alike hZ.alike Ar974.2.1) Ar974.2.2 hin974 (Has.at H974 hin974 rfl) rfl rfl (hb hby own_d1_14)) k)))))))))))) ?_
  obtain ⟨T976, X976, e976, st976⟩ := getF X972 hx hZ hown (host := "") (Or.inl (own_wd hw 9 rfl)) Via.refl e972 F957 (g := (mkF m 9 #[.val (.ref a952), .val (.ref a953), .val (.int (2 : Int32))] [(.ref a952), (.ref a953)])) rfl rfl (hb hby own_d1_9)
  obtain ⟨cl977, Ar977, q977, S977, N977, H977, G977⟩ := id A962
  have hin977 : ¬ ((2 : Int32) < 0 ∨ cl977.slots.size ≤ ((2 : Int32)).toNatClampNeg) := inb_of S977 ⟨by decide, by decide⟩
  refine own_go (T2 := T976) (g2 := (mkF m 14 #[.val (.ref a952), .val (.ref a953), .val (.int (2 : Int32))] [(.int (1 : Int32)), (.ref a953)])) (fun t k => XS.iconst X972.here hx rfl (hb hby own_d1_15) (XS.icmpNo X972.here hx rfl (hb hby own_d1_16) rfl (feq (show ¬ (p965 = (-1 : Int32)) from hp975)).1 (XS.iinc X972.here hx rfl (hb hby own_d1_19) rfl (l' := #[.val (.ref a952), .val (.ref a953), .val (.int (2 : Int32))]) rfl (XS.goto X972.here hx rfl (pc0 := 22) (pc' := 2) rfl (hb hby own_d1_22) (by decide) (by decide) (XS.iloadN X972.here hx rfl (hb hby own_d1_2) rfl  (XS.iconst X972.here hx rfl (hb hby own_d1_3) (XS.icmpNo X972.here hx rfl (hb hby own_d1_4) rfl (tlt (show (2 : Int32) < (4 : Int32) from (by decide))).2.1 (XS.aloadN X972.here hx rfl (hb hby own_d1_7) rfl rfl (XS.aloadN X972.here hx rfl (hb hby own_d1_8) rfl rfl (st976 _ (XS.iloadN X976.here hx rfl (hb hby own_d1_12) rfl  (own_ap (X976.iaload hx (j := (2 : Int32)) (v := (.int (1 : Int32))) (by rw [e976]; exact Ar977.1) (State.isArrayOf_alike hZ.alike Ar977.2.1) Ar977.2.2 hin977 (Has.at H977 hin977 rfl) rfl rfl (hb hby own_d1_13)) k)))))))))))) ?_
  obtain ⟨cl978, Ar978, q978, S978, N978, H978, G978⟩ := id A969
  have hin978 : ¬ ((1 : Int32) < 0 ∨ cl978.slots.size ≤ ((1 : Int32)).toNatClampNeg) := inb_of S978 ⟨by decide, by decide⟩
  obtain ⟨T980, X980, e980, st980⟩ := getF X976 hx hZ hown (host := "") (Or.inl (own_wd hw 9 rfl)) Via.refl e976 F957 (g := (mkF m 9 #[.val (.ref a952), .val (.ref a953), .val (.int (3 : Int32))] [(.ref a952), (.ref a953)])) rfl rfl (hb hby own_d1_9)
  refine own_go (T2 := T980) (g2 := (mkF m 13 #[.val (.ref a952), .val (.ref a953), .val (.int (3 : Int32))] [(.int (3 : Int32)), (.ref a956), (.ref a953)])) (fun t k => own_ap (X976.iaload hx (j := (1 : Int32)) (v := (.int p966)) (by rw [e976]; exact Ar978.1) (State.isArrayOf_alike hZ.alike Ar978.2.1) Ar978.2.2 hin978 (Has.at H978 hin978 rfl) rfl rfl (hb hby own_d1_14)) (XS.iconst X976.here hx rfl (hb hby own_d1_15) (XS.icmpNo X976.here hx rfl (hb hby own_d1_16) rfl (feq (show ¬ (p966 = (-1 : Int32)) from hp979)).1 (XS.iinc X976.here hx rfl (hb hby own_d1_19) rfl (l' := #[.val (.ref a952), .val (.ref a953), .val (.int (3 : Int32))]) rfl (XS.goto X976.here hx rfl (pc0 := 22) (pc' := 2) rfl (hb hby own_d1_22) (by decide) (by decide) (XS.iloadN X976.here hx rfl (hb hby own_d1_2) rfl  (XS.iconst X976.here hx rfl (hb hby own_d1_3) (XS.icmpNo X976.here hx rfl (hb hby own_d1_4) rfl (tlt (show (3 : Int32) < (4 : Int32) from (by decide))).2.1 (XS.aloadN X976.here hx rfl (hb hby own_d1_7) rfl rfl (XS.aloadN X976.here hx rfl (hb hby own_d1_8) rfl rfl (st980 _ (XS.iloadN X980.here hx rfl (hb hby own_d1_12) rfl  k)))))))))))) ?_
  obtain ⟨cl981, Ar981, q981, S981, N981, H981, G981⟩ := id A962
  have hin981 : ¬ ((3 : Int32) < 0 ∨ cl981.slots.size ≤ ((3 : Int32)).toNatClampNeg) := inb_of S981 ⟨by decide, by decide⟩
  obtain ⟨cl982, Ar982, q982, S982, N982, H982, G982⟩ := id A969
  have hin982 : ¬ ((3 : Int32) < 0 ∨ cl982.slots.size ≤ ((3 : Int32)).toNatClampNeg) := inb_of S982 ⟨by decide, by decide⟩
  refine own_go (T2 := T980) (g2 := (mkF m 26 #[.val (.ref a952), .val (.ref a953), .val (.int (4 : Int32))] [(.int (4 : Int32))])) (fun t k => own_ap (X980.iaload hx (j := (3 : Int32)) (v := (.int (3 : Int32))) (by rw [e980]; exact Ar981.1) (State.isArrayOf_alike hZ.alike Ar981.2.1) Ar981.2.2 hin981 (Has.at H981 hin981 rfl) rfl rfl (hb hby own_d1_13)) (own_ap (X980.iaload hx (j := (3 : Int32)) (v := (.int p968)) (by rw [e980]; exact Ar982.1) (State.isArrayOf_alike hZ.alike Ar982.2.1) Ar982.2.2 hin982 (Has.at H982 hin982 rfl) rfl rfl (hb hby own_d1_14)) (XS.iconst X980.here hx rfl (hb hby own_d1_15) (XS.icmpNo X980.here hx rfl (hb hby own_d1_16) rfl (feq (show ¬ (p968 = (-1 : Int32)) from hp983)).1 (XS.iinc X980.here hx rfl (hb hby own_d1_19) rfl (l' := #[.val (.ref a952), .val (.ref a953), .val (.int (4 : Int32))]) rfl (XS.goto X980.here hx rfl (pc0 := 22) (pc' := 2) rfl (hb hby own_d1_22) (by decide) (by decide) (XS.iloadN X980.here hx rfl (hb hby own_d1_2) rfl  (XS.iconst X980.here hx rfl (hb hby own_d1_3) (XS.icmpYes X980.here hx rfl (pc0 := 4) (pc' := 25) rfl (hb hby own_d1_4) rfl (flt (show ¬ ((4 : Int32) < (4 : Int32)) from (by decide))).2.1 (by decide) (by decide) (XS.iloadN X980.here hx rfl (hb hby own_d1_25) rfl  k)))))))))) ?_
  exact own_endI X980 hx Bd.notSynchronized Bd.returns (hb hby own_d1_26) (by decide) (by decide) ⟨rfl, rfl, e980⟩
theorem own_ef1050 (m : MethodId) (x0 : Addr) (x1 : Addr) : entryFrame m #[(.ref x0), (.ref x1)] 3 = mkF m 0 #[.val (.ref x0), .val (.ref x1), .unset] [] := by first | (simp [entryFrame, mkF, argsToLocals, Value.category]; done) | rfl
set_option maxRecDepth 65536 in
set_option maxHeartbeats 40000000 in
theorem own_rm1050 (l : Launch) (Z : State) (a0 : Array Value) (hw : ∀ d ∈ tables_1, d.before a0 Z = true) (h0 : Heap) (a1051 : Addr) (a1052 : Addr) (a1055 : Addr) (c1060 : ClassId) (c1063 : ClassId) (p1064 : Int32) (p1065 : Int32) (p1066 : Int32) (p1067 : Int32) (F1056 : Fld Z h0 a1051 "com/example/chronoquad/chronoquad/QuadOrder" "positions" "[I" (.ref a1055)) (A1061 : Arv Z h0 a1055 c1060 .int (4 : Int32) [(.int (3 : Int32)), (.int (0 : Int32)), (.int (1 : Int32)), (.int (2 : Int32))] (.int (0 : Int32))) (A1068 : Arv Z h0 a1052 c1063 .int (4 : Int32) [(.int p1064), (.int p1065), (.int p1066), (.int p1067)] (.int (0 : Int32))) (hp1070 : p1067 = (-1 : Int32)) :
    own_Con l Z (⟨"com/example/chronoquad/chronoquad/QuadOrder", "leadingTerms", "([I)I"⟩ : MethodName) prog_11_method_8_code 3 (some .int) ({ frames := 0, cells := 0, slots := 0, locals := 0 } : Room) #[(.ref a1051), (.ref a1052)] h0 (own_QP (some (.int (0 : Int32))) h0) := by
  refine MetFree.of_bodySF (plainFor_of_name own_pn0) hisR ?_
  intro p e s m args below meth c s₁ Bd hml0 hP hK
  obtain ⟨rfl, hZ, hh⟩ := hP
  have hx := Bd.exec
  have hby := Bd.bytes
  have hml : c.maxLocals = 3 := hml0
  have hown : s.vm.findClass "com/example/chronoquad/chronoquad/QuadOrder" = some m.cls := findClass_of_methodNamed Bd.named
  have hnm := (name_of_methodNamed Bd.named Bd.method).1
  have X0 : Stand p l e ({ frames := 0, cells := 0, slots := 0, locals := 0 } : Room) s m #[(.ref a1051), (.ref a1052)] below meth c s₁ [] 0 0 := Stand.of_body Bd
  have e0 : s₁.heap = h0 := by rw [← hh, Bd.state]; rfl
  have K0 : own_Kp h0 h0 [] [] := own_kpRefl _ _
  show own_Go p e below (own_K s (own_QP (some (.int (0 : Int32))) h0) 0 0) s₁ (entryFrame m #[(.ref a1051), (.ref a1052)] 3)
  rw [own_ef1050]
  obtain ⟨T1057, X1057, e1057, st1057⟩ := getF X0 hx hZ hown (host := "") (Or.inl (own_wd hw 9 rfl)) Via.refl e0 F1056 (g := (mkF m 9 #[.val (.ref a1051), .val (.ref a1052), .val (.int (0 : Int32))] [(.ref a1051), (.ref a1052)])) rfl rfl (hb hby own_d1_9)
  obtain ⟨cl1062, Ar1062, q1062, S1062, N1062, H1062, G1062⟩ := id A1061
  have hin1062 : ¬ ((0 : Int32) < 0 ∨ cl1062.slots.size ≤ ((0 : Int32)).toNatClampNeg) := inb_of S1062 ⟨by decide, by decide⟩
  obtain ⟨cl1069, Ar1069, q1069, S1069, N1069, H1069, G1069⟩ := id A1068
  have hin1069 : ¬ ((3 : Int32) < 0 ∨ cl1069.slots.size ≤ ((3 : Int32)).toNatClampNeg) := inb_of S1069 ⟨by decide, by decide⟩
  refine own_go (T2 := T1057) (g2 := (mkF m 16 #[.val (.ref a1051), .val (.ref a1052), .val (.int (0 : Int32))] [(.int (-1 : Int32)), (.int p1067)])) (fun t k => XS.iconst X0.here hx rfl (hb hby own_d1_0) (XS.istoreN X0.here hx rfl (hb hby own_d1_1) rfl (l' := #[.val (.ref a1051), .val (.ref a1052), .val (.int (0 : Int32))]) rfl (XS.iloadN X0.here hx rfl (hb hby own_d1_2) rfl  (XS.iconst X0.here hx rfl (hb hby own_d1_3) (XS.icmpNo X0.here hx rfl (hb hby own_d1_4) rfl (tlt (show (0 : Int32) < (4 : Int32) from (by decide))).2.1 (XS.aloadN X0.here hx rfl (hb hby own_d1_7) rfl rfl (XS.aloadN X0.here hx rfl (hb hby own_d1_8) rfl rfl (st1057 _ (XS.iloadN X1057.here hx rfl (hb hby own_d1_12) rfl  (own_ap (X1057.iaload hx (j := (0 : Int32)) (v := (.int (3 : Int32))) (by rw [e1057]; exact Ar1062.1) (State.isArrayOf_alike hZ.alike Ar1062.2.1) Ar1062.2.2 hin1062 (Has.at H1062 hin1062 rfl) rfl rfl (hb hby own_d1_13)) (own_ap (X1057.iaload hx (j := (3 : Int32)) (v := (.int p1067)) (by rw [e1057]; exact Ar1069.1) (State.isArrayOf_alike hZ.alike Ar1069.2.1) Ar1069.2.2 hin1069 (Has.at H1069 hin1069 rfl) rfl rfl (hb hby own_d1_14)) (XS.iconst X1057.here hx rfl (hb hby own_d1_15) k)))))))))))) ?_
  refine own_go (T2 := T1057) (g2 := (mkF m 26 #[.val (.ref a1051), .val (.ref a1052), .val (.int (0 : Int32))] [(.int (0 : Int32))])) (fun t k => XS.icmpYes X1057.here hx rfl (pc0 := 16) (pc' := 25) rfl (hb hby own_d1_16) rfl (teq (show p1067 = (-1 : Int32) from hp1070)).1 (by decide) (by decide) (XS.iloadN X1057.here hx rfl (hb hby own_d1_25) rfl  k)) ?_
  exact own_endI X1057 hx Bd.notSynchronized Bd.returns (hb hby own_d1_26) (by decide) (by decide) ⟨rfl, rfl, e1057⟩
theorem own_ef1139 (m : MethodId) (x0 : Addr) (x1 : Addr) : entryFrame m #[(.ref x0), (.ref x1)] 3 = mkF m 0 #[.val (.ref x0), .val (.ref x1), .unset] [] := by first | (simp [entryFrame, mkF, argsToLocals, Value.category]; done) | rfl
set_option maxRecDepth 65536 in
set_option maxHeartbeats 40000000 in
theorem own_rm1139 (l : Launch) (Z : State) (a0 : Array Value) (hw : ∀ d ∈ tables_1, d.before a0 Z = true) (h0 : Heap) (a1140 : Addr) (a1141 : Addr) (a1144 : Addr) (c1149 : ClassId) (c1152 : ClassId) (p1153 : Int32) (p1154 : Int32) (p1155 : Int32) (p1156 : Int32) (F1145 : Fld Z h0 a1140 "com/example/chronoquad/chronoquad/QuadOrder" "positions" "[I" (.ref a1144)) (A1150 : Arv Z h0 a1144 c1149 .int (4 : Int32) [(.int (3 : Int32)), (.int (0 : Int32)), (.int (1 : Int32)), (.int (2 : Int32))] (.int (0 : Int32))) (A1157 : Arv Z h0 a1141 c1152 .int (4 : Int32) [(.int p1153), (.int p1154), (.int p1155), (.int p1156)] (.int (0 : Int32))) (hp1159 : ¬ (p1156 = (-1 : Int32))) (hp1163 : p1153 = (-1 : Int32)) :
    own_Con l Z (⟨"com/example/chronoquad/chronoquad/QuadOrder", "leadingTerms", "([I)I"⟩ : MethodName) prog_11_method_8_code 3 (some .int) ({ frames := 0, cells := 0, slots := 0, locals := 0 } : Room) #[(.ref a1140), (.ref a1141)] h0 (own_QP (some (.int (1 : Int32))) h0) := by
  refine MetFree.of_bodySF (plainFor_of_name own_pn0) hisR ?_
  intro p e s m args below meth c s₁ Bd hml0 hP hK
  obtain ⟨rfl, hZ, hh⟩ := hP
  have hx := Bd.exec
  have hby := Bd.bytes
  have hml : c.maxLocals = 3 := hml0
  have hown : s.vm.findClass "com/example/chronoquad/chronoquad/QuadOrder" = some m.cls := findClass_of_methodNamed Bd.named
  have hnm := (name_of_methodNamed Bd.named Bd.method).1
  have X0 : Stand p l e ({ frames := 0, cells := 0, slots := 0, locals := 0 } : Room) s m #[(.ref a1140), (.ref a1141)] below meth c s₁ [] 0 0 := Stand.of_body Bd
  have e0 : s₁.heap = h0 := by rw [← hh, Bd.state]; rfl
  have K0 : own_Kp h0 h0 [] [] := own_kpRefl _ _
  show own_Go p e below (own_K s (own_QP (some (.int (1 : Int32))) h0) 0 0) s₁ (entryFrame m #[(.ref a1140), (.ref a1141)] 3)
  rw [own_ef1139]
  obtain ⟨T1146, X1146, e1146, st1146⟩ := getF X0 hx hZ hown (host := "") (Or.inl (own_wd hw 9 rfl)) Via.refl e0 F1145 (g := (mkF m 9 #[.val (.ref a1140), .val (.ref a1141), .val (.int (0 : Int32))] [(.ref a1140), (.ref a1141)])) rfl rfl (hb hby own_d1_9)
  obtain ⟨cl1151, Ar1151, q1151, S1151, N1151, H1151, G1151⟩ := id A1150
  have hin1151 : ¬ ((0 : Int32) < 0 ∨ cl1151.slots.size ≤ ((0 : Int32)).toNatClampNeg) := inb_of S1151 ⟨by decide, by decide⟩
  obtain ⟨cl1158, Ar1158, q1158, S1158, N1158, H1158, G1158⟩ := id A1157
  have hin1158 : ¬ ((3 : Int32) < 0 ∨ cl1158.slots.size ≤ ((3 : Int32)).toNatClampNeg) := inb_of S1158 ⟨by decide, by decide⟩
  refine own_go (T2 := T1146) (g2 := (mkF m 16 #[.val (.ref a1140), .val (.ref a1141), .val (.int (0 : Int32))] [(.int (-1 : Int32)), (.int p1156)])) (fun t k => XS.iconst X0.here hx rfl (hb hby own_d1_0) (XS.istoreN X0.here hx rfl (hb hby own_d1_1) rfl (l' := #[.val (.ref a1140), .val (.ref a1141), .val (.int (0 : Int32))]) rfl (XS.iloadN X0.here hx rfl (hb hby own_d1_2) rfl  (XS.iconst X0.here hx rfl (hb hby own_d1_3) (XS.icmpNo X0.here hx rfl (hb hby own_d1_4) rfl (tlt (show (0 : Int32) < (4 : Int32) from (by decide))).2.1 (XS.aloadN X0.here hx rfl (hb hby own_d1_7) rfl rfl (XS.aloadN X0.here hx rfl (hb hby own_d1_8) rfl rfl (st1146 _ (XS.iloadN X1146.here hx rfl (hb hby own_d1_12) rfl  (own_ap (X1146.iaload hx (j := (0 : Int32)) (v := (.int (3 : Int32))) (by rw [e1146]; exact Ar1151.1) (State.isArrayOf_alike hZ.alike Ar1151.2.1) Ar1151.2.2 hin1151 (Has.at H1151 hin1151 rfl) rfl rfl (hb hby own_d1_13)) (own_ap (X1146.iaload hx (j := (3 : Int32)) (v := (.int p1156)) (by rw [e1146]; exact Ar1158.1) (State.isArrayOf_alike hZ.alike Ar1158.2.1) Ar1158.2.2 hin1158 (Has.at H1158 hin1158 rfl) rfl rfl (hb hby own_d1_14)) (XS.iconst X1146.here hx rfl (hb hby own_d1_15) k)))))))))))) ?_
  obtain ⟨T1160, X1160, e1160, st1160⟩ := getF X1146 hx hZ hown (host := "") (Or.inl (own_wd hw 9 rfl)) Via.refl e1146 F1145 (g := (mkF m 9 #[.val (.ref a1140), .val (.ref a1141), .val (.int (1 : Int32))] [(.ref a1140), (.ref a1141)])) rfl rfl (hb hby own_d1_9)
  obtain ⟨cl1161, Ar1161, q1161, S1161, N1161, H1161, G1161⟩ := id A1150
  have hin1161 : ¬ ((1 : Int32) < 0 ∨ cl1161.slots.size ≤ ((1 : Int32)).toNatClampNeg) := inb_of S1161 ⟨by decide, by decide⟩
  obtain ⟨cl1162, Ar1162, q1162, S1162, N1162, H1162, G1162⟩ := id A1157
  have hin1162 : ¬ ((0 : Int32) < 0 ∨ cl1162.slots.size ≤ ((0 : Int32)).toNatClampNeg) := inb_of S1162 ⟨by decide, by decide⟩
  refine own_go (T2 := T1160) (g2 := (mkF m 15 #[.val (.ref a1140), .val (.ref a1141), .val (.int (1 : Int32))] [(.int p1153)])) (fun t k => XS.icmpNo X1146.here hx rfl (hb hby own_d1_16) rfl (feq (show ¬ (p1156 = (-1 : Int32)) from hp1159)).1 (XS.iinc X1146.here hx rfl (hb hby own_d1_19) rfl (l' := #[.val (.ref a1140), .val (.ref a1141), .val (.int (1 : Int32))]) rfl (XS.goto X1146.here hx rfl (pc0 := 22) (pc' := 2) rfl (hb hby own_d1_22) (by decide) (by decide) (XS.iloadN X1146.here hx rfl (hb hby own_d1_2) rfl  (XS.iconst X1146.here hx rfl (hb hby own_d1_3) (XS.icmpNo X1146.here hx rfl (hb hby own_d1_4) rfl (tlt (show (1 : Int32) < (4 : Int32) from (by decide))).2.1 (XS.aloadN X1146.here hx rfl (hb hby own_d1_7) rfl rfl (XS.aloadN X1146.here hx rfl (hb hby own_d1_8) rfl rfl (st1160 _ (XS.iloadN X1160.here hx rfl (hb hby own_d1_12) rfl  (own_ap (X1160.iaload hx (j := (1 : Int32)) (v := (.int (0 : Int32))) (by rw [e1160]; exact Ar1161.1) (State.isArrayOf_alike hZ.alike Ar1161.2.1) Ar1161.2.2 hin1161 (Has.at H1161 hin1161 rfl) rfl rfl (hb hby own_d1_13)) (own_ap (X1160.iaload hx (j := (0 : Int32)) (v := (.int p1153)) (by rw [e1160]; exact Ar1162.1) (State.isArrayOf_alike hZ.alike Ar1162.2.1) Ar1162.2.2 hin1162 (Has.at H1162 hin1162 rfl) rfl rfl (hb hby own_d1_14)) k)))))))))))) ?_
  refine own_go (T2 := T1160) (g2 := (mkF m 26 #[.val (.ref a1140), .val (.ref a1141), .val (.int (1 : Int32))] [(.int (1 : Int32))])) (fun t k => XS.iconst X1160.here hx rfl (hb hby own_d1_15) (XS.icmpYes X1160.here hx rfl (pc0 := 16) (pc' := 25) rfl (hb hby own_d1_16) rfl (teq (show p1153 = (-1 : Int32) from hp1163)).1 (by decide) (by decide) (XS.iloadN X1160.here hx rfl (hb hby own_d1_25) rfl  k))) ?_
  exact own_endI X1160 hx Bd.notSynchronized Bd.returns (hb hby own_d1_26) (by decide) (by decide) ⟨rfl, rfl, e1160⟩
theorem own_ef1236 (m : MethodId) (x0 : Addr) (x1 : Addr) : entryFrame m #[(.ref x0), (.ref x1)] 3 = mkF m 0 #[.val (.ref x0), .val (.ref x1), .unset] [] := by first | (simp [entryFrame, mkF, argsToLocals, Value.category]; done) | rfl
set_option maxRecDepth 65536 in
set_option maxHeartbeats 40000000 in
theorem own_rm1236 (l : Launch) (Z : State) (a0 : Array Value) (hw : ∀ d ∈ tables_1, d.before a0 Z = true) (h0 : Heap) (a1237 : Addr) (a1238 : Addr) (a1241 : Addr) (c1246 : ClassId) (c1249 : ClassId) (p1250 : Int32) (p1251 : Int32) (p1252 : Int32) (p1253 : Int32) (F1242 : Fld Z h0 a1237 "com/example/chronoquad/chronoquad/QuadOrder" "positions" "[I" (.ref a1241)) (A1247 : Arv Z h0 a1241 c1246 .int (4 : Int32) [(.int (3 : Int32)), (.int (0 : Int32)), (.int (1 : Int32)), (.int (2 : Int32))] (.int (0 : Int32))) (A1254 : Arv Z h0 a1238 c1249 .int (4 : Int32) [(.int p1250), (.int p1251), (.int p1252), (.int p1253)] (.int (0 : Int32))) (hp1256 : ¬ (p1253 = (-1 : Int32))) (hp1260 : ¬ (p1250 = (-1 : Int32))) (hp1264 : p1251 = (-1 : Int32)) :
    own_Con l Z (⟨"com/example/chronoquad/chronoquad/QuadOrder", "leadingTerms", "([I)I"⟩ : MethodName) prog_11_method_8_code 3 (some .int) ({ frames := 0, cells := 0, slots := 0, locals := 0 } : Room) #[(.ref a1237), (.ref a1238)] h0 (own_QP (some (.int (2 : Int32))) h0) := by
  refine MetFree.of_bodySF (plainFor_of_name own_pn0) hisR ?_
  intro p e s m args below meth c s₁ Bd hml0 hP hK
  obtain ⟨rfl, hZ, hh⟩ := hP
  have hx := Bd.exec
  have hby := Bd.bytes
  have hml : c.maxLocals = 3 := hml0
  have hown : s.vm.findClass "com/example/chronoquad/chronoquad/QuadOrder" = some m.cls := findClass_of_methodNamed Bd.named
  have hnm := (name_of_methodNamed Bd.named Bd.method).1
  have X0 : Stand p l e ({ frames := 0, cells := 0, slots := 0, locals := 0 } : Room) s m #[(.ref a1237), (.ref a1238)] below meth c s₁ [] 0 0 := Stand.of_body Bd
  have e0 : s₁.heap = h0 := by rw [← hh, Bd.state]; rfl
  have K0 : own_Kp h0 h0 [] [] := own_kpRefl _ _
  show own_Go p e below (own_K s (own_QP (some (.int (2 : Int32))) h0) 0 0) s₁ (entryFrame m #[(.ref a1237), (.ref a1238)] 3)
  rw [own_ef1236]
  obtain ⟨T1243, X1243, e1243, st1243⟩ := getF X0 hx hZ hown (host := "") (Or.inl (own_wd hw 9 rfl)) Via.refl e0 F1242 (g := (mkF m 9 #[.val (.ref a1237), .val (.ref a1238), .val (.int (0 : Int32))] [(.ref a1237), (.ref a1238)])) rfl rfl (hb hby own_d1_9)
  obtain ⟨cl1248, Ar1248, q1248, S1248, N1248, H1248, G1248⟩ := id A1247
  have hin1248 : ¬ ((0 : Int32) < 0 ∨ cl1248.slots.size ≤ ((0 : Int32)).toNatClampNeg) := inb_of S1248 ⟨by decide, by decide⟩
  obtain ⟨cl1255, Ar1255, q1255, S1255, N1255, H1255, G1255⟩ := id A1254
  have hin1255 : ¬ ((3 : Int32) < 0 ∨ cl1255.slots.size ≤ ((3 : Int32)).toNatClampNeg) := inb_of S1255 ⟨by decide, by decide⟩
  refine own_go (T2 := T1243) (g2 := (mkF m 16 #[.val (.ref a1237), .val (.ref a1238), .val (.int (0 : Int32))] [(.int (-1 : Int32)), (.int p1253)])) (fun t k => XS.iconst X0.here hx rfl (hb hby own_d1_0) (XS.istoreN X0.here hx rfl (hb hby own_d1_1) rfl (l' := #[.val (.ref a1237), .val (.ref a1238), .val (.int (0 : Int32))]) rfl (XS.iloadN X0.here hx rfl (hb hby own_d1_2) rfl  (XS.iconst X0.here hx rfl (hb hby own_d1_3) (XS.icmpNo X0.here hx rfl (hb hby own_d1_4) rfl (tlt (show (0 : Int32) < (4 : Int32) from (by decide))).2.1 (XS.aloadN X0.here hx rfl (hb hby own_d1_7) rfl rfl (XS.aloadN X0.here hx rfl (hb hby own_d1_8) rfl rfl (st1243 _ (XS.iloadN X1243.here hx rfl (hb hby own_d1_12) rfl  (own_ap (X1243.iaload hx (j := (0 : Int32)) (v := (.int (3 : Int32))) (by rw [e1243]; exact Ar1248.1) (State.isArrayOf_alike hZ.alike Ar1248.2.1) Ar1248.2.2 hin1248 (Has.at H1248 hin1248 rfl) rfl rfl (hb hby own_d1_13)) (own_ap (X1243.iaload hx (j := (3 : Int32)) (v := (.int p1253)) (by rw [e1243]; exact Ar1255.1) (State.isArrayOf_alike hZ.alike Ar1255.2.1) Ar1255.2.2 hin1255 (Has.at H1255 hin1255 rfl) rfl rfl (hb hby own_d1_14)) (XS.iconst X1243.here hx rfl (hb hby own_d1_15) k)))))))))))) ?_
  obtain ⟨T1257, X1257, e1257, st1257⟩ := getF X1243 hx hZ hown (host := "") (Or.inl (own_wd hw 9 rfl)) Via.refl e1243 F1242 (g := (mkF m 9 #[.val (.ref a1237), .val (.ref a1238), .val (.int (1 : Int32))] [(.ref a1237), (.ref a1238)])) rfl rfl (hb hby own_d1_9)
  obtain ⟨cl1258, Ar1258, q1258, S1258, N1258, H1258, G1258⟩ := id A1247
  have hin1258 : ¬ ((1 : Int32) < 0 ∨ cl1258.slots.size ≤ ((1 : Int32)).toNatClampNeg) := inb_of S1258 ⟨by decide, by decide⟩
  obtain ⟨cl1259, Ar1259, q1259, S1259, N1259, H1259, G1259⟩ := id A1254
  have hin1259 : ¬ ((0 : Int32) < 0 ∨ cl1259.slots.size ≤ ((0 : Int32)).toNatClampNeg) := inb_of S1259 ⟨by decide, by decide⟩
  refine own_go (T2 := T1257) (g2 := (mkF m 15 #[.val (.ref a1237), .val (.ref a1238), .val (.int (1 : Int32))] [(.int p1250)])) (fun t k => XS.icmpNo X1243.here hx rfl (hb hby own_d1_16) rfl (feq (show ¬ (p1253 = (-1 : Int32)) from hp1256)).1 (XS.iinc X1243.here hx rfl (hb hby own_d1_19) rfl (l' := #[.val (.ref a1237), .val (.ref a1238), .val (.int (1 : Int32))]) rfl (XS.goto X1243.here hx rfl (pc0 := 22) (pc' := 2) rfl (hb hby own_d1_22) (by decide) (by decide) (XS.iloadN X1243.here hx rfl (hb hby own_d1_2) rfl  (XS.iconst X1243.here hx rfl (hb hby own_d1_3) (XS.icmpNo X1243.here hx rfl (hb hby own_d1_4) rfl (tlt (show (1 : Int32) < (4 : Int32) from (by decide))).2.1 (XS.aloadN X1243.here hx rfl (hb hby own_d1_7) rfl rfl (XS.aloadN X1243.here hx rfl (hb hby own_d1_8) rfl rfl (st1257 _ (XS.iloadN X1257.here hx rfl (hb hby own_d1_12) rfl  (own_ap (X1257.iaload hx (j := (1 : Int32)) (v := (.int (0 : Int32))) (by rw [e1257]; exact Ar1258.1) (State.isArrayOf_alike hZ.alike Ar1258.2.1) Ar1258.2.2 hin1258 (Has.at H1258 hin1258 rfl) rfl rfl (hb hby own_d1_13)) (own_ap (X1257.iaload hx (j := (0 : Int32)) (v := (.int p1250)) (by rw [e1257]; exact Ar1259.1) (State.isArrayOf_alike hZ.alike Ar1259.2.1) Ar1259.2.2 hin1259 (Has.at H1259 hin1259 rfl) rfl rfl (hb hby own_d1_14)) k)))))))))))) ?_
  obtain ⟨T1261, X1261, e1261, st1261⟩ := getF X1257 hx hZ hown (host := "") (Or.inl (own_wd hw 9 rfl)) Via.refl e1257 F1242 (g := (mkF m 9 #[.val (.ref a1237), .val (.ref a1238), .val (.int (2 : Int32))] [(.ref a1237), (.ref a1238)])) rfl rfl (hb hby own_d1_9)
  obtain ⟨cl1262, Ar1262, q1262, S1262, N1262, H1262, G1262⟩ := id A1247
  have hin1262 : ¬ ((2 : Int32) < 0 ∨ cl1262.slots.size ≤ ((2 : Int32)).toNatClampNeg) := inb_of S1262 ⟨by decide, by decide⟩
  refine own_go (T2 := T1261) (g2 := (mkF m 14 #[.val (.ref a1237), .val (.ref a1238), .val (.int (2 : Int32))] [(.int (1 : Int32)), (.ref a1238)])) (fun t k => XS.iconst X1257.here hx rfl (hb hby own_d1_15) (XS.icmpNo X1257.here hx rfl (hb hby own_d1_16) rfl (feq (show ¬ (p1250 = (-1 : Int32)) from hp1260)).1 (XS.iinc X1257.here hx rfl (hb hby own_d1_19) rfl (l' := #[.val (.ref a1237), .val (.ref a1238), .val (.int (2 : Int32))]) rfl (XS.goto X1257.here hx rfl (pc0 := 22) (pc' := 2) rfl (hb hby own_d1_22) (by decide) (by decide) (XS.iloadN X1257.here hx rfl (hb hby own_d1_2) rfl  (XS.iconst X1257.here hx rfl (hb hby own_d1_3) (XS.icmpNo X1257.here hx rfl (hb hby own_d1_4) rfl (tlt (show (2 : Int32) < (4 : Int32) from (by decide))).2.1 (XS.aloadN X1257.here hx rfl (hb hby own_d1_7) rfl rfl (XS.aloadN X1257.here hx rfl (hb hby own_d1_8) rfl rfl (st1261 _ (XS.iloadN X1261.here hx rfl (hb hby own_d1_12) rfl  (own_ap (X1261.iaload hx (j := (2 : Int32)) (v := (.int (1 : Int32))) (by rw [e1261]; exact Ar1262.1) (State.isArrayOf_alike hZ.alike Ar1262.2.1) Ar1262.2.2 hin1262 (Has.at H1262 hin1262 rfl) rfl rfl (hb hby own_d1_13)) k)))))))))))) ?_
  obtain ⟨cl1263, Ar1263, q1263, S1263, N1263, H1263, G1263⟩ := id A1254
  have hin1263 : ¬ ((1 : Int32) < 0 ∨ cl1263.slots.size ≤ ((1 : Int32)).toNatClampNeg) := inb_of S1263 ⟨by decide, by decide⟩
  refine own_go (T2 := T1261) (g2 := (mkF m 26 #[.val (.ref a1237), .val (.ref a1238), .val (.int (2 : Int32))] [(.int (2 : Int32))])) (fun t k => own_ap (X1261.iaload hx (j := (1 : Int32)) (v := (.int p1251)) (by rw [e1261]; exact Ar1263.1) (State.isArrayOf_alike hZ.alike Ar1263.2.1) Ar1263.2.2 hin1263 (Has.at H1263 hin1263 rfl) rfl rfl (hb hby own_d1_14)) (XS.iconst X1261.here hx rfl (hb hby own_d1_15) (XS.icmpYes X1261.here hx rfl (pc0 := 16) (pc' := 25) rfl (hb hby own_d1_16) rfl (teq (show p1251 = (-1 : Int32) from hp1264)).1 (by decide) (by decide) (XS.iloadN X1261.here hx rfl (hb hby own_d1_25) rfl  k)))) ?_
  exact own_endI X1261 hx Bd.notSynchronized Bd.returns (hb hby own_d1_26) (by decide) (by decide) ⟨rfl, rfl, e1261⟩
theorem own_ef1341 (m : MethodId) (x0 : Addr) (x1 : Addr) : entryFrame m #[(.ref x0), (.ref x1)] 3 = mkF m 0 #[.val (.ref x0), .val (.ref x1), .unset] [] := by first | (simp [entryFrame, mkF, argsToLocals, Value.category]; done) | rfl
set_option maxRecDepth 65536 in
set_option maxHeartbeats 40000000 in
theorem own_rm1341 (l : Launch) (Z : State) (a0 : Array Value) (hw : ∀ d ∈ tables_1, d.before a0 Z = true) (h0 : Heap) (a1342 : Addr) (a1343 : Addr) (a1346 : Addr) (c1351 : ClassId) (c1354 : ClassId) (p1355 : Int32) (p1356 : Int32) (p1357 : Int32) (p1358 : Int32) (F1347 : Fld Z h0 a1342 "com/example/chronoquad/chronoquad/QuadOrder" "positions" "[I" (.ref a1346)) (A1352 : Arv Z h0 a1346 c1351 .int (4 : Int32) [(.int (3 : Int32)), (.int (0 : Int32)), (.int (1 : Int32)), (.int (2 : Int32))] (.int (0 : Int32))) (A1359 : Arv Z h0 a1343 c1354 .int (4 : Int32) [(.int p1355), (.int p1356), (.int p1357), (.int p1358)] (.int (0 : Int32))) (hp1361 : ¬ (p1358 = (-1 : Int32))) (hp1365 : ¬ (p1355 = (-1 : Int32))) (hp1369 : ¬ (p1356 = (-1 : Int32))) (hp1373 : p1357 = (-1 : Int32)) :
    own_Con l Z (⟨"com/example/chronoquad/chronoquad/QuadOrder", "leadingTerms", "([I)I"⟩ : MethodName) prog_11_method_8_code 3 (some .int) ({ frames := 0, cells := 0, slots := 0, locals := 0 } : Room) #[(.ref a1342), (.ref a1343)] h0 (own_QP (some (.int (3 : Int32))) h0) := by
  refine MetFree.of_bodySF (plainFor_of_name own_pn0) hisR ?_
  intro p e s m args below meth c s₁ Bd hml0 hP hK
  obtain ⟨rfl, hZ, hh⟩ := hP
  have hx := Bd.exec
  have hby := Bd.bytes
  have hml : c.maxLocals = 3 := hml0
  have hown : s.vm.findClass "com/example/chronoquad/chronoquad/QuadOrder" = some m.cls := findClass_of_methodNamed Bd.named
  have hnm := (name_of_methodNamed Bd.named Bd.method).1
  have X0 : Stand p l e ({ frames := 0, cells := 0, slots := 0, locals := 0 } : Room) s m #[(.ref a1342), (.ref a1343)] below meth c s₁ [] 0 0 := Stand.of_body Bd
  have e0 : s₁.heap = h0 := by rw [← hh, Bd.state]; rfl
  have K0 : own_Kp h0 h0 [] [] := own_kpRefl _ _
  show own_Go p e below (own_K s (own_QP (some (.int (3 : Int32))) h0) 0 0) s₁ (entryFrame m #[(.ref a1342), (.ref a1343)] 3)
  rw [own_ef1341]
  obtain ⟨T1348, X1348, e1348, st1348⟩ := getF X0 hx hZ hown (host := "") (Or.inl (own_wd hw 9 rfl)) Via.refl e0 F1347 (g := (mkF m 9 #[.val (.ref a1342), .val (.ref a1343), .val (.int (0 : Int32))] [(.ref a1342), (.ref a1343)])) rfl rfl (hb hby own_d1_9)
  obtain ⟨cl1353, Ar1353, q1353, S1353, N1353, H1353, G1353⟩ := id A1352
  have hin1353 : ¬ ((0 : Int32) < 0 ∨ cl1353.slots.size ≤ ((0 : Int32)).toNatClampNeg) := inb_of S1353 ⟨by decide, by decide⟩
  obtain ⟨cl1360, Ar1360, q1360, S1360, N1360, H1360, G1360⟩ := id A1359
  have hin1360 : ¬ ((3 : Int32) < 0 ∨ cl1360.slots.size ≤ ((3 : Int32)).toNatClampNeg) := inb_of S1360 ⟨by decide, by decide⟩
  refine own_go (T2 := T1348) (g2 := (mkF m 16 #[.val (.ref a1342), .val (.ref a1343), .val (.int (0 : Int32))] [(.int (-1 : Int32)), (.int p1358)])) (fun t k => XS.iconst X0.here hx rfl (hb hby own_d1_0) (XS.istoreN X0.here hx rfl (hb hby own_d1_1) rfl (l' := #[.val (.ref a1342), .val (.ref a1343), .val (.int (0 : Int32))]) rfl (XS.iloadN X0.here hx rfl (hb hby own_d1_2) rfl  (XS.iconst X0.here hx rfl (hb hby own_d1_3) (XS.icmpNo X0.here hx rfl (hb hby own_d1_4) rfl (tlt (show (0 : Int32) < (4 : Int32) from (by decide))).2.1 (XS.aloadN X0.here hx rfl (hb hby own_d1_7) rfl rfl (XS.aloadN X0.here hx rfl (hb hby own_d1_8) rfl rfl (st1348 _ (XS.iloadN X1348.here hx rfl (hb hby own_d1_12) rfl  (own_ap (X1348.iaload hx (j := (0 : Int32)) (v := (.int (3 : Int32))) (by rw [e1348]; exact Ar1353.1) (State.isArrayOf_alike hZ.alike Ar1353.2.1) Ar1353.2.2 hin1353 (Has.at H1353 hin1353 rfl) rfl rfl (hb hby own_d1_13)) (own_ap (X1348.iaload hx (j := (3 : Int32)) (v := (.int p1358)) (by rw [e1348]; exact Ar1360.1) (State.isArrayOf_alike hZ.alike Ar1360.2.1) Ar1360.2.2 hin1360 (Has.at H1360 hin1360 rfl) rfl rfl (hb hby own_d1_14)) (XS.iconst X1348.here hx rfl (hb hby own_d1_15) k)))))))))))) ?_
  obtain ⟨T1362, X1362, e1362, st1362⟩ := getF X1348 hx hZ hown (host := "") (Or.inl (own_wd hw 9 rfl)) Via.refl e1348 F1347 (g := (mkF m 9 #[.val (.ref a1342), .val (.ref a1343), .val (.int (1 : Int32))] [(.ref a1342), (.ref a1343)])) rfl rfl (hb hby own_d1_9)
  obtain ⟨cl1363, Ar1363, q1363, S1363, N1363, H1363, G1363⟩ := id A1352
  have hin1363 : ¬ ((1 : Int32) < 0 ∨ cl1363.slots.size ≤ ((1 : Int32)).toNatClampNeg) := inb_of S1363 ⟨by decide, by decide⟩
  obtain ⟨cl1364, Ar1364, q1364, S1364, N1364, H1364, G1364⟩ := id A1359
  have hin1364 : ¬ ((0 : Int32) < 0 ∨ cl1364.slots.size ≤ ((0 : Int32)).toNatClampNeg) := inb_of S1364 ⟨by decide, by decide⟩
  refine own_go (T2 := T1362) (g2 := (mkF m 15 #[.val (.ref a1342), .val (.ref a1343), .val (.int (1 : Int32))] [(.int p1355)])) (fun t k => XS.icmpNo X1348.here hx rfl (hb hby own_d1_16) rfl (feq (show ¬ (p1358 = (-1 : Int32)) from hp1361)).1 (XS.iinc X1348.here hx rfl (hb hby own_d1_19) rfl (l' := #[.val (.ref a1342), .val (.ref a1343), .val (.int (1 : Int32))]) rfl (XS.goto X1348.here hx rfl (pc0 := 22) (pc' := 2) rfl (hb hby own_d1_22) (by decide) (by decide) (XS.iloadN X1348.here hx rfl (hb hby own_d1_2) rfl  (XS.iconst X1348.here hx rfl (hb hby own_d1_3) (XS.icmpNo X1348.here hx rfl (hb hby own_d1_4) rfl (tlt (show (1 : Int32) < (4 : Int32) from (by decide))).2.1 (XS.aloadN X1348.here hx rfl (hb hby own_d1_7) rfl rfl (XS.aloadN X1348.here hx rfl (hb hby own_d1_8) rfl rfl (st1362 _ (XS.iloadN X1362.here hx rfl (hb hby own_d1_12) rfl  (own_ap (X1362.iaload hx (j := (1 : Int32)) (v := (.int (0 : Int32))) (by rw [e1362]; exact Ar1363.1) (State.isArrayOf_alike hZ.alike Ar1363.2.1) Ar1363.2.2 hin1363 (Has.at H1363 hin1363 rfl) rfl rfl (hb hby own_d1_13)) (own_ap (X1362.iaload hx (j := (0 : Int32)) (v := (.int p1355)) (by rw [e1362]; exact Ar1364.1) (State.isArrayOf_alike hZ.alike Ar1364.2.1) Ar1364.2.2 hin1364 (Has.at H1364 hin1364 rfl) rfl rfl (hb hby own_d1_14)) k)))))))))))) ?_
  obtain ⟨T1366, X1366, e1366, st1366⟩ := getF X1362 hx hZ hown (host := "") (Or.inl (own_wd hw 9 rfl)) Via.refl e1362 F1347 (g := (mkF m 9 #[.val (.ref a1342), .val (.ref a1343), .val (.int (2 : Int32))] [(.ref a1342), (.ref a1343)])) rfl rfl (hb hby own_d1_9)
  obtain ⟨cl1367, Ar1367, q1367, S1367, N1367, H1367, G1367⟩ := id A1352
  have hin1367 : ¬ ((2 : Int32) < 0 ∨ cl1367.slots.size ≤ ((2 : Int32)).toNatClampNeg) := inb_of S1367 ⟨by decide, by decide⟩
  refine own_go (T2 := T1366) (g2 := (mkF m 14 #[.val (.ref a1342), .val (.ref a1343), .val (.int (2 : Int32))] [(.int (1 : Int32)), (.ref a1343)])) (fun t k => XS.iconst X1362.here hx rfl (hb hby own_d1_15) (XS.icmpNo X1362.here hx rfl (hb hby own_d1_16) rfl (feq (show ¬ (p1355 = (-1 : Int32)) from hp1365)).1 (XS.iinc X1362.here hx rfl (hb hby own_d1_19) rfl (l' := #[.val (.ref a1342), .val (.ref a1343), .val (.int (2 : Int32))]) rfl (XS.goto X1362.here hx rfl (pc0 := 22) (pc' := 2) rfl (hb hby own_d1_22) (by decide) (by decide) (XS.iloadN X1362.here hx rfl (hb hby own_d1_2) rfl  (XS.iconst X1362.here hx rfl (hb hby own_d1_3) (XS.icmpNo X1362.here hx rfl (hb hby own_d1_4) rfl (tlt (show (2 : Int32) < (4 : Int32) from (by decide))).2.1 (XS.aloadN X1362.here hx rfl (hb hby own_d1_7) rfl rfl (XS.aloadN X1362.here hx rfl (hb hby own_d1_8) rfl rfl (st1366 _ (XS.iloadN X1366.here hx rfl (hb hby own_d1_12) rfl  (own_ap (X1366.iaload hx (j := (2 : Int32)) (v := (.int (1 : Int32))) (by rw [e1366]; exact Ar1367.1) (State.isArrayOf_alike hZ.alike Ar1367.2.1) Ar1367.2.2 hin1367 (Has.at H1367 hin1367 rfl) rfl rfl (hb hby own_d1_13)) k)))))))))))) ?_
  obtain ⟨cl1368, Ar1368, q1368, S1368, N1368, H1368, G1368⟩ := id A1359
  have hin1368 : ¬ ((1 : Int32) < 0 ∨ cl1368.slots.size ≤ ((1 : Int32)).toNatClampNeg) := inb_of S1368 ⟨by decide, by decide⟩
  obtain ⟨T1370, X1370, e1370, st1370⟩ := getF X1366 hx hZ hown (host := "") (Or.inl (own_wd hw 9 rfl)) Via.refl e1366 F1347 (g := (mkF m 9 #[.val (.ref a1342), .val (.ref a1343), .val (.int (3 : Int32))] [(.ref a1342), (.ref a1343)])) rfl rfl (hb hby own_d1_9)
  refine own_go (T2 := T1370) (g2 := (mkF m 13 #[.val (.ref a1342), .val (.ref a1343), .val (.int (3 : Int32))] [(.int (3 : Int32)), (.ref a1346), (.ref a1343)])) (fun t k => own_ap (X1366.iaload hx (j := (1 : Int32)) (v := (.int p1356)) (by rw [e1366]; exact Ar1368.1) (State.isArrayOf_alike hZ.alike Ar1368.2.1) Ar1368.2.2 hin1368 (Has.at H1368 hin1368 rfl) rfl rfl (hb hby own_d1_14)) (XS.iconst X1366.here hx rfl (hb hby own_d1_15) (XS.icmpNo X1366.here hx rfl (hb hby own_d1_16) rfl (feq (show ¬ (p1356 = (-1 : Int32)) from hp1369)).1 (XS.iinc X1366.here hx rfl (hb hby own_d1_19) rfl (l' := #[.val (.ref a1342), .val (.ref a1343), .val (.int (3 : Int32))]) rfl (XS.goto X1366.here hx rfl (pc0 := 22) (pc' := 2) rfl (hb hby own_d1_22) (by decide) (by decide) (XS.iloadN X1366.here hx rfl (hb hby own_d1_2) rfl  (XS.iconst X1366.here hx rfl (hb hby own_d1_3) (XS.icmpNo X1366.here hx rfl (hb hby own_d1_4) rfl (tlt (show (3 : Int32) < (4 : Int32) from (by decide))).2.1 (XS.aloadN X1366.here hx rfl (hb hby own_d1_7) rfl rfl (XS.aloadN X1366.here hx rfl (hb hby own_d1_8) rfl rfl (st1370 _ (XS.iloadN X1370.here hx rfl (hb hby own_d1_12) rfl  k)))))))))))) ?_
  obtain ⟨cl1371, Ar1371, q1371, S1371, N1371, H1371, G1371⟩ := id A1352
  have hin1371 : ¬ ((3 : Int32) < 0 ∨ cl1371.slots.size ≤ ((3 : Int32)).toNatClampNeg) := inb_of S1371 ⟨by decide, by decide⟩
  obtain ⟨cl1372, Ar1372, q1372, S1372, N1372, H1372, G1372⟩ := id A1359
  have hin1372 : ¬ ((2 : Int32) < 0 ∨ cl1372.slots.size ≤ ((2 : Int32)).toNatClampNeg) := inb_of S1372 ⟨by decide, by decide⟩
  refine own_go (T2 := T1370) (g2 := (mkF m 26 #[.val (.ref a1342), .val (.ref a1343), .val (.int (3 : Int32))] [(.int (3 : Int32))])) (fun t k => own_ap (X1370.iaload hx (j := (3 : Int32)) (v := (.int (2 : Int32))) (by rw [e1370]; exact Ar1371.1) (State.isArrayOf_alike hZ.alike Ar1371.2.1) Ar1371.2.2 hin1371 (Has.at H1371 hin1371 rfl) rfl rfl (hb hby own_d1_13)) (own_ap (X1370.iaload hx (j := (2 : Int32)) (v := (.int p1357)) (by rw [e1370]; exact Ar1372.1) (State.isArrayOf_alike hZ.alike Ar1372.2.1) Ar1372.2.2 hin1372 (Has.at H1372 hin1372 rfl) rfl rfl (hb hby own_d1_14)) (XS.iconst X1370.here hx rfl (hb hby own_d1_15) (XS.icmpYes X1370.here hx rfl (pc0 := 16) (pc' := 25) rfl (hb hby own_d1_16) rfl (teq (show p1357 = (-1 : Int32) from hp1373)).1 (by decide) (by decide) (XS.iloadN X1370.here hx rfl (hb hby own_d1_25) rfl  k))))) ?_
  exact own_endI X1370 hx Bd.notSynchronized Bd.returns (hb hby own_d1_26) (by decide) (by decide) ⟨rfl, rfl, e1370⟩
theorem own_ef1452 (m : MethodId) (x0 : Addr) (x1 : Addr) : entryFrame m #[(.ref x0), (.ref x1)] 3 = mkF m 0 #[.val (.ref x0), .val (.ref x1), .unset] [] := by first | (simp [entryFrame, mkF, argsToLocals, Value.category]; done) | rfl
set_option maxRecDepth 65536 in
set_option maxHeartbeats 40000000 in
theorem own_rm1452 (l : Launch) (Z : State) (a0 : Array Value) (hw : ∀ d ∈ tables_1, d.before a0 Z = true) (h0 : Heap) (a1453 : Addr) (a1454 : Addr) (a1457 : Addr) (c1462 : ClassId) (c1465 : ClassId) (p1466 : Int32) (p1467 : Int32) (p1468 : Int32) (p1469 : Int32) (F1458 : Fld Z h0 a1453 "com/example/chronoquad/chronoquad/QuadOrder" "positions" "[I" (.ref a1457)) (A1463 : Arv Z h0 a1457 c1462 .int (4 : Int32) [(.int (3 : Int32)), (.int (0 : Int32)), (.int (1 : Int32)), (.int (2 : Int32))] (.int (0 : Int32))) (A1470 : Arv Z h0 a1454 c1465 .int (4 : Int32) [(.int p1466), (.int p1467), (.int p1468), (.int p1469)] (.int (0 : Int32))) (hp1472 : ¬ (p1469 = (-1 : Int32))) (hp1476 : ¬ (p1466 = (-1 : Int32))) (hp1480 : ¬ (p1467 = (-1 : Int32))) (hp1484 : ¬ (p1468 = (-1 : Int32))) :
    own_Con l Z (⟨"com/example/chronoquad/chronoquad/QuadOrder", "leadingTerms", "([I)I"⟩ : MethodName) prog_11_method_8_code 3 (some .int) ({ frames := 0, cells := 0, slots := 0, locals := 0 } : Room) #[(.ref a1453), (.ref a1454)] h0 (own_QP (some (.int (4 : Int32))) h0) := by
  refine MetFree.of_bodySF (plainFor_of_name own_pn0) hisR ?_
  intro p e s m args below meth c s₁ Bd hml0 hP hK
  obtain ⟨rfl, hZ, hh⟩ := hP
  have hx := Bd.exec
  have hby := Bd.bytes
  have hml : c.maxLocals = 3 := hml0
  have hown : s.vm.findClass "com/example/chronoquad/chronoquad/QuadOrder" = some m.cls := findClass_of_methodNamed Bd.named
  have hnm := (name_of_methodNamed Bd.named Bd.method).1
  have X0 : Stand p l e ({ frames := 0, cells := 0, slots := 0, locals := 0 } : Room) s m #[(.ref a1453), (.ref a1454)] below meth c s₁ [] 0 0 := Stand.of_body Bd
  have e0 : s₁.heap = h0 := by rw [← hh, Bd.state]; rfl
  have K0 : own_Kp h0 h0 [] [] := own_kpRefl _ _
  show own_Go p e below (own_K s (own_QP (some (.int (4 : Int32))) h0) 0 0) s₁ (entryFrame m #[(.ref a1453), (.ref a1454)] 3)
  rw [own_ef1452]
  obtain ⟨T1459, X1459, e1459, st1459⟩ := getF X0 hx hZ hown (host := "") (Or.inl (own_wd hw 9 rfl)) Via.refl e0 F1458 (g := (mkF m 9 #[.val (.ref a1453), .val (.ref a1454), .val (.int (0 : Int32))] [(.ref a1453), (.ref a1454)])) rfl rfl (hb hby own_d1_9)
  obtain ⟨cl1464, Ar1464, q1464, S1464, N1464, H1464, G1464⟩ := id A1463
  have hin1464 : ¬ ((0 : Int32) < 0 ∨ cl1464.slots.size ≤ ((0 : Int32)).toNatClampNeg) := inb_of S1464 ⟨by decide, by decide⟩
  obtain ⟨cl1471, Ar1471, q1471, S1471, N1471, H1471, G1471⟩ := id A1470
  have hin1471 : ¬ ((3 : Int32) < 0 ∨ cl1471.slots.size ≤ ((3 : Int32)).toNatClampNeg) := inb_of S1471 ⟨by decide, by decide⟩
  refine own_go (T2 := T1459) (g2 := (mkF m 16 #[.val (.ref a1453), .val (.ref a1454), .val (.int (0 : Int32))] [(.int (-1 : Int32)), (.int p1469)])) (fun t k => XS.iconst X0.here hx rfl (hb hby own_d1_0) (XS.istoreN X0.here hx rfl (hb hby own_d1_1) rfl (l' := #[.val (.ref a1453), .val (.ref a1454), .val (.int (0 : Int32))]) rfl (XS.iloadN X0.here hx rfl (hb hby own_d1_2) rfl  (XS.iconst X0.here hx rfl (hb hby own_d1_3) (XS.icmpNo X0.here hx rfl (hb hby own_d1_4) rfl (tlt (show (0 : Int32) < (4 : Int32) from (by decide))).2.1 (XS.aloadN X0.here hx rfl (hb hby own_d1_7) rfl rfl (XS.aloadN X0.here hx rfl (hb hby own_d1_8) rfl rfl (st1459 _ (XS.iloadN X1459.here hx rfl (hb hby own_d1_12) rfl  (own_ap (X1459.iaload hx (j := (0 : Int32)) (v := (.int (3 : Int32))) (by rw [e1459]; exact Ar1464.1) (State.isArrayOf_alike hZ.alike Ar1464.2.1) Ar1464.2.2 hin1464 (Has.at H1464 hin1464 rfl) rfl rfl (hb hby own_d1_13)) (own_ap (X1459.iaload hx (j := (3 : Int32)) (v := (.int p1469)) (by rw [e1459]; exact Ar1471.1) (State.isArrayOf_alike hZ.alike Ar1471.2.1) Ar1471.2.2 hin1471 (Has.at H1471 hin1471 rfl) rfl rfl (hb hby own_d1_14)) (XS.iconst X1459.here hx rfl (hb hby own_d1_15) k)))))))))))) ?_
  obtain ⟨T1473, X1473, e1473, st1473⟩ := getF X1459 hx hZ hown (host := "") (Or.inl (own_wd hw 9 rfl)) Via.refl e1459 F1458 (g := (mkF m 9 #[.val (.ref a1453), .val (.ref a1454), .val (.int (1 : Int32))] [(.ref a1453), (.ref a1454)])) rfl rfl (hb hby own_d1_9)
  obtain ⟨cl1474, Ar1474, q1474, S1474, N1474, H1474, G1474⟩ := id A1463
  have hin1474 : ¬ ((1 : Int32) < 0 ∨ cl1474.slots.size ≤ ((1 : Int32)).toNatClampNeg) := inb_of S1474 ⟨by decide, by decide⟩
  obtain ⟨cl1475, Ar1475, q1475, S1475, N1475, H1475, G1475⟩ := id A1470
  have hin1475 : ¬ ((0 : Int32) < 0 ∨ cl1475.slots.size ≤ ((0 : Int32)).toNatClampNeg) := inb_of S1475 ⟨by decide, by decide⟩
  refine own_go (T2 := T1473) (g2 := (mkF m 15 #[.val (.ref a1453), .val (.ref a1454), .val (.int (1 : Int32))] [(.int p1466)])) (fun t k => XS.icmpNo X1459.here hx rfl (hb hby own_d1_16) rfl (feq (show ¬ (p1469 = (-1 : Int32)) from hp1472)).1 (XS.iinc X1459.here hx rfl (hb hby own_d1_19) rfl (l' := #[.val (.ref a1453), .val (.ref a1454), .val (.int (1 : Int32))]) rfl (XS.goto X1459.here hx rfl (pc0 := 22) (pc' := 2) rfl (hb hby own_d1_22) (by decide) (by decide) (XS.iloadN X1459.here hx rfl (hb hby own_d1_2) rfl  (XS.iconst X1459.here hx rfl (hb hby own_d1_3) (XS.icmpNo X1459.here hx rfl (hb hby own_d1_4) rfl (tlt (show (1 : Int32) < (4 : Int32) from (by decide))).2.1 (XS.aloadN X1459.here hx rfl (hb hby own_d1_7) rfl rfl (XS.aloadN X1459.here hx rfl (hb hby own_d1_8) rfl rfl (st1473 _ (XS.iloadN X1473.here hx rfl (hb hby own_d1_12) rfl  (own_ap (X1473.iaload hx (j := (1 : Int32)) (v := (.int (0 : Int32))) (by rw [e1473]; exact Ar1474.1) (State.isArrayOf_alike hZ.alike Ar1474.2.1) Ar1474.2.2 hin1474 (Has.at H1474 hin1474 rfl) rfl rfl (hb hby own_d1_13)) (own_ap (X1473.iaload hx (j := (0 : Int32)) (v := (.int p1466)) (by rw [e1473]; exact Ar1475.1) (State.isArrayOf_alike hZ.alike Ar1475.2.1) Ar1475.2.2 hin1475 (Has.at H1475 hin1475 rfl) rfl rfl (hb hby own_d1_14)) k)))))))))))) ?_
  obtain ⟨T1477, X1477, e1477, st1477⟩ := getF X1473 hx hZ hown (host := "") (Or.inl (own_wd hw 9 rfl)) Via.refl e1473 F1458 (g := (mkF m 9 #[.val (.ref a1453), .val (.ref a1454), .val (.int (2 : Int32))] [(.ref a1453), (.ref a1454)])) rfl rfl (hb hby own_d1_9)
  obtain ⟨cl1478, Ar1478, q1478, S1478, N1478, H1478, G1478⟩ := id A1463
  have hin1478 : ¬ ((2 : Int32) < 0 ∨ cl1478.slots.size ≤ ((2 : Int32)).toNatClampNeg) := inb_of S1478 ⟨by decide, by decide⟩
  refine own_go (T2 := T1477) (g2 := (mkF m 14 #[.val (.ref a1453), .val (.ref a1454), .val (.int (2 : Int32))] [(.int (1 : Int32)), (.ref a1454)])) (fun t k => XS.iconst X1473.here hx rfl (hb hby own_d1_15) (XS.icmpNo X1473.here hx rfl (hb hby own_d1_16) rfl (feq (show ¬ (p1466 = (-1 : Int32)) from hp1476)).1 (XS.iinc X1473.here hx rfl (hb hby own_d1_19) rfl (l' := #[.val (.ref a1453), .val (.ref a1454), .val (.int (2 : Int32))]) rfl (XS.goto X1473.here hx rfl (pc0 := 22) (pc' := 2) rfl (hb hby own_d1_22) (by decide) (by decide) (XS.iloadN X1473.here hx rfl (hb hby own_d1_2) rfl  (XS.iconst X1473.here hx rfl (hb hby own_d1_3) (XS.icmpNo X1473.here hx rfl (hb hby own_d1_4) rfl (tlt (show (2 : Int32) < (4 : Int32) from (by decide))).2.1 (XS.aloadN X1473.here hx rfl (hb hby own_d1_7) rfl rfl (XS.aloadN X1473.here hx rfl (hb hby own_d1_8) rfl rfl (st1477 _ (XS.iloadN X1477.here hx rfl (hb hby own_d1_12) rfl  (own_ap (X1477.iaload hx (j := (2 : Int32)) (v := (.int (1 : Int32))) (by rw [e1477]; exact Ar1478.1) (State.isArrayOf_alike hZ.alike Ar1478.2.1) Ar1478.2.2 hin1478 (Has.at H1478 hin1478 rfl) rfl rfl (hb hby own_d1_13)) k)))))))))))) ?_
  obtain ⟨cl1479, Ar1479, q1479, S1479, N1479, H1479, G1479⟩ := id A1470
  have hin1479 : ¬ ((1 : Int32) < 0 ∨ cl1479.slots.size ≤ ((1 : Int32)).toNatClampNeg) := inb_of S1479 ⟨by decide, by decide⟩
  obtain ⟨T1481, X1481, e1481, st1481⟩ := getF X1477 hx hZ hown (host := "") (Or.inl (own_wd hw 9 rfl)) Via.refl e1477 F1458 (g := (mkF m 9 #[.val (.ref a1453), .val (.ref a1454), .val (.int (3 : Int32))] [(.ref a1453), (.ref a1454)])) rfl rfl (hb hby own_d1_9)
  refine own_go (T2 := T1481) (g2 := (mkF m 13 #[.val (.ref a1453), .val (.ref a1454), .val (.int (3 : Int32))] [(.int (3 : Int32)), (.ref a1457), (.ref a1454)])) (fun t k => own_ap (X1477.iaload hx (j := (1 : Int32)) (v := (.int p1467)) (by rw [e1477]; exact Ar1479.1) (State.isArrayOf_alike hZ.alike Ar1479.2.1) Ar1479.2.2 hin1479 (Has.at H1479 hin1479 rfl) rfl rfl (hb hby own_d1_14)) (XS.iconst X1477.here hx rfl (hb hby own_d1_15) (XS.icmpNo X1477.here hx rfl (hb hby own_d1_16) rfl (feq (show ¬ (p1467 = (-1 : Int32)) from hp1480)).1 (XS.iinc X1477.here hx rfl (hb hby own_d1_19) rfl (l' := #[.val (.ref a1453), .val (.ref a1454), .val (.int (3 : Int32))]) rfl (XS.goto X1477.here hx rfl (pc0 := 22) (pc' := 2) rfl (hb hby own_d1_22) (by decide) (by decide) (XS.iloadN X1477.here hx rfl (hb hby own_d1_2) rfl  (XS.iconst X1477.here hx rfl (hb hby own_d1_3) (XS.icmpNo X1477.here hx rfl (hb hby own_d1_4) rfl (tlt (show (3 : Int32) < (4 : Int32) from (by decide))).2.1 (XS.aloadN X1477.here hx rfl (hb hby own_d1_7) rfl rfl (XS.aloadN X1477.here hx rfl (hb hby own_d1_8) rfl rfl (st1481 _ (XS.iloadN X1481.here hx rfl (hb hby own_d1_12) rfl  k)))))))))))) ?_
  obtain ⟨cl1482, Ar1482, q1482, S1482, N1482, H1482, G1482⟩ := id A1463
  have hin1482 : ¬ ((3 : Int32) < 0 ∨ cl1482.slots.size ≤ ((3 : Int32)).toNatClampNeg) := inb_of S1482 ⟨by decide, by decide⟩
  obtain ⟨cl1483, Ar1483, q1483, S1483, N1483, H1483, G1483⟩ := id A1470
  have hin1483 : ¬ ((2 : Int32) < 0 ∨ cl1483.slots.size ≤ ((2 : Int32)).toNatClampNeg) := inb_of S1483 ⟨by decide, by decide⟩
  refine own_go (T2 := T1481) (g2 := (mkF m 26 #[.val (.ref a1453), .val (.ref a1454), .val (.int (4 : Int32))] [(.int (4 : Int32))])) (fun t k => own_ap (X1481.iaload hx (j := (3 : Int32)) (v := (.int (2 : Int32))) (by rw [e1481]; exact Ar1482.1) (State.isArrayOf_alike hZ.alike Ar1482.2.1) Ar1482.2.2 hin1482 (Has.at H1482 hin1482 rfl) rfl rfl (hb hby own_d1_13)) (own_ap (X1481.iaload hx (j := (2 : Int32)) (v := (.int p1468)) (by rw [e1481]; exact Ar1483.1) (State.isArrayOf_alike hZ.alike Ar1483.2.1) Ar1483.2.2 hin1483 (Has.at H1483 hin1483 rfl) rfl rfl (hb hby own_d1_14)) (XS.iconst X1481.here hx rfl (hb hby own_d1_15) (XS.icmpNo X1481.here hx rfl (hb hby own_d1_16) rfl (feq (show ¬ (p1468 = (-1 : Int32)) from hp1484)).1 (XS.iinc X1481.here hx rfl (hb hby own_d1_19) rfl (l' := #[.val (.ref a1453), .val (.ref a1454), .val (.int (4 : Int32))]) rfl (XS.goto X1481.here hx rfl (pc0 := 22) (pc' := 2) rfl (hb hby own_d1_22) (by decide) (by decide) (XS.iloadN X1481.here hx rfl (hb hby own_d1_2) rfl  (XS.iconst X1481.here hx rfl (hb hby own_d1_3) (XS.icmpYes X1481.here hx rfl (pc0 := 4) (pc' := 25) rfl (hb hby own_d1_4) rfl (flt (show ¬ ((4 : Int32) < (4 : Int32)) from (by decide))).2.1 (by decide) (by decide) (XS.iloadN X1481.here hx rfl (hb hby own_d1_25) rfl  k)))))))))) ?_
  exact own_endI X1481 hx Bd.notSynchronized Bd.returns (hb hby own_d1_26) (by decide) (by decide) ⟨rfl, rfl, e1481⟩
theorem own_pn1 : plainName "com/example/chronoquad/chronoquad/QuadOrderLeadingTermsPinLaw" = true := by first | (simp [plainName, overriddenIn]; done) | decide +kernel
theorem own_ef0 (m : MethodId) (x0 : Int32) (x1 : Int32) (x2 : Int32) (x3 : Int32) (x4 : Int32) : entryFrame m #[(.int x0), (.int x1), (.int x2), (.int x3), (.int x4)] maxLocals = mkF m 0 #[.val (.int x0), .val (.int x1), .val (.int x2), .val (.int x3), .val (.int x4), .unset, .unset, .unset, .unset, .unset, .unset, .unset, .unset] [] := by first | (simp [entryFrame, mkF, argsToLocals, Value.category, maxLocals]; done) | rfl
set_option maxRecDepth 65536 in
set_option maxHeartbeats 40000000 in
theorem own_rm0 (l : Launch) (Z : State) (a0 : Array Value) (hw : ∀ d ∈ tables_1, d.before a0 Z = true) (ws : List Jvm.Cond) (h0 : Heap) (p_0 : Int32) (p_1 : Int32) (p_2 : Int32) (p_3 : Int32) (p_4 : Int32) (w_SPOG : Addr) (r_positions_w_SPOG : Addr) (w_GSPO : Addr) (r_positions_w_GSPO : Addr) (w_OSPG : Addr) (r_positions_w_OSPG : Addr) (w_POSG : Addr) (r_positions_w_POSG : Addr) (c_r_positions_w_SPOG : ClassId) (c_r_positions_w_GSPO : ClassId) (c_r_positions_w_OSPG : ClassId) (c_r_positions_w_POSG : ClassId)
    (OX0 : Ext Z.heap h0)
    (S_SPOG_56 : Sta Z h0 "com/example/chronoquad/chronoquad/QuadOrder" "SPOG" "Lcom/example/chronoquad/chronoquad/QuadOrder;" (.ref w_SPOG))
    (E_w_SPOG : Exa Z h0 w_SPOG "com/example/chronoquad/chronoquad/QuadOrder")
    (F_positions_57 : Fld Z h0 w_SPOG "com/example/chronoquad/chronoquad/QuadOrder" "positions" "[I" (.ref r_positions_w_SPOG))
    (S_GSPO_58 : Sta Z h0 "com/example/chronoquad/chronoquad/QuadOrder" "GSPO" "Lcom/example/chronoquad/chronoquad/QuadOrder;" (.ref w_GSPO))
    (E_w_GSPO : Exa Z h0 w_GSPO "com/example/chronoquad/chronoquad/QuadOrder")
    (F_positions_59 : Fld Z h0 w_GSPO "com/example/chronoquad/chronoquad/QuadOrder" "positions" "[I" (.ref r_positions_w_GSPO))
    (S_OSPG_60 : Sta Z h0 "com/example/chronoquad/chronoquad/QuadOrder" "OSPG" "Lcom/example/chronoquad/chronoquad/QuadOrder;" (.ref w_OSPG))
    (E_w_OSPG : Exa Z h0 w_OSPG "com/example/chronoquad/chronoquad/QuadOrder")
    (F_positions_61 : Fld Z h0 w_OSPG "com/example/chronoquad/chronoquad/QuadOrder" "positions" "[I" (.ref r_positions_w_OSPG))
    (S_POSG_62 : Sta Z h0 "com/example/chronoquad/chronoquad/QuadOrder" "POSG" "Lcom/example/chronoquad/chronoquad/QuadOrder;" (.ref w_POSG))
    (E_w_POSG : Exa Z h0 w_POSG "com/example/chronoquad/chronoquad/QuadOrder")
    (F_positions_63 : Fld Z h0 w_POSG "com/example/chronoquad/chronoquad/QuadOrder" "positions" "[I" (.ref r_positions_w_POSG))
    (V_r_positions_w_SPOG : Arv Z h0 r_positions_w_SPOG c_r_positions_w_SPOG .int (4 : Int32) [(.int (0 : Int32)), (.int (1 : Int32)), (.int (2 : Int32)), (.int (3 : Int32))] (.int (0 : Int32)))
    (V_r_positions_w_GSPO : Arv Z h0 r_positions_w_GSPO c_r_positions_w_GSPO .int (4 : Int32) [(.int (3 : Int32)), (.int (0 : Int32)), (.int (1 : Int32)), (.int (2 : Int32))] (.int (0 : Int32)))
    (V_r_positions_w_OSPG : Arv Z h0 r_positions_w_OSPG c_r_positions_w_OSPG .int (4 : Int32) [(.int (2 : Int32)), (.int (0 : Int32)), (.int (1 : Int32)), (.int (3 : Int32))] (.int (0 : Int32)))
    (V_r_positions_w_POSG : Arv Z h0 r_positions_w_POSG c_r_positions_w_POSG .int (4 : Int32) [(.int (1 : Int32)), (.int (2 : Int32)), (.int (0 : Int32)), (.int (3 : Int32))] (.int (0 : Int32))) :
    MetFree l x (head1 (Jvm.Cond.code x code maxLocals ret :: ws) room_1) (fun a U => a = #[(.int p_0), (.int p_1), (.int p_2), (.int p_3), (.int p_4)] ∧ Z.Warmed39 U.vm ∧ U.heap = h0) (fun _ _ _ _ _ => True) (fun _ U o U' => ∃ v L, o = .returned v ∧ own_Q0 h0.size v U'.heap L ∧ FrameEnd U o U' L room_1.cells room_1.slots) := by
  refine MetFree.of_bodySF (plainFor_of_name own_pn1) hisR ?_
  intro p e s m args below meth c s₁ Bd hml0 hP hK
  obtain ⟨rfl, hZ, hh⟩ := hP
  have hx := Bd.exec
  have hby := Bd.bytes
  have hml : c.maxLocals = 13 := hml0
  have hown : s.vm.findClass "com/example/chronoquad/chronoquad/QuadOrderLeadingTermsPinLaw" = some m.cls := findClass_of_methodNamed Bd.named
  have X0 : Stand p l e room_1 s m #[(.int p_0), (.int p_1), (.int p_2), (.int p_3), (.int p_4)] below meth c s₁ [] 0 0 := Stand.of_body Bd
  have e0 : s₁.heap = h0 := by rw [← hh, Bd.state]; rfl
  have K0 : own_Kp h0 h0 [] [] := own_kpRefl _ _
  show own_Go p e below (own_K s (own_Q0 h0.size) room_1.cells room_1.slots) s₁ (entryFrame m #[(.int p_0), (.int p_1), (.int p_2), (.int p_3), (.int p_4)] maxLocals)
  rw [own_ef0]
  refine own_go (T2 := s₁) (g2 := (mkF m 5 #[.val (.int p_0), .val (.int p_1), .val (.int p_2), .val (.int p_3), .val (.int p_4), .val (.int (p_0 &&& (3 : Int32))), .unset, .unset, .unset, .unset, .unset, .unset, .unset] [])) (fun t k => XS.iloadN X0.here hx rfl (hb hby at_0) rfl  (XS.iconst X0.here hx rfl (hb hby at_1) (XS.iand X0.here hx rfl (hb hby at_2) rfl (XS.istore X0.here hx rfl (hb hby at_3) rfl (l' := #[.val (.int p_0), .val (.int p_1), .val (.int p_2), .val (.int p_3), .val (.int p_4), .val (.int (p_0 &&& (3 : Int32))), .unset, .unset, .unset, .unset, .unset, .unset, .unset]) rfl k)))) ?_
  generalize (p_0 &&& (3 : Int32)) = k64
  obtain ⟨T65, h65, k65, X65, e65, E65, A65, st65⟩ := newP X0 hx hZ (own_wd hw 0 rfl) e0 (g := (mkF m 6 #[.val (.int p_0), .val (.int p_1), .val (.int p_2), .val (.int p_3), .val (.int p_4), .val (.int k64), .unset, .unset, .unset, .unset, .unset, .unset, .unset] [(.int (4 : Int32))])) rfl (hb hby at_6) rfl (by decide) (cap := 4) (by decide) (by decide) (by decide) (by decide)
  obtain ⟨b65, g65⟩ : ∃ z, z = h0.size := ⟨_, rfl⟩
  rw [← g65] at A65 st65
  have z_E65 : h0.size ≤ h65.size := E65.1
  have lo_b65 : h0.size ≤ b65 := Nat.le_of_eq g65.symm
  have sz_b65 : h0.size ≤ b65 := Nat.le_trans K0.1.1 lo_b65
  have K65 := own_kpExt K0 E65
  have V65 : Arv Z h65 b65 k65 .int (4 : Int32) [(.int (0 : Int32)), (.int (0 : Int32)), (.int (0 : Int32)), (.int (0 : Int32))] (.int (0 : Int32)) := (Arv.new A65 (by decide)).pad (pad_rep [] (.int (0 : Int32)) 4)
  refine own_go (T2 := T65) (g2 := (mkF m 18 #[.val (.int p_0), .val (.int p_1), .val (.int p_2), .val (.int p_3), .val (.int p_4), .val (.int k64), .val (.ref b65), .unset, .unset, .unset, .unset, .unset, .unset] [(.int ((p_0 >>> ((2 : Int32) &&& 31)) &&& (1 : Int32))), (.int (0 : Int32)), (.ref b65)])) (fun t k => XS.iconst X0.here hx rfl (hb hby at_5) (st65 _ (XS.astore X65.here hx rfl (hb hby at_8) rfl rfl (l' := #[.val (.int p_0), .val (.int p_1), .val (.int p_2), .val (.int p_3), .val (.int p_4), .val (.int k64), .val (.ref b65), .unset, .unset, .unset, .unset, .unset, .unset]) rfl (XS.aload X65.here hx rfl (hb hby at_10) rfl rfl (XS.iconst X65.here hx rfl (hb hby at_12) (XS.iloadN X65.here hx rfl (hb hby at_13) rfl  (XS.iconst X65.here hx rfl (hb hby at_14) (XS.ishr X65.here hx rfl (hb hby at_15) rfl (XS.iconst X65.here hx rfl (hb hby at_16) (XS.iand X65.here hx rfl (hb hby at_17) rfl k)))))))))) ?_
  refine own_go (T2 := T65) (g2 := (mkF m 26 #[.val (.int p_0), .val (.int p_1), .val (.int p_2), .val (.int p_3), .val (.int p_4), .val (.int k64), .val (.ref b65), .unset, .unset, .unset, .unset, .unset, .unset] [(.int (if ((p_0 >>> ((2 : Int32) &&& 31)) &&& (1 : Int32)) = (0 : Int32) then p_1 else (-1 : Int32))), (.int (0 : Int32)), (.ref b65)])) (fun t k => ?_) ?_
  · by_cases hc66 : ((p_0 >>> ((2 : Int32) &&& 31)) &&& (1 : Int32)) = (0 : Int32)
    · rw [if_pos hc66] at k
      exact XS.ifYes X65.here hx rfl (pc0 := 18) (pc' := 25) rfl (hb hby at_18) rfl ((if0 _ _).trans (teq (show ((p_0 >>> ((2 : Int32) &&& 31)) &&& (1 : Int32)) = (0 : Int32) from hc66)).1) (by decide) (by decide) (XS.iloadN X65.here hx rfl (hb hby at_25) rfl  k)
    · rw [if_neg hc66] at k
      exact XS.ifNo X65.here hx rfl (hb hby at_18) rfl ((if0 _ _).trans (feq (show ¬ (((p_0 >>> ((2 : Int32) &&& 31)) &&& (1 : Int32)) = (0 : Int32)) from hc66)).1) (XS.iconst X65.here hx rfl (hb hby at_21) (XS.goto X65.here hx rfl (pc0 := 22) (pc' := 26) rfl (hb hby at_22) (by decide) (by decide) k))
  generalize (if ((p_0 >>> ((2 : Int32) &&& 31)) &&& (1 : Int32)) = (0 : Int32) then p_1 else (-1 : Int32)) = v67
  obtain ⟨cl68, Ar68, q68, S68, N68, H68, G68⟩ := id V65
  have hin68 : ¬ ((0 : Int32) < 0 ∨ cl68.slots.size ≤ ((0 : Int32)).toNatClampNeg) := inb_of S68 ⟨by decide, by decide⟩
  obtain ⟨T68, h68, X68, e68, W68, st68⟩ := stI X65 hx hZ e65 Ar68 (j := (0 : Int32)) hin68 (g := (mkF m 26 #[.val (.int p_0), .val (.int p_1), .val (.int p_2), .val (.int p_3), .val (.int p_4), .val (.int k64), .val (.ref b65), .unset, .unset, .unset, .unset, .unset, .unset] [(.int v67), (.int (0 : Int32)), (.ref b65)])) rfl rfl (hb hby at_26)
  have V68 : Arv Z h68 b65 k65 .int (4 : Int32) [(.int v67), (.int (0 : Int32)), (.int (0 : Int32)), (.int (0 : Int32))] (.int (0 : Int32)) := Arv.set Ar68 q68 S68 N68 H68 G68 rfl W68 0 rfl (Nat.le_of_ble_eq_true rfl)
  have K68 := own_kpWr K65 W68 (Or.inr sz_b65)
  have z_W68 : h65.size ≤ h68.size := Nat.le_of_eq W68.size.symm
  refine own_go (T2 := T68) (g2 := (mkF m 35 #[.val (.int p_0), .val (.int p_1), .val (.int p_2), .val (.int p_3), .val (.int p_4), .val (.int k64), .val (.ref b65), .unset, .unset, .unset, .unset, .unset, .unset] [(.int ((p_0 >>> ((3 : Int32) &&& 31)) &&& (1 : Int32))), (.int (1 : Int32)), (.ref b65)])) (fun t k => st68 _ (XS.aload X68.here hx rfl (hb hby at_27) rfl rfl (XS.iconst X68.here hx rfl (hb hby at_29) (XS.iloadN X68.here hx rfl (hb hby at_30) rfl  (XS.iconst X68.here hx rfl (hb hby at_31) (XS.ishr X68.here hx rfl (hb hby at_32) rfl (XS.iconst X68.here hx rfl (hb hby at_33) (XS.iand X68.here hx rfl (hb hby at_34) rfl k)))))))) ?_
  refine own_go (T2 := T68) (g2 := (mkF m 43 #[.val (.int p_0), .val (.int p_1), .val (.int p_2), .val (.int p_3), .val (.int p_4), .val (.int k64), .val (.ref b65), .unset, .unset, .unset, .unset, .unset, .unset] [(.int (if ((p_0 >>> ((3 : Int32) &&& 31)) &&& (1 : Int32)) = (0 : Int32) then p_2 else (-1 : Int32))), (.int (1 : Int32)), (.ref b65)])) (fun t k => ?_) ?_
  · by_cases hc69 : ((p_0 >>> ((3 : Int32) &&& 31)) &&& (1 : Int32)) = (0 : Int32)
    · rw [if_pos hc69] at k
      exact XS.ifYes X68.here hx rfl (pc0 := 35) (pc' := 42) rfl (hb hby at_35) rfl ((if0 _ _).trans (teq (show ((p_0 >>> ((3 : Int32) &&& 31)) &&& (1 : Int32)) = (0 : Int32) from hc69)).1) (by decide) (by decide) (XS.iloadN X68.here hx rfl (hb hby at_42) rfl  k)
    · rw [if_neg hc69] at k
      exact XS.ifNo X68.here hx rfl (hb hby at_35) rfl ((if0 _ _).trans (feq (show ¬ (((p_0 >>> ((3 : Int32) &&& 31)) &&& (1 : Int32)) = (0 : Int32)) from hc69)).1) (XS.iconst X68.here hx rfl (hb hby at_38) (XS.goto X68.here hx rfl (pc0 := 39) (pc' := 43) rfl (hb hby at_39) (by decide) (by decide) k))
  generalize (if ((p_0 >>> ((3 : Int32) &&& 31)) &&& (1 : Int32)) = (0 : Int32) then p_2 else (-1 : Int32)) = v70
  obtain ⟨cl71, Ar71, q71, S71, N71, H71, G71⟩ := id V68
  have hin71 : ¬ ((1 : Int32) < 0 ∨ cl71.slots.size ≤ ((1 : Int32)).toNatClampNeg) := inb_of S71 ⟨by decide, by decide⟩
  obtain ⟨T71, h71, X71, e71, W71, st71⟩ := stI X68 hx hZ e68 Ar71 (j := (1 : Int32)) hin71 (g := (mkF m 43 #[.val (.int p_0), .val (.int p_1), .val (.int p_2), .val (.int p_3), .val (.int p_4), .val (.int k64), .val (.ref b65), .unset, .unset, .unset, .unset, .unset, .unset] [(.int v70), (.int (1 : Int32)), (.ref b65)])) rfl rfl (hb hby at_43)
  have V71 : Arv Z h71 b65 k65 .int (4 : Int32) [(.int v67), (.int v70), (.int (0 : Int32)), (.int (0 : Int32))] (.int (0 : Int32)) := Arv.set Ar71 q71 S71 N71 H71 G71 rfl W71 1 rfl (Nat.le_of_ble_eq_true rfl)
  have K71 := own_kpWr K68 W71 (Or.inr sz_b65)
  have z_W71 : h68.size ≤ h71.size := Nat.le_of_eq W71.size.symm
  refine own_go (T2 := T71) (g2 := (mkF m 52 #[.val (.int p_0), .val (.int p_1), .val (.int p_2), .val (.int p_3), .val (.int p_4), .val (.int k64), .val (.ref b65), .unset, .unset, .unset, .unset, .unset, .unset] [(.int ((p_0 >>> ((4 : Int32) &&& 31)) &&& (1 : Int32))), (.int (2 : Int32)), (.ref b65)])) (fun t k => st71 _ (XS.aload X71.here hx rfl (hb hby at_44) rfl rfl (XS.iconst X71.here hx rfl (hb hby at_46) (XS.iloadN X71.here hx rfl (hb hby at_47) rfl  (XS.iconst X71.here hx rfl (hb hby at_48) (XS.ishr X71.here hx rfl (hb hby at_49) rfl (XS.iconst X71.here hx rfl (hb hby at_50) (XS.iand X71.here hx rfl (hb hby at_51) rfl k)))))))) ?_
  refine own_go (T2 := T71) (g2 := (mkF m 60 #[.val (.int p_0), .val (.int p_1), .val (.int p_2), .val (.int p_3), .val (.int p_4), .val (.int k64), .val (.ref b65), .unset, .unset, .unset, .unset, .unset, .unset] [(.int (if ((p_0 >>> ((4 : Int32) &&& 31)) &&& (1 : Int32)) = (0 : Int32) then p_3 else (-1 : Int32))), (.int (2 : Int32)), (.ref b65)])) (fun t k => ?_) ?_
  · by_cases hc72 : ((p_0 >>> ((4 : Int32) &&& 31)) &&& (1 : Int32)) = (0 : Int32)
    · rw [if_pos hc72] at k
      exact XS.ifYes X71.here hx rfl (pc0 := 52) (pc' := 59) rfl (hb hby at_52) rfl ((if0 _ _).trans (teq (show ((p_0 >>> ((4 : Int32) &&& 31)) &&& (1 : Int32)) = (0 : Int32) from hc72)).1) (by decide) (by decide) (XS.iloadN X71.here hx rfl (hb hby at_59) rfl  k)
    · rw [if_neg hc72] at k
      exact XS.ifNo X71.here hx rfl (hb hby at_52) rfl ((if0 _ _).trans (feq (show ¬ (((p_0 >>> ((4 : Int32) &&& 31)) &&& (1 : Int32)) = (0 : Int32)) from hc72)).1) (XS.iconst X71.here hx rfl (hb hby at_55) (XS.goto X71.here hx rfl (pc0 := 56) (pc' := 60) rfl (hb hby at_56) (by decide) (by decide) k))
  generalize (if ((p_0 >>> ((4 : Int32) &&& 31)) &&& (1 : Int32)) = (0 : Int32) then p_3 else (-1 : Int32)) = v73
  obtain ⟨cl74, Ar74, q74, S74, N74, H74, G74⟩ := id V71
  have hin74 : ¬ ((2 : Int32) < 0 ∨ cl74.slots.size ≤ ((2 : Int32)).toNatClampNeg) := inb_of S74 ⟨by decide, by decide⟩
  obtain ⟨T74, h74, X74, e74, W74, st74⟩ := stI X71 hx hZ e71 Ar74 (j := (2 : Int32)) hin74 (g := (mkF m 60 #[.val (.int p_0), .val (.int p_1), .val (.int p_2), .val (.int p_3), .val (.int p_4), .val (.int k64), .val (.ref b65), .unset, .unset, .unset, .unset, .unset, .unset] [(.int v73), (.int (2 : Int32)), (.ref b65)])) rfl rfl (hb hby at_60)
  have V74 : Arv Z h74 b65 k65 .int (4 : Int32) [(.int v67), (.int v70), (.int v73), (.int (0 : Int32))] (.int (0 : Int32)) := Arv.set Ar74 q74 S74 N74 H74 G74 rfl W74 2 rfl (Nat.le_of_ble_eq_true rfl)
  have K74 := own_kpWr K71 W74 (Or.inr sz_b65)
  have z_W74 : h71.size ≤ h74.size := Nat.le_of_eq W74.size.symm
  refine own_go (T2 := T74) (g2 := (mkF m 69 #[.val (.int p_0), .val (.int p_1), .val (.int p_2), .val (.int p_3), .val (.int p_4), .val (.int k64), .val (.ref b65), .unset, .unset, .unset, .unset, .unset, .unset] [(.int ((p_0 >>> ((5 : Int32) &&& 31)) &&& (1 : Int32))), (.int (3 : Int32)), (.ref b65)])) (fun t k => st74 _ (XS.aload X74.here hx rfl (hb hby at_61) rfl rfl (XS.iconst X74.here hx rfl (hb hby at_63) (XS.iloadN X74.here hx rfl (hb hby at_64) rfl  (XS.iconst X74.here hx rfl (hb hby at_65) (XS.ishr X74.here hx rfl (hb hby at_66) rfl (XS.iconst X74.here hx rfl (hb hby at_67) (XS.iand X74.here hx rfl (hb hby at_68) rfl k)))))))) ?_
  refine own_go (T2 := T74) (g2 := (mkF m 78 #[.val (.int p_0), .val (.int p_1), .val (.int p_2), .val (.int p_3), .val (.int p_4), .val (.int k64), .val (.ref b65), .unset, .unset, .unset, .unset, .unset, .unset] [(.int (if ((p_0 >>> ((5 : Int32) &&& 31)) &&& (1 : Int32)) = (0 : Int32) then p_4 else (-1 : Int32))), (.int (3 : Int32)), (.ref b65)])) (fun t k => ?_) ?_
  · by_cases hc75 : ((p_0 >>> ((5 : Int32) &&& 31)) &&& (1 : Int32)) = (0 : Int32)
    · rw [if_pos hc75] at k
      exact XS.ifYes X74.here hx rfl (pc0 := 69) (pc' := 76) rfl (hb hby at_69) rfl ((if0 _ _).trans (teq (show ((p_0 >>> ((5 : Int32) &&& 31)) &&& (1 : Int32)) = (0 : Int32) from hc75)).1) (by decide) (by decide) (XS.iload X74.here hx rfl (hb hby at_76) rfl  k)
    · rw [if_neg hc75] at k
      exact XS.ifNo X74.here hx rfl (hb hby at_69) rfl ((if0 _ _).trans (feq (show ¬ (((p_0 >>> ((5 : Int32) &&& 31)) &&& (1 : Int32)) = (0 : Int32)) from hc75)).1) (XS.iconst X74.here hx rfl (hb hby at_72) (XS.goto X74.here hx rfl (pc0 := 73) (pc' := 78) rfl (hb hby at_73) (by decide) (by decide) k))
  generalize (if ((p_0 >>> ((5 : Int32) &&& 31)) &&& (1 : Int32)) = (0 : Int32) then p_4 else (-1 : Int32)) = v76
  obtain ⟨cl77, Ar77, q77, S77, N77, H77, G77⟩ := id V74
  have hin77 : ¬ ((3 : Int32) < 0 ∨ cl77.slots.size ≤ ((3 : Int32)).toNatClampNeg) := inb_of S77 ⟨by decide, by decide⟩
  obtain ⟨T77, h77, X77, e77, W77, st77⟩ := stI X74 hx hZ e74 Ar77 (j := (3 : Int32)) hin77 (g := (mkF m 78 #[.val (.int p_0), .val (.int p_1), .val (.int p_2), .val (.int p_3), .val (.int p_4), .val (.int k64), .val (.ref b65), .unset, .unset, .unset, .unset, .unset, .unset] [(.int v76), (.int (3 : Int32)), (.ref b65)])) rfl rfl (hb hby at_78)
  have V77 : Arv Z h77 b65 k65 .int (4 : Int32) [(.int v67), (.int v70), (.int v73), (.int v76)] (.int (0 : Int32)) := Arv.set Ar77 q77 S77 N77 H77 G77 rfl W77 3 rfl (Nat.le_of_ble_eq_true rfl)
  have K77 := own_kpWr K74 W77 (Or.inr sz_b65)
  have z_W77 : h74.size ≤ h77.size := Nat.le_of_eq W77.size.symm
  refine own_go (T2 := T77) (g2 := (mkF m 81 #[.val (.int p_0), .val (.int p_1), .val (.int p_2), .val (.int p_3), .val (.int p_4), .val (.int k64), .val (.ref b65), .unset, .unset, .unset, .unset, .unset, .unset] [(.int k64)])) (fun t k => st77 _ (XS.iload X77.here hx rfl (hb hby at_79) rfl  k)) ?_
  by_cases hc78 : k64 = (0 : Int32)
  · subst hc78
    have S79 : Sta Z h77 "com/example/chronoquad/chronoquad/QuadOrder" "SPOG" "Lcom/example/chronoquad/chronoquad/QuadOrder;" (.ref w_SPOG) := (Sta.wr W77 (Sta.wr W74 (Sta.wr W71 (Sta.wr W68 (Sta.ext E65 S_SPOG_56)))))
    obtain ⟨T80, X80, e80, st80⟩ := getS2 X77 hx hZ hown (host := "") (Or.inl (own_wd hw 1 rfl)) Via.refl e77 S79 (g := (mkF m 84 #[.val (.int p_0), .val (.int p_1), .val (.int p_2), .val (.int p_3), .val (.int p_4), .val (.int (0 : Int32)), .val (.ref b65), .unset, .unset, .unset, .unset, .unset, .unset] [])) rfl (hb hby at_84)
    refine own_go (T2 := T80) (g2 := (mkF m 173 #[.val (.int p_0), .val (.int p_1), .val (.int p_2), .val (.int p_3), .val (.int p_4), .val (.int (0 : Int32)), .val (.ref b65), .val (.ref w_SPOG), .val (.int (0 : Int32)), .val (.int (1 : Int32)), .val (.int (2 : Int32)), .val (.int (3 : Int32)), .unset] [])) (fun t k => XS.ifNo X77.here hx rfl (hb hby at_81) rfl ((if0 _ _).trans (teq (show (0 : Int32) = (0 : Int32) from (by decide))).2) (st80 _ (XS.astore X80.here hx rfl (hb hby at_87) rfl rfl (l' := #[.val (.int p_0), .val (.int p_1), .val (.int p_2), .val (.int p_3), .val (.int p_4), .val (.int (0 : Int32)), .val (.ref b65), .val (.ref w_SPOG), .unset, .unset, .unset, .unset, .unset]) rfl (XS.iconst X80.here hx rfl (hb hby at_89) (XS.istore X80.here hx rfl (hb hby at_90) rfl (l' := #[.val (.int p_0), .val (.int p_1), .val (.int p_2), .val (.int p_3), .val (.int p_4), .val (.int (0 : Int32)), .val (.ref b65), .val (.ref w_SPOG), .val (.int (0 : Int32)), .unset, .unset, .unset, .unset]) rfl (XS.iconst X80.here hx rfl (hb hby at_92) (XS.istore X80.here hx rfl (hb hby at_93) rfl (l' := #[.val (.int p_0), .val (.int p_1), .val (.int p_2), .val (.int p_3), .val (.int p_4), .val (.int (0 : Int32)), .val (.ref b65), .val (.ref w_SPOG), .val (.int (0 : Int32)), .val (.int (1 : Int32)), .unset, .unset, .unset]) rfl (XS.iconst X80.here hx rfl (hb hby at_95) (XS.istore X80.here hx rfl (hb hby at_96) rfl (l' := #[.val (.int p_0), .val (.int p_1), .val (.int p_2), .val (.int p_3), .val (.int p_4), .val (.int (0 : Int32)), .val (.ref b65), .val (.ref w_SPOG), .val (.int (0 : Int32)), .val (.int (1 : Int32)), .val (.int (2 : Int32)), .unset, .unset]) rfl (XS.iconst X80.here hx rfl (hb hby at_98) (XS.istore X80.here hx rfl (hb hby at_99) rfl (l' := #[.val (.int p_0), .val (.int p_1), .val (.int p_2), .val (.int p_3), .val (.int p_4), .val (.int (0 : Int32)), .val (.ref b65), .val (.ref w_SPOG), .val (.int (0 : Int32)), .val (.int (1 : Int32)), .val (.int (2 : Int32)), .val (.int (3 : Int32)), .unset]) rfl (XS.goto X80.here hx rfl (pc0 := 101) (pc' := 173) rfl (hb hby at_101) (by decide) (by decide) k)))))))))))) ?_
    obtain ⟨cl81, Ar81, q81, S81, N81, H81, G81⟩ := id V77
    have hin81 : ¬ ((0 : Int32) < 0 ∨ cl81.slots.size ≤ ((0 : Int32)).toNatClampNeg) := inb_of S81 ⟨by decide, by decide⟩
    refine own_go (T2 := T80) (g2 := (mkF m 179 #[.val (.int p_0), .val (.int p_1), .val (.int p_2), .val (.int p_3), .val (.int p_4), .val (.int (0 : Int32)), .val (.ref b65), .val (.ref w_SPOG), .val (.int (0 : Int32)), .val (.int (1 : Int32)), .val (.int (2 : Int32)), .val (.int (3 : Int32)), .unset] [(.int (-1 : Int32)), (.int v67)])) (fun t k => XS.aload X80.here hx rfl (hb hby at_173) rfl rfl (XS.iload X80.here hx rfl (hb hby at_175) rfl  (own_ap (X80.iaload hx (j := (0 : Int32)) (v := (.int v67)) (by rw [e80]; exact Ar81.1) (State.isArrayOf_alike hZ.alike Ar81.2.1) Ar81.2.2 hin81 (Has.at H81 hin81 rfl) rfl rfl (hb hby at_177)) (XS.iconst X80.here hx rfl (hb hby at_178) k)))) ?_
    by_cases hc82 : v67 = (-1 : Int32)
    · skip
      have ne87 : w_SPOG ≠ b65 := Nat.ne_of_lt (Nat.lt_of_lt_of_le E_w_SPOG.lt (Nat.le_trans (Nat.le_refl _) lo_b65))
      have F88 : Fld Z h77 w_SPOG "com/example/chronoquad/chronoquad/QuadOrder" "positions" "[I" (.ref r_positions_w_SPOG) := (Fld.other W77 (Fld.other W74 (Fld.other W71 (Fld.other W68 (Fld.ext E65 F_positions_57) (Or.inl ne87)) (Or.inl ne87)) (Or.inl ne87)) (Or.inl ne87))
      have ne92 : r_positions_w_SPOG ≠ b65 := Nat.ne_of_lt (Nat.lt_of_lt_of_le V_r_positions_w_SPOG.lt (Nat.le_trans (Nat.le_refl _) lo_b65))
      have A93 : Arv Z h77 r_positions_w_SPOG c_r_positions_w_SPOG .int (4 : Int32) [(.int (0 : Int32)), (.int (1 : Int32)), (.int (2 : Int32)), (.int (3 : Int32))] (.int (0 : Int32)) := (Arv.other (Arv.other (Arv.other (Arv.other (Arv.ext V_r_positions_w_SPOG E65) W68 ne92) W71 ne92) W74 ne92) W77 ne92)
      have E105 : Exa Z h77 w_SPOG "com/example/chronoquad/chronoquad/QuadOrder" := (Exa.wr W77 (Exa.wr W74 (Exa.wr W71 (Exa.wr W68 (Exa.ext E65 E_w_SPOG)))))
      obtain ⟨_, T83, L83, X83, ⟨rfl, rfl, e83⟩, st83⟩ := own_cv X80 hx hZ hown (own_w106 hw) hml (g := (mkF m 240 #[.val (.int p_0), .val (.int p_1), .val (.int p_2), .val (.int p_3), .val (.int p_4), .val (.int (0 : Int32)), .val (.ref b65), .val (.ref w_SPOG), .val (.int (0 : Int32)), .val (.int (1 : Int32)), .val (.int (2 : Int32)), .val (.int (3 : Int32)), .val (.int (0 : Int32))] [(.ref b65), (.ref w_SPOG)])) (hb hby at_240) e80 E105 [(.ref b65)] [] (lenOf own_pd0 rfl) (own_rm84 l Z a0 hw h77 w_SPOG b65 r_positions_w_SPOG c_r_positions_w_SPOG k65 v67 v70 v73 v76 F88 A93 V77 hc82)
      refine own_go (T2 := T83) (g2 := (mkF m 253 #[.val (.int p_0), .val (.int p_1), .val (.int p_2), .val (.int p_3), .val (.int p_4), .val (.int (0 : Int32)), .val (.ref b65), .val (.ref w_SPOG), .val (.int (0 : Int32)), .val (.int (1 : Int32)), .val (.int (2 : Int32)), .val (.int (3 : Int32)), .val (.int (0 : Int32))] [(.int (1 : Int32))])) (fun t k => XS.icmpNo X80.here hx rfl (hb hby at_179) rfl (teq (show v67 = (-1 : Int32) from hc82)).2 (XS.iconst X80.here hx rfl (hb hby at_182) (XS.istore X80.here hx rfl (hb hby at_183) rfl (l' := #[.val (.int p_0), .val (.int p_1), .val (.int p_2), .val (.int p_3), .val (.int p_4), .val (.int (0 : Int32)), .val (.ref b65), .val (.ref w_SPOG), .val (.int (0 : Int32)), .val (.int (1 : Int32)), .val (.int (2 : Int32)), .val (.int (3 : Int32)), .val (.int (0 : Int32))]) rfl (XS.goto X80.here hx rfl (pc0 := 185) (pc' := 236) rfl (hb hby at_185) (by decide) (by decide) (XS.aload X80.here hx rfl (hb hby at_236) rfl rfl (XS.aload X80.here hx rfl (hb hby at_238) rfl rfl (st83 _ (XS.iload X83.here hx rfl (hb hby at_243) rfl  (XS.icmpNo X83.here hx rfl (hb hby at_245) rfl (teq (show (0 : Int32) = (0 : Int32) from (by decide))).2 (XS.iconst X83.here hx rfl (hb hby at_248) (XS.goto X83.here hx rfl (pc0 := 249) (pc' := 253) rfl (hb hby at_249) (by decide) (by decide) k))))))))))) ?_
      exact own_endN X83 hx Bd.notSynchronized (t := .boolean) Bd.returns (by simp) (hb hby at_253) (z' := (1 : Int32)) rfl (by decide) (by decide) ⟨rfl, own_kpFr K77⟩
    · skip
      obtain ⟨cl107, Ar107, q107, S107, N107, H107, G107⟩ := id V77
      have hin107 : ¬ ((1 : Int32) < 0 ∨ cl107.slots.size ≤ ((1 : Int32)).toNatClampNeg) := inb_of S107 ⟨by decide, by decide⟩
      refine own_go (T2 := T80) (g2 := (mkF m 194 #[.val (.int p_0), .val (.int p_1), .val (.int p_2), .val (.int p_3), .val (.int p_4), .val (.int (0 : Int32)), .val (.ref b65), .val (.ref w_SPOG), .val (.int (0 : Int32)), .val (.int (1 : Int32)), .val (.int (2 : Int32)), .val (.int (3 : Int32)), .unset] [(.int (-1 : Int32)), (.int v70)])) (fun t k => XS.icmpYes X80.here hx rfl (pc0 := 179) (pc' := 188) rfl (hb hby at_179) rfl (feq (show ¬ (v67 = (-1 : Int32)) from hc82)).2 (by decide) (by decide) (XS.aload X80.here hx rfl (hb hby at_188) rfl rfl (XS.iload X80.here hx rfl (hb hby at_190) rfl  (own_ap (X80.iaload hx (j := (1 : Int32)) (v := (.int v70)) (by rw [e80]; exact Ar107.1) (State.isArrayOf_alike hZ.alike Ar107.2.1) Ar107.2.2 hin107 (Has.at H107 hin107 rfl) rfl rfl (hb hby at_192)) (XS.iconst X80.here hx rfl (hb hby at_193) k))))) ?_
      by_cases hc108 : v70 = (-1 : Int32)
      · skip
        have ne117 : w_SPOG ≠ b65 := Nat.ne_of_lt (Nat.lt_of_lt_of_le E_w_SPOG.lt (Nat.le_trans (Nat.le_refl _) lo_b65))
        have F118 : Fld Z h77 w_SPOG "com/example/chronoquad/chronoquad/QuadOrder" "positions" "[I" (.ref r_positions_w_SPOG) := (Fld.other W77 (Fld.other W74 (Fld.other W71 (Fld.other W68 (Fld.ext E65 F_positions_57) (Or.inl ne117)) (Or.inl ne117)) (Or.inl ne117)) (Or.inl ne117))
        have ne122 : r_positions_w_SPOG ≠ b65 := Nat.ne_of_lt (Nat.lt_of_lt_of_le V_r_positions_w_SPOG.lt (Nat.le_trans (Nat.le_refl _) lo_b65))
        have A123 : Arv Z h77 r_positions_w_SPOG c_r_positions_w_SPOG .int (4 : Int32) [(.int (0 : Int32)), (.int (1 : Int32)), (.int (2 : Int32)), (.int (3 : Int32))] (.int (0 : Int32)) := (Arv.other (Arv.other (Arv.other (Arv.other (Arv.ext V_r_positions_w_SPOG E65) W68 ne122) W71 ne122) W74 ne122) W77 ne122)
        have E139 : Exa Z h77 w_SPOG "com/example/chronoquad/chronoquad/QuadOrder" := (Exa.wr W77 (Exa.wr W74 (Exa.wr W71 (Exa.wr W68 (Exa.ext E65 E_w_SPOG)))))
        obtain ⟨_, T109, L109, X109, ⟨rfl, rfl, e109⟩, st109⟩ := own_cv X80 hx hZ hown (own_w106 hw) hml (g := (mkF m 240 #[.val (.int p_0), .val (.int p_1), .val (.int p_2), .val (.int p_3), .val (.int p_4), .val (.int (0 : Int32)), .val (.ref b65), .val (.ref w_SPOG), .val (.int (0 : Int32)), .val (.int (1 : Int32)), .val (.int (2 : Int32)), .val (.int (3 : Int32)), .val (.int (1 : Int32))] [(.ref b65), (.ref w_SPOG)])) (hb hby at_240) e80 E139 [(.ref b65)] [] (lenOf own_pd0 rfl) (own_rm114 l Z a0 hw h77 w_SPOG b65 r_positions_w_SPOG c_r_positions_w_SPOG k65 v67 v70 v73 v76 F118 A123 V77 hc82 hc108)
        refine own_go (T2 := T109) (g2 := (mkF m 253 #[.val (.int p_0), .val (.int p_1), .val (.int p_2), .val (.int p_3), .val (.int p_4), .val (.int (0 : Int32)), .val (.ref b65), .val (.ref w_SPOG), .val (.int (0 : Int32)), .val (.int (1 : Int32)), .val (.int (2 : Int32)), .val (.int (3 : Int32)), .val (.int (1 : Int32))] [(.int (1 : Int32))])) (fun t k => XS.icmpNo X80.here hx rfl (hb hby at_194) rfl (teq (show v70 = (-1 : Int32) from hc108)).2 (XS.iconst X80.here hx rfl (hb hby at_197) (XS.istore X80.here hx rfl (hb hby at_198) rfl (l' := #[.val (.int p_0), .val (.int p_1), .val (.int p_2), .val (.int p_3), .val (.int p_4), .val (.int (0 : Int32)), .val (.ref b65), .val (.ref w_SPOG), .val (.int (0 : Int32)), .val (.int (1 : Int32)), .val (.int (2 : Int32)), .val (.int (3 : Int32)), .val (.int (1 : Int32))]) rfl (XS.goto X80.here hx rfl (pc0 := 200) (pc' := 236) rfl (hb hby at_200) (by decide) (by decide) (XS.aload X80.here hx rfl (hb hby at_236) rfl rfl (XS.aload X80.here hx rfl (hb hby at_238) rfl rfl (st109 _ (XS.iload X109.here hx rfl (hb hby at_243) rfl  (XS.icmpNo X109.here hx rfl (hb hby at_245) rfl (teq (show (1 : Int32) = (1 : Int32) from (by decide))).2 (XS.iconst X109.here hx rfl (hb hby at_248) (XS.goto X109.here hx rfl (pc0 := 249) (pc' := 253) rfl (hb hby at_249) (by decide) (by decide) k))))))))))) ?_
        exact own_endN X109 hx Bd.notSynchronized (t := .boolean) Bd.returns (by simp) (hb hby at_253) (z' := (1 : Int32)) rfl (by decide) (by decide) ⟨rfl, own_kpFr K77⟩
      · skip
        obtain ⟨cl140, Ar140, q140, S140, N140, H140, G140⟩ := id V77
        have hin140 : ¬ ((2 : Int32) < 0 ∨ cl140.slots.size ≤ ((2 : Int32)).toNatClampNeg) := inb_of S140 ⟨by decide, by decide⟩
        refine own_go (T2 := T80) (g2 := (mkF m 209 #[.val (.int p_0), .val (.int p_1), .val (.int p_2), .val (.int p_3), .val (.int p_4), .val (.int (0 : Int32)), .val (.ref b65), .val (.ref w_SPOG), .val (.int (0 : Int32)), .val (.int (1 : Int32)), .val (.int (2 : Int32)), .val (.int (3 : Int32)), .unset] [(.int (-1 : Int32)), (.int v73)])) (fun t k => XS.icmpYes X80.here hx rfl (pc0 := 194) (pc' := 203) rfl (hb hby at_194) rfl (feq (show ¬ (v70 = (-1 : Int32)) from hc108)).2 (by decide) (by decide) (XS.aload X80.here hx rfl (hb hby at_203) rfl rfl (XS.iload X80.here hx rfl (hb hby at_205) rfl  (own_ap (X80.iaload hx (j := (2 : Int32)) (v := (.int v73)) (by rw [e80]; exact Ar140.1) (State.isArrayOf_alike hZ.alike Ar140.2.1) Ar140.2.2 hin140 (Has.at H140 hin140 rfl) rfl rfl (hb hby at_207)) (XS.iconst X80.here hx rfl (hb hby at_208) k))))) ?_
        by_cases hc141 : v73 = (-1 : Int32)
        · skip
          have ne154 : w_SPOG ≠ b65 := Nat.ne_of_lt (Nat.lt_of_lt_of_le E_w_SPOG.lt (Nat.le_trans (Nat.le_refl _) lo_b65))
          have F155 : Fld Z h77 w_SPOG "com/example/chronoquad/chronoquad/QuadOrder" "positions" "[I" (.ref r_positions_w_SPOG) := (Fld.other W77 (Fld.other W74 (Fld.other W71 (Fld.other W68 (Fld.ext E65 F_positions_57) (Or.inl ne154)) (Or.inl ne154)) (Or.inl ne154)) (Or.inl ne154))
          have ne159 : r_positions_w_SPOG ≠ b65 := Nat.ne_of_lt (Nat.lt_of_lt_of_le V_r_positions_w_SPOG.lt (Nat.le_trans (Nat.le_refl _) lo_b65))
          have A160 : Arv Z h77 r_positions_w_SPOG c_r_positions_w_SPOG .int (4 : Int32) [(.int (0 : Int32)), (.int (1 : Int32)), (.int (2 : Int32)), (.int (3 : Int32))] (.int (0 : Int32)) := (Arv.other (Arv.other (Arv.other (Arv.other (Arv.ext V_r_positions_w_SPOG E65) W68 ne159) W71 ne159) W74 ne159) W77 ne159)
          have E180 : Exa Z h77 w_SPOG "com/example/chronoquad/chronoquad/QuadOrder" := (Exa.wr W77 (Exa.wr W74 (Exa.wr W71 (Exa.wr W68 (Exa.ext E65 E_w_SPOG)))))
          obtain ⟨_, T142, L142, X142, ⟨rfl, rfl, e142⟩, st142⟩ := own_cv X80 hx hZ hown (own_w106 hw) hml (g := (mkF m 240 #[.val (.int p_0), .val (.int p_1), .val (.int p_2), .val (.int p_3), .val (.int p_4), .val (.int (0 : Int32)), .val (.ref b65), .val (.ref w_SPOG), .val (.int (0 : Int32)), .val (.int (1 : Int32)), .val (.int (2 : Int32)), .val (.int (3 : Int32)), .val (.int (2 : Int32))] [(.ref b65), (.ref w_SPOG)])) (hb hby at_240) e80 E180 [(.ref b65)] [] (lenOf own_pd0 rfl) (own_rm151 l Z a0 hw h77 w_SPOG b65 r_positions_w_SPOG c_r_positions_w_SPOG k65 v67 v70 v73 v76 F155 A160 V77 hc82 hc108 hc141)
          refine own_go (T2 := T142) (g2 := (mkF m 253 #[.val (.int p_0), .val (.int p_1), .val (.int p_2), .val (.int p_3), .val (.int p_4), .val (.int (0 : Int32)), .val (.ref b65), .val (.ref w_SPOG), .val (.int (0 : Int32)), .val (.int (1 : Int32)), .val (.int (2 : Int32)), .val (.int (3 : Int32)), .val (.int (2 : Int32))] [(.int (1 : Int32))])) (fun t k => XS.icmpNo X80.here hx rfl (hb hby at_209) rfl (teq (show v73 = (-1 : Int32) from hc141)).2 (XS.iconst X80.here hx rfl (hb hby at_212) (XS.istore X80.here hx rfl (hb hby at_213) rfl (l' := #[.val (.int p_0), .val (.int p_1), .val (.int p_2), .val (.int p_3), .val (.int p_4), .val (.int (0 : Int32)), .val (.ref b65), .val (.ref w_SPOG), .val (.int (0 : Int32)), .val (.int (1 : Int32)), .val (.int (2 : Int32)), .val (.int (3 : Int32)), .val (.int (2 : Int32))]) rfl (XS.goto X80.here hx rfl (pc0 := 215) (pc' := 236) rfl (hb hby at_215) (by decide) (by decide) (XS.aload X80.here hx rfl (hb hby at_236) rfl rfl (XS.aload X80.here hx rfl (hb hby at_238) rfl rfl (st142 _ (XS.iload X142.here hx rfl (hb hby at_243) rfl  (XS.icmpNo X142.here hx rfl (hb hby at_245) rfl (teq (show (2 : Int32) = (2 : Int32) from (by decide))).2 (XS.iconst X142.here hx rfl (hb hby at_248) (XS.goto X142.here hx rfl (pc0 := 249) (pc' := 253) rfl (hb hby at_249) (by decide) (by decide) k))))))))))) ?_
          exact own_endN X142 hx Bd.notSynchronized (t := .boolean) Bd.returns (by simp) (hb hby at_253) (z' := (1 : Int32)) rfl (by decide) (by decide) ⟨rfl, own_kpFr K77⟩
        · skip
          obtain ⟨cl181, Ar181, q181, S181, N181, H181, G181⟩ := id V77
          have hin181 : ¬ ((3 : Int32) < 0 ∨ cl181.slots.size ≤ ((3 : Int32)).toNatClampNeg) := inb_of S181 ⟨by decide, by decide⟩
          refine own_go (T2 := T80) (g2 := (mkF m 224 #[.val (.int p_0), .val (.int p_1), .val (.int p_2), .val (.int p_3), .val (.int p_4), .val (.int (0 : Int32)), .val (.ref b65), .val (.ref w_SPOG), .val (.int (0 : Int32)), .val (.int (1 : Int32)), .val (.int (2 : Int32)), .val (.int (3 : Int32)), .unset] [(.int (-1 : Int32)), (.int v76)])) (fun t k => XS.icmpYes X80.here hx rfl (pc0 := 209) (pc' := 218) rfl (hb hby at_209) rfl (feq (show ¬ (v73 = (-1 : Int32)) from hc141)).2 (by decide) (by decide) (XS.aload X80.here hx rfl (hb hby at_218) rfl rfl (XS.iload X80.here hx rfl (hb hby at_220) rfl  (own_ap (X80.iaload hx (j := (3 : Int32)) (v := (.int v76)) (by rw [e80]; exact Ar181.1) (State.isArrayOf_alike hZ.alike Ar181.2.1) Ar181.2.2 hin181 (Has.at H181 hin181 rfl) rfl rfl (hb hby at_222)) (XS.iconst X80.here hx rfl (hb hby at_223) k))))) ?_
          by_cases hc182 : v76 = (-1 : Int32)
          · skip
            have ne199 : w_SPOG ≠ b65 := Nat.ne_of_lt (Nat.lt_of_lt_of_le E_w_SPOG.lt (Nat.le_trans (Nat.le_refl _) lo_b65))
            have F200 : Fld Z h77 w_SPOG "com/example/chronoquad/chronoquad/QuadOrder" "positions" "[I" (.ref r_positions_w_SPOG) := (Fld.other W77 (Fld.other W74 (Fld.other W71 (Fld.other W68 (Fld.ext E65 F_positions_57) (Or.inl ne199)) (Or.inl ne199)) (Or.inl ne199)) (Or.inl ne199))
            have ne204 : r_positions_w_SPOG ≠ b65 := Nat.ne_of_lt (Nat.lt_of_lt_of_le V_r_positions_w_SPOG.lt (Nat.le_trans (Nat.le_refl _) lo_b65))
            have A205 : Arv Z h77 r_positions_w_SPOG c_r_positions_w_SPOG .int (4 : Int32) [(.int (0 : Int32)), (.int (1 : Int32)), (.int (2 : Int32)), (.int (3 : Int32))] (.int (0 : Int32)) := (Arv.other (Arv.other (Arv.other (Arv.other (Arv.ext V_r_positions_w_SPOG E65) W68 ne204) W71 ne204) W74 ne204) W77 ne204)
            have E229 : Exa Z h77 w_SPOG "com/example/chronoquad/chronoquad/QuadOrder" := (Exa.wr W77 (Exa.wr W74 (Exa.wr W71 (Exa.wr W68 (Exa.ext E65 E_w_SPOG)))))
            obtain ⟨_, T183, L183, X183, ⟨rfl, rfl, e183⟩, st183⟩ := own_cv X80 hx hZ hown (own_w106 hw) hml (g := (mkF m 240 #[.val (.int p_0), .val (.int p_1), .val (.int p_2), .val (.int p_3), .val (.int p_4), .val (.int (0 : Int32)), .val (.ref b65), .val (.ref w_SPOG), .val (.int (0 : Int32)), .val (.int (1 : Int32)), .val (.int (2 : Int32)), .val (.int (3 : Int32)), .val (.int (3 : Int32))] [(.ref b65), (.ref w_SPOG)])) (hb hby at_240) e80 E229 [(.ref b65)] [] (lenOf own_pd0 rfl) (own_rm196 l Z a0 hw h77 w_SPOG b65 r_positions_w_SPOG c_r_positions_w_SPOG k65 v67 v70 v73 v76 F200 A205 V77 hc82 hc108 hc141 hc182)
            refine own_go (T2 := T183) (g2 := (mkF m 253 #[.val (.int p_0), .val (.int p_1), .val (.int p_2), .val (.int p_3), .val (.int p_4), .val (.int (0 : Int32)), .val (.ref b65), .val (.ref w_SPOG), .val (.int (0 : Int32)), .val (.int (1 : Int32)), .val (.int (2 : Int32)), .val (.int (3 : Int32)), .val (.int (3 : Int32))] [(.int (1 : Int32))])) (fun t k => XS.icmpNo X80.here hx rfl (hb hby at_224) rfl (teq (show v76 = (-1 : Int32) from hc182)).2 (XS.iconst X80.here hx rfl (hb hby at_227) (XS.istore X80.here hx rfl (hb hby at_228) rfl (l' := #[.val (.int p_0), .val (.int p_1), .val (.int p_2), .val (.int p_3), .val (.int p_4), .val (.int (0 : Int32)), .val (.ref b65), .val (.ref w_SPOG), .val (.int (0 : Int32)), .val (.int (1 : Int32)), .val (.int (2 : Int32)), .val (.int (3 : Int32)), .val (.int (3 : Int32))]) rfl (XS.goto X80.here hx rfl (pc0 := 230) (pc' := 236) rfl (hb hby at_230) (by decide) (by decide) (XS.aload X80.here hx rfl (hb hby at_236) rfl rfl (XS.aload X80.here hx rfl (hb hby at_238) rfl rfl (st183 _ (XS.iload X183.here hx rfl (hb hby at_243) rfl  (XS.icmpNo X183.here hx rfl (hb hby at_245) rfl (teq (show (3 : Int32) = (3 : Int32) from (by decide))).2 (XS.iconst X183.here hx rfl (hb hby at_248) (XS.goto X183.here hx rfl (pc0 := 249) (pc' := 253) rfl (hb hby at_249) (by decide) (by decide) k))))))))))) ?_
            exact own_endN X183 hx Bd.notSynchronized (t := .boolean) Bd.returns (by simp) (hb hby at_253) (z' := (1 : Int32)) rfl (by decide) (by decide) ⟨rfl, own_kpFr K77⟩
          · skip
            have ne250 : w_SPOG ≠ b65 := Nat.ne_of_lt (Nat.lt_of_lt_of_le E_w_SPOG.lt (Nat.le_trans (Nat.le_refl _) lo_b65))
            have F251 : Fld Z h77 w_SPOG "com/example/chronoquad/chronoquad/QuadOrder" "positions" "[I" (.ref r_positions_w_SPOG) := (Fld.other W77 (Fld.other W74 (Fld.other W71 (Fld.other W68 (Fld.ext E65 F_positions_57) (Or.inl ne250)) (Or.inl ne250)) (Or.inl ne250)) (Or.inl ne250))
            have ne255 : r_positions_w_SPOG ≠ b65 := Nat.ne_of_lt (Nat.lt_of_lt_of_le V_r_positions_w_SPOG.lt (Nat.le_trans (Nat.le_refl _) lo_b65))
            have A256 : Arv Z h77 r_positions_w_SPOG c_r_positions_w_SPOG .int (4 : Int32) [(.int (0 : Int32)), (.int (1 : Int32)), (.int (2 : Int32)), (.int (3 : Int32))] (.int (0 : Int32)) := (Arv.other (Arv.other (Arv.other (Arv.other (Arv.ext V_r_positions_w_SPOG E65) W68 ne255) W71 ne255) W74 ne255) W77 ne255)
            have E280 : Exa Z h77 w_SPOG "com/example/chronoquad/chronoquad/QuadOrder" := (Exa.wr W77 (Exa.wr W74 (Exa.wr W71 (Exa.wr W68 (Exa.ext E65 E_w_SPOG)))))
            obtain ⟨_, T230, L230, X230, ⟨rfl, rfl, e230⟩, st230⟩ := own_cv X80 hx hZ hown (own_w106 hw) hml (g := (mkF m 240 #[.val (.int p_0), .val (.int p_1), .val (.int p_2), .val (.int p_3), .val (.int p_4), .val (.int (0 : Int32)), .val (.ref b65), .val (.ref w_SPOG), .val (.int (0 : Int32)), .val (.int (1 : Int32)), .val (.int (2 : Int32)), .val (.int (3 : Int32)), .val (.int (4 : Int32))] [(.ref b65), (.ref w_SPOG)])) (hb hby at_240) e80 E280 [(.ref b65)] [] (lenOf own_pd0 rfl) (own_rm247 l Z a0 hw h77 w_SPOG b65 r_positions_w_SPOG c_r_positions_w_SPOG k65 v67 v70 v73 v76 F251 A256 V77 hc82 hc108 hc141 hc182)
            refine own_go (T2 := T230) (g2 := (mkF m 253 #[.val (.int p_0), .val (.int p_1), .val (.int p_2), .val (.int p_3), .val (.int p_4), .val (.int (0 : Int32)), .val (.ref b65), .val (.ref w_SPOG), .val (.int (0 : Int32)), .val (.int (1 : Int32)), .val (.int (2 : Int32)), .val (.int (3 : Int32)), .val (.int (4 : Int32))] [(.int (1 : Int32))])) (fun t k => XS.icmpYes X80.here hx rfl (pc0 := 224) (pc' := 233) rfl (hb hby at_224) rfl (feq (show ¬ (v76 = (-1 : Int32)) from hc182)).2 (by decide) (by decide) (XS.iconst X80.here hx rfl (hb hby at_233) (XS.istore X80.here hx rfl (hb hby at_234) rfl (l' := #[.val (.int p_0), .val (.int p_1), .val (.int p_2), .val (.int p_3), .val (.int p_4), .val (.int (0 : Int32)), .val (.ref b65), .val (.ref w_SPOG), .val (.int (0 : Int32)), .val (.int (1 : Int32)), .val (.int (2 : Int32)), .val (.int (3 : Int32)), .val (.int (4 : Int32))]) rfl (XS.aload X80.here hx rfl (hb hby at_236) rfl rfl (XS.aload X80.here hx rfl (hb hby at_238) rfl rfl (st230 _ (XS.iload X230.here hx rfl (hb hby at_243) rfl  (XS.icmpNo X230.here hx rfl (hb hby at_245) rfl (teq (show (4 : Int32) = (4 : Int32) from (by decide))).2 (XS.iconst X230.here hx rfl (hb hby at_248) (XS.goto X230.here hx rfl (pc0 := 249) (pc' := 253) rfl (hb hby at_249) (by decide) (by decide) k)))))))))) ?_
            exact own_endN X230 hx Bd.notSynchronized (t := .boolean) Bd.returns (by simp) (hb hby at_253) (z' := (1 : Int32)) rfl (by decide) (by decide) ⟨rfl, own_kpFr K77⟩
  · skip
    refine own_go (T2 := T77) (g2 := (mkF m 107 #[.val (.int p_0), .val (.int p_1), .val (.int p_2), .val (.int p_3), .val (.int p_4), .val (.int k64), .val (.ref b65), .unset, .unset, .unset, .unset, .unset, .unset] [(.int (1 : Int32)), (.int k64)])) (fun t k => XS.ifYes X77.here hx rfl (pc0 := 81) (pc' := 104) rfl (hb hby at_81) rfl ((if0 _ _).trans (feq (show ¬ (k64 = (0 : Int32)) from hc78)).2) (by decide) (by decide) (XS.iload X77.here hx rfl (hb hby at_104) rfl  (XS.iconst X77.here hx rfl (hb hby at_106) k))) ?_
    by_cases hc281 : k64 = (1 : Int32)
    · subst hc281
      have S282 : Sta Z h77 "com/example/chronoquad/chronoquad/QuadOrder" "POSG" "Lcom/example/chronoquad/chronoquad/QuadOrder;" (.ref w_POSG) := (Sta.wr W77 (Sta.wr W74 (Sta.wr W71 (Sta.wr W68 (Sta.ext E65 S_POSG_62)))))
      obtain ⟨T283, X283, e283, st283⟩ := getS2 X77 hx hZ hown (host := "") (Or.inl (own_wd hw 15 rfl)) Via.refl e77 S282 (g := (mkF m 110 #[.val (.int p_0), .val (.int p_1), .val (.int p_2), .val (.int p_3), .val (.int p_4), .val (.int (1 : Int32)), .val (.ref b65), .unset, .unset, .unset, .unset, .unset, .unset] [])) rfl (hb hby at_110)
      refine own_go (T2 := T283) (g2 := (mkF m 173 #[.val (.int p_0), .val (.int p_1), .val (.int p_2), .val (.int p_3), .val (.int p_4), .val (.int (1 : Int32)), .val (.ref b65), .val (.ref w_POSG), .val (.int (1 : Int32)), .val (.int (2 : Int32)), .val (.int (0 : Int32)), .val (.int (3 : Int32)), .unset] [])) (fun t k => XS.icmpNo X77.here hx rfl (hb hby at_107) rfl (teq (show (1 : Int32) = (1 : Int32) from (by decide))).2 (st283 _ (XS.astore X283.here hx rfl (hb hby at_113) rfl rfl (l' := #[.val (.int p_0), .val (.int p_1), .val (.int p_2), .val (.int p_3), .val (.int p_4), .val (.int (1 : Int32)), .val (.ref b65), .val (.ref w_POSG), .unset, .unset, .unset, .unset, .unset]) rfl (XS.iconst X283.here hx rfl (hb hby at_115) (XS.istore X283.here hx rfl (hb hby at_116) rfl (l' := #[.val (.int p_0), .val (.int p_1), .val (.int p_2), .val (.int p_3), .val (.int p_4), .val (.int (1 : Int32)), .val (.ref b65), .val (.ref w_POSG), .val (.int (1 : Int32)), .unset, .unset, .unset, .unset]) rfl (XS.iconst X283.here hx rfl (hb hby at_118) (XS.istore X283.here hx rfl (hb hby at_119) rfl (l' := #[.val (.int p_0), .val (.int p_1), .val (.int p_2), .val (.int p_3), .val (.int p_4), .val (.int (1 : Int32)), .val (.ref b65), .val (.ref w_POSG), .val (.int (1 : Int32)), .val (.int (2 : Int32)), .unset, .unset, .unset]) rfl (XS.iconst X283.here hx rfl (hb hby at_121) (XS.istore X283.here hx rfl (hb hby at_122) rfl (l' := #[.val (.int p_0), .val (.int p_1), .val (.int p_2), .val (.int p_3), .val (.int p_4), .val (.int (1 : Int32)), .val (.ref b65), .val (.ref w_POSG), .val (.int (1 : Int32)), .val (.int (2 : Int32)), .val (.int (0 : Int32)), .unset, .unset]) rfl (XS.iconst X283.here hx rfl (hb hby at_124) (XS.istore X283.here hx rfl (hb hby at_125) rfl (l' := #[.val (.int p_0), .val (.int p_1), .val (.int p_2), .val (.int p_3), .val (.int p_4), .val (.int (1 : Int32)), .val (.ref b65), .val (.ref w_POSG), .val (.int (1 : Int32)), .val (.int (2 : Int32)), .val (.int (0 : Int32)), .val (.int (3 : Int32)), .unset]) rfl (XS.goto X283.here hx rfl (pc0 := 127) (pc' := 173) rfl (hb hby at_127) (by decide) (by decide) k)))))))))))) ?_
      obtain ⟨cl284, Ar284, q284, S284, N284, H284, G284⟩ := id V77
      have hin284 : ¬ ((1 : Int32) < 0 ∨ cl284.slots.size ≤ ((1 : Int32)).toNatClampNeg) := inb_of S284 ⟨by decide, by decide⟩
      refine own_go (T2 := T283) (g2 := (mkF m 179 #[.val (.int p_0), .val (.int p_1), .val (.int p_2), .val (.int p_3), .val (.int p_4), .val (.int (1 : Int32)), .val (.ref b65), .val (.ref w_POSG), .val (.int (1 : Int32)), .val (.int (2 : Int32)), .val (.int (0 : Int32)), .val (.int (3 : Int32)), .unset] [(.int (-1 : Int32)), (.int v70)])) (fun t k => XS.aload X283.here hx rfl (hb hby at_173) rfl rfl (XS.iload X283.here hx rfl (hb hby at_175) rfl  (own_ap (X283.iaload hx (j := (1 : Int32)) (v := (.int v70)) (by rw [e283]; exact Ar284.1) (State.isArrayOf_alike hZ.alike Ar284.2.1) Ar284.2.2 hin284 (Has.at H284 hin284 rfl) rfl rfl (hb hby at_177)) (XS.iconst X283.here hx rfl (hb hby at_178) k)))) ?_
      by_cases hc285 : v70 = (-1 : Int32)
      · skip
        have ne310 : w_POSG ≠ b65 := Nat.ne_of_lt (Nat.lt_of_lt_of_le E_w_POSG.lt (Nat.le_trans (Nat.le_refl _) lo_b65))
        have F311 : Fld Z h77 w_POSG "com/example/chronoquad/chronoquad/QuadOrder" "positions" "[I" (.ref r_positions_w_POSG) := (Fld.other W77 (Fld.other W74 (Fld.other W71 (Fld.other W68 (Fld.ext E65 F_positions_63) (Or.inl ne310)) (Or.inl ne310)) (Or.inl ne310)) (Or.inl ne310))
        have ne315 : r_positions_w_POSG ≠ b65 := Nat.ne_of_lt (Nat.lt_of_lt_of_le V_r_positions_w_POSG.lt (Nat.le_trans (Nat.le_refl _) lo_b65))
        have A316 : Arv Z h77 r_positions_w_POSG c_r_positions_w_POSG .int (4 : Int32) [(.int (1 : Int32)), (.int (2 : Int32)), (.int (0 : Int32)), (.int (3 : Int32))] (.int (0 : Int32)) := (Arv.other (Arv.other (Arv.other (Arv.other (Arv.ext V_r_positions_w_POSG E65) W68 ne315) W71 ne315) W74 ne315) W77 ne315)
        have E328 : Exa Z h77 w_POSG "com/example/chronoquad/chronoquad/QuadOrder" := (Exa.wr W77 (Exa.wr W74 (Exa.wr W71 (Exa.wr W68 (Exa.ext E65 E_w_POSG)))))
        obtain ⟨_, T286, L286, X286, ⟨rfl, rfl, e286⟩, st286⟩ := own_cv X283 hx hZ hown (own_w106 hw) hml (g := (mkF m 240 #[.val (.int p_0), .val (.int p_1), .val (.int p_2), .val (.int p_3), .val (.int p_4), .val (.int (1 : Int32)), .val (.ref b65), .val (.ref w_POSG), .val (.int (1 : Int32)), .val (.int (2 : Int32)), .val (.int (0 : Int32)), .val (.int (3 : Int32)), .val (.int (0 : Int32))] [(.ref b65), (.ref w_POSG)])) (hb hby at_240) e283 E328 [(.ref b65)] [] (lenOf own_pd0 rfl) (own_rm307 l Z a0 hw h77 w_POSG b65 r_positions_w_POSG c_r_positions_w_POSG k65 v67 v70 v73 v76 F311 A316 V77 hc285)
        refine own_go (T2 := T286) (g2 := (mkF m 253 #[.val (.int p_0), .val (.int p_1), .val (.int p_2), .val (.int p_3), .val (.int p_4), .val (.int (1 : Int32)), .val (.ref b65), .val (.ref w_POSG), .val (.int (1 : Int32)), .val (.int (2 : Int32)), .val (.int (0 : Int32)), .val (.int (3 : Int32)), .val (.int (0 : Int32))] [(.int (1 : Int32))])) (fun t k => XS.icmpNo X283.here hx rfl (hb hby at_179) rfl (teq (show v70 = (-1 : Int32) from hc285)).2 (XS.iconst X283.here hx rfl (hb hby at_182) (XS.istore X283.here hx rfl (hb hby at_183) rfl (l' := #[.val (.int p_0), .val (.int p_1), .val (.int p_2), .val (.int p_3), .val (.int p_4), .val (.int (1 : Int32)), .val (.ref b65), .val (.ref w_POSG), .val (.int (1 : Int32)), .val (.int (2 : Int32)), .val (.int (0 : Int32)), .val (.int (3 : Int32)), .val (.int (0 : Int32))]) rfl (XS.goto X283.here hx rfl (pc0 := 185) (pc' := 236) rfl (hb hby at_185) (by decide) (by decide) (XS.aload X283.here hx rfl (hb hby at_236) rfl rfl (XS.aload X283.here hx rfl (hb hby at_238) rfl rfl (st286 _ (XS.iload X286.here hx rfl (hb hby at_243) rfl  (XS.icmpNo X286.here hx rfl (hb hby at_245) rfl (teq (show (0 : Int32) = (0 : Int32) from (by decide))).2 (XS.iconst X286.here hx rfl (hb hby at_248) (XS.goto X286.here hx rfl (pc0 := 249) (pc' := 253) rfl (hb hby at_249) (by decide) (by decide) k))))))))))) ?_
        exact own_endN X286 hx Bd.notSynchronized (t := .boolean) Bd.returns (by simp) (hb hby at_253) (z' := (1 : Int32)) rfl (by decide) (by decide) ⟨rfl, own_kpFr K77⟩
      · skip
        obtain ⟨cl329, Ar329, q329, S329, N329, H329, G329⟩ := id V77
        have hin329 : ¬ ((2 : Int32) < 0 ∨ cl329.slots.size ≤ ((2 : Int32)).toNatClampNeg) := inb_of S329 ⟨by decide, by decide⟩
        refine own_go (T2 := T283) (g2 := (mkF m 194 #[.val (.int p_0), .val (.int p_1), .val (.int p_2), .val (.int p_3), .val (.int p_4), .val (.int (1 : Int32)), .val (.ref b65), .val (.ref w_POSG), .val (.int (1 : Int32)), .val (.int (2 : Int32)), .val (.int (0 : Int32)), .val (.int (3 : Int32)), .unset] [(.int (-1 : Int32)), (.int v73)])) (fun t k => XS.icmpYes X283.here hx rfl (pc0 := 179) (pc' := 188) rfl (hb hby at_179) rfl (feq (show ¬ (v70 = (-1 : Int32)) from hc285)).2 (by decide) (by decide) (XS.aload X283.here hx rfl (hb hby at_188) rfl rfl (XS.iload X283.here hx rfl (hb hby at_190) rfl  (own_ap (X283.iaload hx (j := (2 : Int32)) (v := (.int v73)) (by rw [e283]; exact Ar329.1) (State.isArrayOf_alike hZ.alike Ar329.2.1) Ar329.2.2 hin329 (Has.at H329 hin329 rfl) rfl rfl (hb hby at_192)) (XS.iconst X283.here hx rfl (hb hby at_193) k))))) ?_
        by_cases hc330 : v73 = (-1 : Int32)
        · skip
          have ne359 : w_POSG ≠ b65 := Nat.ne_of_lt (Nat.lt_of_lt_of_le E_w_POSG.lt (Nat.le_trans (Nat.le_refl _) lo_b65))
          have F360 : Fld Z h77 w_POSG "com/example/chronoquad/chronoquad/QuadOrder" "positions" "[I" (.ref r_positions_w_POSG) := (Fld.other W77 (Fld.other W74 (Fld.other W71 (Fld.other W68 (Fld.ext E65 F_positions_63) (Or.inl ne359)) (Or.inl ne359)) (Or.inl ne359)) (Or.inl ne359))
          have ne364 : r_positions_w_POSG ≠ b65 := Nat.ne_of_lt (Nat.lt_of_lt_of_le V_r_positions_w_POSG.lt (Nat.le_trans (Nat.le_refl _) lo_b65))
          have A365 : Arv Z h77 r_positions_w_POSG c_r_positions_w_POSG .int (4 : Int32) [(.int (1 : Int32)), (.int (2 : Int32)), (.int (0 : Int32)), (.int (3 : Int32))] (.int (0 : Int32)) := (Arv.other (Arv.other (Arv.other (Arv.other (Arv.ext V_r_positions_w_POSG E65) W68 ne364) W71 ne364) W74 ne364) W77 ne364)
          have E381 : Exa Z h77 w_POSG "com/example/chronoquad/chronoquad/QuadOrder" := (Exa.wr W77 (Exa.wr W74 (Exa.wr W71 (Exa.wr W68 (Exa.ext E65 E_w_POSG)))))
          obtain ⟨_, T331, L331, X331, ⟨rfl, rfl, e331⟩, st331⟩ := own_cv X283 hx hZ hown (own_w106 hw) hml (g := (mkF m 240 #[.val (.int p_0), .val (.int p_1), .val (.int p_2), .val (.int p_3), .val (.int p_4), .val (.int (1 : Int32)), .val (.ref b65), .val (.ref w_POSG), .val (.int (1 : Int32)), .val (.int (2 : Int32)), .val (.int (0 : Int32)), .val (.int (3 : Int32)), .val (.int (1 : Int32))] [(.ref b65), (.ref w_POSG)])) (hb hby at_240) e283 E381 [(.ref b65)] [] (lenOf own_pd0 rfl) (own_rm356 l Z a0 hw h77 w_POSG b65 r_positions_w_POSG c_r_positions_w_POSG k65 v67 v70 v73 v76 F360 A365 V77 hc285 hc330)
          refine own_go (T2 := T331) (g2 := (mkF m 253 #[.val (.int p_0), .val (.int p_1), .val (.int p_2), .val (.int p_3), .val (.int p_4), .val (.int (1 : Int32)), .val (.ref b65), .val (.ref w_POSG), .val (.int (1 : Int32)), .val (.int (2 : Int32)), .val (.int (0 : Int32)), .val (.int (3 : Int32)), .val (.int (1 : Int32))] [(.int (1 : Int32))])) (fun t k => XS.icmpNo X283.here hx rfl (hb hby at_194) rfl (teq (show v73 = (-1 : Int32) from hc330)).2 (XS.iconst X283.here hx rfl (hb hby at_197) (XS.istore X283.here hx rfl (hb hby at_198) rfl (l' := #[.val (.int p_0), .val (.int p_1), .val (.int p_2), .val (.int p_3), .val (.int p_4), .val (.int (1 : Int32)), .val (.ref b65), .val (.ref w_POSG), .val (.int (1 : Int32)), .val (.int (2 : Int32)), .val (.int (0 : Int32)), .val (.int (3 : Int32)), .val (.int (1 : Int32))]) rfl (XS.goto X283.here hx rfl (pc0 := 200) (pc' := 236) rfl (hb hby at_200) (by decide) (by decide) (XS.aload X283.here hx rfl (hb hby at_236) rfl rfl (XS.aload X283.here hx rfl (hb hby at_238) rfl rfl (st331 _ (XS.iload X331.here hx rfl (hb hby at_243) rfl  (XS.icmpNo X331.here hx rfl (hb hby at_245) rfl (teq (show (1 : Int32) = (1 : Int32) from (by decide))).2 (XS.iconst X331.here hx rfl (hb hby at_248) (XS.goto X331.here hx rfl (pc0 := 249) (pc' := 253) rfl (hb hby at_249) (by decide) (by decide) k))))))))))) ?_
          exact own_endN X331 hx Bd.notSynchronized (t := .boolean) Bd.returns (by simp) (hb hby at_253) (z' := (1 : Int32)) rfl (by decide) (by decide) ⟨rfl, own_kpFr K77⟩
        · skip
          obtain ⟨cl382, Ar382, q382, S382, N382, H382, G382⟩ := id V77
          have hin382 : ¬ ((0 : Int32) < 0 ∨ cl382.slots.size ≤ ((0 : Int32)).toNatClampNeg) := inb_of S382 ⟨by decide, by decide⟩
          refine own_go (T2 := T283) (g2 := (mkF m 209 #[.val (.int p_0), .val (.int p_1), .val (.int p_2), .val (.int p_3), .val (.int p_4), .val (.int (1 : Int32)), .val (.ref b65), .val (.ref w_POSG), .val (.int (1 : Int32)), .val (.int (2 : Int32)), .val (.int (0 : Int32)), .val (.int (3 : Int32)), .unset] [(.int (-1 : Int32)), (.int v67)])) (fun t k => XS.icmpYes X283.here hx rfl (pc0 := 194) (pc' := 203) rfl (hb hby at_194) rfl (feq (show ¬ (v73 = (-1 : Int32)) from hc330)).2 (by decide) (by decide) (XS.aload X283.here hx rfl (hb hby at_203) rfl rfl (XS.iload X283.here hx rfl (hb hby at_205) rfl  (own_ap (X283.iaload hx (j := (0 : Int32)) (v := (.int v67)) (by rw [e283]; exact Ar382.1) (State.isArrayOf_alike hZ.alike Ar382.2.1) Ar382.2.2 hin382 (Has.at H382 hin382 rfl) rfl rfl (hb hby at_207)) (XS.iconst X283.here hx rfl (hb hby at_208) k))))) ?_
          by_cases hc383 : v67 = (-1 : Int32)
          · skip
            have ne416 : w_POSG ≠ b65 := Nat.ne_of_lt (Nat.lt_of_lt_of_le E_w_POSG.lt (Nat.le_trans (Nat.le_refl _) lo_b65))
            have F417 : Fld Z h77 w_POSG "com/example/chronoquad/chronoquad/QuadOrder" "positions" "[I" (.ref r_positions_w_POSG) := (Fld.other W77 (Fld.other W74 (Fld.other W71 (Fld.other W68 (Fld.ext E65 F_positions_63) (Or.inl ne416)) (Or.inl ne416)) (Or.inl ne416)) (Or.inl ne416))
            have ne421 : r_positions_w_POSG ≠ b65 := Nat.ne_of_lt (Nat.lt_of_lt_of_le V_r_positions_w_POSG.lt (Nat.le_trans (Nat.le_refl _) lo_b65))
            have A422 : Arv Z h77 r_positions_w_POSG c_r_positions_w_POSG .int (4 : Int32) [(.int (1 : Int32)), (.int (2 : Int32)), (.int (0 : Int32)), (.int (3 : Int32))] (.int (0 : Int32)) := (Arv.other (Arv.other (Arv.other (Arv.other (Arv.ext V_r_positions_w_POSG E65) W68 ne421) W71 ne421) W74 ne421) W77 ne421)
            have E442 : Exa Z h77 w_POSG "com/example/chronoquad/chronoquad/QuadOrder" := (Exa.wr W77 (Exa.wr W74 (Exa.wr W71 (Exa.wr W68 (Exa.ext E65 E_w_POSG)))))
            obtain ⟨_, T384, L384, X384, ⟨rfl, rfl, e384⟩, st384⟩ := own_cv X283 hx hZ hown (own_w106 hw) hml (g := (mkF m 240 #[.val (.int p_0), .val (.int p_1), .val (.int p_2), .val (.int p_3), .val (.int p_4), .val (.int (1 : Int32)), .val (.ref b65), .val (.ref w_POSG), .val (.int (1 : Int32)), .val (.int (2 : Int32)), .val (.int (0 : Int32)), .val (.int (3 : Int32)), .val (.int (2 : Int32))] [(.ref b65), (.ref w_POSG)])) (hb hby at_240) e283 E442 [(.ref b65)] [] (lenOf own_pd0 rfl) (own_rm413 l Z a0 hw h77 w_POSG b65 r_positions_w_POSG c_r_positions_w_POSG k65 v67 v70 v73 v76 F417 A422 V77 hc285 hc330 hc383)
            refine own_go (T2 := T384) (g2 := (mkF m 253 #[.val (.int p_0), .val (.int p_1), .val (.int p_2), .val (.int p_3), .val (.int p_4), .val (.int (1 : Int32)), .val (.ref b65), .val (.ref w_POSG), .val (.int (1 : Int32)), .val (.int (2 : Int32)), .val (.int (0 : Int32)), .val (.int (3 : Int32)), .val (.int (2 : Int32))] [(.int (1 : Int32))])) (fun t k => XS.icmpNo X283.here hx rfl (hb hby at_209) rfl (teq (show v67 = (-1 : Int32) from hc383)).2 (XS.iconst X283.here hx rfl (hb hby at_212) (XS.istore X283.here hx rfl (hb hby at_213) rfl (l' := #[.val (.int p_0), .val (.int p_1), .val (.int p_2), .val (.int p_3), .val (.int p_4), .val (.int (1 : Int32)), .val (.ref b65), .val (.ref w_POSG), .val (.int (1 : Int32)), .val (.int (2 : Int32)), .val (.int (0 : Int32)), .val (.int (3 : Int32)), .val (.int (2 : Int32))]) rfl (XS.goto X283.here hx rfl (pc0 := 215) (pc' := 236) rfl (hb hby at_215) (by decide) (by decide) (XS.aload X283.here hx rfl (hb hby at_236) rfl rfl (XS.aload X283.here hx rfl (hb hby at_238) rfl rfl (st384 _ (XS.iload X384.here hx rfl (hb hby at_243) rfl  (XS.icmpNo X384.here hx rfl (hb hby at_245) rfl (teq (show (2 : Int32) = (2 : Int32) from (by decide))).2 (XS.iconst X384.here hx rfl (hb hby at_248) (XS.goto X384.here hx rfl (pc0 := 249) (pc' := 253) rfl (hb hby at_249) (by decide) (by decide) k))))))))))) ?_
            exact own_endN X384 hx Bd.notSynchronized (t := .boolean) Bd.returns (by simp) (hb hby at_253) (z' := (1 : Int32)) rfl (by decide) (by decide) ⟨rfl, own_kpFr K77⟩
          · skip
            obtain ⟨cl443, Ar443, q443, S443, N443, H443, G443⟩ := id V77
            have hin443 : ¬ ((3 : Int32) < 0 ∨ cl443.slots.size ≤ ((3 : Int32)).toNatClampNeg) := inb_of S443 ⟨by decide, by decide⟩
            refine own_go (T2 := T283) (g2 := (mkF m 224 #[.val (.int p_0), .val (.int p_1), .val (.int p_2), .val (.int p_3), .val (.int p_4), .val (.int (1 : Int32)), .val (.ref b65), .val (.ref w_POSG), .val (.int (1 : Int32)), .val (.int (2 : Int32)), .val (.int (0 : Int32)), .val (.int (3 : Int32)), .unset] [(.int (-1 : Int32)), (.int v76)])) (fun t k => XS.icmpYes X283.here hx rfl (pc0 := 209) (pc' := 218) rfl (hb hby at_209) rfl (feq (show ¬ (v67 = (-1 : Int32)) from hc383)).2 (by decide) (by decide) (XS.aload X283.here hx rfl (hb hby at_218) rfl rfl (XS.iload X283.here hx rfl (hb hby at_220) rfl  (own_ap (X283.iaload hx (j := (3 : Int32)) (v := (.int v76)) (by rw [e283]; exact Ar443.1) (State.isArrayOf_alike hZ.alike Ar443.2.1) Ar443.2.2 hin443 (Has.at H443 hin443 rfl) rfl rfl (hb hby at_222)) (XS.iconst X283.here hx rfl (hb hby at_223) k))))) ?_
            by_cases hc444 : v76 = (-1 : Int32)
            · skip
              have ne481 : w_POSG ≠ b65 := Nat.ne_of_lt (Nat.lt_of_lt_of_le E_w_POSG.lt (Nat.le_trans (Nat.le_refl _) lo_b65))
              have F482 : Fld Z h77 w_POSG "com/example/chronoquad/chronoquad/QuadOrder" "positions" "[I" (.ref r_positions_w_POSG) := (Fld.other W77 (Fld.other W74 (Fld.other W71 (Fld.other W68 (Fld.ext E65 F_positions_63) (Or.inl ne481)) (Or.inl ne481)) (Or.inl ne481)) (Or.inl ne481))
              have ne486 : r_positions_w_POSG ≠ b65 := Nat.ne_of_lt (Nat.lt_of_lt_of_le V_r_positions_w_POSG.lt (Nat.le_trans (Nat.le_refl _) lo_b65))
              have A487 : Arv Z h77 r_positions_w_POSG c_r_positions_w_POSG .int (4 : Int32) [(.int (1 : Int32)), (.int (2 : Int32)), (.int (0 : Int32)), (.int (3 : Int32))] (.int (0 : Int32)) := (Arv.other (Arv.other (Arv.other (Arv.other (Arv.ext V_r_positions_w_POSG E65) W68 ne486) W71 ne486) W74 ne486) W77 ne486)
              have E511 : Exa Z h77 w_POSG "com/example/chronoquad/chronoquad/QuadOrder" := (Exa.wr W77 (Exa.wr W74 (Exa.wr W71 (Exa.wr W68 (Exa.ext E65 E_w_POSG)))))
              obtain ⟨_, T445, L445, X445, ⟨rfl, rfl, e445⟩, st445⟩ := own_cv X283 hx hZ hown (own_w106 hw) hml (g := (mkF m 240 #[.val (.int p_0), .val (.int p_1), .val (.int p_2), .val (.int p_3), .val (.int p_4), .val (.int (1 : Int32)), .val (.ref b65), .val (.ref w_POSG), .val (.int (1 : Int32)), .val (.int (2 : Int32)), .val (.int (0 : Int32)), .val (.int (3 : Int32)), .val (.int (3 : Int32))] [(.ref b65), (.ref w_POSG)])) (hb hby at_240) e283 E511 [(.ref b65)] [] (lenOf own_pd0 rfl) (own_rm478 l Z a0 hw h77 w_POSG b65 r_positions_w_POSG c_r_positions_w_POSG k65 v67 v70 v73 v76 F482 A487 V77 hc285 hc330 hc383 hc444)
              refine own_go (T2 := T445) (g2 := (mkF m 253 #[.val (.int p_0), .val (.int p_1), .val (.int p_2), .val (.int p_3), .val (.int p_4), .val (.int (1 : Int32)), .val (.ref b65), .val (.ref w_POSG), .val (.int (1 : Int32)), .val (.int (2 : Int32)), .val (.int (0 : Int32)), .val (.int (3 : Int32)), .val (.int (3 : Int32))] [(.int (1 : Int32))])) (fun t k => XS.icmpNo X283.here hx rfl (hb hby at_224) rfl (teq (show v76 = (-1 : Int32) from hc444)).2 (XS.iconst X283.here hx rfl (hb hby at_227) (XS.istore X283.here hx rfl (hb hby at_228) rfl (l' := #[.val (.int p_0), .val (.int p_1), .val (.int p_2), .val (.int p_3), .val (.int p_4), .val (.int (1 : Int32)), .val (.ref b65), .val (.ref w_POSG), .val (.int (1 : Int32)), .val (.int (2 : Int32)), .val (.int (0 : Int32)), .val (.int (3 : Int32)), .val (.int (3 : Int32))]) rfl (XS.goto X283.here hx rfl (pc0 := 230) (pc' := 236) rfl (hb hby at_230) (by decide) (by decide) (XS.aload X283.here hx rfl (hb hby at_236) rfl rfl (XS.aload X283.here hx rfl (hb hby at_238) rfl rfl (st445 _ (XS.iload X445.here hx rfl (hb hby at_243) rfl  (XS.icmpNo X445.here hx rfl (hb hby at_245) rfl (teq (show (3 : Int32) = (3 : Int32) from (by decide))).2 (XS.iconst X445.here hx rfl (hb hby at_248) (XS.goto X445.here hx rfl (pc0 := 249) (pc' := 253) rfl (hb hby at_249) (by decide) (by decide) k))))))))))) ?_
              exact own_endN X445 hx Bd.notSynchronized (t := .boolean) Bd.returns (by simp) (hb hby at_253) (z' := (1 : Int32)) rfl (by decide) (by decide) ⟨rfl, own_kpFr K77⟩
            · skip
              have ne552 : w_POSG ≠ b65 := Nat.ne_of_lt (Nat.lt_of_lt_of_le E_w_POSG.lt (Nat.le_trans (Nat.le_refl _) lo_b65))
              have F553 : Fld Z h77 w_POSG "com/example/chronoquad/chronoquad/QuadOrder" "positions" "[I" (.ref r_positions_w_POSG) := (Fld.other W77 (Fld.other W74 (Fld.other W71 (Fld.other W68 (Fld.ext E65 F_positions_63) (Or.inl ne552)) (Or.inl ne552)) (Or.inl ne552)) (Or.inl ne552))
              have ne557 : r_positions_w_POSG ≠ b65 := Nat.ne_of_lt (Nat.lt_of_lt_of_le V_r_positions_w_POSG.lt (Nat.le_trans (Nat.le_refl _) lo_b65))
              have A558 : Arv Z h77 r_positions_w_POSG c_r_positions_w_POSG .int (4 : Int32) [(.int (1 : Int32)), (.int (2 : Int32)), (.int (0 : Int32)), (.int (3 : Int32))] (.int (0 : Int32)) := (Arv.other (Arv.other (Arv.other (Arv.other (Arv.ext V_r_positions_w_POSG E65) W68 ne557) W71 ne557) W74 ne557) W77 ne557)
              have E582 : Exa Z h77 w_POSG "com/example/chronoquad/chronoquad/QuadOrder" := (Exa.wr W77 (Exa.wr W74 (Exa.wr W71 (Exa.wr W68 (Exa.ext E65 E_w_POSG)))))
              obtain ⟨_, T512, L512, X512, ⟨rfl, rfl, e512⟩, st512⟩ := own_cv X283 hx hZ hown (own_w106 hw) hml (g := (mkF m 240 #[.val (.int p_0), .val (.int p_1), .val (.int p_2), .val (.int p_3), .val (.int p_4), .val (.int (1 : Int32)), .val (.ref b65), .val (.ref w_POSG), .val (.int (1 : Int32)), .val (.int (2 : Int32)), .val (.int (0 : Int32)), .val (.int (3 : Int32)), .val (.int (4 : Int32))] [(.ref b65), (.ref w_POSG)])) (hb hby at_240) e283 E582 [(.ref b65)] [] (lenOf own_pd0 rfl) (own_rm549 l Z a0 hw h77 w_POSG b65 r_positions_w_POSG c_r_positions_w_POSG k65 v67 v70 v73 v76 F553 A558 V77 hc285 hc330 hc383 hc444)
              refine own_go (T2 := T512) (g2 := (mkF m 253 #[.val (.int p_0), .val (.int p_1), .val (.int p_2), .val (.int p_3), .val (.int p_4), .val (.int (1 : Int32)), .val (.ref b65), .val (.ref w_POSG), .val (.int (1 : Int32)), .val (.int (2 : Int32)), .val (.int (0 : Int32)), .val (.int (3 : Int32)), .val (.int (4 : Int32))] [(.int (1 : Int32))])) (fun t k => XS.icmpYes X283.here hx rfl (pc0 := 224) (pc' := 233) rfl (hb hby at_224) rfl (feq (show ¬ (v76 = (-1 : Int32)) from hc444)).2 (by decide) (by decide) (XS.iconst X283.here hx rfl (hb hby at_233) (XS.istore X283.here hx rfl (hb hby at_234) rfl (l' := #[.val (.int p_0), .val (.int p_1), .val (.int p_2), .val (.int p_3), .val (.int p_4), .val (.int (1 : Int32)), .val (.ref b65), .val (.ref w_POSG), .val (.int (1 : Int32)), .val (.int (2 : Int32)), .val (.int (0 : Int32)), .val (.int (3 : Int32)), .val (.int (4 : Int32))]) rfl (XS.aload X283.here hx rfl (hb hby at_236) rfl rfl (XS.aload X283.here hx rfl (hb hby at_238) rfl rfl (st512 _ (XS.iload X512.here hx rfl (hb hby at_243) rfl  (XS.icmpNo X512.here hx rfl (hb hby at_245) rfl (teq (show (4 : Int32) = (4 : Int32) from (by decide))).2 (XS.iconst X512.here hx rfl (hb hby at_248) (XS.goto X512.here hx rfl (pc0 := 249) (pc' := 253) rfl (hb hby at_249) (by decide) (by decide) k)))))))))) ?_
              exact own_endN X512 hx Bd.notSynchronized (t := .boolean) Bd.returns (by simp) (hb hby at_253) (z' := (1 : Int32)) rfl (by decide) (by decide) ⟨rfl, own_kpFr K77⟩
    · skip
      refine own_go (T2 := T77) (g2 := (mkF m 133 #[.val (.int p_0), .val (.int p_1), .val (.int p_2), .val (.int p_3), .val (.int p_4), .val (.int k64), .val (.ref b65), .unset, .unset, .unset, .unset, .unset, .unset] [(.int (2 : Int32)), (.int k64)])) (fun t k => XS.icmpYes X77.here hx rfl (pc0 := 107) (pc' := 130) rfl (hb hby at_107) rfl (feq (show ¬ (k64 = (1 : Int32)) from hc281)).2 (by decide) (by decide) (XS.iload X77.here hx rfl (hb hby at_130) rfl  (XS.iconst X77.here hx rfl (hb hby at_132) k))) ?_
      by_cases hc583 : k64 = (2 : Int32)
      · subst hc583
        have S584 : Sta Z h77 "com/example/chronoquad/chronoquad/QuadOrder" "OSPG" "Lcom/example/chronoquad/chronoquad/QuadOrder;" (.ref w_OSPG) := (Sta.wr W77 (Sta.wr W74 (Sta.wr W71 (Sta.wr W68 (Sta.ext E65 S_OSPG_60)))))
        obtain ⟨T585, X585, e585, st585⟩ := getS2 X77 hx hZ hown (host := "") (Or.inl (own_wd hw 13 rfl)) Via.refl e77 S584 (g := (mkF m 136 #[.val (.int p_0), .val (.int p_1), .val (.int p_2), .val (.int p_3), .val (.int p_4), .val (.int (2 : Int32)), .val (.ref b65), .unset, .unset, .unset, .unset, .unset, .unset] [])) rfl (hb hby at_136)
        refine own_go (T2 := T585) (g2 := (mkF m 173 #[.val (.int p_0), .val (.int p_1), .val (.int p_2), .val (.int p_3), .val (.int p_4), .val (.int (2 : Int32)), .val (.ref b65), .val (.ref w_OSPG), .val (.int (2 : Int32)), .val (.int (0 : Int32)), .val (.int (1 : Int32)), .val (.int (3 : Int32)), .unset] [])) (fun t k => XS.icmpNo X77.here hx rfl (hb hby at_133) rfl (teq (show (2 : Int32) = (2 : Int32) from (by decide))).2 (st585 _ (XS.astore X585.here hx rfl (hb hby at_139) rfl rfl (l' := #[.val (.int p_0), .val (.int p_1), .val (.int p_2), .val (.int p_3), .val (.int p_4), .val (.int (2 : Int32)), .val (.ref b65), .val (.ref w_OSPG), .unset, .unset, .unset, .unset, .unset]) rfl (XS.iconst X585.here hx rfl (hb hby at_141) (XS.istore X585.here hx rfl (hb hby at_142) rfl (l' := #[.val (.int p_0), .val (.int p_1), .val (.int p_2), .val (.int p_3), .val (.int p_4), .val (.int (2 : Int32)), .val (.ref b65), .val (.ref w_OSPG), .val (.int (2 : Int32)), .unset, .unset, .unset, .unset]) rfl (XS.iconst X585.here hx rfl (hb hby at_144) (XS.istore X585.here hx rfl (hb hby at_145) rfl (l' := #[.val (.int p_0), .val (.int p_1), .val (.int p_2), .val (.int p_3), .val (.int p_4), .val (.int (2 : Int32)), .val (.ref b65), .val (.ref w_OSPG), .val (.int (2 : Int32)), .val (.int (0 : Int32)), .unset, .unset, .unset]) rfl (XS.iconst X585.here hx rfl (hb hby at_147) (XS.istore X585.here hx rfl (hb hby at_148) rfl (l' := #[.val (.int p_0), .val (.int p_1), .val (.int p_2), .val (.int p_3), .val (.int p_4), .val (.int (2 : Int32)), .val (.ref b65), .val (.ref w_OSPG), .val (.int (2 : Int32)), .val (.int (0 : Int32)), .val (.int (1 : Int32)), .unset, .unset]) rfl (XS.iconst X585.here hx rfl (hb hby at_150) (XS.istore X585.here hx rfl (hb hby at_151) rfl (l' := #[.val (.int p_0), .val (.int p_1), .val (.int p_2), .val (.int p_3), .val (.int p_4), .val (.int (2 : Int32)), .val (.ref b65), .val (.ref w_OSPG), .val (.int (2 : Int32)), .val (.int (0 : Int32)), .val (.int (1 : Int32)), .val (.int (3 : Int32)), .unset]) rfl (XS.goto X585.here hx rfl (pc0 := 153) (pc' := 173) rfl (hb hby at_153) (by decide) (by decide) k)))))))))))) ?_
        obtain ⟨cl586, Ar586, q586, S586, N586, H586, G586⟩ := id V77
        have hin586 : ¬ ((2 : Int32) < 0 ∨ cl586.slots.size ≤ ((2 : Int32)).toNatClampNeg) := inb_of S586 ⟨by decide, by decide⟩
        refine own_go (T2 := T585) (g2 := (mkF m 179 #[.val (.int p_0), .val (.int p_1), .val (.int p_2), .val (.int p_3), .val (.int p_4), .val (.int (2 : Int32)), .val (.ref b65), .val (.ref w_OSPG), .val (.int (2 : Int32)), .val (.int (0 : Int32)), .val (.int (1 : Int32)), .val (.int (3 : Int32)), .unset] [(.int (-1 : Int32)), (.int v73)])) (fun t k => XS.aload X585.here hx rfl (hb hby at_173) rfl rfl (XS.iload X585.here hx rfl (hb hby at_175) rfl  (own_ap (X585.iaload hx (j := (2 : Int32)) (v := (.int v73)) (by rw [e585]; exact Ar586.1) (State.isArrayOf_alike hZ.alike Ar586.2.1) Ar586.2.2 hin586 (Has.at H586 hin586 rfl) rfl rfl (hb hby at_177)) (XS.iconst X585.here hx rfl (hb hby at_178) k)))) ?_
        by_cases hc587 : v73 = (-1 : Int32)
        · skip
          have ne632 : w_OSPG ≠ b65 := Nat.ne_of_lt (Nat.lt_of_lt_of_le E_w_OSPG.lt (Nat.le_trans (Nat.le_refl _) lo_b65))
          have F633 : Fld Z h77 w_OSPG "com/example/chronoquad/chronoquad/QuadOrder" "positions" "[I" (.ref r_positions_w_OSPG) := (Fld.other W77 (Fld.other W74 (Fld.other W71 (Fld.other W68 (Fld.ext E65 F_positions_61) (Or.inl ne632)) (Or.inl ne632)) (Or.inl ne632)) (Or.inl ne632))
          have ne637 : r_positions_w_OSPG ≠ b65 := Nat.ne_of_lt (Nat.lt_of_lt_of_le V_r_positions_w_OSPG.lt (Nat.le_trans (Nat.le_refl _) lo_b65))
          have A638 : Arv Z h77 r_positions_w_OSPG c_r_positions_w_OSPG .int (4 : Int32) [(.int (2 : Int32)), (.int (0 : Int32)), (.int (1 : Int32)), (.int (3 : Int32))] (.int (0 : Int32)) := (Arv.other (Arv.other (Arv.other (Arv.other (Arv.ext V_r_positions_w_OSPG E65) W68 ne637) W71 ne637) W74 ne637) W77 ne637)
          have E650 : Exa Z h77 w_OSPG "com/example/chronoquad/chronoquad/QuadOrder" := (Exa.wr W77 (Exa.wr W74 (Exa.wr W71 (Exa.wr W68 (Exa.ext E65 E_w_OSPG)))))
          obtain ⟨_, T588, L588, X588, ⟨rfl, rfl, e588⟩, st588⟩ := own_cv X585 hx hZ hown (own_w106 hw) hml (g := (mkF m 240 #[.val (.int p_0), .val (.int p_1), .val (.int p_2), .val (.int p_3), .val (.int p_4), .val (.int (2 : Int32)), .val (.ref b65), .val (.ref w_OSPG), .val (.int (2 : Int32)), .val (.int (0 : Int32)), .val (.int (1 : Int32)), .val (.int (3 : Int32)), .val (.int (0 : Int32))] [(.ref b65), (.ref w_OSPG)])) (hb hby at_240) e585 E650 [(.ref b65)] [] (lenOf own_pd0 rfl) (own_rm629 l Z a0 hw h77 w_OSPG b65 r_positions_w_OSPG c_r_positions_w_OSPG k65 v67 v70 v73 v76 F633 A638 V77 hc587)
          refine own_go (T2 := T588) (g2 := (mkF m 253 #[.val (.int p_0), .val (.int p_1), .val (.int p_2), .val (.int p_3), .val (.int p_4), .val (.int (2 : Int32)), .val (.ref b65), .val (.ref w_OSPG), .val (.int (2 : Int32)), .val (.int (0 : Int32)), .val (.int (1 : Int32)), .val (.int (3 : Int32)), .val (.int (0 : Int32))] [(.int (1 : Int32))])) (fun t k => XS.icmpNo X585.here hx rfl (hb hby at_179) rfl (teq (show v73 = (-1 : Int32) from hc587)).2 (XS.iconst X585.here hx rfl (hb hby at_182) (XS.istore X585.here hx rfl (hb hby at_183) rfl (l' := #[.val (.int p_0), .val (.int p_1), .val (.int p_2), .val (.int p_3), .val (.int p_4), .val (.int (2 : Int32)), .val (.ref b65), .val (.ref w_OSPG), .val (.int (2 : Int32)), .val (.int (0 : Int32)), .val (.int (1 : Int32)), .val (.int (3 : Int32)), .val (.int (0 : Int32))]) rfl (XS.goto X585.here hx rfl (pc0 := 185) (pc' := 236) rfl (hb hby at_185) (by decide) (by decide) (XS.aload X585.here hx rfl (hb hby at_236) rfl rfl (XS.aload X585.here hx rfl (hb hby at_238) rfl rfl (st588 _ (XS.iload X588.here hx rfl (hb hby at_243) rfl  (XS.icmpNo X588.here hx rfl (hb hby at_245) rfl (teq (show (0 : Int32) = (0 : Int32) from (by decide))).2 (XS.iconst X588.here hx rfl (hb hby at_248) (XS.goto X588.here hx rfl (pc0 := 249) (pc' := 253) rfl (hb hby at_249) (by decide) (by decide) k))))))))))) ?_
          exact own_endN X588 hx Bd.notSynchronized (t := .boolean) Bd.returns (by simp) (hb hby at_253) (z' := (1 : Int32)) rfl (by decide) (by decide) ⟨rfl, own_kpFr K77⟩
        · skip
          obtain ⟨cl651, Ar651, q651, S651, N651, H651, G651⟩ := id V77
          have hin651 : ¬ ((0 : Int32) < 0 ∨ cl651.slots.size ≤ ((0 : Int32)).toNatClampNeg) := inb_of S651 ⟨by decide, by decide⟩
          refine own_go (T2 := T585) (g2 := (mkF m 194 #[.val (.int p_0), .val (.int p_1), .val (.int p_2), .val (.int p_3), .val (.int p_4), .val (.int (2 : Int32)), .val (.ref b65), .val (.ref w_OSPG), .val (.int (2 : Int32)), .val (.int (0 : Int32)), .val (.int (1 : Int32)), .val (.int (3 : Int32)), .unset] [(.int (-1 : Int32)), (.int v67)])) (fun t k => XS.icmpYes X585.here hx rfl (pc0 := 179) (pc' := 188) rfl (hb hby at_179) rfl (feq (show ¬ (v73 = (-1 : Int32)) from hc587)).2 (by decide) (by decide) (XS.aload X585.here hx rfl (hb hby at_188) rfl rfl (XS.iload X585.here hx rfl (hb hby at_190) rfl  (own_ap (X585.iaload hx (j := (0 : Int32)) (v := (.int v67)) (by rw [e585]; exact Ar651.1) (State.isArrayOf_alike hZ.alike Ar651.2.1) Ar651.2.2 hin651 (Has.at H651 hin651 rfl) rfl rfl (hb hby at_192)) (XS.iconst X585.here hx rfl (hb hby at_193) k))))) ?_
          by_cases hc652 : v67 = (-1 : Int32)
          · skip
            have ne701 : w_OSPG ≠ b65 := Nat.ne_of_lt (Nat.lt_of_lt_of_le E_w_OSPG.lt (Nat.le_trans (Nat.le_refl _) lo_b65))
            have F702 : Fld Z h77 w_OSPG "com/example/chronoquad/chronoquad/QuadOrder" "positions" "[I" (.ref r_positions_w_OSPG) := (Fld.other W77 (Fld.other W74 (Fld.other W71 (Fld.other W68 (Fld.ext E65 F_positions_61) (Or.inl ne701)) (Or.inl ne701)) (Or.inl ne701)) (Or.inl ne701))
            have ne706 : r_positions_w_OSPG ≠ b65 := Nat.ne_of_lt (Nat.lt_of_lt_of_le V_r_positions_w_OSPG.lt (Nat.le_trans (Nat.le_refl _) lo_b65))
            have A707 : Arv Z h77 r_positions_w_OSPG c_r_positions_w_OSPG .int (4 : Int32) [(.int (2 : Int32)), (.int (0 : Int32)), (.int (1 : Int32)), (.int (3 : Int32))] (.int (0 : Int32)) := (Arv.other (Arv.other (Arv.other (Arv.other (Arv.ext V_r_positions_w_OSPG E65) W68 ne706) W71 ne706) W74 ne706) W77 ne706)
            have E723 : Exa Z h77 w_OSPG "com/example/chronoquad/chronoquad/QuadOrder" := (Exa.wr W77 (Exa.wr W74 (Exa.wr W71 (Exa.wr W68 (Exa.ext E65 E_w_OSPG)))))
            obtain ⟨_, T653, L653, X653, ⟨rfl, rfl, e653⟩, st653⟩ := own_cv X585 hx hZ hown (own_w106 hw) hml (g := (mkF m 240 #[.val (.int p_0), .val (.int p_1), .val (.int p_2), .val (.int p_3), .val (.int p_4), .val (.int (2 : Int32)), .val (.ref b65), .val (.ref w_OSPG), .val (.int (2 : Int32)), .val (.int (0 : Int32)), .val (.int (1 : Int32)), .val (.int (3 : Int32)), .val (.int (1 : Int32))] [(.ref b65), (.ref w_OSPG)])) (hb hby at_240) e585 E723 [(.ref b65)] [] (lenOf own_pd0 rfl) (own_rm698 l Z a0 hw h77 w_OSPG b65 r_positions_w_OSPG c_r_positions_w_OSPG k65 v67 v70 v73 v76 F702 A707 V77 hc587 hc652)
            refine own_go (T2 := T653) (g2 := (mkF m 253 #[.val (.int p_0), .val (.int p_1), .val (.int p_2), .val (.int p_3), .val (.int p_4), .val (.int (2 : Int32)), .val (.ref b65), .val (.ref w_OSPG), .val (.int (2 : Int32)), .val (.int (0 : Int32)), .val (.int (1 : Int32)), .val (.int (3 : Int32)), .val (.int (1 : Int32))] [(.int (1 : Int32))])) (fun t k => XS.icmpNo X585.here hx rfl (hb hby at_194) rfl (teq (show v67 = (-1 : Int32) from hc652)).2 (XS.iconst X585.here hx rfl (hb hby at_197) (XS.istore X585.here hx rfl (hb hby at_198) rfl (l' := #[.val (.int p_0), .val (.int p_1), .val (.int p_2), .val (.int p_3), .val (.int p_4), .val (.int (2 : Int32)), .val (.ref b65), .val (.ref w_OSPG), .val (.int (2 : Int32)), .val (.int (0 : Int32)), .val (.int (1 : Int32)), .val (.int (3 : Int32)), .val (.int (1 : Int32))]) rfl (XS.goto X585.here hx rfl (pc0 := 200) (pc' := 236) rfl (hb hby at_200) (by decide) (by decide) (XS.aload X585.here hx rfl (hb hby at_236) rfl rfl (XS.aload X585.here hx rfl (hb hby at_238) rfl rfl (st653 _ (XS.iload X653.here hx rfl (hb hby at_243) rfl  (XS.icmpNo X653.here hx rfl (hb hby at_245) rfl (teq (show (1 : Int32) = (1 : Int32) from (by decide))).2 (XS.iconst X653.here hx rfl (hb hby at_248) (XS.goto X653.here hx rfl (pc0 := 249) (pc' := 253) rfl (hb hby at_249) (by decide) (by decide) k))))))))))) ?_
            exact own_endN X653 hx Bd.notSynchronized (t := .boolean) Bd.returns (by simp) (hb hby at_253) (z' := (1 : Int32)) rfl (by decide) (by decide) ⟨rfl, own_kpFr K77⟩
          · skip
            obtain ⟨cl724, Ar724, q724, S724, N724, H724, G724⟩ := id V77
            have hin724 : ¬ ((1 : Int32) < 0 ∨ cl724.slots.size ≤ ((1 : Int32)).toNatClampNeg) := inb_of S724 ⟨by decide, by decide⟩
            refine own_go (T2 := T585) (g2 := (mkF m 209 #[.val (.int p_0), .val (.int p_1), .val (.int p_2), .val (.int p_3), .val (.int p_4), .val (.int (2 : Int32)), .val (.ref b65), .val (.ref w_OSPG), .val (.int (2 : Int32)), .val (.int (0 : Int32)), .val (.int (1 : Int32)), .val (.int (3 : Int32)), .unset] [(.int (-1 : Int32)), (.int v70)])) (fun t k => XS.icmpYes X585.here hx rfl (pc0 := 194) (pc' := 203) rfl (hb hby at_194) rfl (feq (show ¬ (v67 = (-1 : Int32)) from hc652)).2 (by decide) (by decide) (XS.aload X585.here hx rfl (hb hby at_203) rfl rfl (XS.iload X585.here hx rfl (hb hby at_205) rfl  (own_ap (X585.iaload hx (j := (1 : Int32)) (v := (.int v70)) (by rw [e585]; exact Ar724.1) (State.isArrayOf_alike hZ.alike Ar724.2.1) Ar724.2.2 hin724 (Has.at H724 hin724 rfl) rfl rfl (hb hby at_207)) (XS.iconst X585.here hx rfl (hb hby at_208) k))))) ?_
            by_cases hc725 : v70 = (-1 : Int32)
            · skip
              have ne778 : w_OSPG ≠ b65 := Nat.ne_of_lt (Nat.lt_of_lt_of_le E_w_OSPG.lt (Nat.le_trans (Nat.le_refl _) lo_b65))
              have F779 : Fld Z h77 w_OSPG "com/example/chronoquad/chronoquad/QuadOrder" "positions" "[I" (.ref r_positions_w_OSPG) := (Fld.other W77 (Fld.other W74 (Fld.other W71 (Fld.other W68 (Fld.ext E65 F_positions_61) (Or.inl ne778)) (Or.inl ne778)) (Or.inl ne778)) (Or.inl ne778))
              have ne783 : r_positions_w_OSPG ≠ b65 := Nat.ne_of_lt (Nat.lt_of_lt_of_le V_r_positions_w_OSPG.lt (Nat.le_trans (Nat.le_refl _) lo_b65))
              have A784 : Arv Z h77 r_positions_w_OSPG c_r_positions_w_OSPG .int (4 : Int32) [(.int (2 : Int32)), (.int (0 : Int32)), (.int (1 : Int32)), (.int (3 : Int32))] (.int (0 : Int32)) := (Arv.other (Arv.other (Arv.other (Arv.other (Arv.ext V_r_positions_w_OSPG E65) W68 ne783) W71 ne783) W74 ne783) W77 ne783)
              have E804 : Exa Z h77 w_OSPG "com/example/chronoquad/chronoquad/QuadOrder" := (Exa.wr W77 (Exa.wr W74 (Exa.wr W71 (Exa.wr W68 (Exa.ext E65 E_w_OSPG)))))
              obtain ⟨_, T726, L726, X726, ⟨rfl, rfl, e726⟩, st726⟩ := own_cv X585 hx hZ hown (own_w106 hw) hml (g := (mkF m 240 #[.val (.int p_0), .val (.int p_1), .val (.int p_2), .val (.int p_3), .val (.int p_4), .val (.int (2 : Int32)), .val (.ref b65), .val (.ref w_OSPG), .val (.int (2 : Int32)), .val (.int (0 : Int32)), .val (.int (1 : Int32)), .val (.int (3 : Int32)), .val (.int (2 : Int32))] [(.ref b65), (.ref w_OSPG)])) (hb hby at_240) e585 E804 [(.ref b65)] [] (lenOf own_pd0 rfl) (own_rm775 l Z a0 hw h77 w_OSPG b65 r_positions_w_OSPG c_r_positions_w_OSPG k65 v67 v70 v73 v76 F779 A784 V77 hc587 hc652 hc725)
              refine own_go (T2 := T726) (g2 := (mkF m 253 #[.val (.int p_0), .val (.int p_1), .val (.int p_2), .val (.int p_3), .val (.int p_4), .val (.int (2 : Int32)), .val (.ref b65), .val (.ref w_OSPG), .val (.int (2 : Int32)), .val (.int (0 : Int32)), .val (.int (1 : Int32)), .val (.int (3 : Int32)), .val (.int (2 : Int32))] [(.int (1 : Int32))])) (fun t k => XS.icmpNo X585.here hx rfl (hb hby at_209) rfl (teq (show v70 = (-1 : Int32) from hc725)).2 (XS.iconst X585.here hx rfl (hb hby at_212) (XS.istore X585.here hx rfl (hb hby at_213) rfl (l' := #[.val (.int p_0), .val (.int p_1), .val (.int p_2), .val (.int p_3), .val (.int p_4), .val (.int (2 : Int32)), .val (.ref b65), .val (.ref w_OSPG), .val (.int (2 : Int32)), .val (.int (0 : Int32)), .val (.int (1 : Int32)), .val (.int (3 : Int32)), .val (.int (2 : Int32))]) rfl (XS.goto X585.here hx rfl (pc0 := 215) (pc' := 236) rfl (hb hby at_215) (by decide) (by decide) (XS.aload X585.here hx rfl (hb hby at_236) rfl rfl (XS.aload X585.here hx rfl (hb hby at_238) rfl rfl (st726 _ (XS.iload X726.here hx rfl (hb hby at_243) rfl  (XS.icmpNo X726.here hx rfl (hb hby at_245) rfl (teq (show (2 : Int32) = (2 : Int32) from (by decide))).2 (XS.iconst X726.here hx rfl (hb hby at_248) (XS.goto X726.here hx rfl (pc0 := 249) (pc' := 253) rfl (hb hby at_249) (by decide) (by decide) k))))))))))) ?_
              exact own_endN X726 hx Bd.notSynchronized (t := .boolean) Bd.returns (by simp) (hb hby at_253) (z' := (1 : Int32)) rfl (by decide) (by decide) ⟨rfl, own_kpFr K77⟩
            · skip
              obtain ⟨cl805, Ar805, q805, S805, N805, H805, G805⟩ := id V77
              have hin805 : ¬ ((3 : Int32) < 0 ∨ cl805.slots.size ≤ ((3 : Int32)).toNatClampNeg) := inb_of S805 ⟨by decide, by decide⟩
              refine own_go (T2 := T585) (g2 := (mkF m 224 #[.val (.int p_0), .val (.int p_1), .val (.int p_2), .val (.int p_3), .val (.int p_4), .val (.int (2 : Int32)), .val (.ref b65), .val (.ref w_OSPG), .val (.int (2 : Int32)), .val (.int (0 : Int32)), .val (.int (1 : Int32)), .val (.int (3 : Int32)), .unset] [(.int (-1 : Int32)), (.int v76)])) (fun t k => XS.icmpYes X585.here hx rfl (pc0 := 209) (pc' := 218) rfl (hb hby at_209) rfl (feq (show ¬ (v70 = (-1 : Int32)) from hc725)).2 (by decide) (by decide) (XS.aload X585.here hx rfl (hb hby at_218) rfl rfl (XS.iload X585.here hx rfl (hb hby at_220) rfl  (own_ap (X585.iaload hx (j := (3 : Int32)) (v := (.int v76)) (by rw [e585]; exact Ar805.1) (State.isArrayOf_alike hZ.alike Ar805.2.1) Ar805.2.2 hin805 (Has.at H805 hin805 rfl) rfl rfl (hb hby at_222)) (XS.iconst X585.here hx rfl (hb hby at_223) k))))) ?_
              by_cases hc806 : v76 = (-1 : Int32)
              · skip
                have ne863 : w_OSPG ≠ b65 := Nat.ne_of_lt (Nat.lt_of_lt_of_le E_w_OSPG.lt (Nat.le_trans (Nat.le_refl _) lo_b65))
                have F864 : Fld Z h77 w_OSPG "com/example/chronoquad/chronoquad/QuadOrder" "positions" "[I" (.ref r_positions_w_OSPG) := (Fld.other W77 (Fld.other W74 (Fld.other W71 (Fld.other W68 (Fld.ext E65 F_positions_61) (Or.inl ne863)) (Or.inl ne863)) (Or.inl ne863)) (Or.inl ne863))
                have ne868 : r_positions_w_OSPG ≠ b65 := Nat.ne_of_lt (Nat.lt_of_lt_of_le V_r_positions_w_OSPG.lt (Nat.le_trans (Nat.le_refl _) lo_b65))
                have A869 : Arv Z h77 r_positions_w_OSPG c_r_positions_w_OSPG .int (4 : Int32) [(.int (2 : Int32)), (.int (0 : Int32)), (.int (1 : Int32)), (.int (3 : Int32))] (.int (0 : Int32)) := (Arv.other (Arv.other (Arv.other (Arv.other (Arv.ext V_r_positions_w_OSPG E65) W68 ne868) W71 ne868) W74 ne868) W77 ne868)
                have E893 : Exa Z h77 w_OSPG "com/example/chronoquad/chronoquad/QuadOrder" := (Exa.wr W77 (Exa.wr W74 (Exa.wr W71 (Exa.wr W68 (Exa.ext E65 E_w_OSPG)))))
                obtain ⟨_, T807, L807, X807, ⟨rfl, rfl, e807⟩, st807⟩ := own_cv X585 hx hZ hown (own_w106 hw) hml (g := (mkF m 240 #[.val (.int p_0), .val (.int p_1), .val (.int p_2), .val (.int p_3), .val (.int p_4), .val (.int (2 : Int32)), .val (.ref b65), .val (.ref w_OSPG), .val (.int (2 : Int32)), .val (.int (0 : Int32)), .val (.int (1 : Int32)), .val (.int (3 : Int32)), .val (.int (3 : Int32))] [(.ref b65), (.ref w_OSPG)])) (hb hby at_240) e585 E893 [(.ref b65)] [] (lenOf own_pd0 rfl) (own_rm860 l Z a0 hw h77 w_OSPG b65 r_positions_w_OSPG c_r_positions_w_OSPG k65 v67 v70 v73 v76 F864 A869 V77 hc587 hc652 hc725 hc806)
                refine own_go (T2 := T807) (g2 := (mkF m 253 #[.val (.int p_0), .val (.int p_1), .val (.int p_2), .val (.int p_3), .val (.int p_4), .val (.int (2 : Int32)), .val (.ref b65), .val (.ref w_OSPG), .val (.int (2 : Int32)), .val (.int (0 : Int32)), .val (.int (1 : Int32)), .val (.int (3 : Int32)), .val (.int (3 : Int32))] [(.int (1 : Int32))])) (fun t k => XS.icmpNo X585.here hx rfl (hb hby at_224) rfl (teq (show v76 = (-1 : Int32) from hc806)).2 (XS.iconst X585.here hx rfl (hb hby at_227) (XS.istore X585.here hx rfl (hb hby at_228) rfl (l' := #[.val (.int p_0), .val (.int p_1), .val (.int p_2), .val (.int p_3), .val (.int p_4), .val (.int (2 : Int32)), .val (.ref b65), .val (.ref w_OSPG), .val (.int (2 : Int32)), .val (.int (0 : Int32)), .val (.int (1 : Int32)), .val (.int (3 : Int32)), .val (.int (3 : Int32))]) rfl (XS.goto X585.here hx rfl (pc0 := 230) (pc' := 236) rfl (hb hby at_230) (by decide) (by decide) (XS.aload X585.here hx rfl (hb hby at_236) rfl rfl (XS.aload X585.here hx rfl (hb hby at_238) rfl rfl (st807 _ (XS.iload X807.here hx rfl (hb hby at_243) rfl  (XS.icmpNo X807.here hx rfl (hb hby at_245) rfl (teq (show (3 : Int32) = (3 : Int32) from (by decide))).2 (XS.iconst X807.here hx rfl (hb hby at_248) (XS.goto X807.here hx rfl (pc0 := 249) (pc' := 253) rfl (hb hby at_249) (by decide) (by decide) k))))))))))) ?_
                exact own_endN X807 hx Bd.notSynchronized (t := .boolean) Bd.returns (by simp) (hb hby at_253) (z' := (1 : Int32)) rfl (by decide) (by decide) ⟨rfl, own_kpFr K77⟩
              · skip
                have ne954 : w_OSPG ≠ b65 := Nat.ne_of_lt (Nat.lt_of_lt_of_le E_w_OSPG.lt (Nat.le_trans (Nat.le_refl _) lo_b65))
                have F955 : Fld Z h77 w_OSPG "com/example/chronoquad/chronoquad/QuadOrder" "positions" "[I" (.ref r_positions_w_OSPG) := (Fld.other W77 (Fld.other W74 (Fld.other W71 (Fld.other W68 (Fld.ext E65 F_positions_61) (Or.inl ne954)) (Or.inl ne954)) (Or.inl ne954)) (Or.inl ne954))
                have ne959 : r_positions_w_OSPG ≠ b65 := Nat.ne_of_lt (Nat.lt_of_lt_of_le V_r_positions_w_OSPG.lt (Nat.le_trans (Nat.le_refl _) lo_b65))
                have A960 : Arv Z h77 r_positions_w_OSPG c_r_positions_w_OSPG .int (4 : Int32) [(.int (2 : Int32)), (.int (0 : Int32)), (.int (1 : Int32)), (.int (3 : Int32))] (.int (0 : Int32)) := (Arv.other (Arv.other (Arv.other (Arv.other (Arv.ext V_r_positions_w_OSPG E65) W68 ne959) W71 ne959) W74 ne959) W77 ne959)
                have E984 : Exa Z h77 w_OSPG "com/example/chronoquad/chronoquad/QuadOrder" := (Exa.wr W77 (Exa.wr W74 (Exa.wr W71 (Exa.wr W68 (Exa.ext E65 E_w_OSPG)))))
                obtain ⟨_, T894, L894, X894, ⟨rfl, rfl, e894⟩, st894⟩ := own_cv X585 hx hZ hown (own_w106 hw) hml (g := (mkF m 240 #[.val (.int p_0), .val (.int p_1), .val (.int p_2), .val (.int p_3), .val (.int p_4), .val (.int (2 : Int32)), .val (.ref b65), .val (.ref w_OSPG), .val (.int (2 : Int32)), .val (.int (0 : Int32)), .val (.int (1 : Int32)), .val (.int (3 : Int32)), .val (.int (4 : Int32))] [(.ref b65), (.ref w_OSPG)])) (hb hby at_240) e585 E984 [(.ref b65)] [] (lenOf own_pd0 rfl) (own_rm951 l Z a0 hw h77 w_OSPG b65 r_positions_w_OSPG c_r_positions_w_OSPG k65 v67 v70 v73 v76 F955 A960 V77 hc587 hc652 hc725 hc806)
                refine own_go (T2 := T894) (g2 := (mkF m 253 #[.val (.int p_0), .val (.int p_1), .val (.int p_2), .val (.int p_3), .val (.int p_4), .val (.int (2 : Int32)), .val (.ref b65), .val (.ref w_OSPG), .val (.int (2 : Int32)), .val (.int (0 : Int32)), .val (.int (1 : Int32)), .val (.int (3 : Int32)), .val (.int (4 : Int32))] [(.int (1 : Int32))])) (fun t k => XS.icmpYes X585.here hx rfl (pc0 := 224) (pc' := 233) rfl (hb hby at_224) rfl (feq (show ¬ (v76 = (-1 : Int32)) from hc806)).2 (by decide) (by decide) (XS.iconst X585.here hx rfl (hb hby at_233) (XS.istore X585.here hx rfl (hb hby at_234) rfl (l' := #[.val (.int p_0), .val (.int p_1), .val (.int p_2), .val (.int p_3), .val (.int p_4), .val (.int (2 : Int32)), .val (.ref b65), .val (.ref w_OSPG), .val (.int (2 : Int32)), .val (.int (0 : Int32)), .val (.int (1 : Int32)), .val (.int (3 : Int32)), .val (.int (4 : Int32))]) rfl (XS.aload X585.here hx rfl (hb hby at_236) rfl rfl (XS.aload X585.here hx rfl (hb hby at_238) rfl rfl (st894 _ (XS.iload X894.here hx rfl (hb hby at_243) rfl  (XS.icmpNo X894.here hx rfl (hb hby at_245) rfl (teq (show (4 : Int32) = (4 : Int32) from (by decide))).2 (XS.iconst X894.here hx rfl (hb hby at_248) (XS.goto X894.here hx rfl (pc0 := 249) (pc' := 253) rfl (hb hby at_249) (by decide) (by decide) k)))))))))) ?_
                exact own_endN X894 hx Bd.notSynchronized (t := .boolean) Bd.returns (by simp) (hb hby at_253) (z' := (1 : Int32)) rfl (by decide) (by decide) ⟨rfl, own_kpFr K77⟩
      · skip
        have S985 : Sta Z h77 "com/example/chronoquad/chronoquad/QuadOrder" "GSPO" "Lcom/example/chronoquad/chronoquad/QuadOrder;" (.ref w_GSPO) := (Sta.wr W77 (Sta.wr W74 (Sta.wr W71 (Sta.wr W68 (Sta.ext E65 S_GSPO_58)))))
        obtain ⟨T986, X986, e986, st986⟩ := getS2 X77 hx hZ hown (host := "") (Or.inl (own_wd hw 11 rfl)) Via.refl e77 S985 (g := (mkF m 156 #[.val (.int p_0), .val (.int p_1), .val (.int p_2), .val (.int p_3), .val (.int p_4), .val (.int k64), .val (.ref b65), .unset, .unset, .unset, .unset, .unset, .unset] [])) rfl (hb hby at_156)
        refine own_go (T2 := T986) (g2 := (mkF m 175 #[.val (.int p_0), .val (.int p_1), .val (.int p_2), .val (.int p_3), .val (.int p_4), .val (.int k64), .val (.ref b65), .val (.ref w_GSPO), .val (.int (3 : Int32)), .val (.int (0 : Int32)), .val (.int (1 : Int32)), .val (.int (2 : Int32)), .unset] [(.ref b65)])) (fun t k => XS.icmpYes X77.here hx rfl (pc0 := 133) (pc' := 156) rfl (hb hby at_133) rfl (feq (show ¬ (k64 = (2 : Int32)) from hc583)).2 (by decide) (by decide) (st986 _ (XS.astore X986.here hx rfl (hb hby at_159) rfl rfl (l' := #[.val (.int p_0), .val (.int p_1), .val (.int p_2), .val (.int p_3), .val (.int p_4), .val (.int k64), .val (.ref b65), .val (.ref w_GSPO), .unset, .unset, .unset, .unset, .unset]) rfl (XS.iconst X986.here hx rfl (hb hby at_161) (XS.istore X986.here hx rfl (hb hby at_162) rfl (l' := #[.val (.int p_0), .val (.int p_1), .val (.int p_2), .val (.int p_3), .val (.int p_4), .val (.int k64), .val (.ref b65), .val (.ref w_GSPO), .val (.int (3 : Int32)), .unset, .unset, .unset, .unset]) rfl (XS.iconst X986.here hx rfl (hb hby at_164) (XS.istore X986.here hx rfl (hb hby at_165) rfl (l' := #[.val (.int p_0), .val (.int p_1), .val (.int p_2), .val (.int p_3), .val (.int p_4), .val (.int k64), .val (.ref b65), .val (.ref w_GSPO), .val (.int (3 : Int32)), .val (.int (0 : Int32)), .unset, .unset, .unset]) rfl (XS.iconst X986.here hx rfl (hb hby at_167) (XS.istore X986.here hx rfl (hb hby at_168) rfl (l' := #[.val (.int p_0), .val (.int p_1), .val (.int p_2), .val (.int p_3), .val (.int p_4), .val (.int k64), .val (.ref b65), .val (.ref w_GSPO), .val (.int (3 : Int32)), .val (.int (0 : Int32)), .val (.int (1 : Int32)), .unset, .unset]) rfl (XS.iconst X986.here hx rfl (hb hby at_170) (XS.istore X986.here hx rfl (hb hby at_171) rfl (l' := #[.val (.int p_0), .val (.int p_1), .val (.int p_2), .val (.int p_3), .val (.int p_4), .val (.int k64), .val (.ref b65), .val (.ref w_GSPO), .val (.int (3 : Int32)), .val (.int (0 : Int32)), .val (.int (1 : Int32)), .val (.int (2 : Int32)), .unset]) rfl (XS.aload X986.here hx rfl (hb hby at_173) rfl rfl k)))))))))))) ?_
        obtain ⟨cl987, Ar987, q987, S987, N987, H987, G987⟩ := id V77
        have hin987 : ¬ ((3 : Int32) < 0 ∨ cl987.slots.size ≤ ((3 : Int32)).toNatClampNeg) := inb_of S987 ⟨by decide, by decide⟩
        refine own_go (T2 := T986) (g2 := (mkF m 179 #[.val (.int p_0), .val (.int p_1), .val (.int p_2), .val (.int p_3), .val (.int p_4), .val (.int k64), .val (.ref b65), .val (.ref w_GSPO), .val (.int (3 : Int32)), .val (.int (0 : Int32)), .val (.int (1 : Int32)), .val (.int (2 : Int32)), .unset] [(.int (-1 : Int32)), (.int v76)])) (fun t k => XS.iload X986.here hx rfl (hb hby at_175) rfl  (own_ap (X986.iaload hx (j := (3 : Int32)) (v := (.int v76)) (by rw [e986]; exact Ar987.1) (State.isArrayOf_alike hZ.alike Ar987.2.1) Ar987.2.2 hin987 (Has.at H987 hin987 rfl) rfl rfl (hb hby at_177)) (XS.iconst X986.here hx rfl (hb hby at_178) k))) ?_
        by_cases hc988 : v76 = (-1 : Int32)
        · skip
          have ne1053 : w_GSPO ≠ b65 := Nat.ne_of_lt (Nat.lt_of_lt_of_le E_w_GSPO.lt (Nat.le_trans (Nat.le_refl _) lo_b65))
          have F1054 : Fld Z h77 w_GSPO "com/example/chronoquad/chronoquad/QuadOrder" "positions" "[I" (.ref r_positions_w_GSPO) := (Fld.other W77 (Fld.other W74 (Fld.other W71 (Fld.other W68 (Fld.ext E65 F_positions_59) (Or.inl ne1053)) (Or.inl ne1053)) (Or.inl ne1053)) (Or.inl ne1053))
          have ne1058 : r_positions_w_GSPO ≠ b65 := Nat.ne_of_lt (Nat.lt_of_lt_of_le V_r_positions_w_GSPO.lt (Nat.le_trans (Nat.le_refl _) lo_b65))
          have A1059 : Arv Z h77 r_positions_w_GSPO c_r_positions_w_GSPO .int (4 : Int32) [(.int (3 : Int32)), (.int (0 : Int32)), (.int (1 : Int32)), (.int (2 : Int32))] (.int (0 : Int32)) := (Arv.other (Arv.other (Arv.other (Arv.other (Arv.ext V_r_positions_w_GSPO E65) W68 ne1058) W71 ne1058) W74 ne1058) W77 ne1058)
          have E1071 : Exa Z h77 w_GSPO "com/example/chronoquad/chronoquad/QuadOrder" := (Exa.wr W77 (Exa.wr W74 (Exa.wr W71 (Exa.wr W68 (Exa.ext E65 E_w_GSPO)))))
          obtain ⟨_, T989, L989, X989, ⟨rfl, rfl, e989⟩, st989⟩ := own_cv X986 hx hZ hown (own_w106 hw) hml (g := (mkF m 240 #[.val (.int p_0), .val (.int p_1), .val (.int p_2), .val (.int p_3), .val (.int p_4), .val (.int k64), .val (.ref b65), .val (.ref w_GSPO), .val (.int (3 : Int32)), .val (.int (0 : Int32)), .val (.int (1 : Int32)), .val (.int (2 : Int32)), .val (.int (0 : Int32))] [(.ref b65), (.ref w_GSPO)])) (hb hby at_240) e986 E1071 [(.ref b65)] [] (lenOf own_pd0 rfl) (own_rm1050 l Z a0 hw h77 w_GSPO b65 r_positions_w_GSPO c_r_positions_w_GSPO k65 v67 v70 v73 v76 F1054 A1059 V77 hc988)
          refine own_go (T2 := T989) (g2 := (mkF m 253 #[.val (.int p_0), .val (.int p_1), .val (.int p_2), .val (.int p_3), .val (.int p_4), .val (.int k64), .val (.ref b65), .val (.ref w_GSPO), .val (.int (3 : Int32)), .val (.int (0 : Int32)), .val (.int (1 : Int32)), .val (.int (2 : Int32)), .val (.int (0 : Int32))] [(.int (1 : Int32))])) (fun t k => XS.icmpNo X986.here hx rfl (hb hby at_179) rfl (teq (show v76 = (-1 : Int32) from hc988)).2 (XS.iconst X986.here hx rfl (hb hby at_182) (XS.istore X986.here hx rfl (hb hby at_183) rfl (l' := #[.val (.int p_0), .val (.int p_1), .val (.int p_2), .val (.int p_3), .val (.int p_4), .val (.int k64), .val (.ref b65), .val (.ref w_GSPO), .val (.int (3 : Int32)), .val (.int (0 : Int32)), .val (.int (1 : Int32)), .val (.int (2 : Int32)), .val (.int (0 : Int32))]) rfl (XS.goto X986.here hx rfl (pc0 := 185) (pc' := 236) rfl (hb hby at_185) (by decide) (by decide) (XS.aload X986.here hx rfl (hb hby at_236) rfl rfl (XS.aload X986.here hx rfl (hb hby at_238) rfl rfl (st989 _ (XS.iload X989.here hx rfl (hb hby at_243) rfl  (XS.icmpNo X989.here hx rfl (hb hby at_245) rfl (teq (show (0 : Int32) = (0 : Int32) from (by decide))).2 (XS.iconst X989.here hx rfl (hb hby at_248) (XS.goto X989.here hx rfl (pc0 := 249) (pc' := 253) rfl (hb hby at_249) (by decide) (by decide) k))))))))))) ?_
          exact own_endN X989 hx Bd.notSynchronized (t := .boolean) Bd.returns (by simp) (hb hby at_253) (z' := (1 : Int32)) rfl (by decide) (by decide) ⟨rfl, own_kpFr K77⟩
        · skip
          obtain ⟨cl1072, Ar1072, q1072, S1072, N1072, H1072, G1072⟩ := id V77
          have hin1072 : ¬ ((0 : Int32) < 0 ∨ cl1072.slots.size ≤ ((0 : Int32)).toNatClampNeg) := inb_of S1072 ⟨by decide, by decide⟩
          refine own_go (T2 := T986) (g2 := (mkF m 194 #[.val (.int p_0), .val (.int p_1), .val (.int p_2), .val (.int p_3), .val (.int p_4), .val (.int k64), .val (.ref b65), .val (.ref w_GSPO), .val (.int (3 : Int32)), .val (.int (0 : Int32)), .val (.int (1 : Int32)), .val (.int (2 : Int32)), .unset] [(.int (-1 : Int32)), (.int v67)])) (fun t k => XS.icmpYes X986.here hx rfl (pc0 := 179) (pc' := 188) rfl (hb hby at_179) rfl (feq (show ¬ (v76 = (-1 : Int32)) from hc988)).2 (by decide) (by decide) (XS.aload X986.here hx rfl (hb hby at_188) rfl rfl (XS.iload X986.here hx rfl (hb hby at_190) rfl  (own_ap (X986.iaload hx (j := (0 : Int32)) (v := (.int v67)) (by rw [e986]; exact Ar1072.1) (State.isArrayOf_alike hZ.alike Ar1072.2.1) Ar1072.2.2 hin1072 (Has.at H1072 hin1072 rfl) rfl rfl (hb hby at_192)) (XS.iconst X986.here hx rfl (hb hby at_193) k))))) ?_
          by_cases hc1073 : v67 = (-1 : Int32)
          · skip
            have ne1142 : w_GSPO ≠ b65 := Nat.ne_of_lt (Nat.lt_of_lt_of_le E_w_GSPO.lt (Nat.le_trans (Nat.le_refl _) lo_b65))
            have F1143 : Fld Z h77 w_GSPO "com/example/chronoquad/chronoquad/QuadOrder" "positions" "[I" (.ref r_positions_w_GSPO) := (Fld.other W77 (Fld.other W74 (Fld.other W71 (Fld.other W68 (Fld.ext E65 F_positions_59) (Or.inl ne1142)) (Or.inl ne1142)) (Or.inl ne1142)) (Or.inl ne1142))
            have ne1147 : r_positions_w_GSPO ≠ b65 := Nat.ne_of_lt (Nat.lt_of_lt_of_le V_r_positions_w_GSPO.lt (Nat.le_trans (Nat.le_refl _) lo_b65))
            have A1148 : Arv Z h77 r_positions_w_GSPO c_r_positions_w_GSPO .int (4 : Int32) [(.int (3 : Int32)), (.int (0 : Int32)), (.int (1 : Int32)), (.int (2 : Int32))] (.int (0 : Int32)) := (Arv.other (Arv.other (Arv.other (Arv.other (Arv.ext V_r_positions_w_GSPO E65) W68 ne1147) W71 ne1147) W74 ne1147) W77 ne1147)
            have E1164 : Exa Z h77 w_GSPO "com/example/chronoquad/chronoquad/QuadOrder" := (Exa.wr W77 (Exa.wr W74 (Exa.wr W71 (Exa.wr W68 (Exa.ext E65 E_w_GSPO)))))
            obtain ⟨_, T1074, L1074, X1074, ⟨rfl, rfl, e1074⟩, st1074⟩ := own_cv X986 hx hZ hown (own_w106 hw) hml (g := (mkF m 240 #[.val (.int p_0), .val (.int p_1), .val (.int p_2), .val (.int p_3), .val (.int p_4), .val (.int k64), .val (.ref b65), .val (.ref w_GSPO), .val (.int (3 : Int32)), .val (.int (0 : Int32)), .val (.int (1 : Int32)), .val (.int (2 : Int32)), .val (.int (1 : Int32))] [(.ref b65), (.ref w_GSPO)])) (hb hby at_240) e986 E1164 [(.ref b65)] [] (lenOf own_pd0 rfl) (own_rm1139 l Z a0 hw h77 w_GSPO b65 r_positions_w_GSPO c_r_positions_w_GSPO k65 v67 v70 v73 v76 F1143 A1148 V77 hc988 hc1073)
            refine own_go (T2 := T1074) (g2 := (mkF m 253 #[.val (.int p_0), .val (.int p_1), .val (.int p_2), .val (.int p_3), .val (.int p_4), .val (.int k64), .val (.ref b65), .val (.ref w_GSPO), .val (.int (3 : Int32)), .val (.int (0 : Int32)), .val (.int (1 : Int32)), .val (.int (2 : Int32)), .val (.int (1 : Int32))] [(.int (1 : Int32))])) (fun t k => XS.icmpNo X986.here hx rfl (hb hby at_194) rfl (teq (show v67 = (-1 : Int32) from hc1073)).2 (XS.iconst X986.here hx rfl (hb hby at_197) (XS.istore X986.here hx rfl (hb hby at_198) rfl (l' := #[.val (.int p_0), .val (.int p_1), .val (.int p_2), .val (.int p_3), .val (.int p_4), .val (.int k64), .val (.ref b65), .val (.ref w_GSPO), .val (.int (3 : Int32)), .val (.int (0 : Int32)), .val (.int (1 : Int32)), .val (.int (2 : Int32)), .val (.int (1 : Int32))]) rfl (XS.goto X986.here hx rfl (pc0 := 200) (pc' := 236) rfl (hb hby at_200) (by decide) (by decide) (XS.aload X986.here hx rfl (hb hby at_236) rfl rfl (XS.aload X986.here hx rfl (hb hby at_238) rfl rfl (st1074 _ (XS.iload X1074.here hx rfl (hb hby at_243) rfl  (XS.icmpNo X1074.here hx rfl (hb hby at_245) rfl (teq (show (1 : Int32) = (1 : Int32) from (by decide))).2 (XS.iconst X1074.here hx rfl (hb hby at_248) (XS.goto X1074.here hx rfl (pc0 := 249) (pc' := 253) rfl (hb hby at_249) (by decide) (by decide) k))))))))))) ?_
            exact own_endN X1074 hx Bd.notSynchronized (t := .boolean) Bd.returns (by simp) (hb hby at_253) (z' := (1 : Int32)) rfl (by decide) (by decide) ⟨rfl, own_kpFr K77⟩
          · skip
            obtain ⟨cl1165, Ar1165, q1165, S1165, N1165, H1165, G1165⟩ := id V77
            have hin1165 : ¬ ((1 : Int32) < 0 ∨ cl1165.slots.size ≤ ((1 : Int32)).toNatClampNeg) := inb_of S1165 ⟨by decide, by decide⟩
            refine own_go (T2 := T986) (g2 := (mkF m 209 #[.val (.int p_0), .val (.int p_1), .val (.int p_2), .val (.int p_3), .val (.int p_4), .val (.int k64), .val (.ref b65), .val (.ref w_GSPO), .val (.int (3 : Int32)), .val (.int (0 : Int32)), .val (.int (1 : Int32)), .val (.int (2 : Int32)), .unset] [(.int (-1 : Int32)), (.int v70)])) (fun t k => XS.icmpYes X986.here hx rfl (pc0 := 194) (pc' := 203) rfl (hb hby at_194) rfl (feq (show ¬ (v67 = (-1 : Int32)) from hc1073)).2 (by decide) (by decide) (XS.aload X986.here hx rfl (hb hby at_203) rfl rfl (XS.iload X986.here hx rfl (hb hby at_205) rfl  (own_ap (X986.iaload hx (j := (1 : Int32)) (v := (.int v70)) (by rw [e986]; exact Ar1165.1) (State.isArrayOf_alike hZ.alike Ar1165.2.1) Ar1165.2.2 hin1165 (Has.at H1165 hin1165 rfl) rfl rfl (hb hby at_207)) (XS.iconst X986.here hx rfl (hb hby at_208) k))))) ?_
            by_cases hc1166 : v70 = (-1 : Int32)
            · skip
              have ne1239 : w_GSPO ≠ b65 := Nat.ne_of_lt (Nat.lt_of_lt_of_le E_w_GSPO.lt (Nat.le_trans (Nat.le_refl _) lo_b65))
              have F1240 : Fld Z h77 w_GSPO "com/example/chronoquad/chronoquad/QuadOrder" "positions" "[I" (.ref r_positions_w_GSPO) := (Fld.other W77 (Fld.other W74 (Fld.other W71 (Fld.other W68 (Fld.ext E65 F_positions_59) (Or.inl ne1239)) (Or.inl ne1239)) (Or.inl ne1239)) (Or.inl ne1239))
              have ne1244 : r_positions_w_GSPO ≠ b65 := Nat.ne_of_lt (Nat.lt_of_lt_of_le V_r_positions_w_GSPO.lt (Nat.le_trans (Nat.le_refl _) lo_b65))
              have A1245 : Arv Z h77 r_positions_w_GSPO c_r_positions_w_GSPO .int (4 : Int32) [(.int (3 : Int32)), (.int (0 : Int32)), (.int (1 : Int32)), (.int (2 : Int32))] (.int (0 : Int32)) := (Arv.other (Arv.other (Arv.other (Arv.other (Arv.ext V_r_positions_w_GSPO E65) W68 ne1244) W71 ne1244) W74 ne1244) W77 ne1244)
              have E1265 : Exa Z h77 w_GSPO "com/example/chronoquad/chronoquad/QuadOrder" := (Exa.wr W77 (Exa.wr W74 (Exa.wr W71 (Exa.wr W68 (Exa.ext E65 E_w_GSPO)))))
              obtain ⟨_, T1167, L1167, X1167, ⟨rfl, rfl, e1167⟩, st1167⟩ := own_cv X986 hx hZ hown (own_w106 hw) hml (g := (mkF m 240 #[.val (.int p_0), .val (.int p_1), .val (.int p_2), .val (.int p_3), .val (.int p_4), .val (.int k64), .val (.ref b65), .val (.ref w_GSPO), .val (.int (3 : Int32)), .val (.int (0 : Int32)), .val (.int (1 : Int32)), .val (.int (2 : Int32)), .val (.int (2 : Int32))] [(.ref b65), (.ref w_GSPO)])) (hb hby at_240) e986 E1265 [(.ref b65)] [] (lenOf own_pd0 rfl) (own_rm1236 l Z a0 hw h77 w_GSPO b65 r_positions_w_GSPO c_r_positions_w_GSPO k65 v67 v70 v73 v76 F1240 A1245 V77 hc988 hc1073 hc1166)
              refine own_go (T2 := T1167) (g2 := (mkF m 253 #[.val (.int p_0), .val (.int p_1), .val (.int p_2), .val (.int p_3), .val (.int p_4), .val (.int k64), .val (.ref b65), .val (.ref w_GSPO), .val (.int (3 : Int32)), .val (.int (0 : Int32)), .val (.int (1 : Int32)), .val (.int (2 : Int32)), .val (.int (2 : Int32))] [(.int (1 : Int32))])) (fun t k => XS.icmpNo X986.here hx rfl (hb hby at_209) rfl (teq (show v70 = (-1 : Int32) from hc1166)).2 (XS.iconst X986.here hx rfl (hb hby at_212) (XS.istore X986.here hx rfl (hb hby at_213) rfl (l' := #[.val (.int p_0), .val (.int p_1), .val (.int p_2), .val (.int p_3), .val (.int p_4), .val (.int k64), .val (.ref b65), .val (.ref w_GSPO), .val (.int (3 : Int32)), .val (.int (0 : Int32)), .val (.int (1 : Int32)), .val (.int (2 : Int32)), .val (.int (2 : Int32))]) rfl (XS.goto X986.here hx rfl (pc0 := 215) (pc' := 236) rfl (hb hby at_215) (by decide) (by decide) (XS.aload X986.here hx rfl (hb hby at_236) rfl rfl (XS.aload X986.here hx rfl (hb hby at_238) rfl rfl (st1167 _ (XS.iload X1167.here hx rfl (hb hby at_243) rfl  (XS.icmpNo X1167.here hx rfl (hb hby at_245) rfl (teq (show (2 : Int32) = (2 : Int32) from (by decide))).2 (XS.iconst X1167.here hx rfl (hb hby at_248) (XS.goto X1167.here hx rfl (pc0 := 249) (pc' := 253) rfl (hb hby at_249) (by decide) (by decide) k))))))))))) ?_
              exact own_endN X1167 hx Bd.notSynchronized (t := .boolean) Bd.returns (by simp) (hb hby at_253) (z' := (1 : Int32)) rfl (by decide) (by decide) ⟨rfl, own_kpFr K77⟩
            · skip
              obtain ⟨cl1266, Ar1266, q1266, S1266, N1266, H1266, G1266⟩ := id V77
              have hin1266 : ¬ ((2 : Int32) < 0 ∨ cl1266.slots.size ≤ ((2 : Int32)).toNatClampNeg) := inb_of S1266 ⟨by decide, by decide⟩
              refine own_go (T2 := T986) (g2 := (mkF m 224 #[.val (.int p_0), .val (.int p_1), .val (.int p_2), .val (.int p_3), .val (.int p_4), .val (.int k64), .val (.ref b65), .val (.ref w_GSPO), .val (.int (3 : Int32)), .val (.int (0 : Int32)), .val (.int (1 : Int32)), .val (.int (2 : Int32)), .unset] [(.int (-1 : Int32)), (.int v73)])) (fun t k => XS.icmpYes X986.here hx rfl (pc0 := 209) (pc' := 218) rfl (hb hby at_209) rfl (feq (show ¬ (v70 = (-1 : Int32)) from hc1166)).2 (by decide) (by decide) (XS.aload X986.here hx rfl (hb hby at_218) rfl rfl (XS.iload X986.here hx rfl (hb hby at_220) rfl  (own_ap (X986.iaload hx (j := (2 : Int32)) (v := (.int v73)) (by rw [e986]; exact Ar1266.1) (State.isArrayOf_alike hZ.alike Ar1266.2.1) Ar1266.2.2 hin1266 (Has.at H1266 hin1266 rfl) rfl rfl (hb hby at_222)) (XS.iconst X986.here hx rfl (hb hby at_223) k))))) ?_
              by_cases hc1267 : v73 = (-1 : Int32)
              · skip
                have ne1344 : w_GSPO ≠ b65 := Nat.ne_of_lt (Nat.lt_of_lt_of_le E_w_GSPO.lt (Nat.le_trans (Nat.le_refl _) lo_b65))
                have F1345 : Fld Z h77 w_GSPO "com/example/chronoquad/chronoquad/QuadOrder" "positions" "[I" (.ref r_positions_w_GSPO) := (Fld.other W77 (Fld.other W74 (Fld.other W71 (Fld.other W68 (Fld.ext E65 F_positions_59) (Or.inl ne1344)) (Or.inl ne1344)) (Or.inl ne1344)) (Or.inl ne1344))
                have ne1349 : r_positions_w_GSPO ≠ b65 := Nat.ne_of_lt (Nat.lt_of_lt_of_le V_r_positions_w_GSPO.lt (Nat.le_trans (Nat.le_refl _) lo_b65))
                have A1350 : Arv Z h77 r_positions_w_GSPO c_r_positions_w_GSPO .int (4 : Int32) [(.int (3 : Int32)), (.int (0 : Int32)), (.int (1 : Int32)), (.int (2 : Int32))] (.int (0 : Int32)) := (Arv.other (Arv.other (Arv.other (Arv.other (Arv.ext V_r_positions_w_GSPO E65) W68 ne1349) W71 ne1349) W74 ne1349) W77 ne1349)
                have E1374 : Exa Z h77 w_GSPO "com/example/chronoquad/chronoquad/QuadOrder" := (Exa.wr W77 (Exa.wr W74 (Exa.wr W71 (Exa.wr W68 (Exa.ext E65 E_w_GSPO)))))
                obtain ⟨_, T1268, L1268, X1268, ⟨rfl, rfl, e1268⟩, st1268⟩ := own_cv X986 hx hZ hown (own_w106 hw) hml (g := (mkF m 240 #[.val (.int p_0), .val (.int p_1), .val (.int p_2), .val (.int p_3), .val (.int p_4), .val (.int k64), .val (.ref b65), .val (.ref w_GSPO), .val (.int (3 : Int32)), .val (.int (0 : Int32)), .val (.int (1 : Int32)), .val (.int (2 : Int32)), .val (.int (3 : Int32))] [(.ref b65), (.ref w_GSPO)])) (hb hby at_240) e986 E1374 [(.ref b65)] [] (lenOf own_pd0 rfl) (own_rm1341 l Z a0 hw h77 w_GSPO b65 r_positions_w_GSPO c_r_positions_w_GSPO k65 v67 v70 v73 v76 F1345 A1350 V77 hc988 hc1073 hc1166 hc1267)
                refine own_go (T2 := T1268) (g2 := (mkF m 253 #[.val (.int p_0), .val (.int p_1), .val (.int p_2), .val (.int p_3), .val (.int p_4), .val (.int k64), .val (.ref b65), .val (.ref w_GSPO), .val (.int (3 : Int32)), .val (.int (0 : Int32)), .val (.int (1 : Int32)), .val (.int (2 : Int32)), .val (.int (3 : Int32))] [(.int (1 : Int32))])) (fun t k => XS.icmpNo X986.here hx rfl (hb hby at_224) rfl (teq (show v73 = (-1 : Int32) from hc1267)).2 (XS.iconst X986.here hx rfl (hb hby at_227) (XS.istore X986.here hx rfl (hb hby at_228) rfl (l' := #[.val (.int p_0), .val (.int p_1), .val (.int p_2), .val (.int p_3), .val (.int p_4), .val (.int k64), .val (.ref b65), .val (.ref w_GSPO), .val (.int (3 : Int32)), .val (.int (0 : Int32)), .val (.int (1 : Int32)), .val (.int (2 : Int32)), .val (.int (3 : Int32))]) rfl (XS.goto X986.here hx rfl (pc0 := 230) (pc' := 236) rfl (hb hby at_230) (by decide) (by decide) (XS.aload X986.here hx rfl (hb hby at_236) rfl rfl (XS.aload X986.here hx rfl (hb hby at_238) rfl rfl (st1268 _ (XS.iload X1268.here hx rfl (hb hby at_243) rfl  (XS.icmpNo X1268.here hx rfl (hb hby at_245) rfl (teq (show (3 : Int32) = (3 : Int32) from (by decide))).2 (XS.iconst X1268.here hx rfl (hb hby at_248) (XS.goto X1268.here hx rfl (pc0 := 249) (pc' := 253) rfl (hb hby at_249) (by decide) (by decide) k))))))))))) ?_
                exact own_endN X1268 hx Bd.notSynchronized (t := .boolean) Bd.returns (by simp) (hb hby at_253) (z' := (1 : Int32)) rfl (by decide) (by decide) ⟨rfl, own_kpFr K77⟩
              · skip
                have ne1455 : w_GSPO ≠ b65 := Nat.ne_of_lt (Nat.lt_of_lt_of_le E_w_GSPO.lt (Nat.le_trans (Nat.le_refl _) lo_b65))
                have F1456 : Fld Z h77 w_GSPO "com/example/chronoquad/chronoquad/QuadOrder" "positions" "[I" (.ref r_positions_w_GSPO) := (Fld.other W77 (Fld.other W74 (Fld.other W71 (Fld.other W68 (Fld.ext E65 F_positions_59) (Or.inl ne1455)) (Or.inl ne1455)) (Or.inl ne1455)) (Or.inl ne1455))
                have ne1460 : r_positions_w_GSPO ≠ b65 := Nat.ne_of_lt (Nat.lt_of_lt_of_le V_r_positions_w_GSPO.lt (Nat.le_trans (Nat.le_refl _) lo_b65))
                have A1461 : Arv Z h77 r_positions_w_GSPO c_r_positions_w_GSPO .int (4 : Int32) [(.int (3 : Int32)), (.int (0 : Int32)), (.int (1 : Int32)), (.int (2 : Int32))] (.int (0 : Int32)) := (Arv.other (Arv.other (Arv.other (Arv.other (Arv.ext V_r_positions_w_GSPO E65) W68 ne1460) W71 ne1460) W74 ne1460) W77 ne1460)
                have E1485 : Exa Z h77 w_GSPO "com/example/chronoquad/chronoquad/QuadOrder" := (Exa.wr W77 (Exa.wr W74 (Exa.wr W71 (Exa.wr W68 (Exa.ext E65 E_w_GSPO)))))
                obtain ⟨_, T1375, L1375, X1375, ⟨rfl, rfl, e1375⟩, st1375⟩ := own_cv X986 hx hZ hown (own_w106 hw) hml (g := (mkF m 240 #[.val (.int p_0), .val (.int p_1), .val (.int p_2), .val (.int p_3), .val (.int p_4), .val (.int k64), .val (.ref b65), .val (.ref w_GSPO), .val (.int (3 : Int32)), .val (.int (0 : Int32)), .val (.int (1 : Int32)), .val (.int (2 : Int32)), .val (.int (4 : Int32))] [(.ref b65), (.ref w_GSPO)])) (hb hby at_240) e986 E1485 [(.ref b65)] [] (lenOf own_pd0 rfl) (own_rm1452 l Z a0 hw h77 w_GSPO b65 r_positions_w_GSPO c_r_positions_w_GSPO k65 v67 v70 v73 v76 F1456 A1461 V77 hc988 hc1073 hc1166 hc1267)
                refine own_go (T2 := T1375) (g2 := (mkF m 253 #[.val (.int p_0), .val (.int p_1), .val (.int p_2), .val (.int p_3), .val (.int p_4), .val (.int k64), .val (.ref b65), .val (.ref w_GSPO), .val (.int (3 : Int32)), .val (.int (0 : Int32)), .val (.int (1 : Int32)), .val (.int (2 : Int32)), .val (.int (4 : Int32))] [(.int (1 : Int32))])) (fun t k => XS.icmpYes X986.here hx rfl (pc0 := 224) (pc' := 233) rfl (hb hby at_224) rfl (feq (show ¬ (v73 = (-1 : Int32)) from hc1267)).2 (by decide) (by decide) (XS.iconst X986.here hx rfl (hb hby at_233) (XS.istore X986.here hx rfl (hb hby at_234) rfl (l' := #[.val (.int p_0), .val (.int p_1), .val (.int p_2), .val (.int p_3), .val (.int p_4), .val (.int k64), .val (.ref b65), .val (.ref w_GSPO), .val (.int (3 : Int32)), .val (.int (0 : Int32)), .val (.int (1 : Int32)), .val (.int (2 : Int32)), .val (.int (4 : Int32))]) rfl (XS.aload X986.here hx rfl (hb hby at_236) rfl rfl (XS.aload X986.here hx rfl (hb hby at_238) rfl rfl (st1375 _ (XS.iload X1375.here hx rfl (hb hby at_243) rfl  (XS.icmpNo X1375.here hx rfl (hb hby at_245) rfl (teq (show (4 : Int32) = (4 : Int32) from (by decide))).2 (XS.iconst X1375.here hx rfl (hb hby at_248) (XS.goto X1375.here hx rfl (pc0 := 249) (pc' := 253) rfl (hb hby at_249) (by decide) (by decide) k)))))))))) ?_
                exact own_endN X1375 hx Bd.notSynchronized (t := .boolean) Bd.returns (by simp) (hb hby at_253) (z' := (1 : Int32)) rfl (by decide) (by decide) ⟨rfl, own_kpFr K77⟩
set_option maxRecDepth 65536 in
set_option maxHeartbeats 40000000 in
theorem comes_1 {Post : Tables → Env → Array Value → State → Outcome → State → Prop} (hpost : ∀ tb e args s v u, (limb_1_1.after args s (.returned v) u = true ∧ limb_1_2.after args s (.returned v) u = true ∧ True) → FrameEnd s (.returned v) u (Jvm.fieldLocs frame_1_writes args s ++ Jvm.arrayLocs frame_1_arrays args s ++ Jvm.staticLocs frame_1_statics s) 16 128 → Post tb e args s (.returned v) u) :
    ArmFor flags0 classFile x code maxLocals ret World_1 tables_1 room_1 Calls_1 rest_1 Pre_1 Post := by
  intro l hfl _ _ p e ha hc hk s m args below hf hA hF happ hP
  obtain ⟨hcalls, hrest, hpre⟩ := hP
  obtain ⟨-, -, -, hnamed, -, -, -, hat⟩ := (Spec.applies_iff hf).mp happ
  obtain ⟨hg, hn⟩ := and_e (Cond.before_iff.mp (show (Jvm.Cond.and given_1 narrow_1).before args s = true from hpre))
  obtain ⟨g1486, g1487⟩ := and_e hg
  obtain ⟨g1488, g1489⟩ := and_e g1487
  obtain ⟨g1490, g1491⟩ := and_e g1489
  obtain ⟨g1492, g1493⟩ := and_e g1491
  obtain ⟨g1494, g1495⟩ := and_e g1493
  obtain ⟨w0, w1, w2, w3, w4, rfl⟩ : ∃ w0 w1 w2 w3 w4 : Value, args = #[w0, w1, w2, w3, w4] := by
    have hs : args.size = 5 := by simpa [Cond.value, given_1] using g1486
    obtain ⟨L⟩ := args
    match L, hs with
    | [w0, w1, w2, w3, w4], _ => exact ⟨w0, w1, w2, w3, w4, rfl⟩
  have hw := fun d (hd : d ∈ tables_1) => atoms_spec (ws := Jvm.Cond.code x code maxLocals ret :: tables_1) hat d (List.mem_cons_of_mem _ hd)
  have hfit : Fit s := fun {y c} hc i hi => by
    obtain ⟨ha, rfl⟩ := Array.getElem?_eq_some_iff.mp hc
    have q := List.all_eq_true.mp ((Array.all_eq_true_iff_forall_mem.mp hF) _ (Array.getElem_mem ha)) i (List.mem_range.mpr hi)
    simpa [Array.getElem?_eq_getElem hi] using q
  obtain ⟨i0, ei0⟩ := is_v g1488
  obtain rfl : w0 = (.int i0) := Option.some.inj ei0
  obtain ⟨i1, ei1⟩ := is_v g1490
  obtain rfl : w1 = (.int i1) := Option.some.inj ei1
  obtain ⟨i2, ei2⟩ := is_v g1492
  obtain rfl : w2 = (.int i2) := Option.some.inj ei2
  obtain ⟨i3, ei3⟩ := is_v g1494
  obtain rfl : w3 = (.int i3) := Option.some.inj ei3
  obtain ⟨i4, ei4⟩ := is_v g1495
  obtain rfl : w4 = (.int i4) := Option.some.inj ei4
  obtain ⟨n2, n3⟩ := and_e hn
  obtain ⟨n4, n5⟩ := and_e n3
  obtain ⟨n6, n7⟩ := and_e n5
  obtain ⟨n8, n9⟩ := and_e n7
  obtain ⟨n10, n11⟩ := and_e n9
  obtain ⟨n12, n13⟩ := and_e n11
  obtain ⟨n14, n15⟩ := and_e n13
  obtain ⟨n16, n17⟩ := and_e n15
  obtain ⟨n18, n19⟩ := and_e n17
  obtain ⟨n20, n21⟩ := and_e n19
  obtain ⟨n22, n23⟩ := and_e n21
  obtain ⟨n24, n25⟩ := and_e n23
  obtain ⟨n26, n27⟩ := and_e n25
  obtain ⟨n28, n29⟩ := and_e n27
  obtain ⟨n30, n31⟩ := and_e n29
  obtain ⟨n32, n33⟩ := and_e n31
  obtain ⟨n34, n35⟩ := and_e n33
  obtain ⟨n36, n37⟩ := and_e n35
  obtain ⟨n38, n39⟩ := and_e n37
  obtain ⟨n40, n41⟩ := and_e n39
  obtain ⟨n42, n43⟩ := and_e n41
  obtain ⟨n44, n45⟩ := and_e n43
  obtain ⟨n46, n47⟩ := and_e n45
  obtain ⟨n48, n49⟩ := and_e n47
  obtain ⟨n50, n51⟩ := and_e n49
  obtain ⟨n52, n53⟩ := and_e n51
  obtain ⟨n54, n55⟩ := and_e n53
  obtain ⟨w_SPOG, ev_w_SPOG⟩ := exa_v n2
  obtain ⟨r_positions_w_SPOG, ev_r_positions_w_SPOG⟩ := arr_v n4
  obtain ⟨cl_r_positions_w_SPOG, A_r_positions_w_SPOG⟩ := own_arr ev_r_positions_w_SPOG n4
  obtain ⟨w_GSPO, ev_w_GSPO⟩ := exa_v n16
  obtain ⟨r_positions_w_GSPO, ev_r_positions_w_GSPO⟩ := arr_v n18
  obtain ⟨cl_r_positions_w_GSPO, A_r_positions_w_GSPO⟩ := own_arr ev_r_positions_w_GSPO n18
  obtain ⟨w_OSPG, ev_w_OSPG⟩ := exa_v n30
  obtain ⟨r_positions_w_OSPG, ev_r_positions_w_OSPG⟩ := arr_v n32
  obtain ⟨cl_r_positions_w_OSPG, A_r_positions_w_OSPG⟩ := own_arr ev_r_positions_w_OSPG n32
  obtain ⟨w_POSG, ev_w_POSG⟩ := exa_v n42
  obtain ⟨r_positions_w_POSG, ev_r_positions_w_POSG⟩ := arr_v n44
  obtain ⟨cl_r_positions_w_POSG, A_r_positions_w_POSG⟩ := own_arr ev_r_positions_w_POSG n44
  have L_r_positions_w_SPOG := own_len ev_r_positions_w_SPOG A_r_positions_w_SPOG n6
  have L_r_positions_w_GSPO := own_len ev_r_positions_w_GSPO A_r_positions_w_GSPO n20
  have L_r_positions_w_OSPG := own_len ev_r_positions_w_OSPG A_r_positions_w_OSPG n34
  have L_r_positions_w_POSG := own_len ev_r_positions_w_POSG A_r_positions_w_POSG n46
  obtain ⟨n, o, h1, h2, h3, _, L, rfl, ⟨rfl, N⟩, hq⟩ := own_rm0 l s _ hw tables_1 s.heap i0 i1 i2 i3 i4 w_SPOG r_positions_w_SPOG w_GSPO r_positions_w_GSPO w_OSPG r_positions_w_OSPG w_POSG r_positions_w_POSG cl_r_positions_w_SPOG.cls cl_r_positions_w_GSPO.cls cl_r_positions_w_OSPG.cls cl_r_positions_w_POSG.cls
    ⟨Nat.le_refl _, fun _ _ q => q⟩
    (Sta.start ev_w_SPOG (Or.inr ⟨(own_wd hw 2 rfl), (own_wd hw 3 rfl)⟩))
    (Exa.start ev_w_SPOG n2)
    (Fld.start ((fld_at ev_w_SPOG).symm.trans ev_r_positions_w_SPOG))
    (Sta.start ev_w_GSPO (Or.inr ⟨(own_wd hw 2 rfl), (own_wd hw 12 rfl)⟩))
    (Exa.start ev_w_GSPO n16)
    (Fld.start ((fld_at ev_w_GSPO).symm.trans ev_r_positions_w_GSPO))
    (Sta.start ev_w_OSPG (Or.inr ⟨(own_wd hw 2 rfl), (own_wd hw 14 rfl)⟩))
    (Exa.start ev_w_OSPG n30)
    (Fld.start ((fld_at ev_w_OSPG).symm.trans ev_r_positions_w_OSPG))
    (Sta.start ev_w_POSG (Or.inr ⟨(own_wd hw 2 rfl), (own_wd hw 16 rfl)⟩))
    (Exa.start ev_w_POSG n42)
    (Fld.start ((fld_at ev_w_POSG).symm.trans ev_r_positions_w_POSG))
    (Arv.start hfit A_r_positions_w_SPOG L_r_positions_w_SPOG.1 L_r_positions_w_SPOG.2 (by decide) (by decide) ⟨(own_elemI ev_r_positions_w_SPOG A_r_positions_w_SPOG n8), (own_elemI ev_r_positions_w_SPOG A_r_positions_w_SPOG n10), (own_elemI ev_r_positions_w_SPOG A_r_positions_w_SPOG n12), (own_elemI ev_r_positions_w_SPOG A_r_positions_w_SPOG n14), trivial⟩)
    (Arv.start hfit A_r_positions_w_GSPO L_r_positions_w_GSPO.1 L_r_positions_w_GSPO.2 (by decide) (by decide) ⟨(own_elemI ev_r_positions_w_GSPO A_r_positions_w_GSPO n22), (own_elemI ev_r_positions_w_GSPO A_r_positions_w_GSPO n24), (own_elemI ev_r_positions_w_GSPO A_r_positions_w_GSPO n26), (own_elemI ev_r_positions_w_GSPO A_r_positions_w_GSPO n28), trivial⟩)
    (Arv.start hfit A_r_positions_w_OSPG L_r_positions_w_OSPG.1 L_r_positions_w_OSPG.2 (by decide) (by decide) ⟨(own_elemI ev_r_positions_w_OSPG A_r_positions_w_OSPG n36), (own_elemI ev_r_positions_w_OSPG A_r_positions_w_OSPG n38), (own_elemI ev_r_positions_w_OSPG A_r_positions_w_OSPG n40), (own_elemI ev_r_positions_w_OSPG A_r_positions_w_OSPG n54), trivial⟩)
    (Arv.start hfit A_r_positions_w_POSG L_r_positions_w_POSG.1 L_r_positions_w_POSG.2 (by decide) (by decide) ⟨(own_elemI ev_r_positions_w_POSG A_r_positions_w_POSG n48), (own_elemI ev_r_positions_w_POSG A_r_positions_w_POSG n50), (own_elemI ev_r_positions_w_POSG A_r_positions_w_POSG n52), (own_elemI ev_r_positions_w_POSG A_r_positions_w_POSG n55), trivial⟩)
    p e ha hc hk s m _ below hf ((Spec.applies_iff_loose hf).mp happ).1 ⟨rfl, State.Warmed39.refl s, rfl⟩ trivial
  refine ⟨n, _, h1, h2, h3, hpost _ _ _ _ _ _ ⟨Cond.after_iff.mpr rfl, Cond.after_iff.mpr (eq_i res_at (Term.int_eval (1)) rfl), trivial⟩ ⟨hq.1, hq.2.1, (hq.2.2.sift fun y hy => Or.inr (N y hy)).mono (by decide) (by decide)⟩⟩
theorem main_1_1 : Claimed_1_1 := comes_1 fun _ _ _ _ _ _ h hF => ⟨h.1, hF⟩
theorem main_1_2 : Claimed_1_2 := comes_1 fun _ _ _ _ _ _ h hF => ⟨h.2.1, hF⟩
end Jvm.Pilot.@@N@@
namespace Jvm.Pilot.@@N@@
open Jvm Jvm.ClassFile Sem Op Lib Jvm.Free Jvm.Stand Jvm.Pilot.@@N@@.Jvm.D
/-! MADE BY PROGRAM (witnessworld.py) out of the Statement's table words and the real class files: 12 classes; the members and pool entries that the words name. The judged class is class 1, her method 1. -/
namespace start1
open Jvm.ClassFile
def u (s : String) : CpInfo := .utf8 (stringToUtf16 s)
/-- a pool by its gaps: so many unusable entries, then the entry; so many at the end -/
def gap : Nat → List CpInfo → List CpInfo
  | 0, r => r
  | n + 1, r => .unusable :: gap n r
def poolList (es : List (Nat × CpInfo)) (last : Nat) : List CpInfo := es.foldr (fun e r => gap e.1 (e.2 :: r)) (gap last [])
def pool (es : List (Nat × CpInfo)) (last : Nat) : Array CpInfo := ⟨poolList es last⟩
def fileOf (pool : Array CpInfo) (this : Nat) (attrs : Array Attribute := #[]) (ms : Array MethodInfo := #[]) (fl : Nat := 33) (sup : Nat := 0) (ifs : Array Nat := #[]) (fds : Array FieldInfo := #[]) : ClassFile where
  minorVersion := 0
  majorVersion := 65
  constantPool := pool
  accessFlags := fl
  thisClass := this
  superClass := sup
  interfaces := ifs
  fields := fds
  methods := ms
  attributes := attrs
def plain (name : String) (sup : Option ClassId) : Class where
  name := name
  kind := .ordinary
  loader := none
  accessFlags := 33
  super := sup
  interfaces := #[]
  cf := none
  fields := #[]
  methods := #[]
  instanceTypes := #[]
  staticTypes := #[]
  resolved := #[]
  callSites := []
  init := .initialized
  statics := none
  mirror := none

def pool0 : Array CpInfo := pool [(5, u "<init>"), (0, u "()V"), (1, .class_ 10), (1, u "java/lang/Object")] 113

def k0m0 : Method := { name := "<init>", desc := "()V", sig := { parameters := [], returnType := none }, accessFlags := 1, code := none }
/-- java/lang/Object -/
def k0 : Class := { plain "java/lang/Object" none with
  accessFlags := 33
  interfaces := #[]
  cf := some (fileOf pool0 8 #[] #[{ accessFlags := 1, nameIndex := 5, descriptorIndex := 6, attributes := #[] }] 33 0 #[] #[])
  fields := #[]
  methods := #[k0m0]
  instanceTypes := #[]
  staticTypes := #[]
  resolved := Array.replicate 124 none
  statics := none }

def pool1 : Array CpInfo := pool [(2, .class_ 4), (1, u "java/lang/Object"), (0, u "<init>"), (0, u "()V"), (0, .fieldref 8 9), (0, .class_ 10), (0, .nameAndType 11 12), (0, u "com/example/chronoquad/chronoquad/QuadOrder"), (0, u "SPOG"), (0, u "Lcom/example/chronoquad/chronoquad/QuadOrder;"), (0, .fieldref 8 14), (0, .nameAndType 15 12), (0, u "POSG"), (0, .fieldref 8 17), (0, .nameAndType 18 12), (0, u "OSPG"), (0, .fieldref 8 20), (0, .nameAndType 21 12), (0, u "GSPO"), (0, .methodref 8 23), (0, .nameAndType 24 25), (0, u "leadingTerms"), (0, u "([I)I"), (0, .class_ 27), (0, u "com/example/chronoquad/chronoquad/QuadOrderLeadingTermsPinLaw"), (2, u "law"), (0, u "(IIIII)Z")] 5

def k1m0 : Method := { name := "<init>", desc := "()V", sig := { parameters := [], returnType := none }, accessFlags := 1, code := none }
def k1c1 : Code := { maxStack := 4, maxLocals := 13, code := code, exceptionTable := #[], attributes := #[] }
def k1m1 : Method := { name := "law", desc := "(IIIII)Z", sig := { parameters := [.int, .int, .int, .int, .int], returnType := some .boolean }, accessFlags := 9, code := some k1c1 }
/-- com/example/chronoquad/chronoquad/QuadOrderLeadingTermsPinLaw -/
def k1 : Class := { plain "com/example/chronoquad/chronoquad/QuadOrderLeadingTermsPinLaw" (some 0) with
  accessFlags := 49
  interfaces := #[]
  cf := some (fileOf pool1 26 #[] #[{ accessFlags := 1, nameIndex := 5, descriptorIndex := 6, attributes := #[] }, { accessFlags := 9, nameIndex := 30, descriptorIndex := 31, attributes := #[] }] 49 2 #[] #[])
  fields := #[]
  methods := #[k1m0, k1m1]
  instanceTypes := #[]
  staticTypes := #[]
  resolved := Array.replicate 37 none
  statics := none }

def pool2 : Array CpInfo := pool [(1, .class_ 2), (0, u "java/lang/constant/Constable"), (0, .class_ 4), (0, u "java/lang/Object")] 6

/-- java/lang/constant/Constable -/
def k2 : Class := { plain "java/lang/constant/Constable" (some 0) with
  accessFlags := 1537
  interfaces := #[]
  cf := some (fileOf pool2 1 #[] #[] 1537 3 #[] #[])
  fields := #[]
  methods := #[]
  instanceTypes := #[]
  staticTypes := #[]
  resolved := Array.replicate 11 none
  statics := none }

def pool3 : Array CpInfo := pool [(1, .class_ 2), (0, u "java/lang/Comparable"), (0, .class_ 4), (0, u "java/lang/Object")] 7

/-- java/lang/Comparable -/
def k3 : Class := { plain "java/lang/Comparable" (some 0) with
  accessFlags := 1537
  interfaces := #[]
  cf := some (fileOf pool3 1 #[] #[] 1537 3 #[] #[])
  fields := #[]
  methods := #[]
  instanceTypes := #[]
  staticTypes := #[]
  resolved := Array.replicate 12 none
  statics := none }

def pool4 : Array CpInfo := pool [(1, .class_ 2), (0, u "java/io/Serializable"), (0, .class_ 4), (0, u "java/lang/Object")] 2

/-- java/io/Serializable -/
def k4 : Class := { plain "java/io/Serializable" (some 0) with
  accessFlags := 1537
  interfaces := #[]
  cf := some (fileOf pool4 1 #[] #[] 1537 3 #[] #[])
  fields := #[]
  methods := #[]
  instanceTypes := #[]
  staticTypes := #[]
  resolved := Array.replicate 7 none
  statics := none }

def pool5 : Array CpInfo := pool [(2, .class_ 4), (1, u "java/lang/Enum"), (0, u "name"), (0, u "Ljava/lang/String;"), (2, u "ordinal"), (0, u "I"), (1, .class_ 14), (1, u "java/lang/Object"), (4, u "hash"), (86, .class_ 108), (1, u "java/lang/Enum$EnumDesc"), (2, .class_ 112), (0, u "java/lang/constant/Constable"), (0, .class_ 114), (0, u "java/lang/Comparable"), (0, .class_ 116), (0, u "java/io/Serializable")] 87

/-- java/lang/Enum -/
def k5 : Class := { plain "java/lang/Enum" (some 0) with
  accessFlags := 1057
  interfaces := #[2, 3, 4]
  cf := some (fileOf pool5 2 #[.nestMembers #[106]] #[] 1057 12 #[111, 113, 115] #[{ accessFlags := 18, nameIndex := 5, descriptorIndex := 6, attributes := #[] }, { accessFlags := 18, nameIndex := 9, descriptorIndex := 10, attributes := #[] }, { accessFlags := 2, nameIndex := 19, descriptorIndex := 10, attributes := #[] }])
  fields := #[{ name := "name", type := (.object "java/lang/String"), accessFlags := 18, slot := 0, constantValue := 0 }, { name := "ordinal", type := .int, accessFlags := 18, slot := 1, constantValue := 0 }, { name := "hash", type := .int, accessFlags := 2, slot := 2, constantValue := 0 }]
  methods := #[]
  instanceTypes := #[(.object "java/lang/String"), .int, .int]
  staticTypes := #[]
  resolved := Array.replicate 204 none
  statics := none }

def pool6 : Array CpInfo := pool [(1, .class_ 2), (0, u "com/example/chronoquad/chronoquad/QuadOrder"), (2, u "SPOG"), (0, u "Lcom/example/chronoquad/chronoquad/QuadOrder;"), (2, u "POSG"), (2, u "OSPG"), (2, u "GSPO"), (2, u "$VALUES"), (0, u "[Lcom/example/chronoquad/chronoquad/QuadOrder;"), (6, .class_ 28), (1, u "java/lang/Enum"), (6, .fieldref 1 36), (0, .nameAndType 37 38), (0, u "positions"), (0, u "[I"), (2, u "places"), (31, u "leadingTerms"), (0, u "([I)I"), (7, u "SUBJECT"), (0, u "I"), (2, u "PREDICATE"), (1, u "OBJECT"), (1, u "GRAPH"), (1, u "POSITIONS"), (1, u "ANY")] 18

def k6c0 : Code := { maxStack := 3, maxLocals := 3, code := prog_11_method_8_code, exceptionTable := #[], attributes := #[] }
def k6m0 : Method := { name := "leadingTerms", desc := "([I)I", sig := { parameters := [(.array .int)], returnType := some .int }, accessFlags := 0, code := some k6c0 }
/-- com/example/chronoquad/chronoquad/QuadOrder -/
def k6 : Class := { plain "com/example/chronoquad/chronoquad/QuadOrder" (some 5) with
  accessFlags := 16432
  interfaces := #[]
  cf := some (fileOf pool6 1 #[] #[{ accessFlags := 0, nameIndex := 73, descriptorIndex := 74, attributes := #[] }] 16432 26 #[] #[{ accessFlags := 16409, nameIndex := 5, descriptorIndex := 6, attributes := #[] }, { accessFlags := 16409, nameIndex := 9, descriptorIndex := 6, attributes := #[] }, { accessFlags := 16409, nameIndex := 12, descriptorIndex := 6, attributes := #[] }, { accessFlags := 16409, nameIndex := 15, descriptorIndex := 6, attributes := #[] }, { accessFlags := 24, nameIndex := 82, descriptorIndex := 83, attributes := #[] }, { accessFlags := 24, nameIndex := 86, descriptorIndex := 83, attributes := #[] }, { accessFlags := 24, nameIndex := 88, descriptorIndex := 83, attributes := #[] }, { accessFlags := 24, nameIndex := 90, descriptorIndex := 83, attributes := #[] }, { accessFlags := 24, nameIndex := 92, descriptorIndex := 83, attributes := #[] }, { accessFlags := 24, nameIndex := 94, descriptorIndex := 83, attributes := #[] }, { accessFlags := 18, nameIndex := 37, descriptorIndex := 38, attributes := #[] }, { accessFlags := 18, nameIndex := 41, descriptorIndex := 38, attributes := #[] }, { accessFlags := 4122, nameIndex := 18, descriptorIndex := 19, attributes := #[] }])
  fields := #[{ name := "SPOG", type := (.object "com/example/chronoquad/chronoquad/QuadOrder"), accessFlags := 16409, slot := 0, constantValue := 0 }, { name := "POSG", type := (.object "com/example/chronoquad/chronoquad/QuadOrder"), accessFlags := 16409, slot := 1, constantValue := 0 }, { name := "OSPG", type := (.object "com/example/chronoquad/chronoquad/QuadOrder"), accessFlags := 16409, slot := 2, constantValue := 0 }, { name := "GSPO", type := (.object "com/example/chronoquad/chronoquad/QuadOrder"), accessFlags := 16409, slot := 3, constantValue := 0 }, { name := "SUBJECT", type := .int, accessFlags := 24, slot := 4, constantValue := 0 }, { name := "PREDICATE", type := .int, accessFlags := 24, slot := 5, constantValue := 0 }, { name := "OBJECT", type := .int, accessFlags := 24, slot := 6, constantValue := 0 }, { name := "GRAPH", type := .int, accessFlags := 24, slot := 7, constantValue := 0 }, { name := "POSITIONS", type := .int, accessFlags := 24, slot := 8, constantValue := 0 }, { name := "ANY", type := .int, accessFlags := 24, slot := 9, constantValue := 0 }, { name := "positions", type := (.array .int), accessFlags := 18, slot := 3, constantValue := 0 }, { name := "places", type := (.array .int), accessFlags := 18, slot := 4, constantValue := 0 }, { name := "$VALUES", type := (.array (.object "com/example/chronoquad/chronoquad/QuadOrder")), accessFlags := 4122, slot := 10, constantValue := 0 }]
  methods := #[k6m0]
  instanceTypes := #[(.object "java/lang/String"), .int, .int, (.array .int), (.array .int)]
  staticTypes := #[(.object "com/example/chronoquad/chronoquad/QuadOrder"), (.object "com/example/chronoquad/chronoquad/QuadOrder"), (.object "com/example/chronoquad/chronoquad/QuadOrder"), (.object "com/example/chronoquad/chronoquad/QuadOrder"), .int, .int, .int, .int, .int, .int, (.array (.object "com/example/chronoquad/chronoquad/QuadOrder"))]
  resolved := Array.replicate 113 none
  statics := some 0 }

def pool7 : Array CpInfo := pool [(1, u "java/lang/Cloneable"), (0, .class_ 1), (0, u "java/lang/Object"), (0, .class_ 3)] 3

/-- java/lang/Cloneable -/
def k7 : Class := { plain "java/lang/Cloneable" (some 0) with
  accessFlags := 1537
  interfaces := #[]
  cf := some (fileOf pool7 2 #[] #[] 1537 4 #[] #[])
  fields := #[]
  methods := #[]
  instanceTypes := #[]
  staticTypes := #[]
  resolved := Array.replicate 8 none
  statics := none }

/-- the primitive byte -/
def k8 : Class := { plain "byte" none with kind := .primitive 'B', accessFlags := 0x411 }
/-- [B -/
def k9 : Class := { plain "[B" (some 0) with kind := .array 8 .byte, interfaces := #[7, 4], accessFlags := 1041 }

/-- the primitive int -/
def k10 : Class := { plain "int" none with kind := .primitive 'I', accessFlags := 0x411 }
/-- [I -/
def k11 : Class := { plain "[I" (some 0) with kind := .array 10 .int, interfaces := #[7, 4], accessFlags := 1041 }

def heap : Heap := #[{ cls := 6, slots := #[.ref 1, .ref 4, .ref 3, .ref 2, .int 0, .int 0, .int 0, .int 0, .int 0, .int 0, .null], vm := .statics 6 },
  { cls := 6, slots := #[.null, .int (0), .int (0), .ref 5, .null], vm := .none },
  { cls := 6, slots := #[.null, .int (0), .int (0), .ref 6, .null], vm := .none },
  { cls := 6, slots := #[.null, .int (0), .int (0), .ref 7, .null], vm := .none },
  { cls := 6, slots := #[.null, .int (0), .int (0), .ref 8, .null], vm := .none },
  { cls := 11, slots := #[.int (0), .int (1), .int (2), .int (3)], vm := .none },
  { cls := 11, slots := #[.int (3), .int (0), .int (1), .int (2)], vm := .none },
  { cls := 11, slots := #[.int (2), .int (0), .int (1), .int (3)], vm := .none },
  { cls := 11, slots := #[.int (1), .int (2), .int (0), .int (3)], vm := .none }]
def classes : Array Class := #[k0, k1, k2, k3, k4, k5, k6, k7, k8, k9, k10, k11]
def interned : List (Array UInt16 × Addr) := []
def slotsUsed : Nat := 47
def theMethod : MethodId := ⟨1, 1⟩
def args0 : Array Value := #[.int 5, .int 5, .int 5, .int 5, .int 5]
def aboutOver (below : List Frame) : State where
  vm := { classes := classes, interned := interned.toArray }
  heap := heap
  slotsUsed := slotsUsed
  threads := #[{ frames := .invoking theMethod args0 :: below }]
def below0 : List Frame := [.native { method := ⟨0, 0⟩, args := #[] }]
def about1 : State := aboutOver below0
def p0 : Program := .bare "" "" ""
def e0 : Env := launch0.env 0 0 0
theorem w_frames : about1.frames = Frame.invoking theMethod args0 :: below0 := rfl
set_option maxRecDepth 65536 in
theorem w_args : argsFit about1.vm theMethod args0 = true := by decide +kernel
set_option maxRecDepth 65536 in
theorem w_heap : heapFits about1 = true := by decide +kernel
set_option maxRecDepth 65536 in
theorem w_runnable : about1.curStatus? = some .runnable := by decide +kernel
set_option maxRecDepth 65536 in
theorem w_alone : about1.alone = true := by decide +kernel
set_option maxRecDepth 65536 in
theorem w_named : about1.methodNamed? x = some theMethod := by decide +kernel
set_option maxRecDepth 65536 in
theorem w_hears : about1.hears theMethod below0 = true := by decide +kernel
set_option maxRecDepth 65536 in
theorem w_ripe : about1.ripe theMethod args0 below0 = true := by decide +kernel
theorem w_running : about1.status = .running := rfl
set_option maxRecDepth 65536 in
theorem w_room : about1.hasRoom e0.platform room_1 = true :=
  launch0.hasRoom_least _ room_1 (by decide +kernel) (by decide +kernel) (by decide +kernel) (by decide +kernel) (by decide +kernel) (by decide +kernel)
theorem allAtoms_all (ts : List Jvm.Cond) (a : Array Jvm.Value) (st : Jvm.State) : (allAtoms ts).before a st = ts.all (fun c => c.before a st) := by
  induction ts with
  | nil => rfl
  | cons c t ih =>
    show (Jvm.Cond.and c (allAtoms t)).before a st = _
    rw [Jvm.Cond.before_and, ih, List.all_cons]
def words1 : List Jvm.Cond := Jvm.Cond.code x code maxLocals ret :: tables_1
/-- a 'code' word, met by the world's own term for the bytes: nothing is compared byte by byte -/
theorem code_word {y : MethodName} {bytes : ByteArray} {mx : Nat} {rt : Option FieldType} {a : Array Value} {s : State} {m : MethodId} {meth : Method} {c : Code} (h1 : s.methodNamed? y = some m) (h2 : s.vm.method? m = some meth) (h3 : meth.code = some c) (h4 : c.code = bytes)
    (h5 : (c.maxLocals == mx && c.exceptionTable.isEmpty && decide (c.maxStack ≤ mostOperands) && decide (meth.sig.returnType = rt) && !meth.locks && decide (parseMethodDescriptor y.desc = some meth.sig)) = true) : (Jvm.Cond.code y bytes mx rt).before a s = true := by
  simp only [Bool.and_eq_true, beq_iff_eq, Bool.not_eq_true', decide_eq_true_eq] at h5
  obtain ⟨⟨⟨⟨⟨g1, g2⟩, g3⟩, g4⟩, g5⟩, g6⟩ := h5
  simp [Cond.before, Cond.holds, Cond.value, h1, h2, h3, h4, g1, g2, g3, g4, g5, g6]
def isCode : Jvm.Cond → Bool
  | .code _ _ _ _ => true
  | _ => false
theorem all_split {L : List Jvm.Cond} {P : Jvm.Cond → Bool} (h1 : L.all (fun c => isCode c || P c) = true) (h2 : ∀ c ∈ L.filter isCode, P c = true) : L.all P = true := by
  refine List.all_eq_true.mpr fun c hc => ?_
  have h := List.all_eq_true.mp h1 c hc
  rcases Bool.eq_false_or_eq_true (isCode c) with hi | hi
  · exact h2 c (List.mem_filter.mpr ⟨hc, hi⟩)
  · simpa [hi] using h
set_option maxRecDepth 65536 in
theorem w_c0 : (Jvm.Cond.code x code maxLocals ret).before args0 about1 = true := code_word (m := ⟨1, 1⟩) (meth := k1m1) (c := k1c1) (by decide +kernel) rfl rfl rfl (by decide +kernel)
set_option maxRecDepth 65536 in
theorem w_c1 : (Jvm.Cond.code ({ cls := "com/example/chronoquad/chronoquad/QuadOrder", name := "leadingTerms", desc := "([I)I" } : Jvm.MethodName) prog_11_method_8_code (3 : Nat) (Option.some Jvm.ClassFile.FieldType.int)).before args0 about1 = true := code_word (m := ⟨6, 0⟩) (meth := k6m0) (c := k6c0) (by decide +kernel) rfl rfl rfl (by decide +kernel)
def codes1 : List Jvm.Cond := [Jvm.Cond.code x code maxLocals ret, Jvm.Cond.code ({ cls := "com/example/chronoquad/chronoquad/QuadOrder", name := "leadingTerms", desc := "([I)I" } : Jvm.MethodName) prog_11_method_8_code (3 : Nat) (Option.some Jvm.ClassFile.FieldType.int)]
set_option maxRecDepth 65536 in
theorem codes_eq : words1.filter isCode = codes1 := rfl
theorem w_codes : ∀ c ∈ words1.filter isCode, c.before args0 about1 = true := by
  rw [codes_eq]
  intro c hc
  simp only [codes1, List.mem_cons, List.not_mem_nil, or_false] at hc
  rcases hc with rfl | rfl
  · exact w_c0
  · exact w_c1
set_option maxRecDepth 65536 in
theorem w_t1 : words1.all (fun c => isCode c || c.before args0 about1) = true := by decide +kernel
theorem w_tables : (allAtoms (Jvm.Cond.code x code maxLocals ret :: tables_1)).before args0 about1 = true := by
  rw [allAtoms_all]
  show words1.all (fun c => c.before args0 about1) = true
  refine all_split ?_ w_codes
  rw [w_t1]
set_option maxRecDepth 65536 in
theorem w_case : (Jvm.Cond.and given_1 narrow_1).before args0 about1 = true := by decide +kernel
theorem w_applies : (headSpec (Jvm.Cond.code x code maxLocals ret :: tables_1) room_1).applies x e0.platform about1 = true :=
  (Spec.applies_iff w_frames).mpr ⟨w_running, w_runnable, w_alone, w_named, w_hears, w_ripe, w_room, w_tables⟩
theorem atStart : AtStart classFile x code maxLocals ret World_1 tables_1 room_1 Calls_1 rest_1 Pre_1 launch0 p0 e0 about1 theMethod args0 below0 :=
  ⟨lists_1, trivial, launch0.admits_env _ _ _, launch0.least_env, fairChoices_fair.cas, fairChoices_fair.clock, w_frames, w_args, w_heap, w_applies, trivial, trivial, w_case⟩
end start1
theorem witness_1 : WitnessClaimed_1 := ⟨start1.p0, start1.e0, start1.about1, start1.theMethod, start1.args0, start1.below0, start1.atStart⟩
end Jvm.Pilot.@@N@@
