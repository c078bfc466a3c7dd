import JvmDerived
import JvmDerived.Pilot.@@N@@Statement
import JvmDerived.Pilot.@@N@@Code
set_option linter.unusedVariables false
set_option linter.unusedSimpArgs false
namespace Jvm.RoadKit
open Sem ClassFile Op Lib Jvm.Stand Jvm.Free Jvm.LawKit
section Own
variable {p : Program} {l : Launch} {e : Env} {R : Room} {s : State} {m : MethodId} {args : Array Value} {below : List Frame} {meth : Method} {c : Code} {T : State} {locs : List Loc} {cells slots : Nat}
def own_Go (p : Program) (e : Env) (below : List Frame) (K : State → Outcome → Prop) (T : State) (g : JFrame) : Prop :=
  ∃ t o, Steps p.tables e below (T.setTop g) t ∧ t.status = .running ∧ Ended t below o ∧ K t o
theorem own_go {K : State → Outcome → Prop} {T1 T2 : State} {g1 g2 : JFrame} (h : ∀ t, Steps p.tables e below (T2.setTop g2) t → Steps p.tables e below (T1.setTop g1) t) (k : own_Go p e below K T2 g2) : own_Go p e below K T1 g1 := by
  obtain ⟨t, o, h1, h2⟩ := k
  exact ⟨t, o, h t h1, h2⟩
theorem own_ap {T1 T2 t : State} {g1 g2 : JFrame} (h : ∀ t, Steps p.tables e below (T2.setTop g2) t → Steps p.tables e below (T1.setTop g1) t) (k : Steps p.tables e below (T2.setTop g2) t) : Steps p.tables e below (T1.setTop g1) t := h t k
def own_K (s : State) (Q : Option Value → Heap → List Loc → Prop) (C S : Nat) (t : State) (o : Outcome) : Prop := ∃ v L, o = .returned v ∧ Q v t.heap L ∧ FrameEnd s o t L C S
def own_QP (r : Option Value) (h0 : Heap) (v : Option Value) (h : Heap) (L : List Loc) : Prop := v = r ∧ L = [] ∧ h = h0
def own_Con (l : Launch) (Z : State) (y : MethodName) (bytes : ByteArray) (maxL : Nat) (ret : Option FieldType) (rm : Room) (as' : Array Value) (h : Heap) (Q : Option Value → Heap → List Loc → Prop) : Prop :=
  MetFree l y (head1 [Cond.code y bytes maxL ret] rm) (fun a U => a = as' ∧ Z.Warmed39 U.vm ∧ U.heap = h) (fun _ _ _ _ _ => True) (fun _ U o U' => ∃ v L, o = .returned v ∧ Q v U'.heap L ∧ FrameEnd U o U' L rm.cells rm.slots)
theorem own_end (X : Stand p l e R s m args below meth c T locs cells slots) {v : Option Value} (hl : meth.locks = false) (hv : meth.sig.returnType = none → v = none) {g : JFrame} {Q : Option Value → Heap → List Loc → Prop} {C S : Nat}
    (hstep : ∀ fs, (∀ (f : JFrame) (acts : List Action), f.method = m → f.locked = none → f.entered = [] → (doReturn e (T.setTop f) acts v).1 = T.setFrames fs) → Steps p.tables e below (T.setTop g) (T.setFrames fs))
    (hc : cells ≤ C) (hs : slots ≤ S) (hQ : Q v T.heap locs) : own_Go p e below (own_K s Q C S) T g := by
  obtain ⟨fs, hr, hrun, hended, hW, hsame⟩ := X.leave hv hl
  exact ⟨_, _, hstep fs hr, hrun, hended, v, locs, rfl, hQ, ⟨_, rfl⟩, hW, hsame.mono hc hs⟩
theorem own_endN (X : Stand p l e R s m args below meth c T locs cells slots) (hx : p.tables.exec = Jvm.exec) (hl : meth.locks = false) {pc : Nat} {Ls : Array Slot} {z z' : Int32} {t : FieldType} {rest : List Value} {Q : Option Value → Heap → List Loc → Prop} {C S : Nat}
    (hret : meth.sig.returnType = some t) (ht : t = .boolean ∨ t = .byte ∨ t = .char ∨ t = .short) (hd : decode c.code pc = .ok (.ireturn, 1)) (hz : nar t z = z') (hc : cells ≤ C) (hs : slots ≤ S) (hQ : Q (some (.int z')) T.heap locs) :
    own_Go p e below (own_K s Q C S) T (mkF m pc Ls (.int z :: rest)) := by
  subst hz
  exact own_end X hl (fun h => by rw [hret] at h; cases h) (fun fs hr => retN X hx hret ht hd hr) hc hs hQ
theorem own_endI (X : Stand p l e R s m args below meth c T locs cells slots) (hx : p.tables.exec = Jvm.exec) (hl : meth.locks = false) {pc : Nat} {Ls : Array Slot} {z : Int32} {rest : List Value} {Q : Option Value → Heap → List Loc → Prop} {C S : Nat}
    (hret : meth.sig.returnType = some .int) (hd : decode c.code pc = .ok (.ireturn, 1)) (hc : cells ≤ C) (hs : slots ≤ S) (hQ : Q (some (.int z)) T.heap locs) :
    own_Go p e below (own_K s Q C S) T (mkF m pc Ls (.int z :: rest)) :=
  own_end X hl (fun h => by rw [hret] at h; cases h) (fun fs hr => retOut X hx hret rfl (Or.inl ⟨rfl, Or.inl rfl, z, rfl⟩) hd hr) hc hs hQ
theorem own_endJ (X : Stand p l e R s m args below meth c T locs cells slots) (hx : p.tables.exec = Jvm.exec) (hl : meth.locks = false) {pc : Nat} {Ls : Array Slot} {z : Int64} {rest : List Value} {Q : Option Value → Heap → List Loc → Prop} {C S : Nat}
    (hret : meth.sig.returnType = some .long) (hd : decode c.code pc = .ok (.lreturn, 1)) (hc : cells ≤ C) (hs : slots ≤ S) (hQ : Q (some (.long z)) T.heap locs) :
    own_Go p e below (own_K s Q C S) T (mkF m pc Ls (.long z :: rest)) :=
  own_end X hl (fun h => by rw [hret] at h; cases h) (fun fs hr => retOut X hx hret rfl (Or.inr (Or.inl ⟨rfl, rfl, z, rfl⟩)) hd hr) hc hs hQ
theorem own_endR (X : Stand p l e R s m args below meth c T locs cells slots) (hx : p.tables.exec = Jvm.exec) (hl : meth.locks = false) {pc : Nat} {Ls : Array Slot} {w : Value} {t : FieldType} {rest : List Value} {Q : Option Value → Heap → List Loc → Prop} {C S : Nat}
    (hret : meth.sig.returnType = some t) (ht : t.isReference = true) (hw : w.isRef = true) (hd : decode c.code pc = .ok (.areturn, 1)) (hc : cells ≤ C) (hs : slots ≤ S) (hQ : Q (some w) T.heap locs) :
    own_Go p e below (own_K s Q C S) T (mkF m pc Ls (w :: rest)) :=
  own_end X hl (fun h => by rw [hret] at h; cases h) (fun fs hr => retOut X hx hret (by rcases ref_cases hw with rfl | ⟨a, rfl⟩ <;> cases t <;> first | rfl | (cases ht)) (Or.inr (Or.inr (Or.inr (Or.inr ⟨rfl, ht, hw⟩)))) hd hr) hc hs hQ
theorem own_endV (X : Stand p l e R s m args below meth c T locs cells slots) (hx : p.tables.exec = Jvm.exec) (hl : meth.locks = false) {pc : Nat} {Ls : Array Slot} {Q : Option Value → Heap → List Loc → Prop} {C S : Nat}
    (hret : meth.sig.returnType = none) (hd : decode c.code pc = .ok (.return_, 1)) (hc : cells ≤ C) (hs : slots ≤ S) (hQ : Q none T.heap locs) :
    own_Go p e below (own_K s Q C S) T (mkF m pc Ls []) :=
  own_end X hl (fun _ => rfl) (fun fs hr => X.returnOut hx hret hd hr) hc hs hQ
variable {Z : State} {a0 : Array Value} {h : Heap} {y z : MethodName} {bytes : ByteArray} {maxL : Nat} {ret : Option FieldType} {rm : Room} {as' : Array Value} {Q : Option Value → Heap → List Loc → Prop}
theorem own_static (X : Stand p l e R s m args below meth c T locs cells slots) (hx : p.tables.exec = Jvm.exec) (hZ : Z.Warmed39 s.vm) {own : String} {index : Nat} (hown : s.vm.findClass own = some m.cls)
    (w1 : (Cond.methodLink own index y).before a0 Z = true) (w2 : (Cond.static y).before a0 Z = true) (w3 : (Cond.initialized y.cls).before a0 Z = true) (w4 : (Cond.code y bytes maxL ret).before a0 Z = true) (hy : y.cls ≠ "java/lang/invoke/MethodHandle" ∧ y.cls ≠ "java/lang/invoke/VarHandle")
    (W : Nat) {argsL rest : List Value} (hM : own_Con l Z y bytes maxL ret rm argsL.toArray h Q) (hf : rm.frames + 1 ≤ R.frames) (hl : W + (maxL + 11) + rm.locals ≤ R.locals)
    {g : JFrame} (hg : g.method = m) (hsize : g.locals.size = c.maxLocals) (hlen : ∀ sig, parseMethodDescriptor y.desc = some sig → argsL.length = sig.parameters.length) (hstack : g.stack = argsL.reverse ++ rest)
    (hW : 2 * g.monitorRoom + (rest.map fun v => v.category).sum ≤ W) (hdg : decode c.code g.pc = .ok (.invokestatic index, 3)) (eT : T.heap = h) (hc : cells + rm.cells ≤ R.cells) (hs : slots + rm.slots ≤ R.slots) :
    ∃ (v : Option Value) (T' : State) (L : List Loc), Stand p l e R s m args below meth c T' (locs ++ L) (cells + rm.cells) (slots + rm.slots) ∧ Q v T'.heap L ∧
      ∀ target, Steps p.tables e below (T'.setTop { g with pc := g.pc + 3, stack := v.toList ++ rest }) target → Steps p.tables e below (T.setTop g) target := by
  obtain ⟨v, _, ⟨T', L', k', n'⟩, -, X', ⟨L, hQ, e1, e2, e3⟩, st⟩ := Jvm.LawKit.callS X hx (y := y) hown (mvT hZ w1) (mvT hZ w2) (mvT hZ w3) (mvT hZ w4) hy (backOf (W := W) hM hZ w4 w3 hf hl) hg hsize hlen hstack hW hdg (fun _ _ => ⟨rfl, eT, hc, hs⟩)
  dsimp only [Pt.U, Pt.locs, Pt.cells, Pt.slots] at X' e1 e2 e3 st hQ
  subst e1 e2 e3
  exact ⟨v, T', L, X', hQ, st⟩
theorem own_special (X : Stand p l e R s m args below meth c T locs cells slots) (hx : p.tables.exec = Jvm.exec) (hZ : Z.Warmed39 s.vm) {own : String} {index : Nat} (hy1 : y.name = "<init>") (hown : s.vm.findClass own = some m.cls)
    (w1 : (Cond.methodLink own index y).before a0 Z = true) (w2 : (Cond.instanceMethod y).before a0 Z = true) (w3 : (Cond.initialized y.cls).before a0 Z = true) (w4 : (Cond.code y bytes maxL none).before a0 Z = true) (hy : y.cls ≠ "java/lang/invoke/MethodHandle" ∧ y.cls ≠ "java/lang/invoke/VarHandle")
    (W : Nat) {a : Addr} {argsL rest : List Value} (hM : own_Con l Z y bytes maxL none rm (.ref a :: argsL).toArray h Q) (hf : rm.frames + 1 ≤ R.frames) (hl : W + (maxL + 11) + rm.locals ≤ R.locals)
    {g : JFrame} (hg : g.method = m) (hsize : g.locals.size = c.maxLocals) (hlen : ∀ sig, parseMethodDescriptor y.desc = some sig → argsL.length = sig.parameters.length) (hstack : g.stack = argsL.reverse ++ .ref a :: rest)
    (hW : 2 * g.monitorRoom + (rest.map fun v => v.category).sum ≤ W) (hdg : decode c.code g.pc = .ok (.invokespecial index, 3)) (eT : T.heap = h) (hc : cells + rm.cells ≤ R.cells) (hs : slots + rm.slots ≤ R.slots) :
    ∃ (v : Option Value) (T' : State) (L : List Loc), Stand p l e R s m args below meth c T' (locs ++ L) (cells + rm.cells) (slots + rm.slots) ∧ Q v T'.heap L ∧
      ∀ target, Steps p.tables e below (T'.setTop { g with pc := g.pc + 3, stack := v.toList ++ rest }) target → Steps p.tables e below (T.setTop g) target := by
  obtain ⟨v, _, ⟨T', L', k', n'⟩, -, X', ⟨L, hQ, e1, e2, e3⟩, st⟩ := X.specialBack hx (y := y) hy1 hown (mvT hZ w1) (mvT hZ w2) (mvT hZ w4) hy (backOf (W := W) hM hZ w4 w3 hf hl) hg hsize (Steps.refl _) hlen hstack hW hdg (fun _ _ => ⟨rfl, eT, hc, hs⟩)
  dsimp only [Pt.U, Pt.locs, Pt.cells, Pt.slots] at X' e1 e2 e3 st hQ
  subst e1 e2 e3
  exact ⟨v, T', L, X', hQ, fun t k => st.trans k⟩
theorem own_virtual (X : Stand p l e R s m args below meth c T locs cells slots) (hx : p.tables.exec = Jvm.exec) (hZ : Z.Warmed39 s.vm) {own C : String} {index : Nat} (hown : s.vm.findClass own = some m.cls)
    (w1 : (Cond.methodLink own index y).before a0 Z = true) (w2 : (Cond.declares y).before a0 Z = true) (hnf : NotFace s y) (w5 : (Cond.selects C y z).before a0 Z = true) (w6 : (Cond.instanceMethod z).before a0 Z = true)
    (w3 : (Cond.initialized z.cls).before a0 Z = true) (w4 : (Cond.code z bytes maxL ret).before a0 Z = true) (hy : y.cls ≠ "java/lang/invoke/MethodHandle" ∧ y.cls ≠ "java/lang/invoke/VarHandle")
    (W : Nat) {a : Addr} {argsL rest : List Value} (hM : own_Con l Z z bytes maxL ret rm (.ref a :: argsL).toArray h Q) (hf : rm.frames + 1 ≤ R.frames) (hl : W + (maxL + 11) + rm.locals ≤ R.locals) (E : Exa Z h a C)
    {g : JFrame} (hg : g.method = m) (hsize : g.locals.size = c.maxLocals) (hlen : ∀ sig, parseMethodDescriptor y.desc = some sig → argsL.length = sig.parameters.length) (hstack : g.stack = argsL.reverse ++ .ref a :: rest)
    (hW : 2 * g.monitorRoom + (rest.map fun v => v.category).sum ≤ W) (hdg : decode c.code g.pc = .ok (.invokevirtual index, 3)) (eT : T.heap = h) (hc : cells + rm.cells ≤ R.cells) (hs : slots + rm.slots ≤ R.slots) :
    ∃ (v : Option Value) (T' : State) (L : List Loc), Stand p l e R s m args below meth c T' (locs ++ L) (cells + rm.cells) (slots + rm.slots) ∧ Q v T'.heap L ∧
      ∀ target, Steps p.tables e below (T'.setTop { g with pc := g.pc + 3, stack := v.toList ++ rest }) target → Steps p.tables e below (T.setTop g) target := by
  obtain ⟨cB, kB, q1, -, q2⟩ := isOf hZ eT E
  obtain ⟨v, _, ⟨T', L', k', n'⟩, -, X', ⟨L, hQ, e1, e2, e3⟩, st⟩ := X.virtualBack hx (y := y) (z := z) hown (mvT hZ w1) (mvT hZ w2) hnf (mvT hZ w5) (mvT hZ w6) hy (backOf (W := W) hM hZ w4 w3 hf hl) q1 q2 hg hsize (Steps.refl _) hlen hstack hW hdg (fun _ _ => ⟨rfl, eT, hc, hs⟩)
  dsimp only [Pt.U, Pt.locs, Pt.cells, Pt.slots] at X' e1 e2 e3 st hQ
  subst e1 e2 e3
  exact ⟨v, T', L, X', hQ, fun t k => st.trans k⟩
theorem own_virtualUp (X : Stand p l e R s m args below meth c T locs cells slots) (hx : p.tables.exec = Jvm.exec) (hZ : Z.Warmed39 s.vm) {own C owner : String} {index : Nat} (hown : s.vm.findClass own = some m.cls)
    (w1 : (Cond.methodLink own index y).before a0 Z = true) (w7 : (Cond.sameMethod y.cls owner y.name y.desc).before a0 Z = true) (w2 : (Cond.declares ⟨owner, y.name, y.desc⟩).before a0 Z = true) (ho : owner ≠ "java/lang/invoke/MethodHandle" ∧ owner ≠ "java/lang/invoke/VarHandle") (w5 : (Cond.selects C y z).before a0 Z = true) (w6 : (Cond.instanceMethod z).before a0 Z = true)
    (w3 : (Cond.initialized z.cls).before a0 Z = true) (w4 : (Cond.code z bytes maxL ret).before a0 Z = true)
    (W : Nat) {a : Addr} {argsL rest : List Value} (hM : own_Con l Z z bytes maxL ret rm (.ref a :: argsL).toArray h Q) (hf : rm.frames + 1 ≤ R.frames) (hl : W + (maxL + 11) + rm.locals ≤ R.locals) (E : Exa Z h a C)
    {g : JFrame} (hg : g.method = m) (hsize : g.locals.size = c.maxLocals) (hlen : ∀ sig, parseMethodDescriptor y.desc = some sig → argsL.length = sig.parameters.length) (hstack : g.stack = argsL.reverse ++ .ref a :: rest)
    (hW : 2 * g.monitorRoom + (rest.map fun v => v.category).sum ≤ W) (hdg : decode c.code g.pc = .ok (.invokevirtual index, 3)) (eT : T.heap = h) (hc : cells + rm.cells ≤ R.cells) (hs : slots + rm.slots ≤ R.slots) :
    ∃ (v : Option Value) (T' : State) (L : List Loc), Stand p l e R s m args below meth c T' (locs ++ L) (cells + rm.cells) (slots + rm.slots) ∧ Q v T'.heap L ∧
      ∀ target, Steps p.tables e below (T'.setTop { g with pc := g.pc + 3, stack := v.toList ++ rest }) target → Steps p.tables e below (T.setTop g) target := by
  obtain ⟨cB, kB, q1, -, q2⟩ := isOf hZ eT E
  obtain ⟨v, _, ⟨T', L', k', n'⟩, -, X', ⟨L, hQ, e1, e2, e3⟩, st⟩ := X.virtualBackUp hx (x := y) (y := z) (owner := owner) hown (mvT hZ w1) (mvT hZ w7) (mvT hZ w2) ho (mvT hZ w5) (mvT hZ w6) (backOf (W := W) hM hZ w4 w3 hf hl) q1 q2 hg hsize (Steps.refl _) hlen hstack hW hdg (fun _ _ => ⟨rfl, eT, hc, hs⟩)
  dsimp only [Pt.U, Pt.locs, Pt.cells, Pt.slots] at X' e1 e2 e3 st hQ
  subst e1 e2 e3
  exact ⟨v, T', L, X', hQ, fun t k => st.trans k⟩
theorem own_wd {ts : List Cond} (hw : ∀ d ∈ ts, d.before a0 Z = true) {d : Cond} (n : Nat) (h : ts[n]? = some d) : d.before a0 Z = true := hw d (List.mem_of_getElem? h)
theorem own_fldI {t : Term} {w : Addr} {C n d : String} {k : Int32} (ev : t.eval args s none [] s = some (.ref w)) (h : (Cond.eq (Term.field t C n d) (Term.int k)).value args s none s [] = some true) : Fld s s.heap w C n d (.int k) := by
  apply Fld.start
  cases hf : s.fieldOf? w C n d with
  | none => simp [Cond.value, Term.eval, ev, hf] at h
  | some x => cases x <;> simp [Cond.value, Term.eval, ev, hf] at h ⊢; exact h
theorem own_fldN {t : Term} {w : Addr} {C n d : String} (ev : t.eval args s none [] s = some (.ref w)) (h : (Cond.eq (Term.field t C n d) Term.null).value args s none s [] = some true) : Fld s s.heap w C n d .null := by
  have q := null_v h
  rw [fld_at ev] at q
  exact Fld.start q
theorem own_fldR {t u : Term} {w b : Addr} {C n d : String} (ev : t.eval args s none [] s = some (.ref w)) (eu : u.eval args s none [] s = some (.ref b)) (h : (Cond.eq (Term.field t C n d) u).value args s none s [] = some true) : Fld s s.heap w C n d (.ref b) := by
  apply Fld.start
  cases hf : s.fieldOf? w C n d with
  | none => simp [Cond.value, Term.eval, ev, eu, hf] at h
  | some x => cases x <;> simp [Cond.value, Term.eval, ev, eu, hf] at h ⊢; exact h
theorem own_ne {t u : Term} {w b : Addr} (ev : t.eval args s none [] s = some (.ref w)) (eu : u.eval args s none [] s = some (.ref b)) (h : (Cond.not (Cond.eq t u)).value args s none s [] = some true) : w ≠ b := by
  have q := not_v h
  intro e
  subst e
  simp [Cond.value, ev, eu] at q
end Own
end Jvm.RoadKit
namespace Jvm.RoadKit
open Sem ClassFile Op Lib Jvm.Stand Jvm.Free Jvm.LawKit
section Own2
variable {p : Program} {l : Launch} {e : Env} {R : Room} {s : State} {m : MethodId} {args : Array Value} {below : List Frame} {meth : Method} {c : Code} {T : State} {locs : List Loc} {cells slots : Nat}
variable {Z : State} {a0 : Array Value} {h h0 h' : Heap} {y z : MethodName} {bytes : ByteArray} {maxL : Nat} {ret : Option FieldType} {rm : Room} {as' : Array Value} {Q : Option Value → Heap → List Loc → Prop} {ws ws' : List Addr} {L L' : List Loc}
/-- what a walk has done to the heap: old cells that aren't in ws stand as they were, so do the cells of statics; what was written lies in ws or is new -/
def own_Kp (h0 h : Heap) (ws : List Addr) (L : List Loc) : Prop := Keep h0 h ws ∧ (∀ y ∈ L, y.base ∈ ws ∨ h0.size ≤ y.base) ∧ ∀ (x : Addr) (c : Cell), h0[x]? = some c → c.vm.isStatics = true → h[x]? = some c
theorem own_kpRefl (h : Heap) (ws : List Addr) : own_Kp h h ws [] := ⟨Keep.refl _ _, fun _ q => (nomatch q), fun _ _ q _ => q⟩
theorem own_kpExt (K : own_Kp h0 h ws L) (E : Ext h h') : own_Kp h0 h' ws L := ⟨K.1.ext E, K.2.1, fun x c q r => E.2 x c (K.2.2 x c q r)⟩
theorem own_kpTrans (K : own_Kp h0 h ws L) (K' : own_Kp h h' ws' L') (q : ∀ x ∈ ws', x ∈ ws ∨ h0.size ≤ x) : own_Kp h0 h' ws (L ++ L') :=
  ⟨K.1.trans K'.1 q, fun y hy => (List.mem_append.mp hy).elim (K.2.1 y) fun hy' => (K'.2.1 y hy').elim (q _) fun r => Or.inr (Nat.le_trans K.1.1 r), fun x c r t => K'.2.2 x c (K.2.2 x c r t) t⟩
theorem own_kpWr {a : Addr} {sl : Nat} {v : Value} (K : own_Kp h0 h ws L) (W : Wr h h' a sl v) (q : a ∈ ws ∨ h0.size ≤ a) : own_Kp h0 h' ws (L ++ [⟨a, sl⟩]) := by
  refine ⟨K.1.wr W q, fun y hy => (List.mem_append.mp hy).elim (K.2.1 y) fun hy' => by cases List.mem_singleton.mp hy'; exact q, fun x c r t => ?_⟩
  obtain ⟨c', e1, -, -, -, e5, -, e7⟩ := wr_at W (K.2.2 x c r t)
  have ne : x ≠ a := fun e => by rw [(e7 e).2.2] at t; cases t
  rw [← e5 ne]; exact e1
theorem own_kpSta {C n d : String} {v : Value} (K : own_Kp h h' ws L) (F : Sta Z h C n d v) : Sta Z h' C n d v := by
  obtain ⟨cf, i, k, f, st, cell, h1, h2, h3, h4, h5, h6, h7⟩ := F
  exact ⟨cf, i, k, f, st, cell, h1, h2, h3, h4, K.2.2 _ _ h5 h6, h6, h7⟩
theorem own_kpFr (K : own_Kp h0 h [] L) : Fr h0.size L := fun y hy => (K.2.1 y hy).elim (fun q => nomatch q) id
def own_ConW (l : Launch) (Z : State) (y : MethodName) (bytes : ByteArray) (maxL : Nat) (ret : Option FieldType) (hs : List (Nat × Nat × Nat × Nat)) (rm : Room) (as' : Array Value) (h : Heap) (Q : Option Value → Heap → List Loc → Prop) : Prop :=
  MetFree l y (head1 [Cond.codeWith y bytes maxL ret hs] rm) (fun a U => a = as' ∧ Z.Warmed39 U.vm ∧ U.heap = h) (fun _ _ _ _ _ => True) (fun _ U o U' => ∃ v L, o = .returned v ∧ Q v U'.heap L ∧ FrameEnd U o U' L rm.cells rm.slots)
theorem own_interface (X : Stand p l e R s m args below meth c T locs cells slots) (hx : p.tables.exec = Jvm.exec) (hZ : Z.Warmed39 s.vm) {own C : String} {index count : Nat} (hown : s.vm.findClass own = some m.cls)
    (w1 : (Cond.methodLink own index y).before a0 Z = true) (w2 : (Cond.declares y).before a0 Z = true) (w7 : (Cond.interfaceMethod y.cls y.cls y.name y.desc).before a0 Z = true) (w5 : (Cond.selects C y z).before a0 Z = true) (w6 : (Cond.instanceMethod z).before a0 Z = true)
    (w8 : (Cond.publicMethod z).before a0 Z = true) (w9 : (Cond.unhidden C y.name y.desc).before a0 Z = true) (w10 : (Cond.castable C y.cls).before a0 Z = true)
    (w3 : (Cond.initialized z.cls).before a0 Z = true) (w4 : (Cond.code z bytes maxL ret).before a0 Z = true) (hy : y.cls ≠ "java/lang/invoke/MethodHandle" ∧ y.cls ≠ "java/lang/invoke/VarHandle")
    (W : Nat) {a : Addr} {argsL rest : List Value} (hM : own_Con l Z z bytes maxL ret rm (.ref a :: argsL).toArray h Q) (hf : rm.frames + 1 ≤ R.frames) (hl : W + (maxL + 11) + rm.locals ≤ R.locals) (E : Exa Z h a C)
    {g : JFrame} (hg : g.method = m) (hsize : g.locals.size = c.maxLocals) (hlen : ∀ sig, parseMethodDescriptor y.desc = some sig → argsL.length = sig.parameters.length) (hstack : g.stack = argsL.reverse ++ .ref a :: rest)
    (hW : 2 * g.monitorRoom + (rest.map fun v => v.category).sum ≤ W) (hdg : decode c.code g.pc = .ok (.invokeinterface index count, 5)) (eT : T.heap = h) (hc : cells + rm.cells ≤ R.cells) (hs : slots + rm.slots ≤ R.slots) :
    ∃ (v : Option Value) (T' : State) (L : List Loc), Stand p l e R s m args below meth c T' (locs ++ L) (cells + rm.cells) (slots + rm.slots) ∧ Q v T'.heap L ∧
      ∀ target, Steps p.tables e below (T'.setTop { g with pc := g.pc + 5, stack := v.toList ++ rest }) target → Steps p.tables e below (T.setTop g) target := by
  obtain ⟨cB, kB, q1, q2, q3⟩ := isOf hZ eT E
  obtain ⟨v, _, ⟨T', L', k', n'⟩, -, X', ⟨L, hQ, e1, e2, e3⟩, st⟩ := X.interfaceBack hx (xi := y) (y := z) hown (mvT hZ w1) (mvT hZ w2) (mvT hZ w7 (by simp [Cond.onTables, Cond.keepsFace, Cond.keeps, Cond.steady, Cond.faceAtom]; exact hy)) (mvT hZ w5) (mvT hZ w6) (mvT hZ w8) (mvT hZ w9) (mvT hZ w10) hy (backOf (W := W) hM hZ w4 w3 hf hl) q1 q2 q3 hg hsize (Steps.refl _) hlen hstack hW hdg (fun _ _ => ⟨rfl, eT, hc, hs⟩)
  dsimp only [Pt.U, Pt.locs, Pt.cells, Pt.slots] at X' e1 e2 e3 st hQ
  subst e1 e2 e3
  exact ⟨v, T', L, X', hQ, fun t k => st.trans k⟩
theorem own_interfaceW (X : Stand p l e R s m args below meth c T locs cells slots) (hx : p.tables.exec = Jvm.exec) (hZ : Z.Warmed39 s.vm) {own C : String} {index count : Nat} (hown : s.vm.findClass own = some m.cls)
    (w1 : (Cond.methodLink own index y).before a0 Z = true) (w2 : (Cond.declares y).before a0 Z = true) (w7 : (Cond.interfaceMethod y.cls y.cls y.name y.desc).before a0 Z = true) (w5 : (Cond.selects C y z).before a0 Z = true) (w6 : (Cond.instanceMethod z).before a0 Z = true)
    (w8 : (Cond.publicMethod z).before a0 Z = true) (w9 : (Cond.unhidden C y.name y.desc).before a0 Z = true) (w10 : (Cond.castable C y.cls).before a0 Z = true)
    (w3 : (Cond.initialized z.cls).before a0 Z = true) {hs : List (Nat × Nat × Nat × Nat)} (w4 : (Cond.codeWith z bytes maxL ret hs).before a0 Z = true) (hy : y.cls ≠ "java/lang/invoke/MethodHandle" ∧ y.cls ≠ "java/lang/invoke/VarHandle")
    (W : Nat) {a : Addr} {argsL rest : List Value} (hM : own_ConW l Z z bytes maxL ret hs rm (.ref a :: argsL).toArray h Q) (hf : rm.frames + 1 ≤ R.frames) (hl : W + (maxL + 11) + rm.locals ≤ R.locals) (E : Exa Z h a C)
    {g : JFrame} (hg : g.method = m) (hsize : g.locals.size = c.maxLocals) (hlen : ∀ sig, parseMethodDescriptor y.desc = some sig → argsL.length = sig.parameters.length) (hstack : g.stack = argsL.reverse ++ .ref a :: rest)
    (hW : 2 * g.monitorRoom + (rest.map fun v => v.category).sum ≤ W) (hdg : decode c.code g.pc = .ok (.invokeinterface index count, 5)) (eT : T.heap = h) (hc : cells + rm.cells ≤ R.cells) (hsl : slots + rm.slots ≤ R.slots) :
    ∃ (v : Option Value) (T' : State) (L : List Loc), Stand p l e R s m args below meth c T' (locs ++ L) (cells + rm.cells) (slots + rm.slots) ∧ Q v T'.heap L ∧
      ∀ target, Steps p.tables e below (T'.setTop { g with pc := g.pc + 5, stack := v.toList ++ rest }) target → Steps p.tables e below (T.setTop g) target := by
  obtain ⟨cB, kB, q1, q2, q3⟩ := isOf hZ eT E
  obtain ⟨v, _, ⟨T', L', k', n'⟩, -, X', ⟨L, hQ, e1, e2, e3⟩, st⟩ := X.interfaceBack hx (xi := y) (y := z) hown (mvT hZ w1) (mvT hZ w2) (mvT hZ w7 (by simp [Cond.onTables, Cond.keepsFace, Cond.keeps, Cond.steady, Cond.faceAtom]; exact hy)) (mvT hZ w5) (mvT hZ w6) (mvT hZ w8) (mvT hZ w9) (mvT hZ w10) hy (backOfWith (W := W) hM hZ w4 w3 hf hl) q1 q2 q3 hg hsize (Steps.refl _) hlen hstack hW hdg (fun _ _ => ⟨rfl, eT, hc, hsl⟩)
  dsimp only [Pt.U, Pt.locs, Pt.cells, Pt.slots] at X' e1 e2 e3 st hQ
  subst e1 e2 e3
  exact ⟨v, T', L, X', hQ, fun t k => st.trans k⟩
theorem own_private (X : Stand p l e R s m args below meth c T locs cells slots) (hx : p.tables.exec = Jvm.exec) (hZ : Z.Warmed39 s.vm) {own C : String} {index : Nat} (hown : s.vm.findClass own = some m.cls)
    (w1 : (Cond.methodLink own index y).before a0 Z = true) (w6 : (Cond.instanceMethod y).before a0 Z = true) {kk : Nat} (w5 : (Cond.instantiable y.cls kk).before a0 Z = true) (w7 : (Cond.privateMethod y).before a0 Z = true)
    (w3 : (Cond.initialized y.cls).before a0 Z = true) (w4 : (Cond.code y bytes maxL ret).before a0 Z = true) (hy : y.cls ≠ "java/lang/invoke/MethodHandle" ∧ y.cls ≠ "java/lang/invoke/VarHandle")
    (W : Nat) {a : Addr} {argsL rest : List Value} (hM : own_Con l Z y bytes maxL ret rm (.ref a :: argsL).toArray h Q) (hf : rm.frames + 1 ≤ R.frames) (hl : W + (maxL + 11) + rm.locals ≤ R.locals) (E : Exa Z h a C)
    {g : JFrame} (hg : g.method = m) (hsize : g.locals.size = c.maxLocals) (hlen : ∀ sig, parseMethodDescriptor y.desc = some sig → argsL.length = sig.parameters.length) (hstack : g.stack = argsL.reverse ++ .ref a :: rest)
    (hW : 2 * g.monitorRoom + (rest.map fun v => v.category).sum ≤ W) (hdg : decode c.code g.pc = .ok (.invokevirtual index, 3)) (eT : T.heap = h) (hc : cells + rm.cells ≤ R.cells) (hs : slots + rm.slots ≤ R.slots) :
    ∃ (v : Option Value) (T' : State) (L : List Loc), Stand p l e R s m args below meth c T' (locs ++ L) (cells + rm.cells) (slots + rm.slots) ∧ Q v T'.heap L ∧
      ∀ target, Steps p.tables e below (T'.setTop { g with pc := g.pc + 3, stack := v.toList ++ rest }) target → Steps p.tables e below (T.setTop g) target := by
  obtain ⟨cq, q1, q2⟩ := E.cell
  obtain ⟨ci, ki, i1, i2, -, i4, -⟩ := Cond.instantiable_spec (mvT (args := args) hZ w5)
  have hpv := Cond.privateMethod_at (mvP hZ w7 (args := args))
  have hse := selects_self_of_private (args := args) i1 i2 (Bool.or_eq_false_iff.mp i4).1 hpv (mvT hZ w6) hy
  obtain ⟨v, _, ⟨T', L', k', n'⟩, -, X', ⟨L, hQ, e1, e2, e3⟩, st⟩ := X.privateBack hx (y := y) hown (mvT hZ w1) (mvT hZ w6) hse (Cond.privateMethod_at (mvP hZ w7 (args := #[]))) (mvT hZ w4) hy (backOf (W := W) hM hZ w4 w3 hf hl) hg hsize (Steps.refl _) (by rw [eT]; exact q1) q2 hlen hstack hW hdg (fun _ _ => ⟨rfl, eT, hc, hs⟩)
  dsimp only [Pt.U, Pt.locs, Pt.cells, Pt.slots] at X' e1 e2 e3 st hQ
  subst e1 e2 e3
  exact ⟨v, T', L, X', hQ, fun t k => st.trans k⟩
theorem own_alen {g : JFrame} {target : State} (X : Stand p l e R s m args below meth c T locs cells slots) (hx : p.tables.exec = Jvm.exec) (hZ : Z.Warmed39 s.vm) (eT : T.heap = h) {a : Addr} {cl : Cell} {ty : FieldType} {z : Int32} (A : Arr Z h a cl ty) (S : cl.slots.size = z.toNatClampNeg) (N : ¬ z < 0)
    (hg : g.method = m) {rest : List Value} (hs : g.stack = .ref a :: rest) (hd : decode c.code g.pc = .ok (.arraylength, 1)) (hr : Steps p.tables e below (T.setTop { g with pc := g.pc + 1, stack := .int z :: rest }) target) : Steps p.tables e below (T.setTop g) target :=
  X.arraylength hx (by rw [eT]; exact A.1) (State.isArrayOf_alike hZ.alike A.2.1) hg hs hd _ (by rw [len_of S N]; exact hr)
/-! calls with the words of one site in a bundle -/
def own_SW (Z : State) (a0 : Array Value) (own : String) (index : Nat) (y : MethodName) (bytes : ByteArray) (maxL : Nat) (ret : Option FieldType) : Prop :=
  (Cond.methodLink own index y).before a0 Z = true ∧ (Cond.static y).before a0 Z = true ∧ (Cond.initialized y.cls).before a0 Z = true ∧ (Cond.code y bytes maxL ret).before a0 Z = true ∧ (y.cls ≠ "java/lang/invoke/MethodHandle" ∧ y.cls ≠ "java/lang/invoke/VarHandle")
def own_IW (Z : State) (a0 : Array Value) (own : String) (index : Nat) (y : MethodName) (bytes : ByteArray) (maxL : Nat) : Prop :=
  y.name = "<init>" ∧ (Cond.methodLink own index y).before a0 Z = true ∧ (Cond.instanceMethod y).before a0 Z = true ∧ (Cond.initialized y.cls).before a0 Z = true ∧ (Cond.code y bytes maxL none).before a0 Z = true ∧ (y.cls ≠ "java/lang/invoke/MethodHandle" ∧ y.cls ≠ "java/lang/invoke/VarHandle")
def own_VW (Z : State) (a0 : Array Value) (own : String) (index : Nat) (C : String) (y : MethodName) (bytes : ByteArray) (maxL : Nat) (ret : Option FieldType) : Prop :=
  (Cond.methodLink own index y).before a0 Z = true ∧ (Cond.declares y).before a0 Z = true ∧ (Cond.selects C y y).before a0 Z = true ∧ (Cond.instanceMethod y).before a0 Z = true ∧ (Cond.initialized y.cls).before a0 Z = true ∧ (Cond.code y bytes maxL ret).before a0 Z = true ∧ (y.cls ≠ "java/lang/invoke/MethodHandle" ∧ y.cls ≠ "java/lang/invoke/VarHandle")
def own_PW (Z : State) (a0 : Array Value) (own : String) (index : Nat) (y : MethodName) (bytes : ByteArray) (maxL : Nat) (ret : Option FieldType) : Prop :=
  (Cond.methodLink own index y).before a0 Z = true ∧ (Cond.instanceMethod y).before a0 Z = true ∧ (∃ kk, (Cond.instantiable y.cls kk).before a0 Z = true) ∧ (Cond.privateMethod y).before a0 Z = true ∧ (Cond.initialized y.cls).before a0 Z = true ∧ (Cond.code y bytes maxL ret).before a0 Z = true ∧ (y.cls ≠ "java/lang/invoke/MethodHandle" ∧ y.cls ≠ "java/lang/invoke/VarHandle")
theorem own_cs (X : Stand p l e R s m args below meth c T locs cells slots) (hx : p.tables.exec = Jvm.exec) (hZ : Z.Warmed39 s.vm) {own : String} {index ml : Nat} (hown : s.vm.findClass own = some m.cls) (V : own_SW Z a0 own index y bytes maxL ret) (hml : c.maxLocals = ml)
    {g : JFrame} (hdg : decode c.code g.pc = .ok (.invokestatic index, 3)) (eT : T.heap = h) (argsL rest : List Value) (hlen : ∀ sig, parseMethodDescriptor y.desc = some sig → argsL.length = sig.parameters.length) (hM : own_Con l Z y bytes maxL ret rm argsL.toArray h Q)
    (hg : g.method = m := by rfl) (hsize : g.locals.size = ml := by rfl) (hstack : g.stack = argsL.reverse ++ rest := by rfl) (hmo : 2 * g.monitorRoom = 0 := by rfl) (hf : rm.frames + 1 ≤ R.frames := by exact Nat.le_of_ble_eq_true rfl) (hl : (rest.map fun v => v.category).sum + (maxL + 11) + rm.locals ≤ R.locals := by exact Nat.le_of_ble_eq_true rfl) (hc : cells + rm.cells ≤ R.cells := by exact Nat.le_of_ble_eq_true rfl) (hs : slots + rm.slots ≤ R.slots := by exact Nat.le_of_ble_eq_true rfl) :
    ∃ (v : Option Value) (T' : State) (L : List Loc), Stand p l e R s m args below meth c T' (locs ++ L) (cells + rm.cells) (slots + rm.slots) ∧ Q v T'.heap L ∧
      ∀ target, Steps p.tables e below (T'.setTop { g with pc := g.pc + 3, stack := v.toList ++ rest }) target → Steps p.tables e below (T.setTop g) target :=
  own_static X hx hZ hown V.1 V.2.1 V.2.2.1 V.2.2.2.1 V.2.2.2.2 _ hM hf hl hg (hsize.trans hml.symm) hlen hstack (by rw [hmo, Nat.zero_add]; exact Nat.le_refl _) hdg eT hc hs
theorem own_ci (X : Stand p l e R s m args below meth c T locs cells slots) (hx : p.tables.exec = Jvm.exec) (hZ : Z.Warmed39 s.vm) {own : String} {index ml : Nat} (hown : s.vm.findClass own = some m.cls) (V : own_IW Z a0 own index y bytes maxL) (hml : c.maxLocals = ml)
    {g : JFrame} (hdg : decode c.code g.pc = .ok (.invokespecial index, 3)) (eT : T.heap = h) {a : Addr} (argsL rest : List Value) (hlen : ∀ sig, parseMethodDescriptor y.desc = some sig → argsL.length = sig.parameters.length) (hM : own_Con l Z y bytes maxL none rm (.ref a :: argsL).toArray h Q)
    (hg : g.method = m := by rfl) (hsize : g.locals.size = ml := by rfl) (hstack : g.stack = argsL.reverse ++ .ref a :: rest := by rfl) (hmo : 2 * g.monitorRoom = 0 := by rfl) (hf : rm.frames + 1 ≤ R.frames := by exact Nat.le_of_ble_eq_true rfl) (hl : (rest.map fun v => v.category).sum + (maxL + 11) + rm.locals ≤ R.locals := by exact Nat.le_of_ble_eq_true rfl) (hc : cells + rm.cells ≤ R.cells := by exact Nat.le_of_ble_eq_true rfl) (hs : slots + rm.slots ≤ R.slots := by exact Nat.le_of_ble_eq_true rfl) :
    ∃ (v : Option Value) (T' : State) (L : List Loc), Stand p l e R s m args below meth c T' (locs ++ L) (cells + rm.cells) (slots + rm.slots) ∧ Q v T'.heap L ∧
      ∀ target, Steps p.tables e below (T'.setTop { g with pc := g.pc + 3, stack := v.toList ++ rest }) target → Steps p.tables e below (T.setTop g) target :=
  own_special X hx hZ V.1 hown V.2.1 V.2.2.1 V.2.2.2.1 V.2.2.2.2.1 V.2.2.2.2.2 _ hM hf hl hg (hsize.trans hml.symm) hlen hstack (by rw [hmo, Nat.zero_add]; exact Nat.le_refl _) hdg eT hc hs
theorem own_cv (X : Stand p l e R s m args below meth c T locs cells slots) (hx : p.tables.exec = Jvm.exec) (hZ : Z.Warmed39 s.vm) {own C : String} {index ml : Nat} (hown : s.vm.findClass own = some m.cls) (V : own_VW Z a0 own index C y bytes maxL ret) (hml : c.maxLocals = ml)
    {g : JFrame} (hdg : decode c.code g.pc = .ok (.invokevirtual index, 3)) (eT : T.heap = h) {a : Addr} (E : Exa Z h a C) (argsL rest : List Value) (hlen : ∀ sig, parseMethodDescriptor y.desc = some sig → argsL.length = sig.parameters.length) (hM : own_Con l Z y bytes maxL ret rm (.ref a :: argsL).toArray h Q)
    (hg : g.method = m := by rfl) (hsize : g.locals.size = ml := by rfl) (hstack : g.stack = argsL.reverse ++ .ref a :: rest := by rfl) (hmo : 2 * g.monitorRoom = 0 := by rfl) (hf : rm.frames + 1 ≤ R.frames := by exact Nat.le_of_ble_eq_true rfl) (hl : (rest.map fun v => v.category).sum + (maxL + 11) + rm.locals ≤ R.locals := by exact Nat.le_of_ble_eq_true rfl) (hc : cells + rm.cells ≤ R.cells := by exact Nat.le_of_ble_eq_true rfl) (hs : slots + rm.slots ≤ R.slots := by exact Nat.le_of_ble_eq_true rfl) :
    ∃ (v : Option Value) (T' : State) (L : List Loc), Stand p l e R s m args below meth c T' (locs ++ L) (cells + rm.cells) (slots + rm.slots) ∧ Q v T'.heap L ∧
      ∀ target, Steps p.tables e below (T'.setTop { g with pc := g.pc + 3, stack := v.toList ++ rest }) target → Steps p.tables e below (T.setTop g) target :=
  own_virtual X hx hZ hown V.1 V.2.1 (notFace_of_selects (args := #[]) (mvT hZ V.2.2.1)) V.2.2.1 V.2.2.2.1 V.2.2.2.2.1 V.2.2.2.2.2.1 V.2.2.2.2.2.2 _ hM hf hl E hg (hsize.trans hml.symm) hlen hstack (by rw [hmo, Nat.zero_add]; exact Nat.le_refl _) hdg eT hc hs
theorem own_cp (X : Stand p l e R s m args below meth c T locs cells slots) (hx : p.tables.exec = Jvm.exec) (hZ : Z.Warmed39 s.vm) {own C : String} {index ml : Nat} (hown : s.vm.findClass own = some m.cls) (V : own_PW Z a0 own index y bytes maxL ret) (hml : c.maxLocals = ml)
    {g : JFrame} (hdg : decode c.code g.pc = .ok (.invokevirtual index, 3)) (eT : T.heap = h) {a : Addr} (E : Exa Z h a C) (argsL rest : List Value) (hlen : ∀ sig, parseMethodDescriptor y.desc = some sig → argsL.length = sig.parameters.length) (hM : own_Con l Z y bytes maxL ret rm (.ref a :: argsL).toArray h Q)
    (hg : g.method = m := by rfl) (hsize : g.locals.size = ml := by rfl) (hstack : g.stack = argsL.reverse ++ .ref a :: rest := by rfl) (hmo : 2 * g.monitorRoom = 0 := by rfl) (hf : rm.frames + 1 ≤ R.frames := by exact Nat.le_of_ble_eq_true rfl) (hl : (rest.map fun v => v.category).sum + (maxL + 11) + rm.locals ≤ R.locals := by exact Nat.le_of_ble_eq_true rfl) (hc : cells + rm.cells ≤ R.cells := by exact Nat.le_of_ble_eq_true rfl) (hs : slots + rm.slots ≤ R.slots := by exact Nat.le_of_ble_eq_true rfl) :
    ∃ (v : Option Value) (T' : State) (L : List Loc), Stand p l e R s m args below meth c T' (locs ++ L) (cells + rm.cells) (slots + rm.slots) ∧ Q v T'.heap L ∧
      ∀ target, Steps p.tables e below (T'.setTop { g with pc := g.pc + 3, stack := v.toList ++ rest }) target → Steps p.tables e below (T.setTop g) target := by
  obtain ⟨kk, wk⟩ := V.2.2.1
  exact own_private X hx hZ hown V.1 V.2.1 wk V.2.2.2.1 V.2.2.2.2.1 V.2.2.2.2.2.1 V.2.2.2.2.2.2 _ hM hf hl E hg (hsize.trans hml.symm) hlen hstack (by rw [hmo, Nat.zero_add]; exact Nat.le_refl _) hdg eT hc hs
/-! arrays out of the case's words -/
theorem own_oxE {Y : Heap} (X : Ext Y h) (E : Ext h h') : Ext Y h' := ⟨Nat.le_trans X.1 E.1, fun a c q => E.2 a c (X.2 a c q)⟩
theorem own_oxK {Y : Heap} (X : Ext Y h) (K : Keep h h' ws) (q : ∀ x ∈ ws, Y.size ≤ x) : Ext Y h' := ⟨Nat.le_trans X.1 K.1, fun a c r => K.2.1 a c (X.2 a c r) fun z => absurd (Array.getElem?_eq_some_iff.mp r).1 (Nat.not_lt.mpr (q a z))⟩
theorem own_oxW {Y : Heap} {a : Addr} {sl : Nat} {v : Value} (X : Ext Y h) (W : Wr h h' a sl v) (q : Y.size ≤ a) : Ext Y h' := own_oxK X (Keep.of_wr W) (allS q all0)
theorem own_neI {t : Term} {x k : Int32} (ev : t.eval args s none [] s = some (.int x)) (h : (Cond.not (Cond.eq t (Term.int k))).value args s none s [] = some true) : ¬ (x = k) := by
  have q := not_v h
  intro e
  subst e
  simp [Cond.value, ev, Term.eval] at q
theorem own_subix {j k : Int32} {f : State} {o : Option Outcome} (nn : ¬ j < 0) : (Term.sub (Term.index 0) (Term.int k)).eval args f o [j.toNatClampNeg] s = some (.int (j - k)) := by
  have q : (Term.index 0).eval args f o [j.toNatClampNeg] s = some (.int j) := idx_at nn
  simp only [Term.eval] at q ⊢
  have q2 : j.toNatClampNeg.toInt32 = j := by simpa using q
  simp [q2]
theorem own_evI {t : Term} {k : Int32} (h : (Cond.eq t (Term.int k)).value args s none s [] = some true) : t.eval args s none [] s = some (.int k) := by
  cases ht : t.eval args s none [] s with
  | none => simp [Cond.value, ht] at h
  | some x => cases x <;> simp [Cond.value, ht, Term.eval] at h ⊢; exact h
theorem own_evR {t u : Term} {b : Addr} (eu : u.eval args s none [] s = some (.ref b)) (h : (Cond.eq t u).value args s none s [] = some true) : t.eval args s none [] s = some (.ref b) := by
  cases ht : t.eval args s none [] s with
  | none => simp [Cond.value, ht] at h
  | some x => cases x <;> simp [Cond.value, ht, eu] at h ⊢; exact h
theorem own_arr {t : Term} {ty : FieldType} {a : Addr} (ev : t.eval args s none [] s = some (.ref a)) (h : (Cond.arrayOf t ty).value args s none s [] = some true) : ∃ cl, Arr s s.heap a cl ty := Arr.start ev h
theorem own_len {t : Term} {ty : FieldType} {a : Addr} {cl : Cell} {n : Int32} (ev : t.eval args s none [] s = some (.ref a)) (A : Arr s s.heap a cl ty) (h : (Cond.eq (Term.length t) (Term.int n)).value args s none s [] = some true) : cl.slots.size < 2 ^ 31 ∧ cl.slots.size.toInt32 = n := by
  have ha : s.arrayAt? a = some cl := A.fin (Vm.Alike.refl _)
  by_cases hl : cl.slots.size < 2 ^ 31
  · refine ⟨hl, ?_⟩
    have q := len_f (args := args) (first := s) (o := none) (idx := []) ev ha hl
    simp only [Cond.value, q, Term.int_eval] at h
    simpa using h
  · exfalso
    simp [Cond.value, Term.eval, ev, ha, hl] at h
theorem own_elem {t u : Term} {ty : FieldType} {a : Addr} {cl : Cell} {j : Int32} {v : Value} (ev : t.eval args s none [] s = some (.ref a)) (A : Arr s s.heap a cl ty) (eu : u.eval args s none [] s = some v) (hv : ∀ w, (Cond.eq (Term.elem t (Term.int j)) u).value args s none s [] = some true → (Term.elem t (Term.int j)).eval args s none [] s = some w → w = v)
    (h : (Cond.eq (Term.elem t (Term.int j)) u).value args s none s [] = some true) : cl.slots[j.toNatClampNeg]? = some v := by
  obtain ⟨x, w, h1, h2, -⟩ := cmp_v (Or.inl h)
  have q := (elem_in h1 ev rfl A.1).2
  rw [hv x h h1] at q
  exact q
theorem own_elemI {t : Term} {ty : FieldType} {a : Addr} {cl : Cell} {j k : Int32} (ev : t.eval args s none [] s = some (.ref a)) (A : Arr s s.heap a cl ty)
    (h : (Cond.eq (Term.elem t (Term.int j)) (Term.int k)).value args s none s [] = some true) : cl.slots[j.toNatClampNeg]? = some (.int k) :=
  own_elem ev A (Term.int_eval k) (fun w q r => by simp only [Cond.value, r, Term.int_eval] at q; cases w <;> simp at q ⊢; exact q) h
theorem own_elemR {t u : Term} {ty : FieldType} {a b : Addr} {cl : Cell} {j : Int32} (ev : t.eval args s none [] s = some (.ref a)) (A : Arr s s.heap a cl ty) (eu : u.eval args s none [] s = some (.ref b))
    (h : (Cond.eq (Term.elem t (Term.int j)) u).value args s none s [] = some true) : cl.slots[j.toNatClampNeg]? = some (.ref b) :=
  own_elem ev A eu (fun w q r => by simp only [Cond.value, r, eu] at q; cases w <;> simp at q ⊢; exact q) h
end Own2
end Jvm.RoadKit
namespace Jvm.Pilot.@@N@@
open Jvm Jvm.ClassFile Sem Op Lib Jvm.Free Jvm.Stand Jvm.LawKit Jvm.RoadKit Bundle Jvm.Pilot.@@N@@.Jvm.D
theorem own_and7 (x : Int32) : (x &&& (7 : Int32)) = (0 : Int32) ∨ (x &&& (7 : Int32)) = (1 : Int32) ∨ (x &&& (7 : Int32)) = (2 : Int32) ∨ (x &&& (7 : Int32)) = (3 : Int32) ∨ (x &&& (7 : Int32)) = (4 : Int32) ∨ (x &&& (7 : Int32)) = (5 : Int32) ∨ (x &&& (7 : Int32)) = (6 : Int32) ∨ (x &&& (7 : Int32)) = (7 : Int32) := by
  have h1 := c_mask x 7 3 (by decide) (by decide)
  have h3 := Int.emod_nonneg x.toInt (show ((2 ^ 3 : Nat) : Int) ≠ 0 by decide)
  have h4 := Int.emod_lt_of_pos x.toInt (show (0 : Int) < ((2 ^ 3 : Nat) : Int) by decide)
  rw [← h1] at h3 h4
  clear h1
  generalize (x &&& (7 : Int32)) = k at h3 h4 ⊢
  have q : k.toInt = 0 ∨ k.toInt = 1 ∨ k.toInt = 2 ∨ k.toInt = 3 ∨ k.toInt = 4 ∨ k.toInt = 5 ∨ k.toInt = 6 ∨ k.toInt = 7 := by omega
  simp only [← Int32.toInt_inj]
  exact q
def own_Q0 (n0 : Nat) (v : Option Value) (h : Heap) (L : List Loc) : Prop := v = some (.int 1) ∧ Fr n0 L
theorem own_d1_0 : decode prog_16_method_10_code 0 = .ok (.aload_n 0, 1) := by decide +kernel
theorem own_d1_1 : decode prog_16_method_10_code 1 = .ok (.getfield 86, 3) := by decide +kernel
theorem own_d1_4 : decode prog_16_method_10_code 4 = .ok (.ifnonnull 14, 3) := by decide +kernel
theorem own_d1_7 : decode prog_16_method_10_code 7 = .ok (.aload_n 0, 1) := by decide +kernel
theorem own_d1_8 : decode prog_16_method_10_code 8 = .ok (.getfield 90, 3) := by decide +kernel
theorem own_d1_11 : decode prog_16_method_10_code 11 = .ok (.ifnull 7, 3) := by decide +kernel
theorem own_d1_18 : decode prog_16_method_10_code 18 = .ok (.iconst 0, 1) := by decide +kernel
theorem own_d1_19 : decode prog_16_method_10_code 19 = .ok (.ireturn, 1) := by decide +kernel
theorem own_pn0 : plainName "com/example/pactolus/pactolus/gate/Scope" = true := by first | (simp [plainName, overriddenIn]; done) | decide +kernel
theorem own_ef126 (m : MethodId) (x0 : Addr) : entryFrame m #[(.ref x0)] 1 = mkF m 0 #[.val (.ref x0)] [] := by first | (simp [entryFrame, mkF, argsToLocals, Value.category]; done) | rfl
set_option maxRecDepth 65536 in
set_option maxHeartbeats 40000000 in
theorem own_rm126 (l : Launch) (Z : State) (a0 : Array Value) (hw : ∀ d ∈ tables_1, d.before a0 Z = true) (h0 : Heap) (a127 : Addr) (F130 : Fld Z h0 a127 "com/example/pactolus/pactolus/gate/Scope" "label" "Lcom/example/pactolus/pactolus/ledger/Label;" .null) (F133 : Fld Z h0 a127 "com/example/pactolus/pactolus/gate/Scope" "period" "Lcom/example/pactolus/pactolus/gate/Period;" .null) :
    own_Con l Z (⟨"com/example/pactolus/pactolus/gate/Scope", "allCallsOverPeriod", "()Z"⟩ : MethodName) prog_16_method_10_code 1 (some .boolean) ({ frames := 0, cells := 0, slots := 0, locals := 0 } : Room) #[(.ref a127)] h0 (own_QP (some (.int (0 : Int32))) h0) := by
  refine MetFree.of_bodySF (plainFor_of_name own_pn0) hisR ?_
  intro p e s m args below meth c s₁ Bd hml0 hP hK
  obtain ⟨rfl, hZ, hh⟩ := hP
  have hx := Bd.exec
  have hby := Bd.bytes
  have hml : c.maxLocals = 1 := hml0
  have hown : s.vm.findClass "com/example/pactolus/pactolus/gate/Scope" = some m.cls := findClass_of_methodNamed Bd.named
  have hnm := (name_of_methodNamed Bd.named Bd.method).1
  have X0 : Stand p l e ({ frames := 0, cells := 0, slots := 0, locals := 0 } : Room) s m #[(.ref a127)] below meth c s₁ [] 0 0 := Stand.of_body Bd
  have e0 : s₁.heap = h0 := by rw [← hh, Bd.state]; rfl
  have K0 : own_Kp h0 h0 [] [] := own_kpRefl _ _
  show own_Go p e below (own_K s (own_QP (some (.int (0 : Int32))) h0) 0 0) s₁ (entryFrame m #[(.ref a127)] 1)
  rw [own_ef126]
  obtain ⟨T131, X131, e131, st131⟩ := getF X0 hx hZ hown (host := "") (Or.inl (own_wd hw 25 rfl)) Via.refl e0 F130 (g := (mkF m 1 #[.val (.ref a127)] [(.ref a127)])) rfl rfl (hb hby own_d1_1)
  obtain ⟨T134, X134, e134, st134⟩ := getF X131 hx hZ hown (host := "") (Or.inl (own_wd hw 27 rfl)) Via.refl e131 F133 (g := (mkF m 8 #[.val (.ref a127)] [(.ref a127)])) rfl rfl (hb hby own_d1_8)
  refine own_go (T2 := T134) (g2 := (mkF m 19 #[.val (.ref a127)] [(.int (0 : Int32))])) (fun t k => XS.aloadN X0.here hx rfl (hb hby own_d1_0) rfl rfl (st131 _ (XS.ifnonnullNo X131.here hx rfl (hb hby own_d1_4) rfl (XS.aloadN X131.here hx rfl (hb hby own_d1_7) rfl rfl (st134 _ (XS.ifnullYes X134.here hx rfl (pc0 := 11) (pc' := 18) rfl (hb hby own_d1_11) rfl (by decide) (by decide) (XS.iconst X134.here hx rfl (hb hby own_d1_18) k))))))) ?_
  exact own_endN X134 hx Bd.notSynchronized (t := .boolean) Bd.returns (by simp) (hb hby own_d1_19) (z' := (0 : Int32)) rfl (by decide) (by decide) ⟨rfl, rfl, e134⟩
theorem own_pd0 : parseMethodDescriptor "()Z" = some ⟨[], some .boolean⟩ := by decide +kernel
theorem own_w136 {Z : State} {a0 : Array Value} (hw : ∀ d ∈ tables_1, d.before a0 Z = true) : own_VW Z a0 "com/example/pactolus/pactolus/gate/ScopeAllCallsOverPeriodPinLaw" 34 "com/example/pactolus/pactolus/gate/Scope" (⟨"com/example/pactolus/pactolus/gate/Scope", "allCallsOverPeriod", "()Z"⟩ : MethodName) prog_16_method_10_code 1 (some .boolean) := ⟨(own_wd hw 20 rfl), (own_wd hw 21 rfl), (own_wd hw 23 rfl), (own_wd hw 22 rfl), (own_wd hw 3 rfl), (own_wd hw 24 rfl), (by decide)⟩
theorem own_d1_14 : decode prog_16_method_10_code 14 = .ok (.iconst 1, 1) := by decide +kernel
theorem own_d1_15 : decode prog_16_method_10_code 15 = .ok (.goto 4, 3) := by decide +kernel
theorem own_ef142 (m : MethodId) (x0 : Addr) : entryFrame m #[(.ref x0)] 1 = mkF m 0 #[.val (.ref x0)] [] := by first | (simp [entryFrame, mkF, argsToLocals, Value.category]; done) | rfl
set_option maxRecDepth 65536 in
set_option maxHeartbeats 40000000 in
theorem own_rm142 (l : Launch) (Z : State) (a0 : Array Value) (hw : ∀ d ∈ tables_1, d.before a0 Z = true) (h0 : Heap) (a143 : Addr) (a149 : Addr) (F146 : Fld Z h0 a143 "com/example/pactolus/pactolus/gate/Scope" "label" "Lcom/example/pactolus/pactolus/ledger/Label;" .null) (F150 : Fld Z h0 a143 "com/example/pactolus/pactolus/gate/Scope" "period" "Lcom/example/pactolus/pactolus/gate/Period;" (.ref a149)) :
    own_Con l Z (⟨"com/example/pactolus/pactolus/gate/Scope", "allCallsOverPeriod", "()Z"⟩ : MethodName) prog_16_method_10_code 1 (some .boolean) ({ frames := 0, cells := 0, slots := 0, locals := 0 } : Room) #[(.ref a143)] h0 (own_QP (some (.int (1 : Int32))) h0) := by
  refine MetFree.of_bodySF (plainFor_of_name own_pn0) hisR ?_
  intro p e s m args below meth c s₁ Bd hml0 hP hK
  obtain ⟨rfl, hZ, hh⟩ := hP
  have hx := Bd.exec
  have hby := Bd.bytes
  have hml : c.maxLocals = 1 := hml0
  have hown : s.vm.findClass "com/example/pactolus/pactolus/gate/Scope" = some m.cls := findClass_of_methodNamed Bd.named
  have hnm := (name_of_methodNamed Bd.named Bd.method).1
  have X0 : Stand p l e ({ frames := 0, cells := 0, slots := 0, locals := 0 } : Room) s m #[(.ref a143)] below meth c s₁ [] 0 0 := Stand.of_body Bd
  have e0 : s₁.heap = h0 := by rw [← hh, Bd.state]; rfl
  have K0 : own_Kp h0 h0 [] [] := own_kpRefl _ _
  show own_Go p e below (own_K s (own_QP (some (.int (1 : Int32))) h0) 0 0) s₁ (entryFrame m #[(.ref a143)] 1)
  rw [own_ef142]
  obtain ⟨T147, X147, e147, st147⟩ := getF X0 hx hZ hown (host := "") (Or.inl (own_wd hw 25 rfl)) Via.refl e0 F146 (g := (mkF m 1 #[.val (.ref a143)] [(.ref a143)])) rfl rfl (hb hby own_d1_1)
  obtain ⟨T151, X151, e151, st151⟩ := getF X147 hx hZ hown (host := "") (Or.inl (own_wd hw 27 rfl)) Via.refl e147 F150 (g := (mkF m 8 #[.val (.ref a143)] [(.ref a143)])) rfl rfl (hb hby own_d1_8)
  refine own_go (T2 := T151) (g2 := (mkF m 19 #[.val (.ref a143)] [(.int (1 : Int32))])) (fun t k => XS.aloadN X0.here hx rfl (hb hby own_d1_0) rfl rfl (st147 _ (XS.ifnonnullNo X147.here hx rfl (hb hby own_d1_4) rfl (XS.aloadN X147.here hx rfl (hb hby own_d1_7) rfl rfl (st151 _ (XS.ifnullNo X151.here hx rfl (hb hby own_d1_11) rfl (XS.iconst X151.here hx rfl (hb hby own_d1_14) (XS.goto X151.here hx rfl (pc0 := 15) (pc' := 19) rfl (hb hby own_d1_15) (by decide) (by decide) k)))))))) ?_
  exact own_endN X151 hx Bd.notSynchronized (t := .boolean) Bd.returns (by simp) (hb hby own_d1_19) (z' := (1 : Int32)) rfl (by decide) (by decide) ⟨rfl, rfl, e151⟩
theorem own_ef171 (m : MethodId) (x0 : Addr) : entryFrame m #[(.ref x0)] 1 = mkF m 0 #[.val (.ref x0)] [] := by first | (simp [entryFrame, mkF, argsToLocals, Value.category]; done) | rfl
set_option maxRecDepth 65536 in
set_option maxHeartbeats 40000000 in
theorem own_rm171 (l : Launch) (Z : State) (a0 : Array Value) (hw : ∀ d ∈ tables_1, d.before a0 Z = true) (h0 : Heap) (a172 : Addr) (a175 : Addr) (F176 : Fld Z h0 a172 "com/example/pactolus/pactolus/gate/Scope" "label" "Lcom/example/pactolus/pactolus/ledger/Label;" (.ref a175)) :
    own_Con l Z (⟨"com/example/pactolus/pactolus/gate/Scope", "allCallsOverPeriod", "()Z"⟩ : MethodName) prog_16_method_10_code 1 (some .boolean) ({ frames := 0, cells := 0, slots := 0, locals := 0 } : Room) #[(.ref a172)] h0 (own_QP (some (.int (0 : Int32))) h0) := by
  refine MetFree.of_bodySF (plainFor_of_name own_pn0) hisR ?_
  intro p e s m args below meth c s₁ Bd hml0 hP hK
  obtain ⟨rfl, hZ, hh⟩ := hP
  have hx := Bd.exec
  have hby := Bd.bytes
  have hml : c.maxLocals = 1 := hml0
  have hown : s.vm.findClass "com/example/pactolus/pactolus/gate/Scope" = some m.cls := findClass_of_methodNamed Bd.named
  have hnm := (name_of_methodNamed Bd.named Bd.method).1
  have X0 : Stand p l e ({ frames := 0, cells := 0, slots := 0, locals := 0 } : Room) s m #[(.ref a172)] below meth c s₁ [] 0 0 := Stand.of_body Bd
  have e0 : s₁.heap = h0 := by rw [← hh, Bd.state]; rfl
  have K0 : own_Kp h0 h0 [] [] := own_kpRefl _ _
  show own_Go p e below (own_K s (own_QP (some (.int (0 : Int32))) h0) 0 0) s₁ (entryFrame m #[(.ref a172)] 1)
  rw [own_ef171]
  obtain ⟨T177, X177, e177, st177⟩ := getF X0 hx hZ hown (host := "") (Or.inl (own_wd hw 25 rfl)) Via.refl e0 F176 (g := (mkF m 1 #[.val (.ref a172)] [(.ref a172)])) rfl rfl (hb hby own_d1_1)
  refine own_go (T2 := T177) (g2 := (mkF m 19 #[.val (.ref a172)] [(.int (0 : Int32))])) (fun t k => XS.aloadN X0.here hx rfl (hb hby own_d1_0) rfl rfl (st177 _ (XS.ifnonnullYes X177.here hx rfl (pc0 := 4) (pc' := 18) rfl (hb hby own_d1_4) rfl (by decide) (by decide) (XS.iconst X177.here hx rfl (hb hby own_d1_18) k)))) ?_
  exact own_endN X177 hx Bd.notSynchronized (t := .boolean) Bd.returns (by simp) (hb hby own_d1_19) (z' := (0 : Int32)) rfl (by decide) (by decide) ⟨rfl, rfl, e177⟩
theorem own_pn1 : plainName "com/example/pactolus/pactolus/gate/ScopeAllCallsOverPeriodPinLaw" = true := by first | (simp [plainName, overriddenIn]; done) | decide +kernel
theorem own_ef0 (m : MethodId) (x0 : Int32) : entryFrame m #[(.int x0)] maxLocals = mkF m 0 #[.val (.int x0), .unset, .unset, .unset] [] := by first | (simp [entryFrame, mkF, argsToLocals, Value.category, maxLocals]; done) | rfl
set_option maxRecDepth 65536 in
set_option maxHeartbeats 40000000 in
theorem own_rm0 (l : Launch) (Z : State) (a0 : Array Value) (hw : ∀ d ∈ tables_1, d.before a0 Z = true) (ws : List Jvm.Cond) (h0 : Heap) (p_0 : Int32) (w_CALL : Addr) (w_DAILY : Addr) (w_MONTHLY : Addr) (w_PROVIDER_DAILY : Addr) (w_PROVIDER_MONTHLY : Addr) (w_USER_DAILY : Addr) (w_USER_MONTHLY : Addr) (w_RUN : Addr) (w_PROVIDER : Addr) (w_USER : Addr) (w_RUN_68 : Addr) (w_MONTHLY_70 : Addr) (w_DAILY_72 : Addr)
    (OX0 : Ext Z.heap h0)
    (S_CALL_58 : Sta Z h0 "com/example/pactolus/pactolus/gate/Scope" "CALL" "Lcom/example/pactolus/pactolus/gate/Scope;" (.ref w_CALL))
    (E_w_CALL : Exa Z h0 w_CALL "com/example/pactolus/pactolus/gate/Scope")
    (S_DAILY_59 : Sta Z h0 "com/example/pactolus/pactolus/gate/Scope" "DAILY" "Lcom/example/pactolus/pactolus/gate/Scope;" (.ref w_DAILY))
    (E_w_DAILY : Exa Z h0 w_DAILY "com/example/pactolus/pactolus/gate/Scope")
    (S_MONTHLY_60 : Sta Z h0 "com/example/pactolus/pactolus/gate/Scope" "MONTHLY" "Lcom/example/pactolus/pactolus/gate/Scope;" (.ref w_MONTHLY))
    (E_w_MONTHLY : Exa Z h0 w_MONTHLY "com/example/pactolus/pactolus/gate/Scope")
    (S_PROVIDER_DAILY_61 : Sta Z h0 "com/example/pactolus/pactolus/gate/Scope" "PROVIDER_DAILY" "Lcom/example/pactolus/pactolus/gate/Scope;" (.ref w_PROVIDER_DAILY))
    (E_w_PROVIDER_DAILY : Exa Z h0 w_PROVIDER_DAILY "com/example/pactolus/pactolus/gate/Scope")
    (S_PROVIDER_MONTHLY_62 : Sta Z h0 "com/example/pactolus/pactolus/gate/Scope" "PROVIDER_MONTHLY" "Lcom/example/pactolus/pactolus/gate/Scope;" (.ref w_PROVIDER_MONTHLY))
    (E_w_PROVIDER_MONTHLY : Exa Z h0 w_PROVIDER_MONTHLY "com/example/pactolus/pactolus/gate/Scope")
    (S_USER_DAILY_63 : Sta Z h0 "com/example/pactolus/pactolus/gate/Scope" "USER_DAILY" "Lcom/example/pactolus/pactolus/gate/Scope;" (.ref w_USER_DAILY))
    (E_w_USER_DAILY : Exa Z h0 w_USER_DAILY "com/example/pactolus/pactolus/gate/Scope")
    (S_USER_MONTHLY_64 : Sta Z h0 "com/example/pactolus/pactolus/gate/Scope" "USER_MONTHLY" "Lcom/example/pactolus/pactolus/gate/Scope;" (.ref w_USER_MONTHLY))
    (E_w_USER_MONTHLY : Exa Z h0 w_USER_MONTHLY "com/example/pactolus/pactolus/gate/Scope")
    (S_RUN_65 : Sta Z h0 "com/example/pactolus/pactolus/gate/Scope" "RUN" "Lcom/example/pactolus/pactolus/gate/Scope;" (.ref w_RUN))
    (E_w_RUN : Exa Z h0 w_RUN "com/example/pactolus/pactolus/gate/Scope")
    (S_PROVIDER_66 : Sta Z h0 "com/example/pactolus/pactolus/ledger/Label" "PROVIDER" "Lcom/example/pactolus/pactolus/ledger/Label;" (.ref w_PROVIDER))
    (E_w_PROVIDER : Exa Z h0 w_PROVIDER "com/example/pactolus/pactolus/ledger/Label")
    (S_USER_67 : Sta Z h0 "com/example/pactolus/pactolus/ledger/Label" "USER" "Lcom/example/pactolus/pactolus/ledger/Label;" (.ref w_USER))
    (E_w_USER : Exa Z h0 w_USER "com/example/pactolus/pactolus/ledger/Label")
    (S_RUN_69 : Sta Z h0 "com/example/pactolus/pactolus/ledger/Label" "RUN" "Lcom/example/pactolus/pactolus/ledger/Label;" (.ref w_RUN_68))
    (E_w_RUN_68 : Exa Z h0 w_RUN_68 "com/example/pactolus/pactolus/ledger/Label")
    (S_MONTHLY_71 : Sta Z h0 "com/example/pactolus/pactolus/gate/Period" "MONTHLY" "Lcom/example/pactolus/pactolus/gate/Period;" (.ref w_MONTHLY_70))
    (E_w_MONTHLY_70 : Exa Z h0 w_MONTHLY_70 "com/example/pactolus/pactolus/gate/Period")
    (S_DAILY_73 : Sta Z h0 "com/example/pactolus/pactolus/gate/Period" "DAILY" "Lcom/example/pactolus/pactolus/gate/Period;" (.ref w_DAILY_72))
    (E_w_DAILY_72 : Exa Z h0 w_DAILY_72 "com/example/pactolus/pactolus/gate/Period")
    (F_label_74 : Fld Z h0 w_CALL "com/example/pactolus/pactolus/gate/Scope" "label" "Lcom/example/pactolus/pactolus/ledger/Label;" .null)
    (F_period_75 : Fld Z h0 w_CALL "com/example/pactolus/pactolus/gate/Scope" "period" "Lcom/example/pactolus/pactolus/gate/Period;" .null)
    (F_label_76 : Fld Z h0 w_PROVIDER_DAILY "com/example/pactolus/pactolus/gate/Scope" "label" "Lcom/example/pactolus/pactolus/ledger/Label;" (.ref w_PROVIDER))
    (F_label_77 : Fld Z h0 w_USER_MONTHLY "com/example/pactolus/pactolus/gate/Scope" "label" "Lcom/example/pactolus/pactolus/ledger/Label;" (.ref w_USER))
    (F_label_78 : Fld Z h0 w_RUN "com/example/pactolus/pactolus/gate/Scope" "label" "Lcom/example/pactolus/pactolus/ledger/Label;" (.ref w_RUN_68))
    (F_label_79 : Fld Z h0 w_MONTHLY "com/example/pactolus/pactolus/gate/Scope" "label" "Lcom/example/pactolus/pactolus/ledger/Label;" .null)
    (F_period_80 : Fld Z h0 w_MONTHLY "com/example/pactolus/pactolus/gate/Scope" "period" "Lcom/example/pactolus/pactolus/gate/Period;" (.ref w_MONTHLY_70))
    (F_label_81 : Fld Z h0 w_DAILY "com/example/pactolus/pactolus/gate/Scope" "label" "Lcom/example/pactolus/pactolus/ledger/Label;" .null)
    (F_period_82 : Fld Z h0 w_DAILY "com/example/pactolus/pactolus/gate/Scope" "period" "Lcom/example/pactolus/pactolus/gate/Period;" (.ref w_DAILY_72))
    (F_label_83 : Fld Z h0 w_PROVIDER_MONTHLY "com/example/pactolus/pactolus/gate/Scope" "label" "Lcom/example/pactolus/pactolus/ledger/Label;" (.ref w_PROVIDER))
    (F_label_84 : Fld Z h0 w_USER_DAILY "com/example/pactolus/pactolus/gate/Scope" "label" "Lcom/example/pactolus/pactolus/ledger/Label;" (.ref w_USER))
    (F_period_85 : Fld Z h0 w_PROVIDER_DAILY "com/example/pactolus/pactolus/gate/Scope" "period" "Lcom/example/pactolus/pactolus/gate/Period;" (.ref w_DAILY_72))
    (F_period_86 : Fld Z h0 w_PROVIDER_MONTHLY "com/example/pactolus/pactolus/gate/Scope" "period" "Lcom/example/pactolus/pactolus/gate/Period;" (.ref w_MONTHLY_70))
    (F_period_87 : Fld Z h0 w_USER_DAILY "com/example/pactolus/pactolus/gate/Scope" "period" "Lcom/example/pactolus/pactolus/gate/Period;" (.ref w_DAILY_72))
    (F_period_88 : Fld Z h0 w_USER_MONTHLY "com/example/pactolus/pactolus/gate/Scope" "period" "Lcom/example/pactolus/pactolus/gate/Period;" (.ref w_MONTHLY_70))
    (F_period_89 : Fld Z h0 w_RUN "com/example/pactolus/pactolus/gate/Scope" "period" "Lcom/example/pactolus/pactolus/gate/Period;" .null) :
    MetFree l x (head1 (Jvm.Cond.code x code maxLocals ret :: ws) room_1) (fun a U => a = #[(.int p_0)] ∧ Z.Warmed39 U.vm ∧ U.heap = h0) (fun _ _ _ _ _ => True) (fun _ U o U' => ∃ v L, o = .returned v ∧ own_Q0 h0.size v U'.heap L ∧ FrameEnd U o U' L room_1.cells room_1.slots) := by
  refine MetFree.of_bodySF (plainFor_of_name own_pn1) hisR ?_
  intro p e s m args below meth c s₁ Bd hml0 hP hK
  obtain ⟨rfl, hZ, hh⟩ := hP
  have hx := Bd.exec
  have hby := Bd.bytes
  have hml : c.maxLocals = 4 := hml0
  have hown : s.vm.findClass "com/example/pactolus/pactolus/gate/ScopeAllCallsOverPeriodPinLaw" = some m.cls := findClass_of_methodNamed Bd.named
  have X0 : Stand p l e room_1 s m #[(.int p_0)] below meth c s₁ [] 0 0 := Stand.of_body Bd
  have e0 : s₁.heap = h0 := by rw [← hh, Bd.state]; rfl
  have K0 : own_Kp h0 h0 [] [] := own_kpRefl _ _
  show own_Go p e below (own_K s (own_Q0 h0.size) room_1.cells room_1.slots) s₁ (entryFrame m #[(.int p_0)] maxLocals)
  rw [own_ef0]
  obtain ⟨T90, h90, k90, X90, e90, E90, A90, O90, st90⟩ := newR X0 hx hZ hown (own_wd hw 0 rfl) (own_wd hw 1 rfl) e0 (g := (mkF m 7 #[.val (.int p_0), .val (.int (p_0 &&& (7 : Int32))), .unset, .unset] [(.int (8 : Int32))])) rfl (hb hby at_7) rfl (by decide) (cap := 8) (by decide) (by decide) (by decide) (by decide)
  obtain ⟨b90, g90⟩ : ∃ z, z = h0.size := ⟨_, rfl⟩
  rw [← g90] at A90 st90
  have z_E90 : h0.size ≤ h90.size := E90.1
  have lo_b90 : h0.size ≤ b90 := Nat.le_of_eq g90.symm
  have sz_b90 : h0.size ≤ b90 := Nat.le_trans K0.1.1 lo_b90
  have K90 := own_kpExt K0 E90
  have V90 : Arv Z h90 b90 k90 (.object "com/example/pactolus/pactolus/gate/Scope") (8 : Int32) [.null, .null, .null, .null, .null, .null, .null, .null] .null := (Arv.new A90 (by decide)).pad (pad_rep [] .null 8)
  have S91 : Sta Z h90 "com/example/pactolus/pactolus/gate/Scope" "CALL" "Lcom/example/pactolus/pactolus/gate/Scope;" (.ref w_CALL) := (Sta.ext E90 S_CALL_58)
  obtain ⟨T92, X92, e92, st92⟩ := getS2 X90 hx hZ hown (host := "") (Or.inl (own_wd hw 2 rfl)) Via.refl e90 S91 (g := (mkF m 12 #[.val (.int p_0), .val (.int (p_0 &&& (7 : Int32))), .unset, .unset] [(.int (0 : Int32)), (.ref b90), (.ref b90)])) rfl (hb hby at_12)
  obtain ⟨cl93, Ar93, q93, S93, N93, H93, G93⟩ := V90
  have hin93 : ¬ ((0 : Int32) < 0 ∨ cl93.slots.size ≤ ((0 : Int32)).toNatClampNeg) := inb_of S93 ⟨by decide, by decide⟩
  have E94 : Exa Z h90 w_CALL "com/example/pactolus/pactolus/gate/Scope" := (Exa.ext E90 E_w_CALL)
  obtain ⟨T93, h93, X93, e93, W93, st93⟩ := stR X92 hx hZ e92 Ar93 (j := (0 : Int32)) hin93 rfl (Sto.ofV Ar93 q93 O90 (Ins.self E94)) (g := (mkF m 15 #[.val (.int p_0), .val (.int (p_0 &&& (7 : Int32))), .unset, .unset] [(.ref w_CALL), (.int (0 : Int32)), (.ref b90), (.ref b90)])) rfl rfl (hb hby at_15)
  have V93 : Arv Z h93 b90 k90 (.object "com/example/pactolus/pactolus/gate/Scope") (8 : Int32) [(.ref w_CALL), .null, .null, .null, .null, .null, .null, .null] .null := Arv.set Ar93 q93 S93 N93 H93 G93 rfl W93 0 rfl (Nat.le_of_ble_eq_true rfl)
  have K93 := own_kpWr K90 W93 (Or.inr sz_b90)
  have z_W93 : h90.size ≤ h93.size := Nat.le_of_eq W93.size.symm
  refine own_go (T2 := T93) (g2 := (mkF m 18 #[.val (.int p_0), .val (.int (p_0 &&& (7 : Int32))), .unset, .unset] [(.int (1 : Int32)), (.ref b90), (.ref b90)])) (fun t k => XS.iloadN X0.here hx rfl (hb hby at_0) rfl  (XS.bipush X0.here hx rfl (hb hby at_1) (XS.iand X0.here hx rfl (hb hby at_3) rfl (XS.istoreN X0.here hx rfl (hb hby at_4) rfl (l' := #[.val (.int p_0), .val (.int (p_0 &&& (7 : Int32))), .unset, .unset]) rfl (XS.bipush X0.here hx rfl (hb hby at_5) (st90 _ (XS.dup X90.here hx rfl (hb hby at_10) rfl rfl (XS.iconst X90.here hx rfl (hb hby at_11) (st92 _ (st93 _ (XS.dup X93.here hx rfl (hb hby at_16) rfl rfl (XS.iconst X93.here hx rfl (hb hby at_17) k)))))))))))) ?_
  have S95 : Sta Z h93 "com/example/pactolus/pactolus/gate/Scope" "DAILY" "Lcom/example/pactolus/pactolus/gate/Scope;" (.ref w_DAILY) := (Sta.wr W93 (Sta.ext E90 S_DAILY_59))
  obtain ⟨T96, X96, e96, st96⟩ := getS2 X93 hx hZ hown (host := "") (Or.inl (own_wd hw 6 rfl)) Via.refl e93 S95 (g := (mkF m 18 #[.val (.int p_0), .val (.int (p_0 &&& (7 : Int32))), .unset, .unset] [(.int (1 : Int32)), (.ref b90), (.ref b90)])) rfl (hb hby at_18)
  obtain ⟨cl97, Ar97, q97, S97, N97, H97, G97⟩ := V93
  have hin97 : ¬ ((1 : Int32) < 0 ∨ cl97.slots.size ≤ ((1 : Int32)).toNatClampNeg) := inb_of S97 ⟨by decide, by decide⟩
  have E98 : Exa Z h93 w_DAILY "com/example/pactolus/pactolus/gate/Scope" := (Exa.wr W93 (Exa.ext E90 E_w_DAILY))
  obtain ⟨T97, h97, X97, e97, W97, st97⟩ := stR X96 hx hZ e96 Ar97 (j := (1 : Int32)) hin97 rfl (Sto.ofV Ar97 q97 O90 (Ins.self E98)) (g := (mkF m 21 #[.val (.int p_0), .val (.int (p_0 &&& (7 : Int32))), .unset, .unset] [(.ref w_DAILY), (.int (1 : Int32)), (.ref b90), (.ref b90)])) rfl rfl (hb hby at_21)
  have V97 : Arv Z h97 b90 k90 (.object "com/example/pactolus/pactolus/gate/Scope") (8 : Int32) [(.ref w_CALL), (.ref w_DAILY), .null, .null, .null, .null, .null, .null] .null := Arv.set Ar97 q97 S97 N97 H97 G97 rfl W97 1 rfl (Nat.le_of_ble_eq_true rfl)
  have K97 := own_kpWr K93 W97 (Or.inr sz_b90)
  have z_W97 : h93.size ≤ h97.size := Nat.le_of_eq W97.size.symm
  have S99 : Sta Z h97 "com/example/pactolus/pactolus/gate/Scope" "MONTHLY" "Lcom/example/pactolus/pactolus/gate/Scope;" (.ref w_MONTHLY) := (Sta.wr W97 (Sta.wr W93 (Sta.ext E90 S_MONTHLY_60)))
  obtain ⟨T100, X100, e100, st100⟩ := getS2 X97 hx hZ hown (host := "") (Or.inl (own_wd hw 8 rfl)) Via.refl e97 S99 (g := (mkF m 24 #[.val (.int p_0), .val (.int (p_0 &&& (7 : Int32))), .unset, .unset] [(.int (2 : Int32)), (.ref b90), (.ref b90)])) rfl (hb hby at_24)
  obtain ⟨cl101, Ar101, q101, S101, N101, H101, G101⟩ := V97
  have hin101 : ¬ ((2 : Int32) < 0 ∨ cl101.slots.size ≤ ((2 : Int32)).toNatClampNeg) := inb_of S101 ⟨by decide, by decide⟩
  have E102 : Exa Z h97 w_MONTHLY "com/example/pactolus/pactolus/gate/Scope" := (Exa.wr W97 (Exa.wr W93 (Exa.ext E90 E_w_MONTHLY)))
  obtain ⟨T101, h101, X101, e101, W101, st101⟩ := stR X100 hx hZ e100 Ar101 (j := (2 : Int32)) hin101 rfl (Sto.ofV Ar101 q101 O90 (Ins.self E102)) (g := (mkF m 27 #[.val (.int p_0), .val (.int (p_0 &&& (7 : Int32))), .unset, .unset] [(.ref w_MONTHLY), (.int (2 : Int32)), (.ref b90), (.ref b90)])) rfl rfl (hb hby at_27)
  have V101 : Arv Z h101 b90 k90 (.object "com/example/pactolus/pactolus/gate/Scope") (8 : Int32) [(.ref w_CALL), (.ref w_DAILY), (.ref w_MONTHLY), .null, .null, .null, .null, .null] .null := Arv.set Ar101 q101 S101 N101 H101 G101 rfl W101 2 rfl (Nat.le_of_ble_eq_true rfl)
  have K101 := own_kpWr K97 W101 (Or.inr sz_b90)
  have z_W101 : h97.size ≤ h101.size := Nat.le_of_eq W101.size.symm
  have S103 : Sta Z h101 "com/example/pactolus/pactolus/gate/Scope" "PROVIDER_DAILY" "Lcom/example/pactolus/pactolus/gate/Scope;" (.ref w_PROVIDER_DAILY) := (Sta.wr W101 (Sta.wr W97 (Sta.wr W93 (Sta.ext E90 S_PROVIDER_DAILY_61))))
  obtain ⟨T104, X104, e104, st104⟩ := getS2 X101 hx hZ hown (host := "") (Or.inl (own_wd hw 10 rfl)) Via.refl e101 S103 (g := (mkF m 30 #[.val (.int p_0), .val (.int (p_0 &&& (7 : Int32))), .unset, .unset] [(.int (3 : Int32)), (.ref b90), (.ref b90)])) rfl (hb hby at_30)
  obtain ⟨cl105, Ar105, q105, S105, N105, H105, G105⟩ := V101
  have hin105 : ¬ ((3 : Int32) < 0 ∨ cl105.slots.size ≤ ((3 : Int32)).toNatClampNeg) := inb_of S105 ⟨by decide, by decide⟩
  have E106 : Exa Z h101 w_PROVIDER_DAILY "com/example/pactolus/pactolus/gate/Scope" := (Exa.wr W101 (Exa.wr W97 (Exa.wr W93 (Exa.ext E90 E_w_PROVIDER_DAILY))))
  obtain ⟨T105, h105, X105, e105, W105, st105⟩ := stR X104 hx hZ e104 Ar105 (j := (3 : Int32)) hin105 rfl (Sto.ofV Ar105 q105 O90 (Ins.self E106)) (g := (mkF m 33 #[.val (.int p_0), .val (.int (p_0 &&& (7 : Int32))), .unset, .unset] [(.ref w_PROVIDER_DAILY), (.int (3 : Int32)), (.ref b90), (.ref b90)])) rfl rfl (hb hby at_33)
  have V105 : Arv Z h105 b90 k90 (.object "com/example/pactolus/pactolus/gate/Scope") (8 : Int32) [(.ref w_CALL), (.ref w_DAILY), (.ref w_MONTHLY), (.ref w_PROVIDER_DAILY), .null, .null, .null, .null] .null := Arv.set Ar105 q105 S105 N105 H105 G105 rfl W105 3 rfl (Nat.le_of_ble_eq_true rfl)
  have K105 := own_kpWr K101 W105 (Or.inr sz_b90)
  have z_W105 : h101.size ≤ h105.size := Nat.le_of_eq W105.size.symm
  refine own_go (T2 := T105) (g2 := (mkF m 36 #[.val (.int p_0), .val (.int (p_0 &&& (7 : Int32))), .unset, .unset] [(.int (4 : Int32)), (.ref b90), (.ref b90)])) (fun t k => st96 _ (st97 _ (XS.dup X97.here hx rfl (hb hby at_22) rfl rfl (XS.iconst X97.here hx rfl (hb hby at_23) (st100 _ (st101 _ (XS.dup X101.here hx rfl (hb hby at_28) rfl rfl (XS.iconst X101.here hx rfl (hb hby at_29) (st104 _ (st105 _ (XS.dup X105.here hx rfl (hb hby at_34) rfl rfl (XS.iconst X105.here hx rfl (hb hby at_35) k)))))))))))) ?_
  have S107 : Sta Z h105 "com/example/pactolus/pactolus/gate/Scope" "PROVIDER_MONTHLY" "Lcom/example/pactolus/pactolus/gate/Scope;" (.ref w_PROVIDER_MONTHLY) := (Sta.wr W105 (Sta.wr W101 (Sta.wr W97 (Sta.wr W93 (Sta.ext E90 S_PROVIDER_MONTHLY_62)))))
  obtain ⟨T108, X108, e108, st108⟩ := getS2 X105 hx hZ hown (host := "") (Or.inl (own_wd hw 12 rfl)) Via.refl e105 S107 (g := (mkF m 36 #[.val (.int p_0), .val (.int (p_0 &&& (7 : Int32))), .unset, .unset] [(.int (4 : Int32)), (.ref b90), (.ref b90)])) rfl (hb hby at_36)
  obtain ⟨cl109, Ar109, q109, S109, N109, H109, G109⟩ := V105
  have hin109 : ¬ ((4 : Int32) < 0 ∨ cl109.slots.size ≤ ((4 : Int32)).toNatClampNeg) := inb_of S109 ⟨by decide, by decide⟩
  have E110 : Exa Z h105 w_PROVIDER_MONTHLY "com/example/pactolus/pactolus/gate/Scope" := (Exa.wr W105 (Exa.wr W101 (Exa.wr W97 (Exa.wr W93 (Exa.ext E90 E_w_PROVIDER_MONTHLY)))))
  obtain ⟨T109, h109, X109, e109, W109, st109⟩ := stR X108 hx hZ e108 Ar109 (j := (4 : Int32)) hin109 rfl (Sto.ofV Ar109 q109 O90 (Ins.self E110)) (g := (mkF m 39 #[.val (.int p_0), .val (.int (p_0 &&& (7 : Int32))), .unset, .unset] [(.ref w_PROVIDER_MONTHLY), (.int (4 : Int32)), (.ref b90), (.ref b90)])) rfl rfl (hb hby at_39)
  have V109 : Arv Z h109 b90 k90 (.object "com/example/pactolus/pactolus/gate/Scope") (8 : Int32) [(.ref w_CALL), (.ref w_DAILY), (.ref w_MONTHLY), (.ref w_PROVIDER_DAILY), (.ref w_PROVIDER_MONTHLY), .null, .null, .null] .null := Arv.set Ar109 q109 S109 N109 H109 G109 rfl W109 4 rfl (Nat.le_of_ble_eq_true rfl)
  have K109 := own_kpWr K105 W109 (Or.inr sz_b90)
  have z_W109 : h105.size ≤ h109.size := Nat.le_of_eq W109.size.symm
  have S111 : Sta Z h109 "com/example/pactolus/pactolus/gate/Scope" "USER_DAILY" "Lcom/example/pactolus/pactolus/gate/Scope;" (.ref w_USER_DAILY) := (Sta.wr W109 (Sta.wr W105 (Sta.wr W101 (Sta.wr W97 (Sta.wr W93 (Sta.ext E90 S_USER_DAILY_63))))))
  obtain ⟨T112, X112, e112, st112⟩ := getS2 X109 hx hZ hown (host := "") (Or.inl (own_wd hw 14 rfl)) Via.refl e109 S111 (g := (mkF m 42 #[.val (.int p_0), .val (.int (p_0 &&& (7 : Int32))), .unset, .unset] [(.int (5 : Int32)), (.ref b90), (.ref b90)])) rfl (hb hby at_42)
  obtain ⟨cl113, Ar113, q113, S113, N113, H113, G113⟩ := V109
  have hin113 : ¬ ((5 : Int32) < 0 ∨ cl113.slots.size ≤ ((5 : Int32)).toNatClampNeg) := inb_of S113 ⟨by decide, by decide⟩
  have E114 : Exa Z h109 w_USER_DAILY "com/example/pactolus/pactolus/gate/Scope" := (Exa.wr W109 (Exa.wr W105 (Exa.wr W101 (Exa.wr W97 (Exa.wr W93 (Exa.ext E90 E_w_USER_DAILY))))))
  obtain ⟨T113, h113, X113, e113, W113, st113⟩ := stR X112 hx hZ e112 Ar113 (j := (5 : Int32)) hin113 rfl (Sto.ofV Ar113 q113 O90 (Ins.self E114)) (g := (mkF m 45 #[.val (.int p_0), .val (.int (p_0 &&& (7 : Int32))), .unset, .unset] [(.ref w_USER_DAILY), (.int (5 : Int32)), (.ref b90), (.ref b90)])) rfl rfl (hb hby at_45)
  have V113 : Arv Z h113 b90 k90 (.object "com/example/pactolus/pactolus/gate/Scope") (8 : Int32) [(.ref w_CALL), (.ref w_DAILY), (.ref w_MONTHLY), (.ref w_PROVIDER_DAILY), (.ref w_PROVIDER_MONTHLY), (.ref w_USER_DAILY), .null, .null] .null := Arv.set Ar113 q113 S113 N113 H113 G113 rfl W113 5 rfl (Nat.le_of_ble_eq_true rfl)
  have K113 := own_kpWr K109 W113 (Or.inr sz_b90)
  have z_W113 : h109.size ≤ h113.size := Nat.le_of_eq W113.size.symm
  have S115 : Sta Z h113 "com/example/pactolus/pactolus/gate/Scope" "USER_MONTHLY" "Lcom/example/pactolus/pactolus/gate/Scope;" (.ref w_USER_MONTHLY) := (Sta.wr W113 (Sta.wr W109 (Sta.wr W105 (Sta.wr W101 (Sta.wr W97 (Sta.wr W93 (Sta.ext E90 S_USER_MONTHLY_64)))))))
  obtain ⟨T116, X116, e116, st116⟩ := getS2 X113 hx hZ hown (host := "") (Or.inl (own_wd hw 16 rfl)) Via.refl e113 S115 (g := (mkF m 49 #[.val (.int p_0), .val (.int (p_0 &&& (7 : Int32))), .unset, .unset] [(.int (6 : Int32)), (.ref b90), (.ref b90)])) rfl (hb hby at_49)
  obtain ⟨cl117, Ar117, q117, S117, N117, H117, G117⟩ := V113
  have hin117 : ¬ ((6 : Int32) < 0 ∨ cl117.slots.size ≤ ((6 : Int32)).toNatClampNeg) := inb_of S117 ⟨by decide, by decide⟩
  have E118 : Exa Z h113 w_USER_MONTHLY "com/example/pactolus/pactolus/gate/Scope" := (Exa.wr W113 (Exa.wr W109 (Exa.wr W105 (Exa.wr W101 (Exa.wr W97 (Exa.wr W93 (Exa.ext E90 E_w_USER_MONTHLY)))))))
  obtain ⟨T117, h117, X117, e117, W117, st117⟩ := stR X116 hx hZ e116 Ar117 (j := (6 : Int32)) hin117 rfl (Sto.ofV Ar117 q117 O90 (Ins.self E118)) (g := (mkF m 52 #[.val (.int p_0), .val (.int (p_0 &&& (7 : Int32))), .unset, .unset] [(.ref w_USER_MONTHLY), (.int (6 : Int32)), (.ref b90), (.ref b90)])) rfl rfl (hb hby at_52)
  have V117 : Arv Z h117 b90 k90 (.object "com/example/pactolus/pactolus/gate/Scope") (8 : Int32) [(.ref w_CALL), (.ref w_DAILY), (.ref w_MONTHLY), (.ref w_PROVIDER_DAILY), (.ref w_PROVIDER_MONTHLY), (.ref w_USER_DAILY), (.ref w_USER_MONTHLY), .null] .null := Arv.set Ar117 q117 S117 N117 H117 G117 rfl W117 6 rfl (Nat.le_of_ble_eq_true rfl)
  have K117 := own_kpWr K113 W117 (Or.inr sz_b90)
  have z_W117 : h113.size ≤ h117.size := Nat.le_of_eq W117.size.symm
  refine own_go (T2 := T117) (g2 := (mkF m 56 #[.val (.int p_0), .val (.int (p_0 &&& (7 : Int32))), .unset, .unset] [(.int (7 : Int32)), (.ref b90), (.ref b90)])) (fun t k => st108 _ (st109 _ (XS.dup X109.here hx rfl (hb hby at_40) rfl rfl (XS.iconst X109.here hx rfl (hb hby at_41) (st112 _ (st113 _ (XS.dup X113.here hx rfl (hb hby at_46) rfl rfl (XS.bipush X113.here hx rfl (hb hby at_47) (st116 _ (st117 _ (XS.dup X117.here hx rfl (hb hby at_53) rfl rfl (XS.bipush X117.here hx rfl (hb hby at_54) k)))))))))))) ?_
  have S119 : Sta Z h117 "com/example/pactolus/pactolus/gate/Scope" "RUN" "Lcom/example/pactolus/pactolus/gate/Scope;" (.ref w_RUN) := (Sta.wr W117 (Sta.wr W113 (Sta.wr W109 (Sta.wr W105 (Sta.wr W101 (Sta.wr W97 (Sta.wr W93 (Sta.ext E90 S_RUN_65))))))))
  obtain ⟨T120, X120, e120, st120⟩ := getS2 X117 hx hZ hown (host := "") (Or.inl (own_wd hw 18 rfl)) Via.refl e117 S119 (g := (mkF m 56 #[.val (.int p_0), .val (.int (p_0 &&& (7 : Int32))), .unset, .unset] [(.int (7 : Int32)), (.ref b90), (.ref b90)])) rfl (hb hby at_56)
  obtain ⟨cl121, Ar121, q121, S121, N121, H121, G121⟩ := V117
  have hin121 : ¬ ((7 : Int32) < 0 ∨ cl121.slots.size ≤ ((7 : Int32)).toNatClampNeg) := inb_of S121 ⟨by decide, by decide⟩
  have E122 : Exa Z h117 w_RUN "com/example/pactolus/pactolus/gate/Scope" := (Exa.wr W117 (Exa.wr W113 (Exa.wr W109 (Exa.wr W105 (Exa.wr W101 (Exa.wr W97 (Exa.wr W93 (Exa.ext E90 E_w_RUN))))))))
  obtain ⟨T121, h121, X121, e121, W121, st121⟩ := stR X120 hx hZ e120 Ar121 (j := (7 : Int32)) hin121 rfl (Sto.ofV Ar121 q121 O90 (Ins.self E122)) (g := (mkF m 59 #[.val (.int p_0), .val (.int (p_0 &&& (7 : Int32))), .unset, .unset] [(.ref w_RUN), (.int (7 : Int32)), (.ref b90), (.ref b90)])) rfl rfl (hb hby at_59)
  have V121 : Arv Z h121 b90 k90 (.object "com/example/pactolus/pactolus/gate/Scope") (8 : Int32) [(.ref w_CALL), (.ref w_DAILY), (.ref w_MONTHLY), (.ref w_PROVIDER_DAILY), (.ref w_PROVIDER_MONTHLY), (.ref w_USER_DAILY), (.ref w_USER_MONTHLY), (.ref w_RUN)] .null := Arv.set Ar121 q121 S121 N121 H121 G121 rfl W121 7 rfl (Nat.le_of_ble_eq_true rfl)
  have K121 := own_kpWr K117 W121 (Or.inr sz_b90)
  have z_W121 : h117.size ≤ h121.size := Nat.le_of_eq W121.size.symm
  refine own_go (T2 := T121) (g2 := (mkF m 61 #[.val (.int p_0), .val (.int (p_0 &&& (7 : Int32))), .val (.ref b90), .unset] [])) (fun t k => st120 _ (st121 _ (XS.astoreN X121.here hx rfl (hb hby at_60) rfl rfl (l' := #[.val (.int p_0), .val (.int (p_0 &&& (7 : Int32))), .val (.ref b90), .unset]) rfl k))) ?_
  have hrk123 := own_and7 p_0
  generalize (p_0 &&& (7 : Int32)) = k123 at hrk123 ⊢
  rcases hrk123 with rfl | rfl | rfl | rfl | rfl | rfl | rfl | rfl
  · obtain ⟨cl124, Ar124, q124, S124, N124, H124, G124⟩ := V121
    have hin124 : ¬ ((0 : Int32) < 0 ∨ cl124.slots.size ≤ ((0 : Int32)).toNatClampNeg) := inb_of S124 ⟨by decide, by decide⟩
    have ne128 : w_CALL ≠ b90 := Nat.ne_of_lt (Nat.lt_of_lt_of_le E_w_CALL.lt (Nat.le_trans (Nat.le_refl _) lo_b90))
    have F129 : Fld Z h121 w_CALL "com/example/pactolus/pactolus/gate/Scope" "label" "Lcom/example/pactolus/pactolus/ledger/Label;" .null := (Fld.other W121 (Fld.other W117 (Fld.other W113 (Fld.other W109 (Fld.other W105 (Fld.other W101 (Fld.other W97 (Fld.other W93 (Fld.ext E90 F_label_74) (Or.inl ne128)) (Or.inl ne128)) (Or.inl ne128)) (Or.inl ne128)) (Or.inl ne128)) (Or.inl ne128)) (Or.inl ne128)) (Or.inl ne128))
    have F132 : Fld Z h121 w_CALL "com/example/pactolus/pactolus/gate/Scope" "period" "Lcom/example/pactolus/pactolus/gate/Period;" .null := (Fld.other W121 (Fld.other W117 (Fld.other W113 (Fld.other W109 (Fld.other W105 (Fld.other W101 (Fld.other W97 (Fld.other W93 (Fld.ext E90 F_period_75) (Or.inl ne128)) (Or.inl ne128)) (Or.inl ne128)) (Or.inl ne128)) (Or.inl ne128)) (Or.inl ne128)) (Or.inl ne128)) (Or.inl ne128))
    have E135 : Exa Z h121 w_CALL "com/example/pactolus/pactolus/gate/Scope" := (Exa.wr W121 (Exa.wr W117 (Exa.wr W113 (Exa.wr W109 (Exa.wr W105 (Exa.wr W101 (Exa.wr W97 (Exa.wr W93 E94))))))))
    obtain ⟨_, T125, L125, X125, ⟨rfl, rfl, e125⟩, st125⟩ := own_cv X121 hx hZ hown (own_w136 hw) hml (g := (mkF m 80 #[.val (.int p_0), .val (.int (0 : Int32)), .val (.ref b90), .val (.int (0 : Int32))] [(.ref w_CALL)])) (hb hby at_80) e121 E135 [] [] (lenOf own_pd0 rfl) (own_rm126 l Z a0 hw h121 w_CALL F129 F132)
    refine own_go (T2 := T125) (g2 := (mkF m 83 #[.val (.int p_0), .val (.int (0 : Int32)), .val (.ref b90), .val (.int (0 : Int32))] [(.int (0 : Int32))])) (fun t k => XS.iloadN X121.here hx rfl (hb hby at_61) rfl  (XS.iconst X121.here hx rfl (hb hby at_62) (XS.icmpNo X121.here hx rfl (hb hby at_63) rfl (feq (show ¬ ((0 : Int32) = (1 : Int32)) from (by decide))).1 (XS.iloadN X121.here hx rfl (hb hby at_66) rfl  (XS.iconst X121.here hx rfl (hb hby at_67) (XS.icmpYes X121.here hx rfl (pc0 := 68) (pc' := 75) rfl (hb hby at_68) rfl (feq (show ¬ ((0 : Int32) = (2 : Int32)) from (by decide))).2 (by decide) (by decide) (XS.iconst X121.here hx rfl (hb hby at_75) (XS.istoreN X121.here hx rfl (hb hby at_76) rfl (l' := #[.val (.int p_0), .val (.int (0 : Int32)), .val (.ref b90), .val (.int (0 : Int32))]) rfl (XS.aloadN X121.here hx rfl (hb hby at_77) rfl rfl (XS.iloadN X121.here hx rfl (hb hby at_78) rfl  (own_ap (X121.aaload hx (j := (0 : Int32)) (v := (.ref w_CALL)) (by rw [e121]; exact Ar124.1) (State.isArrayOf_alike hZ.alike Ar124.2.1) rfl Ar124.2.2 hin124 (Has.at H124 hin124 rfl) rfl rfl (hb hby at_79)) (st125 _ k)))))))))))) ?_
    refine own_go (T2 := T125) (g2 := (mkF m 92 #[.val (.int p_0), .val (.int (0 : Int32)), .val (.ref b90), .val (.int (0 : Int32))] [(.int (1 : Int32))])) (fun t k => XS.iloadN X125.here hx rfl (hb hby at_83) rfl  (XS.icmpNo X125.here hx rfl (hb hby at_84) rfl (teq (show (0 : Int32) = (0 : Int32) from (by decide))).2 (XS.iconst X125.here hx rfl (hb hby at_87) (XS.goto X125.here hx rfl (pc0 := 88) (pc' := 92) rfl (hb hby at_88) (by decide) (by decide) k)))) ?_
    exact own_endN X125 hx Bd.notSynchronized (t := .boolean) Bd.returns (by simp) (hb hby at_92) (z' := (1 : Int32)) rfl (by decide) (by decide) ⟨rfl, own_kpFr K121⟩
  · obtain ⟨cl137, Ar137, q137, S137, N137, H137, G137⟩ := V121
    have hin137 : ¬ ((1 : Int32) < 0 ∨ cl137.slots.size ≤ ((1 : Int32)).toNatClampNeg) := inb_of S137 ⟨by decide, by decide⟩
    have ne144 : w_DAILY ≠ b90 := Nat.ne_of_lt (Nat.lt_of_lt_of_le E_w_DAILY.lt (Nat.le_trans (Nat.le_refl _) lo_b90))
    have F145 : Fld Z h121 w_DAILY "com/example/pactolus/pactolus/gate/Scope" "label" "Lcom/example/pactolus/pactolus/ledger/Label;" .null := (Fld.other W121 (Fld.other W117 (Fld.other W113 (Fld.other W109 (Fld.other W105 (Fld.other W101 (Fld.other W97 (Fld.other W93 (Fld.ext E90 F_label_81) (Or.inl ne144)) (Or.inl ne144)) (Or.inl ne144)) (Or.inl ne144)) (Or.inl ne144)) (Or.inl ne144)) (Or.inl ne144)) (Or.inl ne144))
    have F148 : Fld Z h121 w_DAILY "com/example/pactolus/pactolus/gate/Scope" "period" "Lcom/example/pactolus/pactolus/gate/Period;" (.ref w_DAILY_72) := (Fld.other W121 (Fld.other W117 (Fld.other W113 (Fld.other W109 (Fld.other W105 (Fld.other W101 (Fld.other W97 (Fld.other W93 (Fld.ext E90 F_period_82) (Or.inl ne144)) (Or.inl ne144)) (Or.inl ne144)) (Or.inl ne144)) (Or.inl ne144)) (Or.inl ne144)) (Or.inl ne144)) (Or.inl ne144))
    have E152 : Exa Z h121 w_DAILY "com/example/pactolus/pactolus/gate/Scope" := (Exa.wr W121 (Exa.wr W117 (Exa.wr W113 (Exa.wr W109 (Exa.wr W105 (Exa.wr W101 (Exa.wr W97 E98)))))))
    obtain ⟨_, T138, L138, X138, ⟨rfl, rfl, e138⟩, st138⟩ := own_cv X121 hx hZ hown (own_w136 hw) hml (g := (mkF m 80 #[.val (.int p_0), .val (.int (1 : Int32)), .val (.ref b90), .val (.int (1 : Int32))] [(.ref w_DAILY)])) (hb hby at_80) e121 E152 [] [] (lenOf own_pd0 rfl) (own_rm142 l Z a0 hw h121 w_DAILY w_DAILY_72 F145 F148)
    refine own_go (T2 := T138) (g2 := (mkF m 87 #[.val (.int p_0), .val (.int (1 : Int32)), .val (.ref b90), .val (.int (1 : Int32))] [])) (fun t k => XS.iloadN X121.here hx rfl (hb hby at_61) rfl  (XS.iconst X121.here hx rfl (hb hby at_62) (XS.icmpYes X121.here hx rfl (pc0 := 63) (pc' := 71) rfl (hb hby at_63) rfl (teq (show (1 : Int32) = (1 : Int32) from (by decide))).1 (by decide) (by decide) (XS.iconst X121.here hx rfl (hb hby at_71) (XS.goto X121.here hx rfl (pc0 := 72) (pc' := 76) rfl (hb hby at_72) (by decide) (by decide) (XS.istoreN X121.here hx rfl (hb hby at_76) rfl (l' := #[.val (.int p_0), .val (.int (1 : Int32)), .val (.ref b90), .val (.int (1 : Int32))]) rfl (XS.aloadN X121.here hx rfl (hb hby at_77) rfl rfl (XS.iloadN X121.here hx rfl (hb hby at_78) rfl  (own_ap (X121.aaload hx (j := (1 : Int32)) (v := (.ref w_DAILY)) (by rw [e121]; exact Ar137.1) (State.isArrayOf_alike hZ.alike Ar137.2.1) rfl Ar137.2.2 hin137 (Has.at H137 hin137 rfl) rfl rfl (hb hby at_79)) (st138 _ (XS.iloadN X138.here hx rfl (hb hby at_83) rfl  (XS.icmpNo X138.here hx rfl (hb hby at_84) rfl (teq (show (1 : Int32) = (1 : Int32) from (by decide))).2 k)))))))))))) ?_
    refine own_go (T2 := T138) (g2 := (mkF m 92 #[.val (.int p_0), .val (.int (1 : Int32)), .val (.ref b90), .val (.int (1 : Int32))] [(.int (1 : Int32))])) (fun t k => XS.iconst X138.here hx rfl (hb hby at_87) (XS.goto X138.here hx rfl (pc0 := 88) (pc' := 92) rfl (hb hby at_88) (by decide) (by decide) k)) ?_
    exact own_endN X138 hx Bd.notSynchronized (t := .boolean) Bd.returns (by simp) (hb hby at_92) (z' := (1 : Int32)) rfl (by decide) (by decide) ⟨rfl, own_kpFr K121⟩
  · obtain ⟨cl153, Ar153, q153, S153, N153, H153, G153⟩ := V121
    have hin153 : ¬ ((2 : Int32) < 0 ∨ cl153.slots.size ≤ ((2 : Int32)).toNatClampNeg) := inb_of S153 ⟨by decide, by decide⟩
    refine own_go (T2 := T121) (g2 := (mkF m 80 #[.val (.int p_0), .val (.int (2 : Int32)), .val (.ref b90), .val (.int (1 : Int32))] [(.ref w_MONTHLY)])) (fun t k => XS.iloadN X121.here hx rfl (hb hby at_61) rfl  (XS.iconst X121.here hx rfl (hb hby at_62) (XS.icmpNo X121.here hx rfl (hb hby at_63) rfl (feq (show ¬ ((2 : Int32) = (1 : Int32)) from (by decide))).1 (XS.iloadN X121.here hx rfl (hb hby at_66) rfl  (XS.iconst X121.here hx rfl (hb hby at_67) (XS.icmpNo X121.here hx rfl (hb hby at_68) rfl (teq (show (2 : Int32) = (2 : Int32) from (by decide))).2 (XS.iconst X121.here hx rfl (hb hby at_71) (XS.goto X121.here hx rfl (pc0 := 72) (pc' := 76) rfl (hb hby at_72) (by decide) (by decide) (XS.istoreN X121.here hx rfl (hb hby at_76) rfl (l' := #[.val (.int p_0), .val (.int (2 : Int32)), .val (.ref b90), .val (.int (1 : Int32))]) rfl (XS.aloadN X121.here hx rfl (hb hby at_77) rfl rfl (XS.iloadN X121.here hx rfl (hb hby at_78) rfl  (own_ap (X121.aaload hx (j := (2 : Int32)) (v := (.ref w_MONTHLY)) (by rw [e121]; exact Ar153.1) (State.isArrayOf_alike hZ.alike Ar153.2.1) rfl Ar153.2.2 hin153 (Has.at H153 hin153 rfl) rfl rfl (hb hby at_79)) k)))))))))))) ?_
    have ne161 : w_MONTHLY ≠ b90 := Nat.ne_of_lt (Nat.lt_of_lt_of_le E_w_MONTHLY.lt (Nat.le_trans (Nat.le_refl _) lo_b90))
    have F162 : Fld Z h121 w_MONTHLY "com/example/pactolus/pactolus/gate/Scope" "label" "Lcom/example/pactolus/pactolus/ledger/Label;" .null := (Fld.other W121 (Fld.other W117 (Fld.other W113 (Fld.other W109 (Fld.other W105 (Fld.other W101 (Fld.other W97 (Fld.other W93 (Fld.ext E90 F_label_79) (Or.inl ne161)) (Or.inl ne161)) (Or.inl ne161)) (Or.inl ne161)) (Or.inl ne161)) (Or.inl ne161)) (Or.inl ne161)) (Or.inl ne161))
    have F163 : Fld Z h121 w_MONTHLY "com/example/pactolus/pactolus/gate/Scope" "period" "Lcom/example/pactolus/pactolus/gate/Period;" (.ref w_MONTHLY_70) := (Fld.other W121 (Fld.other W117 (Fld.other W113 (Fld.other W109 (Fld.other W105 (Fld.other W101 (Fld.other W97 (Fld.other W93 (Fld.ext E90 F_period_80) (Or.inl ne161)) (Or.inl ne161)) (Or.inl ne161)) (Or.inl ne161)) (Or.inl ne161)) (Or.inl ne161)) (Or.inl ne161)) (Or.inl ne161))
    have E164 : Exa Z h121 w_MONTHLY "com/example/pactolus/pactolus/gate/Scope" := (Exa.wr W121 (Exa.wr W117 (Exa.wr W113 (Exa.wr W109 (Exa.wr W105 (Exa.wr W101 E102))))))
    obtain ⟨_, T154, L154, X154, ⟨rfl, rfl, e154⟩, st154⟩ := own_cv X121 hx hZ hown (own_w136 hw) hml (g := (mkF m 80 #[.val (.int p_0), .val (.int (2 : Int32)), .val (.ref b90), .val (.int (1 : Int32))] [(.ref w_MONTHLY)])) (hb hby at_80) e121 E164 [] [] (lenOf own_pd0 rfl) (own_rm142 l Z a0 hw h121 w_MONTHLY w_MONTHLY_70 F162 F163)
    refine own_go (T2 := T154) (g2 := (mkF m 92 #[.val (.int p_0), .val (.int (2 : Int32)), .val (.ref b90), .val (.int (1 : Int32))] [(.int (1 : Int32))])) (fun t k => st154 _ (XS.iloadN X154.here hx rfl (hb hby at_83) rfl  (XS.icmpNo X154.here hx rfl (hb hby at_84) rfl (teq (show (1 : Int32) = (1 : Int32) from (by decide))).2 (XS.iconst X154.here hx rfl (hb hby at_87) (XS.goto X154.here hx rfl (pc0 := 88) (pc' := 92) rfl (hb hby at_88) (by decide) (by decide) k))))) ?_
    exact own_endN X154 hx Bd.notSynchronized (t := .boolean) Bd.returns (by simp) (hb hby at_92) (z' := (1 : Int32)) rfl (by decide) (by decide) ⟨rfl, own_kpFr K121⟩
  · obtain ⟨cl165, Ar165, q165, S165, N165, H165, G165⟩ := V121
    have hin165 : ¬ ((3 : Int32) < 0 ∨ cl165.slots.size ≤ ((3 : Int32)).toNatClampNeg) := inb_of S165 ⟨by decide, by decide⟩
    have ne173 : w_PROVIDER_DAILY ≠ b90 := Nat.ne_of_lt (Nat.lt_of_lt_of_le E_w_PROVIDER_DAILY.lt (Nat.le_trans (Nat.le_refl _) lo_b90))
    have F174 : Fld Z h121 w_PROVIDER_DAILY "com/example/pactolus/pactolus/gate/Scope" "label" "Lcom/example/pactolus/pactolus/ledger/Label;" (.ref w_PROVIDER) := (Fld.other W121 (Fld.other W117 (Fld.other W113 (Fld.other W109 (Fld.other W105 (Fld.other W101 (Fld.other W97 (Fld.other W93 (Fld.ext E90 F_label_76) (Or.inl ne173)) (Or.inl ne173)) (Or.inl ne173)) (Or.inl ne173)) (Or.inl ne173)) (Or.inl ne173)) (Or.inl ne173)) (Or.inl ne173))
    have E178 : Exa Z h121 w_PROVIDER_DAILY "com/example/pactolus/pactolus/gate/Scope" := (Exa.wr W121 (Exa.wr W117 (Exa.wr W113 (Exa.wr W109 (Exa.wr W105 E106)))))
    obtain ⟨_, T166, L166, X166, ⟨rfl, rfl, e166⟩, st166⟩ := own_cv X121 hx hZ hown (own_w136 hw) hml (g := (mkF m 80 #[.val (.int p_0), .val (.int (3 : Int32)), .val (.ref b90), .val (.int (0 : Int32))] [(.ref w_PROVIDER_DAILY)])) (hb hby at_80) e121 E178 [] [] (lenOf own_pd0 rfl) (own_rm171 l Z a0 hw h121 w_PROVIDER_DAILY w_PROVIDER F174)
    refine own_go (T2 := T166) (g2 := (mkF m 83 #[.val (.int p_0), .val (.int (3 : Int32)), .val (.ref b90), .val (.int (0 : Int32))] [(.int (0 : Int32))])) (fun t k => XS.iloadN X121.here hx rfl (hb hby at_61) rfl  (XS.iconst X121.here hx rfl (hb hby at_62) (XS.icmpNo X121.here hx rfl (hb hby at_63) rfl (feq (show ¬ ((3 : Int32) = (1 : Int32)) from (by decide))).1 (XS.iloadN X121.here hx rfl (hb hby at_66) rfl  (XS.iconst X121.here hx rfl (hb hby at_67) (XS.icmpYes X121.here hx rfl (pc0 := 68) (pc' := 75) rfl (hb hby at_68) rfl (feq (show ¬ ((3 : Int32) = (2 : Int32)) from (by decide))).2 (by decide) (by decide) (XS.iconst X121.here hx rfl (hb hby at_75) (XS.istoreN X121.here hx rfl (hb hby at_76) rfl (l' := #[.val (.int p_0), .val (.int (3 : Int32)), .val (.ref b90), .val (.int (0 : Int32))]) rfl (XS.aloadN X121.here hx rfl (hb hby at_77) rfl rfl (XS.iloadN X121.here hx rfl (hb hby at_78) rfl  (own_ap (X121.aaload hx (j := (3 : Int32)) (v := (.ref w_PROVIDER_DAILY)) (by rw [e121]; exact Ar165.1) (State.isArrayOf_alike hZ.alike Ar165.2.1) rfl Ar165.2.2 hin165 (Has.at H165 hin165 rfl) rfl rfl (hb hby at_79)) (st166 _ k)))))))))))) ?_
    refine own_go (T2 := T166) (g2 := (mkF m 92 #[.val (.int p_0), .val (.int (3 : Int32)), .val (.ref b90), .val (.int (0 : Int32))] [(.int (1 : Int32))])) (fun t k => XS.iloadN X166.here hx rfl (hb hby at_83) rfl  (XS.icmpNo X166.here hx rfl (hb hby at_84) rfl (teq (show (0 : Int32) = (0 : Int32) from (by decide))).2 (XS.iconst X166.here hx rfl (hb hby at_87) (XS.goto X166.here hx rfl (pc0 := 88) (pc' := 92) rfl (hb hby at_88) (by decide) (by decide) k)))) ?_
    exact own_endN X166 hx Bd.notSynchronized (t := .boolean) Bd.returns (by simp) (hb hby at_92) (z' := (1 : Int32)) rfl (by decide) (by decide) ⟨rfl, own_kpFr K121⟩
  · obtain ⟨cl179, Ar179, q179, S179, N179, H179, G179⟩ := V121
    have hin179 : ¬ ((4 : Int32) < 0 ∨ cl179.slots.size ≤ ((4 : Int32)).toNatClampNeg) := inb_of S179 ⟨by decide, by decide⟩
    have ne187 : w_PROVIDER_MONTHLY ≠ b90 := Nat.ne_of_lt (Nat.lt_of_lt_of_le E_w_PROVIDER_MONTHLY.lt (Nat.le_trans (Nat.le_refl _) lo_b90))
    have F188 : Fld Z h121 w_PROVIDER_MONTHLY "com/example/pactolus/pactolus/gate/Scope" "label" "Lcom/example/pactolus/pactolus/ledger/Label;" (.ref w_PROVIDER) := (Fld.other W121 (Fld.other W117 (Fld.other W113 (Fld.other W109 (Fld.other W105 (Fld.other W101 (Fld.other W97 (Fld.other W93 (Fld.ext E90 F_label_83) (Or.inl ne187)) (Or.inl ne187)) (Or.inl ne187)) (Or.inl ne187)) (Or.inl ne187)) (Or.inl ne187)) (Or.inl ne187)) (Or.inl ne187))
    have E189 : Exa Z h121 w_PROVIDER_MONTHLY "com/example/pactolus/pactolus/gate/Scope" := (Exa.wr W121 (Exa.wr W117 (Exa.wr W113 (Exa.wr W109 E110))))
    obtain ⟨_, T180, L180, X180, ⟨rfl, rfl, e180⟩, st180⟩ := own_cv X121 hx hZ hown (own_w136 hw) hml (g := (mkF m 80 #[.val (.int p_0), .val (.int (4 : Int32)), .val (.ref b90), .val (.int (0 : Int32))] [(.ref w_PROVIDER_MONTHLY)])) (hb hby at_80) e121 E189 [] [] (lenOf own_pd0 rfl) (own_rm171 l Z a0 hw h121 w_PROVIDER_MONTHLY w_PROVIDER F188)
    refine own_go (T2 := T180) (g2 := (mkF m 83 #[.val (.int p_0), .val (.int (4 : Int32)), .val (.ref b90), .val (.int (0 : Int32))] [(.int (0 : Int32))])) (fun t k => XS.iloadN X121.here hx rfl (hb hby at_61) rfl  (XS.iconst X121.here hx rfl (hb hby at_62) (XS.icmpNo X121.here hx rfl (hb hby at_63) rfl (feq (show ¬ ((4 : Int32) = (1 : Int32)) from (by decide))).1 (XS.iloadN X121.here hx rfl (hb hby at_66) rfl  (XS.iconst X121.here hx rfl (hb hby at_67) (XS.icmpYes X121.here hx rfl (pc0 := 68) (pc' := 75) rfl (hb hby at_68) rfl (feq (show ¬ ((4 : Int32) = (2 : Int32)) from (by decide))).2 (by decide) (by decide) (XS.iconst X121.here hx rfl (hb hby at_75) (XS.istoreN X121.here hx rfl (hb hby at_76) rfl (l' := #[.val (.int p_0), .val (.int (4 : Int32)), .val (.ref b90), .val (.int (0 : Int32))]) rfl (XS.aloadN X121.here hx rfl (hb hby at_77) rfl rfl (XS.iloadN X121.here hx rfl (hb hby at_78) rfl  (own_ap (X121.aaload hx (j := (4 : Int32)) (v := (.ref w_PROVIDER_MONTHLY)) (by rw [e121]; exact Ar179.1) (State.isArrayOf_alike hZ.alike Ar179.2.1) rfl Ar179.2.2 hin179 (Has.at H179 hin179 rfl) rfl rfl (hb hby at_79)) (st180 _ k)))))))))))) ?_
    refine own_go (T2 := T180) (g2 := (mkF m 92 #[.val (.int p_0), .val (.int (4 : Int32)), .val (.ref b90), .val (.int (0 : Int32))] [(.int (1 : Int32))])) (fun t k => XS.iloadN X180.here hx rfl (hb hby at_83) rfl  (XS.icmpNo X180.here hx rfl (hb hby at_84) rfl (teq (show (0 : Int32) = (0 : Int32) from (by decide))).2 (XS.iconst X180.here hx rfl (hb hby at_87) (XS.goto X180.here hx rfl (pc0 := 88) (pc' := 92) rfl (hb hby at_88) (by decide) (by decide) k)))) ?_
    exact own_endN X180 hx Bd.notSynchronized (t := .boolean) Bd.returns (by simp) (hb hby at_92) (z' := (1 : Int32)) rfl (by decide) (by decide) ⟨rfl, own_kpFr K121⟩
  · obtain ⟨cl190, Ar190, q190, S190, N190, H190, G190⟩ := V121
    have hin190 : ¬ ((5 : Int32) < 0 ∨ cl190.slots.size ≤ ((5 : Int32)).toNatClampNeg) := inb_of S190 ⟨by decide, by decide⟩
    have ne198 : w_USER_DAILY ≠ b90 := Nat.ne_of_lt (Nat.lt_of_lt_of_le E_w_USER_DAILY.lt (Nat.le_trans (Nat.le_refl _) lo_b90))
    have F199 : Fld Z h121 w_USER_DAILY "com/example/pactolus/pactolus/gate/Scope" "label" "Lcom/example/pactolus/pactolus/ledger/Label;" (.ref w_USER) := (Fld.other W121 (Fld.other W117 (Fld.other W113 (Fld.other W109 (Fld.other W105 (Fld.other W101 (Fld.other W97 (Fld.other W93 (Fld.ext E90 F_label_84) (Or.inl ne198)) (Or.inl ne198)) (Or.inl ne198)) (Or.inl ne198)) (Or.inl ne198)) (Or.inl ne198)) (Or.inl ne198)) (Or.inl ne198))
    have E200 : Exa Z h121 w_USER_DAILY "com/example/pactolus/pactolus/gate/Scope" := (Exa.wr W121 (Exa.wr W117 (Exa.wr W113 E114)))
    obtain ⟨_, T191, L191, X191, ⟨rfl, rfl, e191⟩, st191⟩ := own_cv X121 hx hZ hown (own_w136 hw) hml (g := (mkF m 80 #[.val (.int p_0), .val (.int (5 : Int32)), .val (.ref b90), .val (.int (0 : Int32))] [(.ref w_USER_DAILY)])) (hb hby at_80) e121 E200 [] [] (lenOf own_pd0 rfl) (own_rm171 l Z a0 hw h121 w_USER_DAILY w_USER F199)
    refine own_go (T2 := T191) (g2 := (mkF m 83 #[.val (.int p_0), .val (.int (5 : Int32)), .val (.ref b90), .val (.int (0 : Int32))] [(.int (0 : Int32))])) (fun t k => XS.iloadN X121.here hx rfl (hb hby at_61) rfl  (XS.iconst X121.here hx rfl (hb hby at_62) (XS.icmpNo X121.here hx rfl (hb hby at_63) rfl (feq (show ¬ ((5 : Int32) = (1 : Int32)) from (by decide))).1 (XS.iloadN X121.here hx rfl (hb hby at_66) rfl  (XS.iconst X121.here hx rfl (hb hby at_67) (XS.icmpYes X121.here hx rfl (pc0 := 68) (pc' := 75) rfl (hb hby at_68) rfl (feq (show ¬ ((5 : Int32) = (2 : Int32)) from (by decide))).2 (by decide) (by decide) (XS.iconst X121.here hx rfl (hb hby at_75) (XS.istoreN X121.here hx rfl (hb hby at_76) rfl (l' := #[.val (.int p_0), .val (.int (5 : Int32)), .val (.ref b90), .val (.int (0 : Int32))]) rfl (XS.aloadN X121.here hx rfl (hb hby at_77) rfl rfl (XS.iloadN X121.here hx rfl (hb hby at_78) rfl  (own_ap (X121.aaload hx (j := (5 : Int32)) (v := (.ref w_USER_DAILY)) (by rw [e121]; exact Ar190.1) (State.isArrayOf_alike hZ.alike Ar190.2.1) rfl Ar190.2.2 hin190 (Has.at H190 hin190 rfl) rfl rfl (hb hby at_79)) (st191 _ k)))))))))))) ?_
    refine own_go (T2 := T191) (g2 := (mkF m 92 #[.val (.int p_0), .val (.int (5 : Int32)), .val (.ref b90), .val (.int (0 : Int32))] [(.int (1 : Int32))])) (fun t k => XS.iloadN X191.here hx rfl (hb hby at_83) rfl  (XS.icmpNo X191.here hx rfl (hb hby at_84) rfl (teq (show (0 : Int32) = (0 : Int32) from (by decide))).2 (XS.iconst X191.here hx rfl (hb hby at_87) (XS.goto X191.here hx rfl (pc0 := 88) (pc' := 92) rfl (hb hby at_88) (by decide) (by decide) k)))) ?_
    exact own_endN X191 hx Bd.notSynchronized (t := .boolean) Bd.returns (by simp) (hb hby at_92) (z' := (1 : Int32)) rfl (by decide) (by decide) ⟨rfl, own_kpFr K121⟩
  · obtain ⟨cl201, Ar201, q201, S201, N201, H201, G201⟩ := V121
    have hin201 : ¬ ((6 : Int32) < 0 ∨ cl201.slots.size ≤ ((6 : Int32)).toNatClampNeg) := inb_of S201 ⟨by decide, by decide⟩
    have ne209 : w_USER_MONTHLY ≠ b90 := Nat.ne_of_lt (Nat.lt_of_lt_of_le E_w_USER_MONTHLY.lt (Nat.le_trans (Nat.le_refl _) lo_b90))
    have F210 : Fld Z h121 w_USER_MONTHLY "com/example/pactolus/pactolus/gate/Scope" "label" "Lcom/example/pactolus/pactolus/ledger/Label;" (.ref w_USER) := (Fld.other W121 (Fld.other W117 (Fld.other W113 (Fld.other W109 (Fld.other W105 (Fld.other W101 (Fld.other W97 (Fld.other W93 (Fld.ext E90 F_label_77) (Or.inl ne209)) (Or.inl ne209)) (Or.inl ne209)) (Or.inl ne209)) (Or.inl ne209)) (Or.inl ne209)) (Or.inl ne209)) (Or.inl ne209))
    have E211 : Exa Z h121 w_USER_MONTHLY "com/example/pactolus/pactolus/gate/Scope" := (Exa.wr W121 (Exa.wr W117 E118))
    obtain ⟨_, T202, L202, X202, ⟨rfl, rfl, e202⟩, st202⟩ := own_cv X121 hx hZ hown (own_w136 hw) hml (g := (mkF m 80 #[.val (.int p_0), .val (.int (6 : Int32)), .val (.ref b90), .val (.int (0 : Int32))] [(.ref w_USER_MONTHLY)])) (hb hby at_80) e121 E211 [] [] (lenOf own_pd0 rfl) (own_rm171 l Z a0 hw h121 w_USER_MONTHLY w_USER F210)
    refine own_go (T2 := T202) (g2 := (mkF m 83 #[.val (.int p_0), .val (.int (6 : Int32)), .val (.ref b90), .val (.int (0 : Int32))] [(.int (0 : Int32))])) (fun t k => XS.iloadN X121.here hx rfl (hb hby at_61) rfl  (XS.iconst X121.here hx rfl (hb hby at_62) (XS.icmpNo X121.here hx rfl (hb hby at_63) rfl (feq (show ¬ ((6 : Int32) = (1 : Int32)) from (by decide))).1 (XS.iloadN X121.here hx rfl (hb hby at_66) rfl  (XS.iconst X121.here hx rfl (hb hby at_67) (XS.icmpYes X121.here hx rfl (pc0 := 68) (pc' := 75) rfl (hb hby at_68) rfl (feq (show ¬ ((6 : Int32) = (2 : Int32)) from (by decide))).2 (by decide) (by decide) (XS.iconst X121.here hx rfl (hb hby at_75) (XS.istoreN X121.here hx rfl (hb hby at_76) rfl (l' := #[.val (.int p_0), .val (.int (6 : Int32)), .val (.ref b90), .val (.int (0 : Int32))]) rfl (XS.aloadN X121.here hx rfl (hb hby at_77) rfl rfl (XS.iloadN X121.here hx rfl (hb hby at_78) rfl  (own_ap (X121.aaload hx (j := (6 : Int32)) (v := (.ref w_USER_MONTHLY)) (by rw [e121]; exact Ar201.1) (State.isArrayOf_alike hZ.alike Ar201.2.1) rfl Ar201.2.2 hin201 (Has.at H201 hin201 rfl) rfl rfl (hb hby at_79)) (st202 _ k)))))))))))) ?_
    refine own_go (T2 := T202) (g2 := (mkF m 92 #[.val (.int p_0), .val (.int (6 : Int32)), .val (.ref b90), .val (.int (0 : Int32))] [(.int (1 : Int32))])) (fun t k => XS.iloadN X202.here hx rfl (hb hby at_83) rfl  (XS.icmpNo X202.here hx rfl (hb hby at_84) rfl (teq (show (0 : Int32) = (0 : Int32) from (by decide))).2 (XS.iconst X202.here hx rfl (hb hby at_87) (XS.goto X202.here hx rfl (pc0 := 88) (pc' := 92) rfl (hb hby at_88) (by decide) (by decide) k)))) ?_
    exact own_endN X202 hx Bd.notSynchronized (t := .boolean) Bd.returns (by simp) (hb hby at_92) (z' := (1 : Int32)) rfl (by decide) (by decide) ⟨rfl, own_kpFr K121⟩
  · obtain ⟨cl212, Ar212, q212, S212, N212, H212, G212⟩ := V121
    have hin212 : ¬ ((7 : Int32) < 0 ∨ cl212.slots.size ≤ ((7 : Int32)).toNatClampNeg) := inb_of S212 ⟨by decide, by decide⟩
    have ne220 : w_RUN ≠ b90 := Nat.ne_of_lt (Nat.lt_of_lt_of_le E_w_RUN.lt (Nat.le_trans (Nat.le_refl _) lo_b90))
    have F221 : Fld Z h121 w_RUN "com/example/pactolus/pactolus/gate/Scope" "label" "Lcom/example/pactolus/pactolus/ledger/Label;" (.ref w_RUN_68) := (Fld.other W121 (Fld.other W117 (Fld.other W113 (Fld.other W109 (Fld.other W105 (Fld.other W101 (Fld.other W97 (Fld.other W93 (Fld.ext E90 F_label_78) (Or.inl ne220)) (Or.inl ne220)) (Or.inl ne220)) (Or.inl ne220)) (Or.inl ne220)) (Or.inl ne220)) (Or.inl ne220)) (Or.inl ne220))
    have E222 : Exa Z h121 w_RUN "com/example/pactolus/pactolus/gate/Scope" := (Exa.wr W121 E122)
    obtain ⟨_, T213, L213, X213, ⟨rfl, rfl, e213⟩, st213⟩ := own_cv X121 hx hZ hown (own_w136 hw) hml (g := (mkF m 80 #[.val (.int p_0), .val (.int (7 : Int32)), .val (.ref b90), .val (.int (0 : Int32))] [(.ref w_RUN)])) (hb hby at_80) e121 E222 [] [] (lenOf own_pd0 rfl) (own_rm171 l Z a0 hw h121 w_RUN w_RUN_68 F221)
    refine own_go (T2 := T213) (g2 := (mkF m 83 #[.val (.int p_0), .val (.int (7 : Int32)), .val (.ref b90), .val (.int (0 : Int32))] [(.int (0 : Int32))])) (fun t k => XS.iloadN X121.here hx rfl (hb hby at_61) rfl  (XS.iconst X121.here hx rfl (hb hby at_62) (XS.icmpNo X121.here hx rfl (hb hby at_63) rfl (feq (show ¬ ((7 : Int32) = (1 : Int32)) from (by decide))).1 (XS.iloadN X121.here hx rfl (hb hby at_66) rfl  (XS.iconst X121.here hx rfl (hb hby at_67) (XS.icmpYes X121.here hx rfl (pc0 := 68) (pc' := 75) rfl (hb hby at_68) rfl (feq (show ¬ ((7 : Int32) = (2 : Int32)) from (by decide))).2 (by decide) (by decide) (XS.iconst X121.here hx rfl (hb hby at_75) (XS.istoreN X121.here hx rfl (hb hby at_76) rfl (l' := #[.val (.int p_0), .val (.int (7 : Int32)), .val (.ref b90), .val (.int (0 : Int32))]) rfl (XS.aloadN X121.here hx rfl (hb hby at_77) rfl rfl (XS.iloadN X121.here hx rfl (hb hby at_78) rfl  (own_ap (X121.aaload hx (j := (7 : Int32)) (v := (.ref w_RUN)) (by rw [e121]; exact Ar212.1) (State.isArrayOf_alike hZ.alike Ar212.2.1) rfl Ar212.2.2 hin212 (Has.at H212 hin212 rfl) rfl rfl (hb hby at_79)) (st213 _ k)))))))))))) ?_
    refine own_go (T2 := T213) (g2 := (mkF m 92 #[.val (.int p_0), .val (.int (7 : Int32)), .val (.ref b90), .val (.int (0 : Int32))] [(.int (1 : Int32))])) (fun t k => XS.iloadN X213.here hx rfl (hb hby at_83) rfl  (XS.icmpNo X213.here hx rfl (hb hby at_84) rfl (teq (show (0 : Int32) = (0 : Int32) from (by decide))).2 (XS.iconst X213.here hx rfl (hb hby at_87) (XS.goto X213.here hx rfl (pc0 := 88) (pc' := 92) rfl (hb hby at_88) (by decide) (by decide) k)))) ?_
    exact own_endN X213 hx Bd.notSynchronized (t := .boolean) Bd.returns (by simp) (hb hby at_92) (z' := (1 : Int32)) rfl (by decide) (by decide) ⟨rfl, own_kpFr K121⟩
set_option maxRecDepth 65536 in
set_option maxHeartbeats 40000000 in
theorem comes_1 {Post : Tables → Env → Array Value → State → Outcome → State → Prop} (hpost : ∀ tb e args s v u, (limb_1_1.after args s (.returned v) u = true ∧ limb_1_2.after args s (.returned v) u = true ∧ True) → FrameEnd s (.returned v) u (Jvm.fieldLocs frame_1_writes args s ++ Jvm.arrayLocs frame_1_arrays args s ++ Jvm.staticLocs frame_1_statics s) 16 128 → Post tb e args s (.returned v) u) :
    ArmFor flags0 classFile x code maxLocals ret World_1 tables_1 room_1 Calls_1 rest_1 Pre_1 Post := by
  intro l hfl _ _ p e ha hc hk s m args below hf hA hF happ hP
  obtain ⟨hcalls, hrest, hpre⟩ := hP
  obtain ⟨-, -, -, hnamed, -, -, -, hat⟩ := (Spec.applies_iff hf).mp happ
  obtain ⟨hg, hn⟩ := and_e (Cond.before_iff.mp (show (Jvm.Cond.and given_1 narrow_1).before args s = true from hpre))
  obtain ⟨g223, g224⟩ := and_e hg
  obtain ⟨w0, rfl⟩ : ∃ w0 : Value, args = #[w0] := by
    have hs : args.size = 1 := by simpa [Cond.value, given_1] using g223
    obtain ⟨L⟩ := args
    match L, hs with
    | [w0], _ => exact ⟨w0, rfl⟩
  have hw := fun d (hd : d ∈ tables_1) => atoms_spec (ws := Jvm.Cond.code x code maxLocals ret :: tables_1) hat d (List.mem_cons_of_mem _ hd)
  have hfit : Fit s := fun {y c} hc i hi => by
    obtain ⟨ha, rfl⟩ := Array.getElem?_eq_some_iff.mp hc
    have q := List.all_eq_true.mp ((Array.all_eq_true_iff_forall_mem.mp hF) _ (Array.getElem_mem ha)) i (List.mem_range.mpr hi)
    simpa [Array.getElem?_eq_getElem hi] using q
  obtain ⟨i0, ei0⟩ := is_v g224
  obtain rfl : w0 = (.int i0) := Option.some.inj ei0
  obtain ⟨n2, n3⟩ := and_e hn
  obtain ⟨n4, n5⟩ := and_e n3
  obtain ⟨n6, n7⟩ := and_e n5
  obtain ⟨n8, n9⟩ := and_e n7
  obtain ⟨n10, n11⟩ := and_e n9
  obtain ⟨n12, n13⟩ := and_e n11
  obtain ⟨n14, n15⟩ := and_e n13
  obtain ⟨n16, n17⟩ := and_e n15
  obtain ⟨n18, n19⟩ := and_e n17
  obtain ⟨n20, n21⟩ := and_e n19
  obtain ⟨n22, n23⟩ := and_e n21
  obtain ⟨n24, n25⟩ := and_e n23
  obtain ⟨n26, n27⟩ := and_e n25
  obtain ⟨n28, n29⟩ := and_e n27
  obtain ⟨n30, n31⟩ := and_e n29
  obtain ⟨n32, n33⟩ := and_e n31
  obtain ⟨n34, n35⟩ := and_e n33
  obtain ⟨n36, n37⟩ := and_e n35
  obtain ⟨n38, n39⟩ := and_e n37
  obtain ⟨n40, n41⟩ := and_e n39
  obtain ⟨n42, n43⟩ := and_e n41
  obtain ⟨n44, n45⟩ := and_e n43
  obtain ⟨n46, n47⟩ := and_e n45
  obtain ⟨n48, n49⟩ := and_e n47
  obtain ⟨n50, n51⟩ := and_e n49
  obtain ⟨n52, n53⟩ := and_e n51
  obtain ⟨n54, n55⟩ := and_e n53
  obtain ⟨n56, n57⟩ := and_e n55
  obtain ⟨w_CALL, ev_w_CALL⟩ := exa_v n2
  obtain ⟨w_DAILY, ev_w_DAILY⟩ := exa_v n4
  obtain ⟨w_MONTHLY, ev_w_MONTHLY⟩ := exa_v n6
  obtain ⟨w_PROVIDER_DAILY, ev_w_PROVIDER_DAILY⟩ := exa_v n8
  obtain ⟨w_PROVIDER_MONTHLY, ev_w_PROVIDER_MONTHLY⟩ := exa_v n10
  obtain ⟨w_USER_DAILY, ev_w_USER_DAILY⟩ := exa_v n12
  obtain ⟨w_USER_MONTHLY, ev_w_USER_MONTHLY⟩ := exa_v n14
  obtain ⟨w_RUN, ev_w_RUN⟩ := exa_v n16
  obtain ⟨w_PROVIDER, ev_w_PROVIDER⟩ := exa_v n22
  obtain ⟨w_USER, ev_w_USER⟩ := exa_v n26
  obtain ⟨w_RUN_68, ev_w_RUN_68⟩ := exa_v n30
  obtain ⟨w_MONTHLY_70, ev_w_MONTHLY_70⟩ := exa_v n36
  obtain ⟨w_DAILY_72, ev_w_DAILY_72⟩ := exa_v n42
  obtain ⟨n, o, h1, h2, h3, _, L, rfl, ⟨rfl, N⟩, hq⟩ := own_rm0 l s _ hw tables_1 s.heap i0 w_CALL w_DAILY w_MONTHLY w_PROVIDER_DAILY w_PROVIDER_MONTHLY w_USER_DAILY w_USER_MONTHLY w_RUN w_PROVIDER w_USER w_RUN_68 w_MONTHLY_70 w_DAILY_72
    ⟨Nat.le_refl _, fun _ _ q => q⟩
    (Sta.start ev_w_CALL (Or.inr ⟨(own_wd hw 3 rfl), (own_wd hw 4 rfl)⟩))
    (Exa.start ev_w_CALL n2)
    (Sta.start ev_w_DAILY (Or.inr ⟨(own_wd hw 3 rfl), (own_wd hw 7 rfl)⟩))
    (Exa.start ev_w_DAILY n4)
    (Sta.start ev_w_MONTHLY (Or.inr ⟨(own_wd hw 3 rfl), (own_wd hw 9 rfl)⟩))
    (Exa.start ev_w_MONTHLY n6)
    (Sta.start ev_w_PROVIDER_DAILY (Or.inr ⟨(own_wd hw 3 rfl), (own_wd hw 11 rfl)⟩))
    (Exa.start ev_w_PROVIDER_DAILY n8)
    (Sta.start ev_w_PROVIDER_MONTHLY (Or.inr ⟨(own_wd hw 3 rfl), (own_wd hw 13 rfl)⟩))
    (Exa.start ev_w_PROVIDER_MONTHLY n10)
    (Sta.start ev_w_USER_DAILY (Or.inr ⟨(own_wd hw 3 rfl), (own_wd hw 15 rfl)⟩))
    (Exa.start ev_w_USER_DAILY n12)
    (Sta.start ev_w_USER_MONTHLY (Or.inr ⟨(own_wd hw 3 rfl), (own_wd hw 17 rfl)⟩))
    (Exa.start ev_w_USER_MONTHLY n14)
    (Sta.start ev_w_RUN (Or.inr ⟨(own_wd hw 3 rfl), (own_wd hw 19 rfl)⟩))
    (Exa.start ev_w_RUN n16)
    (Sta.start ev_w_PROVIDER (Or.inr ⟨(own_wd hw 29 rfl), (own_wd hw 30 rfl)⟩))
    (Exa.start ev_w_PROVIDER n22)
    (Sta.start ev_w_USER (Or.inr ⟨(own_wd hw 29 rfl), (own_wd hw 31 rfl)⟩))
    (Exa.start ev_w_USER n26)
    (Sta.start ev_w_RUN_68 (Or.inr ⟨(own_wd hw 29 rfl), (own_wd hw 32 rfl)⟩))
    (Exa.start ev_w_RUN_68 n30)
    (Sta.start ev_w_MONTHLY_70 (Or.inr ⟨(own_wd hw 33 rfl), (own_wd hw 34 rfl)⟩))
    (Exa.start ev_w_MONTHLY_70 n36)
    (Sta.start ev_w_DAILY_72 (Or.inr ⟨(own_wd hw 33 rfl), (own_wd hw 35 rfl)⟩))
    (Exa.start ev_w_DAILY_72 n42)
    (Fld.start ((fld_at ev_w_CALL).symm.trans (null_v n18)))
    (Fld.start ((fld_at ev_w_CALL).symm.trans (null_v n20)))
    (Fld.start ((fld_at ev_w_PROVIDER_DAILY).symm.trans (own_evR ev_w_PROVIDER n24)))
    (Fld.start ((fld_at ev_w_USER_MONTHLY).symm.trans (own_evR ev_w_USER n28)))
    (Fld.start ((fld_at ev_w_RUN).symm.trans (own_evR ev_w_RUN_68 n32)))
    (Fld.start ((fld_at ev_w_MONTHLY).symm.trans (null_v n34)))
    (Fld.start ((fld_at ev_w_MONTHLY).symm.trans (own_evR ev_w_MONTHLY_70 n38)))
    (Fld.start ((fld_at ev_w_DAILY).symm.trans (null_v n40)))
    (Fld.start ((fld_at ev_w_DAILY).symm.trans (own_evR ev_w_DAILY_72 n44)))
    (Fld.start ((fld_at ev_w_PROVIDER_MONTHLY).symm.trans (own_evR ev_w_PROVIDER n46)))
    (Fld.start ((fld_at ev_w_USER_DAILY).symm.trans (own_evR ev_w_USER n48)))
    (Fld.start ((fld_at ev_w_PROVIDER_DAILY).symm.trans (own_evR ev_w_DAILY_72 n50)))
    (Fld.start ((fld_at ev_w_PROVIDER_MONTHLY).symm.trans (own_evR ev_w_MONTHLY_70 n52)))
    (Fld.start ((fld_at ev_w_USER_DAILY).symm.trans (own_evR ev_w_DAILY_72 n54)))
    (Fld.start ((fld_at ev_w_USER_MONTHLY).symm.trans (own_evR ev_w_MONTHLY_70 n56)))
    (Fld.start ((fld_at ev_w_RUN).symm.trans (null_v n57)))
    p e ha hc hk s m _ below hf ((Spec.applies_iff_loose hf).mp happ).1 ⟨rfl, State.Warmed39.refl s, rfl⟩ trivial
  refine ⟨n, _, h1, h2, h3, hpost _ _ _ _ _ _ ⟨Cond.after_iff.mpr rfl, Cond.after_iff.mpr (eq_i res_at (Term.int_eval (1)) rfl), trivial⟩ ⟨hq.1, hq.2.1, (hq.2.2.sift fun y hy => Or.inr (N y hy)).mono (by decide) (by decide)⟩⟩
theorem main_1_1 : Claimed_1_1 := comes_1 fun _ _ _ _ _ _ h hF => ⟨h.1, hF⟩
theorem main_1_2 : Claimed_1_2 := comes_1 fun _ _ _ _ _ _ h hF => ⟨h.2.1, hF⟩
end Jvm.Pilot.@@N@@
namespace Jvm.Pilot.@@N@@
open Jvm Jvm.ClassFile Sem Op Lib Jvm.Free Jvm.Stand Jvm.Pilot.@@N@@.Jvm.D
/-! MADE BY PROGRAM (witnessworld.py) out of the Statement's table words and the real class files: 15 classes; the members and pool entries that the words name. The judged class is class 1, her method 1. -/
namespace start1
open Jvm.ClassFile
def u (s : String) : CpInfo := .utf8 (stringToUtf16 s)
/-- a pool by its gaps: so many unusable entries, then the entry; so many at the end -/
def gap : Nat → List CpInfo → List CpInfo
  | 0, r => r
  | n + 1, r => .unusable :: gap n r
def poolList (es : List (Nat × CpInfo)) (last : Nat) : List CpInfo := es.foldr (fun e r => gap e.1 (e.2 :: r)) (gap last [])
def pool (es : List (Nat × CpInfo)) (last : Nat) : Array CpInfo := ⟨poolList es last⟩
def fileOf (pool : Array CpInfo) (this : Nat) (attrs : Array Attribute := #[]) (ms : Array MethodInfo := #[]) (fl : Nat := 33) (sup : Nat := 0) (ifs : Array Nat := #[]) (fds : Array FieldInfo := #[]) : ClassFile where
  minorVersion := 0
  majorVersion := 65
  constantPool := pool
  accessFlags := fl
  thisClass := this
  superClass := sup
  interfaces := ifs
  fields := fds
  methods := ms
  attributes := attrs
def plain (name : String) (sup : Option ClassId) : Class where
  name := name
  kind := .ordinary
  loader := none
  accessFlags := 33
  super := sup
  interfaces := #[]
  cf := none
  fields := #[]
  methods := #[]
  instanceTypes := #[]
  staticTypes := #[]
  resolved := #[]
  callSites := []
  init := .initialized
  statics := none
  mirror := none

def pool0 : Array CpInfo := pool [(5, u "<init>"), (0, u "()V"), (1, .class_ 10), (1, u "java/lang/Object")] 113

def k0m0 : Method := { name := "<init>", desc := "()V", sig := { parameters := [], returnType := none }, accessFlags := 1, code := none }
/-- java/lang/Object -/
def k0 : Class := { plain "java/lang/Object" none with
  accessFlags := 33
  interfaces := #[]
  cf := some (fileOf pool0 8 #[] #[{ accessFlags := 1, nameIndex := 5, descriptorIndex := 6, attributes := #[] }] 33 0 #[] #[])
  fields := #[]
  methods := #[k0m0]
  instanceTypes := #[]
  staticTypes := #[]
  resolved := Array.replicate 124 none
  statics := none }

def pool1 : Array CpInfo := pool [(2, .class_ 4), (1, u "java/lang/Object"), (0, u "<init>"), (0, u "()V"), (0, .class_ 8), (0, u "com/example/pactolus/pactolus/gate/Scope"), (0, .fieldref 7 10), (0, .nameAndType 11 12), (0, u "CALL"), (0, u "Lcom/example/pactolus/pactolus/gate/Scope;"), (0, .fieldref 7 14), (0, .nameAndType 15 12), (0, u "DAILY"), (0, .fieldref 7 17), (0, .nameAndType 18 12), (0, u "MONTHLY"), (0, .fieldref 7 20), (0, .nameAndType 21 12), (0, u "PROVIDER_DAILY"), (0, .fieldref 7 23), (0, .nameAndType 24 12), (0, u "PROVIDER_MONTHLY"), (0, .fieldref 7 26), (0, .nameAndType 27 12), (0, u "USER_DAILY"), (0, .fieldref 7 29), (0, .nameAndType 30 12), (0, u "USER_MONTHLY"), (0, .fieldref 7 32), (0, .nameAndType 33 12), (0, u "RUN"), (0, .methodref 7 35), (0, .nameAndType 36 37), (0, u "allCallsOverPeriod"), (0, u "()Z"), (0, .class_ 39), (0, u "com/example/pactolus/pactolus/gate/ScopeAllCallsOverPeriodPinLaw"), (2, u "law"), (0, u "(I)Z")] 5

def k1m0 : Method := { name := "<init>", desc := "()V", sig := { parameters := [], returnType := none }, accessFlags := 1, code := none }
def k1c1 : Code := { maxStack := 4, maxLocals := 4, code := code, exceptionTable := #[], attributes := #[] }
def k1m1 : Method := { name := "law", desc := "(I)Z", sig := { parameters := [.int], returnType := some .boolean }, accessFlags := 9, code := some k1c1 }
/-- com/example/pactolus/pactolus/gate/ScopeAllCallsOverPeriodPinLaw -/
def k1 : Class := { plain "com/example/pactolus/pactolus/gate/ScopeAllCallsOverPeriodPinLaw" (some 0) with
  accessFlags := 49
  interfaces := #[]
  cf := some (fileOf pool1 38 #[] #[{ accessFlags := 1, nameIndex := 5, descriptorIndex := 6, attributes := #[] }, { accessFlags := 9, nameIndex := 42, descriptorIndex := 43, attributes := #[] }] 49 2 #[] #[])
  fields := #[]
  methods := #[k1m0, k1m1]
  instanceTypes := #[]
  staticTypes := #[]
  resolved := Array.replicate 49 none
  statics := none }

def pool2 : Array CpInfo := pool [(1, .class_ 2), (0, u "java/lang/constant/Constable"), (0, .class_ 4), (0, u "java/lang/Object")] 6

/-- java/lang/constant/Constable -/
def k2 : Class := { plain "java/lang/constant/Constable" (some 0) with
  accessFlags := 1537
  interfaces := #[]
  cf := some (fileOf pool2 1 #[] #[] 1537 3 #[] #[])
  fields := #[]
  methods := #[]
  instanceTypes := #[]
  staticTypes := #[]
  resolved := Array.replicate 11 none
  statics := none }

def pool3 : Array CpInfo := pool [(1, .class_ 2), (0, u "java/lang/Comparable"), (0, .class_ 4), (0, u "java/lang/Object")] 7

/-- java/lang/Comparable -/
def k3 : Class := { plain "java/lang/Comparable" (some 0) with
  accessFlags := 1537
  interfaces := #[]
  cf := some (fileOf pool3 1 #[] #[] 1537 3 #[] #[])
  fields := #[]
  methods := #[]
  instanceTypes := #[]
  staticTypes := #[]
  resolved := Array.replicate 12 none
  statics := none }

def pool4 : Array CpInfo := pool [(1, .class_ 2), (0, u "java/io/Serializable"), (0, .class_ 4), (0, u "java/lang/Object")] 2

/-- java/io/Serializable -/
def k4 : Class := { plain "java/io/Serializable" (some 0) with
  accessFlags := 1537
  interfaces := #[]
  cf := some (fileOf pool4 1 #[] #[] 1537 3 #[] #[])
  fields := #[]
  methods := #[]
  instanceTypes := #[]
  staticTypes := #[]
  resolved := Array.replicate 7 none
  statics := none }

def pool5 : Array CpInfo := pool [(2, .class_ 4), (1, u "java/lang/Enum"), (0, u "name"), (0, u "Ljava/lang/String;"), (2, u "ordinal"), (0, u "I"), (1, .class_ 14), (1, u "java/lang/Object"), (4, u "hash"), (86, .class_ 108), (1, u "java/lang/Enum$EnumDesc"), (2, .class_ 112), (0, u "java/lang/constant/Constable"), (0, .class_ 114), (0, u "java/lang/Comparable"), (0, .class_ 116), (0, u "java/io/Serializable")] 87

/-- java/lang/Enum -/
def k5 : Class := { plain "java/lang/Enum" (some 0) with
  accessFlags := 1057
  interfaces := #[2, 3, 4]
  cf := some (fileOf pool5 2 #[.nestMembers #[106]] #[] 1057 12 #[111, 113, 115] #[{ accessFlags := 18, nameIndex := 5, descriptorIndex := 6, attributes := #[] }, { accessFlags := 18, nameIndex := 9, descriptorIndex := 10, attributes := #[] }, { accessFlags := 2, nameIndex := 19, descriptorIndex := 10, attributes := #[] }])
  fields := #[{ name := "name", type := (.object "java/lang/String"), accessFlags := 18, slot := 0, constantValue := 0 }, { name := "ordinal", type := .int, accessFlags := 18, slot := 1, constantValue := 0 }, { name := "hash", type := .int, accessFlags := 2, slot := 2, constantValue := 0 }]
  methods := #[]
  instanceTypes := #[(.object "java/lang/String"), .int, .int]
  staticTypes := #[]
  resolved := Array.replicate 204 none
  statics := none }

def pool6 : Array CpInfo := pool [(1, .class_ 2), (0, u "com/example/pactolus/pactolus/gate/Scope"), (2, u "CALL"), (0, u "Lcom/example/pactolus/pactolus/gate/Scope;"), (2, u "DAILY"), (2, u "MONTHLY"), (2, u "PROVIDER_DAILY"), (2, u "PROVIDER_MONTHLY"), (2, u "USER_DAILY"), (2, u "USER_MONTHLY"), (2, u "RUN"), (2, u "$VALUES"), (0, u "[Lcom/example/pactolus/pactolus/gate/Scope;"), (6, .class_ 40), (1, u "java/lang/Enum"), (22, u "table"), (0, u "Ljava/util/List;"), (19, u "key"), (0, u "Ljava/lang/String;"), (0, .fieldref 1 87), (0, .nameAndType 88 89), (0, u "label"), (0, u "Lcom/example/pactolus/pactolus/ledger/Label;"), (0, .fieldref 1 91), (0, .nameAndType 92 93), (0, u "period"), (0, u "Lcom/example/pactolus/pactolus/gate/Period;"), (10, u "overTokens"), (0, u "Lcom/example/pactolus/pactolus/gate/Refusal;"), (2, u "overUsd"), (12, u "()Z"), (151, u "ANY_NAME"), (16, u "allCallsOverPeriod")] 22

def k6c0 : Code := { maxStack := 1, maxLocals := 1, code := prog_16_method_10_code, exceptionTable := #[], attributes := #[] }
def k6m0 : Method := { name := "allCallsOverPeriod", desc := "()Z", sig := { parameters := [], returnType := some .boolean }, accessFlags := 1, code := some k6c0 }
/-- com/example/pactolus/pactolus/gate/Scope -/
def k6 : Class := { plain "com/example/pactolus/pactolus/gate/Scope" (some 5) with
  accessFlags := 16433
  interfaces := #[]
  cf := some (fileOf pool6 1 #[] #[{ accessFlags := 1, nameIndex := 290, descriptorIndex := 121, attributes := #[] }] 16433 38 #[] #[{ accessFlags := 16409, nameIndex := 5, descriptorIndex := 6, attributes := #[] }, { accessFlags := 16409, nameIndex := 9, descriptorIndex := 6, attributes := #[] }, { accessFlags := 16409, nameIndex := 12, descriptorIndex := 6, attributes := #[] }, { accessFlags := 16409, nameIndex := 15, descriptorIndex := 6, attributes := #[] }, { accessFlags := 16409, nameIndex := 18, descriptorIndex := 6, attributes := #[] }, { accessFlags := 16409, nameIndex := 21, descriptorIndex := 6, attributes := #[] }, { accessFlags := 16409, nameIndex := 24, descriptorIndex := 6, attributes := #[] }, { accessFlags := 16409, nameIndex := 27, descriptorIndex := 6, attributes := #[] }, { accessFlags := 25, nameIndex := 273, descriptorIndex := 85, attributes := #[] }, { accessFlags := 18, nameIndex := 63, descriptorIndex := 64, attributes := #[] }, { accessFlags := 18, nameIndex := 84, descriptorIndex := 85, attributes := #[] }, { accessFlags := 18, nameIndex := 88, descriptorIndex := 89, attributes := #[] }, { accessFlags := 18, nameIndex := 92, descriptorIndex := 93, attributes := #[] }, { accessFlags := 18, nameIndex := 104, descriptorIndex := 105, attributes := #[] }, { accessFlags := 18, nameIndex := 108, descriptorIndex := 105, attributes := #[] }, { accessFlags := 4122, nameIndex := 30, descriptorIndex := 31, attributes := #[] }])
  fields := #[{ name := "CALL", type := (.object "com/example/pactolus/pactolus/gate/Scope"), accessFlags := 16409, slot := 0, constantValue := 0 }, { name := "DAILY", type := (.object "com/example/pactolus/pactolus/gate/Scope"), accessFlags := 16409, slot := 1, constantValue := 0 }, { name := "MONTHLY", type := (.object "com/example/pactolus/pactolus/gate/Scope"), accessFlags := 16409, slot := 2, constantValue := 0 }, { name := "PROVIDER_DAILY", type := (.object "com/example/pactolus/pactolus/gate/Scope"), accessFlags := 16409, slot := 3, constantValue := 0 }, { name := "PROVIDER_MONTHLY", type := (.object "com/example/pactolus/pactolus/gate/Scope"), accessFlags := 16409, slot := 4, constantValue := 0 }, { name := "USER_DAILY", type := (.object "com/example/pactolus/pactolus/gate/Scope"), accessFlags := 16409, slot := 5, constantValue := 0 }, { name := "USER_MONTHLY", type := (.object "com/example/pactolus/pactolus/gate/Scope"), accessFlags := 16409, slot := 6, constantValue := 0 }, { name := "RUN", type := (.object "com/example/pactolus/pactolus/gate/Scope"), accessFlags := 16409, slot := 7, constantValue := 0 }, { name := "ANY_NAME", type := (.object "java/lang/String"), accessFlags := 25, slot := 8, constantValue := 0 }, { name := "table", type := (.object "java/util/List"), accessFlags := 18, slot := 3, constantValue := 0 }, { name := "key", type := (.object "java/lang/String"), accessFlags := 18, slot := 4, constantValue := 0 }, { name := "label", type := (.object "com/example/pactolus/pactolus/ledger/Label"), accessFlags := 18, slot := 5, constantValue := 0 }, { name := "period", type := (.object "com/example/pactolus/pactolus/gate/Period"), accessFlags := 18, slot := 6, constantValue := 0 }, { name := "overTokens", type := (.object "com/example/pactolus/pactolus/gate/Refusal"), accessFlags := 18, slot := 7, constantValue := 0 }, { name := "overUsd", type := (.object "com/example/pactolus/pactolus/gate/Refusal"), accessFlags := 18, slot := 8, constantValue := 0 }, { name := "$VALUES", type := (.array (.object "com/example/pactolus/pactolus/gate/Scope")), accessFlags := 4122, slot := 9, constantValue := 0 }]
  methods := #[k6m0]
  instanceTypes := #[(.object "java/lang/String"), .int, .int, (.object "java/util/List"), (.object "java/lang/String"), (.object "com/example/pactolus/pactolus/ledger/Label"), (.object "com/example/pactolus/pactolus/gate/Period"), (.object "com/example/pactolus/pactolus/gate/Refusal"), (.object "com/example/pactolus/pactolus/gate/Refusal")]
  staticTypes := #[(.object "com/example/pactolus/pactolus/gate/Scope"), (.object "com/example/pactolus/pactolus/gate/Scope"), (.object "com/example/pactolus/pactolus/gate/Scope"), (.object "com/example/pactolus/pactolus/gate/Scope"), (.object "com/example/pactolus/pactolus/gate/Scope"), (.object "com/example/pactolus/pactolus/gate/Scope"), (.object "com/example/pactolus/pactolus/gate/Scope"), (.object "com/example/pactolus/pactolus/gate/Scope"), (.object "java/lang/String"), (.array (.object "com/example/pactolus/pactolus/gate/Scope"))]
  resolved := Array.replicate 313 none
  statics := some 0 }

def pool7 : Array CpInfo := pool [(1, .class_ 2), (0, u "com/example/pactolus/pactolus/ledger/Label"), (2, u "USER"), (0, u "Lcom/example/pactolus/pactolus/ledger/Label;"), (2, u "RUN"), (2, u "PROVIDER"), (2, u "MODEL"), (2, u "$VALUES"), (0, u "[Lcom/example/pactolus/pactolus/ledger/Label;"), (6, .class_ 28), (1, u "java/lang/Enum"), (8, u "column"), (0, u "Ljava/lang/String;"), (2, u "since"), (0, u "I"), (76, u "NAME_ORDER"), (0, u "Ljava/util/Comparator;")] 45

/-- com/example/pactolus/pactolus/ledger/Label -/
def k7 : Class := { plain "com/example/pactolus/pactolus/ledger/Label" (some 5) with
  accessFlags := 16433
  interfaces := #[]
  cf := some (fileOf pool7 1 #[] #[] 16433 26 #[] #[{ accessFlags := 16409, nameIndex := 5, descriptorIndex := 6, attributes := #[] }, { accessFlags := 16409, nameIndex := 9, descriptorIndex := 6, attributes := #[] }, { accessFlags := 16409, nameIndex := 12, descriptorIndex := 6, attributes := #[] }, { accessFlags := 16409, nameIndex := 15, descriptorIndex := 6, attributes := #[] }, { accessFlags := 25, nameIndex := 119, descriptorIndex := 120, attributes := #[] }, { accessFlags := 18, nameIndex := 37, descriptorIndex := 38, attributes := #[] }, { accessFlags := 18, nameIndex := 41, descriptorIndex := 42, attributes := #[] }, { accessFlags := 4122, nameIndex := 18, descriptorIndex := 19, attributes := #[] }])
  fields := #[{ name := "USER", type := (.object "com/example/pactolus/pactolus/ledger/Label"), accessFlags := 16409, slot := 0, constantValue := 0 }, { name := "RUN", type := (.object "com/example/pactolus/pactolus/ledger/Label"), accessFlags := 16409, slot := 1, constantValue := 0 }, { name := "PROVIDER", type := (.object "com/example/pactolus/pactolus/ledger/Label"), accessFlags := 16409, slot := 2, constantValue := 0 }, { name := "MODEL", type := (.object "com/example/pactolus/pactolus/ledger/Label"), accessFlags := 16409, slot := 3, constantValue := 0 }, { name := "NAME_ORDER", type := (.object "java/util/Comparator"), accessFlags := 25, slot := 4, constantValue := 0 }, { name := "column", type := (.object "java/lang/String"), accessFlags := 18, slot := 3, constantValue := 0 }, { name := "since", type := .int, accessFlags := 18, slot := 4, constantValue := 0 }, { name := "$VALUES", type := (.array (.object "com/example/pactolus/pactolus/ledger/Label")), accessFlags := 4122, slot := 5, constantValue := 0 }]
  methods := #[]
  instanceTypes := #[(.object "java/lang/String"), .int, .int, (.object "java/lang/String"), .int]
  staticTypes := #[(.object "com/example/pactolus/pactolus/ledger/Label"), (.object "com/example/pactolus/pactolus/ledger/Label"), (.object "com/example/pactolus/pactolus/ledger/Label"), (.object "com/example/pactolus/pactolus/ledger/Label"), (.object "java/util/Comparator"), (.array (.object "com/example/pactolus/pactolus/ledger/Label"))]
  resolved := Array.replicate 166 none
  statics := some 1 }

def pool8 : Array CpInfo := pool [(1, .class_ 2), (0, u "com/example/pactolus/pactolus/gate/Period"), (2, u "DAILY"), (0, u "Lcom/example/pactolus/pactolus/gate/Period;"), (2, u "MONTHLY"), (2, u "$VALUES"), (0, u "[Lcom/example/pactolus/pactolus/gate/Period;"), (6, .class_ 22), (1, u "java/lang/Enum"), (8, u "key"), (0, u "Ljava/lang/String;")] 55

/-- com/example/pactolus/pactolus/gate/Period -/
def k8 : Class := { plain "com/example/pactolus/pactolus/gate/Period" (some 5) with
  accessFlags := 16433
  interfaces := #[]
  cf := some (fileOf pool8 1 #[] #[] 16433 20 #[] #[{ accessFlags := 16409, nameIndex := 5, descriptorIndex := 6, attributes := #[] }, { accessFlags := 16409, nameIndex := 9, descriptorIndex := 6, attributes := #[] }, { accessFlags := 18, nameIndex := 31, descriptorIndex := 32, attributes := #[] }, { accessFlags := 4122, nameIndex := 12, descriptorIndex := 13, attributes := #[] }])
  fields := #[{ name := "DAILY", type := (.object "com/example/pactolus/pactolus/gate/Period"), accessFlags := 16409, slot := 0, constantValue := 0 }, { name := "MONTHLY", type := (.object "com/example/pactolus/pactolus/gate/Period"), accessFlags := 16409, slot := 1, constantValue := 0 }, { name := "key", type := (.object "java/lang/String"), accessFlags := 18, slot := 3, constantValue := 0 }, { name := "$VALUES", type := (.array (.object "com/example/pactolus/pactolus/gate/Period")), accessFlags := 4122, slot := 2, constantValue := 0 }]
  methods := #[]
  instanceTypes := #[(.object "java/lang/String"), .int, .int, (.object "java/lang/String")]
  staticTypes := #[(.object "com/example/pactolus/pactolus/gate/Period"), (.object "com/example/pactolus/pactolus/gate/Period"), (.array (.object "com/example/pactolus/pactolus/gate/Period"))]
  resolved := Array.replicate 88 none
  statics := some 2 }

def pool9 : Array CpInfo := pool [(1, u "java/lang/Cloneable"), (0, .class_ 1), (0, u "java/lang/Object"), (0, .class_ 3)] 3

/-- java/lang/Cloneable -/
def k9 : Class := { plain "java/lang/Cloneable" (some 0) with
  accessFlags := 1537
  interfaces := #[]
  cf := some (fileOf pool9 2 #[] #[] 1537 4 #[] #[])
  fields := #[]
  methods := #[]
  instanceTypes := #[]
  staticTypes := #[]
  resolved := Array.replicate 8 none
  statics := none }

/-- the primitive byte -/
def k10 : Class := { plain "byte" none with kind := .primitive 'B', accessFlags := 0x411 }
/-- [B -/
def k11 : Class := { plain "[B" (some 0) with kind := .array 10 .byte, interfaces := #[9, 4], accessFlags := 1041 }

/-- the primitive int -/
def k12 : Class := { plain "int" none with kind := .primitive 'I', accessFlags := 0x411 }
/-- [I -/
def k13 : Class := { plain "[I" (some 0) with kind := .array 12 .int, interfaces := #[9, 4], accessFlags := 1041 }

/-- [Lcom/example/pactolus/pactolus/gate/Scope; -/
def k14 : Class := { plain "[Lcom/example/pactolus/pactolus/gate/Scope;" (some 0) with kind := .array 6 (.object "com/example/pactolus/pactolus/gate/Scope"), interfaces := #[9, 4], accessFlags := 1041 }

def heap : Heap := #[{ cls := 6, slots := #[.ref 3, .ref 4, .ref 5, .ref 6, .ref 7, .ref 8, .ref 9, .ref 10, .null, .null], vm := .statics 6 },
  { cls := 7, slots := #[.ref 12, .ref 13, .ref 11, .null, .null, .null], vm := .statics 7 },
  { cls := 8, slots := #[.ref 15, .ref 14, .null], vm := .statics 8 },
  { cls := 6, slots := #[.null, .int (0), .int (0), .null, .null, .null, .null, .null, .null], vm := .none },
  { cls := 6, slots := #[.null, .int (0), .int (0), .null, .null, .null, .ref 15, .null, .null], vm := .none },
  { cls := 6, slots := #[.null, .int (0), .int (0), .null, .null, .null, .ref 14, .null, .null], vm := .none },
  { cls := 6, slots := #[.null, .int (0), .int (0), .null, .null, .ref 11, .ref 15, .null, .null], vm := .none },
  { cls := 6, slots := #[.null, .int (0), .int (0), .null, .null, .ref 11, .ref 14, .null, .null], vm := .none },
  { cls := 6, slots := #[.null, .int (0), .int (0), .null, .null, .ref 12, .ref 15, .null, .null], vm := .none },
  { cls := 6, slots := #[.null, .int (0), .int (0), .null, .null, .ref 12, .ref 14, .null, .null], vm := .none },
  { cls := 6, slots := #[.null, .int (0), .int (0), .null, .null, .ref 13, .null, .null, .null], vm := .none },
  { cls := 7, slots := #[.null, .int (0), .int (0), .null, .int (0)], vm := .none },
  { cls := 7, slots := #[.null, .int (0), .int (0), .null, .int (0)], vm := .none },
  { cls := 7, slots := #[.null, .int (0), .int (0), .null, .int (0)], vm := .none },
  { cls := 8, slots := #[.null, .int (0), .int (0), .null], vm := .none },
  { cls := 8, slots := #[.null, .int (0), .int (0), .null], vm := .none }]
def classes : Array Class := #[k0, k1, k2, k3, k4, k5, k6, k7, k8, k9, k10, k11, k12, k13, k14]
def interned : List (Array UInt16 × Addr) := []
def slotsUsed : Nat := 114
def theMethod : MethodId := ⟨1, 1⟩
def args0 : Array Value := #[.int 5]
def aboutOver (below : List Frame) : State where
  vm := { classes := classes, interned := interned.toArray }
  heap := heap
  slotsUsed := slotsUsed
  threads := #[{ frames := .invoking theMethod args0 :: below }]
def below0 : List Frame := [.native { method := ⟨0, 0⟩, args := #[] }]
def about1 : State := aboutOver below0
def p0 : Program := .bare "" "" ""
def e0 : Env := launch0.env 0 0 0
theorem w_frames : about1.frames = Frame.invoking theMethod args0 :: below0 := rfl
set_option maxRecDepth 65536 in
theorem w_args : argsFit about1.vm theMethod args0 = true := by decide +kernel
set_option maxRecDepth 65536 in
theorem w_heap : heapFits about1 = true := by decide +kernel
set_option maxRecDepth 65536 in
theorem w_runnable : about1.curStatus? = some .runnable := by decide +kernel
set_option maxRecDepth 65536 in
theorem w_alone : about1.alone = true := by decide +kernel
set_option maxRecDepth 65536 in
theorem w_named : about1.methodNamed? x = some theMethod := by decide +kernel
set_option maxRecDepth 65536 in
theorem w_hears : about1.hears theMethod below0 = true := by decide +kernel
set_option maxRecDepth 65536 in
theorem w_ripe : about1.ripe theMethod args0 below0 = true := by decide +kernel
theorem w_running : about1.status = .running := rfl
set_option maxRecDepth 65536 in
theorem w_room : about1.hasRoom e0.platform room_1 = true :=
  launch0.hasRoom_least _ room_1 (by decide +kernel) (by decide +kernel) (by decide +kernel) (by decide +kernel) (by decide +kernel) (by decide +kernel)
theorem allAtoms_all (ts : List Jvm.Cond) (a : Array Jvm.Value) (st : Jvm.State) : (allAtoms ts).before a st = ts.all (fun c => c.before a st) := by
  induction ts with
  | nil => rfl
  | cons c t ih =>
    show (Jvm.Cond.and c (allAtoms t)).before a st = _
    rw [Jvm.Cond.before_and, ih, List.all_cons]
def words1 : List Jvm.Cond := Jvm.Cond.code x code maxLocals ret :: tables_1
/-- a 'code' word, met by the world's own term for the bytes: nothing is compared byte by byte -/
theorem code_word {y : MethodName} {bytes : ByteArray} {mx : Nat} {rt : Option FieldType} {a : Array Value} {s : State} {m : MethodId} {meth : Method} {c : Code} (h1 : s.methodNamed? y = some m) (h2 : s.vm.method? m = some meth) (h3 : meth.code = some c) (h4 : c.code = bytes)
    (h5 : (c.maxLocals == mx && c.exceptionTable.isEmpty && decide (c.maxStack ≤ mostOperands) && decide (meth.sig.returnType = rt) && !meth.locks && decide (parseMethodDescriptor y.desc = some meth.sig)) = true) : (Jvm.Cond.code y bytes mx rt).before a s = true := by
  simp only [Bool.and_eq_true, beq_iff_eq, Bool.not_eq_true', decide_eq_true_eq] at h5
  obtain ⟨⟨⟨⟨⟨g1, g2⟩, g3⟩, g4⟩, g5⟩, g6⟩ := h5
  simp [Cond.before, Cond.holds, Cond.value, h1, h2, h3, h4, g1, g2, g3, g4, g5, g6]
def isCode : Jvm.Cond → Bool
  | .code _ _ _ _ => true
  | _ => false
theorem all_split {L : List Jvm.Cond} {P : Jvm.Cond → Bool} (h1 : L.all (fun c => isCode c || P c) = true) (h2 : ∀ c ∈ L.filter isCode, P c = true) : L.all P = true := by
  refine List.all_eq_true.mpr fun c hc => ?_
  have h := List.all_eq_true.mp h1 c hc
  rcases Bool.eq_false_or_eq_true (isCode c) with hi | hi
  · exact h2 c (List.mem_filter.mpr ⟨hc, hi⟩)
  · simpa [hi] using h
set_option maxRecDepth 65536 in
theorem w_c0 : (Jvm.Cond.code x code maxLocals ret).before args0 about1 = true := code_word (m := ⟨1, 1⟩) (meth := k1m1) (c := k1c1) (by decide +kernel) rfl rfl rfl (by decide +kernel)
set_option maxRecDepth 65536 in
theorem w_c1 : (Jvm.Cond.code ({ cls := "com/example/pactolus/pactolus/gate/Scope", name := "allCallsOverPeriod", desc := "()Z" } : Jvm.MethodName) prog_16_method_10_code (1 : Nat) (Option.some Jvm.ClassFile.FieldType.boolean)).before args0 about1 = true := code_word (m := ⟨6, 0⟩) (meth := k6m0) (c := k6c0) (by decide +kernel) rfl rfl rfl (by decide +kernel)
def codes1 : List Jvm.Cond := [Jvm.Cond.code x code maxLocals ret, Jvm.Cond.code ({ cls := "com/example/pactolus/pactolus/gate/Scope", name := "allCallsOverPeriod", desc := "()Z" } : Jvm.MethodName) prog_16_method_10_code (1 : Nat) (Option.some Jvm.ClassFile.FieldType.boolean)]
set_option maxRecDepth 65536 in
theorem codes_eq : words1.filter isCode = codes1 := rfl
theorem w_codes : ∀ c ∈ words1.filter isCode, c.before args0 about1 = true := by
  rw [codes_eq]
  intro c hc
  simp only [codes1, List.mem_cons, List.not_mem_nil, or_false] at hc
  rcases hc with rfl | rfl
  · exact w_c0
  · exact w_c1
set_option maxRecDepth 65536 in
theorem w_t1 : (words1.take 24).all (fun c => isCode c || c.before args0 about1) = true := by decide +kernel
set_option maxRecDepth 65536 in
theorem w_t2 : (words1.drop 24).all (fun c => isCode c || c.before args0 about1) = true := by decide +kernel
theorem w_tables : (allAtoms (Jvm.Cond.code x code maxLocals ret :: tables_1)).before args0 about1 = true := by
  rw [allAtoms_all]
  show words1.all (fun c => c.before args0 about1) = true
  refine all_split ?_ w_codes
  rw [← List.take_append_drop 24 words1, List.all_append, w_t1, w_t2]
  rfl
set_option maxRecDepth 65536 in
theorem w_case : (Jvm.Cond.and given_1 narrow_1).before args0 about1 = true := by decide +kernel
theorem w_applies : (headSpec (Jvm.Cond.code x code maxLocals ret :: tables_1) room_1).applies x e0.platform about1 = true :=
  (Spec.applies_iff w_frames).mpr ⟨w_running, w_runnable, w_alone, w_named, w_hears, w_ripe, w_room, w_tables⟩
theorem atStart : AtStart classFile x code maxLocals ret World_1 tables_1 room_1 Calls_1 rest_1 Pre_1 launch0 p0 e0 about1 theMethod args0 below0 :=
  ⟨lists_1, trivial, launch0.admits_env _ _ _, launch0.least_env, fairChoices_fair.cas, fairChoices_fair.clock, w_frames, w_args, w_heap, w_applies, trivial, trivial, w_case⟩
end start1
theorem witness_1 : WitnessClaimed_1 := ⟨start1.p0, start1.e0, start1.about1, start1.theMethod, start1.args0, start1.below0, start1.atStart⟩
end Jvm.Pilot.@@N@@
