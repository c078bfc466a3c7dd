import JvmDerived
import JvmDerived.Pilot.@@N@@Statement
import JvmDerived.Pilot.@@N@@Code
set_option linter.unusedVariables false
set_option linter.unusedSimpArgs false
namespace Jvm.RoadKit
open Sem ClassFile Op Lib Jvm.Stand Jvm.Free Jvm.LawKit
section Own
variable {p : Program} {l : Launch} {e : Env} {R : Room} {s : State} {m : MethodId} {args : Array Value} {below : List Frame} {meth : Method} {c : Code} {T : State} {locs : List Loc} {cells slots : Nat}
def own_Go (p : Program) (e : Env) (below : List Frame) (K : State → Outcome → Prop) (T : State) (g : JFrame) : Prop :=
  ∃ t o, Steps p.tables e below (T.setTop g) t ∧ t.status = .running ∧ Ended t below o ∧ K t o
theorem own_go {K : State → Outcome → Prop} {T1 T2 : State} {g1 g2 : JFrame} (h : ∀ t, Steps p.tables e below (T2.setTop g2) t → Steps p.tables e below (T1.setTop g1) t) (k : own_Go p e below K T2 g2) : own_Go p e below K T1 g1 := by
  obtain ⟨t, o, h1, h2⟩ := k
  exact ⟨t, o, h t h1, h2⟩
theorem own_hp {h : Heap} {a : Addr} {cl : Cell} (e : T.heap = h) (q : h[a]? = some cl) : T.heap[a]? = some cl := by rw [e]; exact q
theorem own_ap {T1 T2 t : State} {g1 g2 : JFrame} (h : ∀ t, Steps p.tables e below (T2.setTop g2) t → Steps p.tables e below (T1.setTop g1) t) (k : Steps p.tables e below (T2.setTop g2) t) : Steps p.tables e below (T1.setTop g1) t := h t k
def own_K (s : State) (Q : Option Value → Heap → List Loc → Prop) (C S : Nat) (t : State) (o : Outcome) : Prop := ∃ v L, o = .returned v ∧ Q v t.heap L ∧ FrameEnd s o t L C S
def own_QP (r : Option Value) (h0 : Heap) (v : Option Value) (h : Heap) (L : List Loc) : Prop := v = r ∧ L = [] ∧ h = h0
def own_Con (l : Launch) (Z : State) (y : MethodName) (bytes : ByteArray) (maxL : Nat) (ret : Option FieldType) (rm : Room) (as' : Array Value) (h : Heap) (Q : Option Value → Heap → List Loc → Prop) : Prop :=
  MetFree l y (head1 [Cond.code y bytes maxL ret] rm) (fun a U => a = as' ∧ Z.Warmed39 U.vm ∧ U.heap = h) (fun _ _ _ _ _ => True) (fun _ U o U' => ∃ v L, o = .returned v ∧ Q v U'.heap L ∧ FrameEnd U o U' L rm.cells rm.slots)
theorem own_end (X : Stand p l e R s m args below meth c T locs cells slots) {v : Option Value} (hl : meth.locks = false) (hv : meth.sig.returnType = none → v = none) {g : JFrame} {Q : Option Value → Heap → List Loc → Prop} {C S : Nat}
    (hstep : ∀ fs, (∀ (f : JFrame) (acts : List Action), f.method = m → f.locked = none → f.entered = [] → (doReturn e (T.setTop f) acts v).1 = T.setFrames fs) → Steps p.tables e below (T.setTop g) (T.setFrames fs))
    (hc : cells ≤ C) (hs : slots ≤ S) (hQ : Q v T.heap locs) : own_Go p e below (own_K s Q C S) T g := by
  obtain ⟨fs, hr, hrun, hended, hW, hsame⟩ := X.leave hv hl
  exact ⟨_, _, hstep fs hr, hrun, hended, v, locs, rfl, hQ, ⟨_, rfl⟩, hW, hsame.mono hc hs⟩
theorem own_endN (X : Stand p l e R s m args below meth c T locs cells slots) (hx : p.tables.exec = Jvm.exec) (hl : meth.locks = false) {pc : Nat} {Ls : Array Slot} {z z' : Int32} {t : FieldType} {rest : List Value} {Q : Option Value → Heap → List Loc → Prop} {C S : Nat}
    (hret : meth.sig.returnType = some t) (ht : t = .boolean ∨ t = .byte ∨ t = .char ∨ t = .short) (hd : decode c.code pc = .ok (.ireturn, 1)) (hz : nar t z = z') (hc : cells ≤ C) (hs : slots ≤ S) (hQ : Q (some (.int z')) T.heap locs) :
    own_Go p e below (own_K s Q C S) T (mkF m pc Ls (.int z :: rest)) := by
  subst hz
  exact own_end X hl (fun h => by rw [hret] at h; cases h) (fun fs hr => retN X hx hret ht hd hr) hc hs hQ
theorem own_endI (X : Stand p l e R s m args below meth c T locs cells slots) (hx : p.tables.exec = Jvm.exec) (hl : meth.locks = false) {pc : Nat} {Ls : Array Slot} {z : Int32} {rest : List Value} {Q : Option Value → Heap → List Loc → Prop} {C S : Nat}
    (hret : meth.sig.returnType = some .int) (hd : decode c.code pc = .ok (.ireturn, 1)) (hc : cells ≤ C) (hs : slots ≤ S) (hQ : Q (some (.int z)) T.heap locs) :
    own_Go p e below (own_K s Q C S) T (mkF m pc Ls (.int z :: rest)) :=
  own_end X hl (fun h => by rw [hret] at h; cases h) (fun fs hr => retOut X hx hret rfl (Or.inl ⟨rfl, Or.inl rfl, z, rfl⟩) hd hr) hc hs hQ
theorem own_endJ (X : Stand p l e R s m args below meth c T locs cells slots) (hx : p.tables.exec = Jvm.exec) (hl : meth.locks = false) {pc : Nat} {Ls : Array Slot} {z : Int64} {rest : List Value} {Q : Option Value → Heap → List Loc → Prop} {C S : Nat}
    (hret : meth.sig.returnType = some .long) (hd : decode c.code pc = .ok (.lreturn, 1)) (hc : cells ≤ C) (hs : slots ≤ S) (hQ : Q (some (.long z)) T.heap locs) :
    own_Go p e below (own_K s Q C S) T (mkF m pc Ls (.long z :: rest)) :=
  own_end X hl (fun h => by rw [hret] at h; cases h) (fun fs hr => retOut X hx hret rfl (Or.inr (Or.inl ⟨rfl, rfl, z, rfl⟩)) hd hr) hc hs hQ
theorem own_endR (X : Stand p l e R s m args below meth c T locs cells slots) (hx : p.tables.exec = Jvm.exec) (hl : meth.locks = false) {pc : Nat} {Ls : Array Slot} {w : Value} {t : FieldType} {rest : List Value} {Q : Option Value → Heap → List Loc → Prop} {C S : Nat}
    (hret : meth.sig.returnType = some t) (ht : t.isReference = true) (hw : w.isRef = true) (hd : decode c.code pc = .ok (.areturn, 1)) (hc : cells ≤ C) (hs : slots ≤ S) (hQ : Q (some w) T.heap locs) :
    own_Go p e below (own_K s Q C S) T (mkF m pc Ls (w :: rest)) :=
  own_end X hl (fun h => by rw [hret] at h; cases h) (fun fs hr => retOut X hx hret (by rcases ref_cases hw with rfl | ⟨a, rfl⟩ <;> cases t <;> first | rfl | (cases ht)) (Or.inr (Or.inr (Or.inr (Or.inr ⟨rfl, ht, hw⟩)))) hd hr) hc hs hQ
theorem own_endV (X : Stand p l e R s m args below meth c T locs cells slots) (hx : p.tables.exec = Jvm.exec) (hl : meth.locks = false) {pc : Nat} {Ls : Array Slot} {Q : Option Value → Heap → List Loc → Prop} {C S : Nat}
    (hret : meth.sig.returnType = none) (hd : decode c.code pc = .ok (.return_, 1)) (hc : cells ≤ C) (hs : slots ≤ S) (hQ : Q none T.heap locs) :
    own_Go p e below (own_K s Q C S) T (mkF m pc Ls []) :=
  own_end X hl (fun _ => rfl) (fun fs hr => X.returnOut hx hret hd hr) hc hs hQ
variable {Z : State} {a0 : Array Value} {h : Heap} {y z : MethodName} {bytes : ByteArray} {maxL : Nat} {ret : Option FieldType} {rm : Room} {as' : Array Value} {Q : Option Value → Heap → List Loc → Prop}
theorem own_static (X : Stand p l e R s m args below meth c T locs cells slots) (hx : p.tables.exec = Jvm.exec) (hZ : Z.Warmed39 s.vm) {own : String} {index : Nat} (hown : s.vm.findClass own = some m.cls)
    (w1 : (Cond.methodLink own index y).before a0 Z = true) (w2 : (Cond.static y).before a0 Z = true) (w3 : (Cond.initialized y.cls).before a0 Z = true) (w4 : (Cond.code y bytes maxL ret).before a0 Z = true) (hy : y.cls ≠ "java/lang/invoke/MethodHandle" ∧ y.cls ≠ "java/lang/invoke/VarHandle")
    (W : Nat) {argsL rest : List Value} (hM : own_Con l Z y bytes maxL ret rm argsL.toArray h Q) (hf : rm.frames + 1 ≤ R.frames) (hl : W + (maxL + 11) + rm.locals ≤ R.locals)
    {g : JFrame} (hg : g.method = m) (hsize : g.locals.size = c.maxLocals) (hlen : ∀ sig, parseMethodDescriptor y.desc = some sig → argsL.length = sig.parameters.length) (hstack : g.stack = argsL.reverse ++ rest)
    (hW : 2 * g.monitorRoom + (rest.map fun v => v.category).sum ≤ W) (hdg : decode c.code g.pc = .ok (.invokestatic index, 3)) (eT : T.heap = h) (hc : cells + rm.cells ≤ R.cells) (hs : slots + rm.slots ≤ R.slots) :
    ∃ (v : Option Value) (T' : State) (L : List Loc), Stand p l e R s m args below meth c T' (locs ++ L) (cells + rm.cells) (slots + rm.slots) ∧ Q v T'.heap L ∧
      ∀ target, Steps p.tables e below (T'.setTop { g with pc := g.pc + 3, stack := v.toList ++ rest }) target → Steps p.tables e below (T.setTop g) target := by
  obtain ⟨v, _, ⟨T', L', k', n'⟩, -, X', ⟨L, hQ, e1, e2, e3⟩, st⟩ := Jvm.LawKit.callS X hx (y := y) hown (mvT hZ w1) (mvT hZ w2) (mvT hZ w3) (mvT hZ w4) hy (backOf (W := W) hM hZ w4 w3 hf hl) hg hsize hlen hstack hW hdg (fun _ _ => ⟨rfl, eT, hc, hs⟩)
  dsimp only [Pt.U, Pt.locs, Pt.cells, Pt.slots] at X' e1 e2 e3 st hQ
  subst e1 e2 e3
  exact ⟨v, T', L, X', hQ, st⟩
theorem own_special (X : Stand p l e R s m args below meth c T locs cells slots) (hx : p.tables.exec = Jvm.exec) (hZ : Z.Warmed39 s.vm) {own : String} {index : Nat} (hy1 : y.name = "<init>") (hown : s.vm.findClass own = some m.cls)
    (w1 : (Cond.methodLink own index y).before a0 Z = true) (w2 : (Cond.instanceMethod y).before a0 Z = true) (w3 : (Cond.initialized y.cls).before a0 Z = true) (w4 : (Cond.code y bytes maxL none).before a0 Z = true) (hy : y.cls ≠ "java/lang/invoke/MethodHandle" ∧ y.cls ≠ "java/lang/invoke/VarHandle")
    (W : Nat) {a : Addr} {argsL rest : List Value} (hM : own_Con l Z y bytes maxL none rm (.ref a :: argsL).toArray h Q) (hf : rm.frames + 1 ≤ R.frames) (hl : W + (maxL + 11) + rm.locals ≤ R.locals)
    {g : JFrame} (hg : g.method = m) (hsize : g.locals.size = c.maxLocals) (hlen : ∀ sig, parseMethodDescriptor y.desc = some sig → argsL.length = sig.parameters.length) (hstack : g.stack = argsL.reverse ++ .ref a :: rest)
    (hW : 2 * g.monitorRoom + (rest.map fun v => v.category).sum ≤ W) (hdg : decode c.code g.pc = .ok (.invokespecial index, 3)) (eT : T.heap = h) (hc : cells + rm.cells ≤ R.cells) (hs : slots + rm.slots ≤ R.slots) :
    ∃ (v : Option Value) (T' : State) (L : List Loc), Stand p l e R s m args below meth c T' (locs ++ L) (cells + rm.cells) (slots + rm.slots) ∧ Q v T'.heap L ∧
      ∀ target, Steps p.tables e below (T'.setTop { g with pc := g.pc + 3, stack := v.toList ++ rest }) target → Steps p.tables e below (T.setTop g) target := by
  obtain ⟨v, _, ⟨T', L', k', n'⟩, -, X', ⟨L, hQ, e1, e2, e3⟩, st⟩ := X.specialBack hx (y := y) hy1 hown (mvT hZ w1) (mvT hZ w2) (mvT hZ w4) hy (backOf (W := W) hM hZ w4 w3 hf hl) hg hsize (Steps.refl _) hlen hstack hW hdg (fun _ _ => ⟨rfl, eT, hc, hs⟩)
  dsimp only [Pt.U, Pt.locs, Pt.cells, Pt.slots] at X' e1 e2 e3 st hQ
  subst e1 e2 e3
  exact ⟨v, T', L, X', hQ, fun t k => st.trans k⟩
theorem own_virtual (X : Stand p l e R s m args below meth c T locs cells slots) (hx : p.tables.exec = Jvm.exec) (hZ : Z.Warmed39 s.vm) {own C : String} {index : Nat} (hown : s.vm.findClass own = some m.cls)
    (w1 : (Cond.methodLink own index y).before a0 Z = true) (w2 : (Cond.declares y).before a0 Z = true) (hnf : NotFace s y) (w5 : (Cond.selects C y z).before a0 Z = true) (w6 : (Cond.instanceMethod z).before a0 Z = true)
    (w3 : (Cond.initialized z.cls).before a0 Z = true) (w4 : (Cond.code z bytes maxL ret).before a0 Z = true) (hy : y.cls ≠ "java/lang/invoke/MethodHandle" ∧ y.cls ≠ "java/lang/invoke/VarHandle")
    (W : Nat) {a : Addr} {argsL rest : List Value} (hM : own_Con l Z z bytes maxL ret rm (.ref a :: argsL).toArray h Q) (hf : rm.frames + 1 ≤ R.frames) (hl : W + (maxL + 11) + rm.locals ≤ R.locals) (E : Exa Z h a C)
    {g : JFrame} (hg : g.method = m) (hsize : g.locals.size = c.maxLocals) (hlen : ∀ sig, parseMethodDescriptor y.desc = some sig → argsL.length = sig.parameters.length) (hstack : g.stack = argsL.reverse ++ .ref a :: rest)
    (hW : 2 * g.monitorRoom + (rest.map fun v => v.category).sum ≤ W) (hdg : decode c.code g.pc = .ok (.invokevirtual index, 3)) (eT : T.heap = h) (hc : cells + rm.cells ≤ R.cells) (hs : slots + rm.slots ≤ R.slots) :
    ∃ (v : Option Value) (T' : State) (L : List Loc), Stand p l e R s m args below meth c T' (locs ++ L) (cells + rm.cells) (slots + rm.slots) ∧ Q v T'.heap L ∧
      ∀ target, Steps p.tables e below (T'.setTop { g with pc := g.pc + 3, stack := v.toList ++ rest }) target → Steps p.tables e below (T.setTop g) target := by
  obtain ⟨cB, kB, q1, -, q2⟩ := isOf hZ eT E
  obtain ⟨v, _, ⟨T', L', k', n'⟩, -, X', ⟨L, hQ, e1, e2, e3⟩, st⟩ := X.virtualBack hx (y := y) (z := z) hown (mvT hZ w1) (mvT hZ w2) hnf (mvT hZ w5) (mvT hZ w6) hy (backOf (W := W) hM hZ w4 w3 hf hl) q1 q2 hg hsize (Steps.refl _) hlen hstack hW hdg (fun _ _ => ⟨rfl, eT, hc, hs⟩)
  dsimp only [Pt.U, Pt.locs, Pt.cells, Pt.slots] at X' e1 e2 e3 st hQ
  subst e1 e2 e3
  exact ⟨v, T', L, X', hQ, fun t k => st.trans k⟩
theorem own_virtualUp (X : Stand p l e R s m args below meth c T locs cells slots) (hx : p.tables.exec = Jvm.exec) (hZ : Z.Warmed39 s.vm) {own C owner : String} {index : Nat} (hown : s.vm.findClass own = some m.cls)
    (w1 : (Cond.methodLink own index y).before a0 Z = true) (w7 : (Cond.sameMethod y.cls owner y.name y.desc).before a0 Z = true) (w2 : (Cond.declares ⟨owner, y.name, y.desc⟩).before a0 Z = true) (ho : owner ≠ "java/lang/invoke/MethodHandle" ∧ owner ≠ "java/lang/invoke/VarHandle") (w5 : (Cond.selects C y z).before a0 Z = true) (w6 : (Cond.instanceMethod z).before a0 Z = true)
    (w3 : (Cond.initialized z.cls).before a0 Z = true) (w4 : (Cond.code z bytes maxL ret).before a0 Z = true)
    (W : Nat) {a : Addr} {argsL rest : List Value} (hM : own_Con l Z z bytes maxL ret rm (.ref a :: argsL).toArray h Q) (hf : rm.frames + 1 ≤ R.frames) (hl : W + (maxL + 11) + rm.locals ≤ R.locals) (E : Exa Z h a C)
    {g : JFrame} (hg : g.method = m) (hsize : g.locals.size = c.maxLocals) (hlen : ∀ sig, parseMethodDescriptor y.desc = some sig → argsL.length = sig.parameters.length) (hstack : g.stack = argsL.reverse ++ .ref a :: rest)
    (hW : 2 * g.monitorRoom + (rest.map fun v => v.category).sum ≤ W) (hdg : decode c.code g.pc = .ok (.invokevirtual index, 3)) (eT : T.heap = h) (hc : cells + rm.cells ≤ R.cells) (hs : slots + rm.slots ≤ R.slots) :
    ∃ (v : Option Value) (T' : State) (L : List Loc), Stand p l e R s m args below meth c T' (locs ++ L) (cells + rm.cells) (slots + rm.slots) ∧ Q v T'.heap L ∧
      ∀ target, Steps p.tables e below (T'.setTop { g with pc := g.pc + 3, stack := v.toList ++ rest }) target → Steps p.tables e below (T.setTop g) target := by
  obtain ⟨cB, kB, q1, -, q2⟩ := isOf hZ eT E
  obtain ⟨v, _, ⟨T', L', k', n'⟩, -, X', ⟨L, hQ, e1, e2, e3⟩, st⟩ := X.virtualBackUp hx (x := y) (y := z) (owner := owner) hown (mvT hZ w1) (mvT hZ w7) (mvT hZ w2) ho (mvT hZ w5) (mvT hZ w6) (backOf (W := W) hM hZ w4 w3 hf hl) q1 q2 hg hsize (Steps.refl _) hlen hstack hW hdg (fun _ _ => ⟨rfl, eT, hc, hs⟩)
  dsimp only [Pt.U, Pt.locs, Pt.cells, Pt.slots] at X' e1 e2 e3 st hQ
  subst e1 e2 e3
  exact ⟨v, T', L, X', hQ, fun t k => st.trans k⟩
theorem own_wd {ts : List Cond} (hw : ∀ d ∈ ts, d.before a0 Z = true) {d : Cond} (n : Nat) (h : ts[n]? = some d) : d.before a0 Z = true := hw d (List.mem_of_getElem? h)
theorem own_fldI {t : Term} {w : Addr} {C n d : String} {k : Int32} (ev : t.eval args s none [] s = some (.ref w)) (h : (Cond.eq (Term.field t C n d) (Term.int k)).value args s none s [] = some true) : Fld s s.heap w C n d (.int k) := by
  apply Fld.start
  cases hf : s.fieldOf? w C n d with
  | none => simp [Cond.value, Term.eval, ev, hf] at h
  | some x => cases x <;> simp [Cond.value, Term.eval, ev, hf] at h ⊢; exact h
theorem own_fldN {t : Term} {w : Addr} {C n d : String} (ev : t.eval args s none [] s = some (.ref w)) (h : (Cond.eq (Term.field t C n d) Term.null).value args s none s [] = some true) : Fld s s.heap w C n d .null := by
  have q := null_v h
  rw [fld_at ev] at q
  exact Fld.start q
theorem own_fldR {t u : Term} {w b : Addr} {C n d : String} (ev : t.eval args s none [] s = some (.ref w)) (eu : u.eval args s none [] s = some (.ref b)) (h : (Cond.eq (Term.field t C n d) u).value args s none s [] = some true) : Fld s s.heap w C n d (.ref b) := by
  apply Fld.start
  cases hf : s.fieldOf? w C n d with
  | none => simp [Cond.value, Term.eval, ev, eu, hf] at h
  | some x => cases x <;> simp [Cond.value, Term.eval, ev, eu, hf] at h ⊢; exact h
theorem own_ne {t u : Term} {w b : Addr} (ev : t.eval args s none [] s = some (.ref w)) (eu : u.eval args s none [] s = some (.ref b)) (h : (Cond.not (Cond.eq t u)).value args s none s [] = some true) : w ≠ b := by
  have q := not_v h
  intro e
  subst e
  simp [Cond.value, ev, eu] at q
end Own
end Jvm.RoadKit
namespace Jvm.RoadKit
open Sem ClassFile Op Lib Jvm.Stand Jvm.Free Jvm.LawKit
section Own2
variable {p : Program} {l : Launch} {e : Env} {R : Room} {s : State} {m : MethodId} {args : Array Value} {below : List Frame} {meth : Method} {c : Code} {T : State} {locs : List Loc} {cells slots : Nat}
variable {Z : State} {a0 : Array Value} {h h0 h' : Heap} {y z : MethodName} {bytes : ByteArray} {maxL : Nat} {ret : Option FieldType} {rm : Room} {as' : Array Value} {Q : Option Value → Heap → List Loc → Prop} {ws ws' : List Addr} {L L' : List Loc}
/-- what a walk has done to the heap: old cells that aren't in ws stand as they were, so do the cells of statics; what was written lies in ws or is new -/
def own_Kp (h0 h : Heap) (ws : List Addr) (L : List Loc) : Prop := Keep h0 h ws ∧ (∀ y ∈ L, y.base ∈ ws ∨ h0.size ≤ y.base) ∧ ∀ (x : Addr) (c : Cell), h0[x]? = some c → c.vm.isStatics = true → h[x]? = some c
theorem own_kpRefl (h : Heap) (ws : List Addr) : own_Kp h h ws [] := ⟨Keep.refl _ _, fun _ q => (nomatch q), fun _ _ q _ => q⟩
theorem own_kpExt (K : own_Kp h0 h ws L) (E : Ext h h') : own_Kp h0 h' ws L := ⟨K.1.ext E, K.2.1, fun x c q r => E.2 x c (K.2.2 x c q r)⟩
theorem own_kpTrans (K : own_Kp h0 h ws L) (K' : own_Kp h h' ws' L') (q : ∀ x ∈ ws', x ∈ ws ∨ h0.size ≤ x) : own_Kp h0 h' ws (L ++ L') :=
  ⟨K.1.trans K'.1 q, fun y hy => (List.mem_append.mp hy).elim (K.2.1 y) fun hy' => (K'.2.1 y hy').elim (q _) fun r => Or.inr (Nat.le_trans K.1.1 r), fun x c r t => K'.2.2 x c (K.2.2 x c r t) t⟩
theorem own_kpWr {a : Addr} {sl : Nat} {v : Value} (K : own_Kp h0 h ws L) (W : Wr h h' a sl v) (q : a ∈ ws ∨ h0.size ≤ a) : own_Kp h0 h' ws (L ++ [⟨a, sl⟩]) := by
  refine ⟨K.1.wr W q, fun y hy => (List.mem_append.mp hy).elim (K.2.1 y) fun hy' => by cases List.mem_singleton.mp hy'; exact q, fun x c r t => ?_⟩
  obtain ⟨c', e1, -, -, -, e5, -, e7⟩ := wr_at W (K.2.2 x c r t)
  have ne : x ≠ a := fun e => by rw [(e7 e).2.2] at t; cases t
  rw [← e5 ne]; exact e1
theorem own_kpSta {C n d : String} {v : Value} (K : own_Kp h h' ws L) (F : Sta Z h C n d v) : Sta Z h' C n d v := by
  obtain ⟨cf, i, k, f, st, cell, h1, h2, h3, h4, h5, h6, h7⟩ := F
  exact ⟨cf, i, k, f, st, cell, h1, h2, h3, h4, K.2.2 _ _ h5 h6, h6, h7⟩
theorem own_kpFr (K : own_Kp h0 h [] L) : Fr h0.size L := fun y hy => (K.2.1 y hy).elim (fun q => nomatch q) id
def own_ConW (l : Launch) (Z : State) (y : MethodName) (bytes : ByteArray) (maxL : Nat) (ret : Option FieldType) (hs : List (Nat × Nat × Nat × Nat)) (rm : Room) (as' : Array Value) (h : Heap) (Q : Option Value → Heap → List Loc → Prop) : Prop :=
  MetFree l y (head1 [Cond.codeWith y bytes maxL ret hs] rm) (fun a U => a = as' ∧ Z.Warmed39 U.vm ∧ U.heap = h) (fun _ _ _ _ _ => True) (fun _ U o U' => ∃ v L, o = .returned v ∧ Q v U'.heap L ∧ FrameEnd U o U' L rm.cells rm.slots)
theorem own_interface (X : Stand p l e R s m args below meth c T locs cells slots) (hx : p.tables.exec = Jvm.exec) (hZ : Z.Warmed39 s.vm) {own C : String} {index count : Nat} (hown : s.vm.findClass own = some m.cls)
    (w1 : (Cond.methodLink own index y).before a0 Z = true) (w2 : (Cond.declares y).before a0 Z = true) (w7 : (Cond.interfaceMethod y.cls y.cls y.name y.desc).before a0 Z = true) (w5 : (Cond.selects C y z).before a0 Z = true) (w6 : (Cond.instanceMethod z).before a0 Z = true)
    (w8 : (Cond.publicMethod z).before a0 Z = true) (w9 : (Cond.unhidden C y.name y.desc).before a0 Z = true) (w10 : (Cond.castable C y.cls).before a0 Z = true)
    (w3 : (Cond.initialized z.cls).before a0 Z = true) (w4 : (Cond.code z bytes maxL ret).before a0 Z = true) (hy : y.cls ≠ "java/lang/invoke/MethodHandle" ∧ y.cls ≠ "java/lang/invoke/VarHandle")
    (W : Nat) {a : Addr} {argsL rest : List Value} (hM : own_Con l Z z bytes maxL ret rm (.ref a :: argsL).toArray h Q) (hf : rm.frames + 1 ≤ R.frames) (hl : W + (maxL + 11) + rm.locals ≤ R.locals) (E : Exa Z h a C)
    {g : JFrame} (hg : g.method = m) (hsize : g.locals.size = c.maxLocals) (hlen : ∀ sig, parseMethodDescriptor y.desc = some sig → argsL.length = sig.parameters.length) (hstack : g.stack = argsL.reverse ++ .ref a :: rest)
    (hW : 2 * g.monitorRoom + (rest.map fun v => v.category).sum ≤ W) (hdg : decode c.code g.pc = .ok (.invokeinterface index count, 5)) (eT : T.heap = h) (hc : cells + rm.cells ≤ R.cells) (hs : slots + rm.slots ≤ R.slots) :
    ∃ (v : Option Value) (T' : State) (L : List Loc), Stand p l e R s m args below meth c T' (locs ++ L) (cells + rm.cells) (slots + rm.slots) ∧ Q v T'.heap L ∧
      ∀ target, Steps p.tables e below (T'.setTop { g with pc := g.pc + 5, stack := v.toList ++ rest }) target → Steps p.tables e below (T.setTop g) target := by
  obtain ⟨cB, kB, q1, q2, q3⟩ := isOf hZ eT E
  obtain ⟨v, _, ⟨T', L', k', n'⟩, -, X', ⟨L, hQ, e1, e2, e3⟩, st⟩ := X.interfaceBack hx (xi := y) (y := z) hown (mvT hZ w1) (mvT hZ w2) (mvT hZ w7 (by simp [Cond.onTables, Cond.keepsFace, Cond.keeps, Cond.steady, Cond.faceAtom]; exact hy)) (mvT hZ w5) (mvT hZ w6) (mvT hZ w8) (mvT hZ w9) (mvT hZ w10) hy (backOf (W := W) hM hZ w4 w3 hf hl) q1 q2 q3 hg hsize (Steps.refl _) hlen hstack hW hdg (fun _ _ => ⟨rfl, eT, hc, hs⟩)
  dsimp only [Pt.U, Pt.locs, Pt.cells, Pt.slots] at X' e1 e2 e3 st hQ
  subst e1 e2 e3
  exact ⟨v, T', L, X', hQ, fun t k => st.trans k⟩
theorem own_interfaceW (X : Stand p l e R s m args below meth c T locs cells slots) (hx : p.tables.exec = Jvm.exec) (hZ : Z.Warmed39 s.vm) {own C : String} {index count : Nat} (hown : s.vm.findClass own = some m.cls)
    (w1 : (Cond.methodLink own index y).before a0 Z = true) (w2 : (Cond.declares y).before a0 Z = true) (w7 : (Cond.interfaceMethod y.cls y.cls y.name y.desc).before a0 Z = true) (w5 : (Cond.selects C y z).before a0 Z = true) (w6 : (Cond.instanceMethod z).before a0 Z = true)
    (w8 : (Cond.publicMethod z).before a0 Z = true) (w9 : (Cond.unhidden C y.name y.desc).before a0 Z = true) (w10 : (Cond.castable C y.cls).before a0 Z = true)
    (w3 : (Cond.initialized z.cls).before a0 Z = true) {hs : List (Nat × Nat × Nat × Nat)} (w4 : (Cond.codeWith z bytes maxL ret hs).before a0 Z = true) (hy : y.cls ≠ "java/lang/invoke/MethodHandle" ∧ y.cls ≠ "java/lang/invoke/VarHandle")
    (W : Nat) {a : Addr} {argsL rest : List Value} (hM : own_ConW l Z z bytes maxL ret hs rm (.ref a :: argsL).toArray h Q) (hf : rm.frames + 1 ≤ R.frames) (hl : W + (maxL + 11) + rm.locals ≤ R.locals) (E : Exa Z h a C)
    {g : JFrame} (hg : g.method = m) (hsize : g.locals.size = c.maxLocals) (hlen : ∀ sig, parseMethodDescriptor y.desc = some sig → argsL.length = sig.parameters.length) (hstack : g.stack = argsL.reverse ++ .ref a :: rest)
    (hW : 2 * g.monitorRoom + (rest.map fun v => v.category).sum ≤ W) (hdg : decode c.code g.pc = .ok (.invokeinterface index count, 5)) (eT : T.heap = h) (hc : cells + rm.cells ≤ R.cells) (hsl : slots + rm.slots ≤ R.slots) :
    ∃ (v : Option Value) (T' : State) (L : List Loc), Stand p l e R s m args below meth c T' (locs ++ L) (cells + rm.cells) (slots + rm.slots) ∧ Q v T'.heap L ∧
      ∀ target, Steps p.tables e below (T'.setTop { g with pc := g.pc + 5, stack := v.toList ++ rest }) target → Steps p.tables e below (T.setTop g) target := by
  obtain ⟨cB, kB, q1, q2, q3⟩ := isOf hZ eT E
  obtain ⟨v, _, ⟨T', L', k', n'⟩, -, X', ⟨L, hQ, e1, e2, e3⟩, st⟩ := X.interfaceBack hx (xi := y) (y := z) hown (mvT hZ w1) (mvT hZ w2) (mvT hZ w7 (by simp [Cond.onTables, Cond.keepsFace, Cond.keeps, Cond.steady, Cond.faceAtom]; exact hy)) (mvT hZ w5) (mvT hZ w6) (mvT hZ w8) (mvT hZ w9) (mvT hZ w10) hy (backOfWith (W := W) hM hZ w4 w3 hf hl) q1 q2 q3 hg hsize (Steps.refl _) hlen hstack hW hdg (fun _ _ => ⟨rfl, eT, hc, hsl⟩)
  dsimp only [Pt.U, Pt.locs, Pt.cells, Pt.slots] at X' e1 e2 e3 st hQ
  subst e1 e2 e3
  exact ⟨v, T', L, X', hQ, fun t k => st.trans k⟩
theorem own_private (X : Stand p l e R s m args below meth c T locs cells slots) (hx : p.tables.exec = Jvm.exec) (hZ : Z.Warmed39 s.vm) {own C : String} {index : Nat} (hown : s.vm.findClass own = some m.cls)
    (w1 : (Cond.methodLink own index y).before a0 Z = true) (w6 : (Cond.instanceMethod y).before a0 Z = true) {kk : Nat} (w5 : (Cond.instantiable y.cls kk).before a0 Z = true) (w7 : (Cond.privateMethod y).before a0 Z = true)
    (w3 : (Cond.initialized y.cls).before a0 Z = true) (w4 : (Cond.code y bytes maxL ret).before a0 Z = true) (hy : y.cls ≠ "java/lang/invoke/MethodHandle" ∧ y.cls ≠ "java/lang/invoke/VarHandle")
    (W : Nat) {a : Addr} {argsL rest : List Value} (hM : own_Con l Z y bytes maxL ret rm (.ref a :: argsL).toArray h Q) (hf : rm.frames + 1 ≤ R.frames) (hl : W + (maxL + 11) + rm.locals ≤ R.locals) (E : Exa Z h a C)
    {g : JFrame} (hg : g.method = m) (hsize : g.locals.size = c.maxLocals) (hlen : ∀ sig, parseMethodDescriptor y.desc = some sig → argsL.length = sig.parameters.length) (hstack : g.stack = argsL.reverse ++ .ref a :: rest)
    (hW : 2 * g.monitorRoom + (rest.map fun v => v.category).sum ≤ W) (hdg : decode c.code g.pc = .ok (.invokevirtual index, 3)) (eT : T.heap = h) (hc : cells + rm.cells ≤ R.cells) (hs : slots + rm.slots ≤ R.slots) :
    ∃ (v : Option Value) (T' : State) (L : List Loc), Stand p l e R s m args below meth c T' (locs ++ L) (cells + rm.cells) (slots + rm.slots) ∧ Q v T'.heap L ∧
      ∀ target, Steps p.tables e below (T'.setTop { g with pc := g.pc + 3, stack := v.toList ++ rest }) target → Steps p.tables e below (T.setTop g) target := by
  obtain ⟨cq, q1, q2⟩ := E.cell
  obtain ⟨ci, ki, i1, i2, -, i4, -⟩ := Cond.instantiable_spec (mvT (args := args) hZ w5)
  have hpv := Cond.privateMethod_at (mvP hZ w7 (args := args))
  have hse := selects_self_of_private (args := args) i1 i2 (Bool.or_eq_false_iff.mp i4).1 hpv (mvT hZ w6) hy
  obtain ⟨v, _, ⟨T', L', k', n'⟩, -, X', ⟨L, hQ, e1, e2, e3⟩, st⟩ := X.privateBack hx (y := y) hown (mvT hZ w1) (mvT hZ w6) hse (Cond.privateMethod_at (mvP hZ w7 (args := #[]))) (mvT hZ w4) hy (backOf (W := W) hM hZ w4 w3 hf hl) hg hsize (Steps.refl _) (by rw [eT]; exact q1) q2 hlen hstack hW hdg (fun _ _ => ⟨rfl, eT, hc, hs⟩)
  dsimp only [Pt.U, Pt.locs, Pt.cells, Pt.slots] at X' e1 e2 e3 st hQ
  subst e1 e2 e3
  exact ⟨v, T', L, X', hQ, fun t k => st.trans k⟩
theorem own_alen {g : JFrame} {target : State} (X : Stand p l e R s m args below meth c T locs cells slots) (hx : p.tables.exec = Jvm.exec) (hZ : Z.Warmed39 s.vm) (eT : T.heap = h) {a : Addr} {cl : Cell} {ty : FieldType} {z : Int32} (A : Arr Z h a cl ty) (S : cl.slots.size = z.toNatClampNeg) (N : ¬ z < 0)
    (hg : g.method = m) {rest : List Value} (hs : g.stack = .ref a :: rest) (hd : decode c.code g.pc = .ok (.arraylength, 1)) (hr : Steps p.tables e below (T.setTop { g with pc := g.pc + 1, stack := .int z :: rest }) target) : Steps p.tables e below (T.setTop g) target :=
  X.arraylength hx (by rw [eT]; exact A.1) (State.isArrayOf_alike hZ.alike A.2.1) hg hs hd _ (by rw [len_of S N]; exact hr)
/-! calls with the words of one site in a bundle -/
def own_SW (Z : State) (a0 : Array Value) (own : String) (index : Nat) (y : MethodName) (bytes : ByteArray) (maxL : Nat) (ret : Option FieldType) : Prop :=
  (Cond.methodLink own index y).before a0 Z = true ∧ (Cond.static y).before a0 Z = true ∧ (Cond.initialized y.cls).before a0 Z = true ∧ (Cond.code y bytes maxL ret).before a0 Z = true ∧ (y.cls ≠ "java/lang/invoke/MethodHandle" ∧ y.cls ≠ "java/lang/invoke/VarHandle")
def own_IW (Z : State) (a0 : Array Value) (own : String) (index : Nat) (y : MethodName) (bytes : ByteArray) (maxL : Nat) : Prop :=
  y.name = "<init>" ∧ (Cond.methodLink own index y).before a0 Z = true ∧ (Cond.instanceMethod y).before a0 Z = true ∧ (Cond.initialized y.cls).before a0 Z = true ∧ (Cond.code y bytes maxL none).before a0 Z = true ∧ (y.cls ≠ "java/lang/invoke/MethodHandle" ∧ y.cls ≠ "java/lang/invoke/VarHandle")
def own_VW (Z : State) (a0 : Array Value) (own : String) (index : Nat) (C : String) (y : MethodName) (bytes : ByteArray) (maxL : Nat) (ret : Option FieldType) : Prop :=
  (Cond.methodLink own index y).before a0 Z = true ∧ (Cond.declares y).before a0 Z = true ∧ (Cond.selects C y y).before a0 Z = true ∧ (Cond.instanceMethod y).before a0 Z = true ∧ (Cond.initialized y.cls).before a0 Z = true ∧ (Cond.code y bytes maxL ret).before a0 Z = true ∧ (y.cls ≠ "java/lang/invoke/MethodHandle" ∧ y.cls ≠ "java/lang/invoke/VarHandle")
def own_PW (Z : State) (a0 : Array Value) (own : String) (index : Nat) (y : MethodName) (bytes : ByteArray) (maxL : Nat) (ret : Option FieldType) : Prop :=
  (Cond.methodLink own index y).before a0 Z = true ∧ (Cond.instanceMethod y).before a0 Z = true ∧ (∃ kk, (Cond.instantiable y.cls kk).before a0 Z = true) ∧ (Cond.privateMethod y).before a0 Z = true ∧ (Cond.initialized y.cls).before a0 Z = true ∧ (Cond.code y bytes maxL ret).before a0 Z = true ∧ (y.cls ≠ "java/lang/invoke/MethodHandle" ∧ y.cls ≠ "java/lang/invoke/VarHandle")
theorem own_cs (X : Stand p l e R s m args below meth c T locs cells slots) (hx : p.tables.exec = Jvm.exec) (hZ : Z.Warmed39 s.vm) {own : String} {index ml : Nat} (hown : s.vm.findClass own = some m.cls) (V : own_SW Z a0 own index y bytes maxL ret) (hml : c.maxLocals = ml)
    {g : JFrame} (hdg : decode c.code g.pc = .ok (.invokestatic index, 3)) (eT : T.heap = h) (argsL rest : List Value) (hlen : ∀ sig, parseMethodDescriptor y.desc = some sig → argsL.length = sig.parameters.length) (hM : own_Con l Z y bytes maxL ret rm argsL.toArray h Q)
    (hg : g.method = m := by rfl) (hsize : g.locals.size = ml := by rfl) (hstack : g.stack = argsL.reverse ++ rest := by rfl) (hmo : 2 * g.monitorRoom = 0 := by rfl) (hf : rm.frames + 1 ≤ R.frames := by exact Nat.le_of_ble_eq_true rfl) (hl : (rest.map fun v => v.category).sum + (maxL + 11) + rm.locals ≤ R.locals := by exact Nat.le_of_ble_eq_true rfl) (hc : cells + rm.cells ≤ R.cells := by exact Nat.le_of_ble_eq_true rfl) (hs : slots + rm.slots ≤ R.slots := by exact Nat.le_of_ble_eq_true rfl) :
    ∃ (v : Option Value) (T' : State) (L : List Loc), Stand p l e R s m args below meth c T' (locs ++ L) (cells + rm.cells) (slots + rm.slots) ∧ Q v T'.heap L ∧
      ∀ target, Steps p.tables e below (T'.setTop { g with pc := g.pc + 3, stack := v.toList ++ rest }) target → Steps p.tables e below (T.setTop g) target :=
  own_static X hx hZ hown V.1 V.2.1 V.2.2.1 V.2.2.2.1 V.2.2.2.2 _ hM hf hl hg (hsize.trans hml.symm) hlen hstack (by rw [hmo, Nat.zero_add]; exact Nat.le_refl _) hdg eT hc hs
theorem own_ci (X : Stand p l e R s m args below meth c T locs cells slots) (hx : p.tables.exec = Jvm.exec) (hZ : Z.Warmed39 s.vm) {own : String} {index ml : Nat} (hown : s.vm.findClass own = some m.cls) (V : own_IW Z a0 own index y bytes maxL) (hml : c.maxLocals = ml)
    {g : JFrame} (hdg : decode c.code g.pc = .ok (.invokespecial index, 3)) (eT : T.heap = h) {a : Addr} (argsL rest : List Value) (hlen : ∀ sig, parseMethodDescriptor y.desc = some sig → argsL.length = sig.parameters.length) (hM : own_Con l Z y bytes maxL none rm (.ref a :: argsL).toArray h Q)
    (hg : g.method = m := by rfl) (hsize : g.locals.size = ml := by rfl) (hstack : g.stack = argsL.reverse ++ .ref a :: rest := by rfl) (hmo : 2 * g.monitorRoom = 0 := by rfl) (hf : rm.frames + 1 ≤ R.frames := by exact Nat.le_of_ble_eq_true rfl) (hl : (rest.map fun v => v.category).sum + (maxL + 11) + rm.locals ≤ R.locals := by exact Nat.le_of_ble_eq_true rfl) (hc : cells + rm.cells ≤ R.cells := by exact Nat.le_of_ble_eq_true rfl) (hs : slots + rm.slots ≤ R.slots := by exact Nat.le_of_ble_eq_true rfl) :
    ∃ (v : Option Value) (T' : State) (L : List Loc), Stand p l e R s m args below meth c T' (locs ++ L) (cells + rm.cells) (slots + rm.slots) ∧ Q v T'.heap L ∧
      ∀ target, Steps p.tables e below (T'.setTop { g with pc := g.pc + 3, stack := v.toList ++ rest }) target → Steps p.tables e below (T.setTop g) target :=
  own_special X hx hZ V.1 hown V.2.1 V.2.2.1 V.2.2.2.1 V.2.2.2.2.1 V.2.2.2.2.2 _ hM hf hl hg (hsize.trans hml.symm) hlen hstack (by rw [hmo, Nat.zero_add]; exact Nat.le_refl _) hdg eT hc hs
theorem own_cv (X : Stand p l e R s m args below meth c T locs cells slots) (hx : p.tables.exec = Jvm.exec) (hZ : Z.Warmed39 s.vm) {own C : String} {index ml : Nat} (hown : s.vm.findClass own = some m.cls) (V : own_VW Z a0 own index C y bytes maxL ret) (hml : c.maxLocals = ml)
    {g : JFrame} (hdg : decode c.code g.pc = .ok (.invokevirtual index, 3)) (eT : T.heap = h) {a : Addr} (E : Exa Z h a C) (argsL rest : List Value) (hlen : ∀ sig, parseMethodDescriptor y.desc = some sig → argsL.length = sig.parameters.length) (hM : own_Con l Z y bytes maxL ret rm (.ref a :: argsL).toArray h Q)
    (hg : g.method = m := by rfl) (hsize : g.locals.size = ml := by rfl) (hstack : g.stack = argsL.reverse ++ .ref a :: rest := by rfl) (hmo : 2 * g.monitorRoom = 0 := by rfl) (hf : rm.frames + 1 ≤ R.frames := by exact Nat.le_of_ble_eq_true rfl) (hl : (rest.map fun v => v.category).sum + (maxL + 11) + rm.locals ≤ R.locals := by exact Nat.le_of_ble_eq_true rfl) (hc : cells + rm.cells ≤ R.cells := by exact Nat.le_of_ble_eq_true rfl) (hs : slots + rm.slots ≤ R.slots := by exact Nat.le_of_ble_eq_true rfl) :
    ∃ (v : Option Value) (T' : State) (L : List Loc), Stand p l e R s m args below meth c T' (locs ++ L) (cells + rm.cells) (slots + rm.slots) ∧ Q v T'.heap L ∧
      ∀ target, Steps p.tables e below (T'.setTop { g with pc := g.pc + 3, stack := v.toList ++ rest }) target → Steps p.tables e below (T.setTop g) target :=
  own_virtual X hx hZ hown V.1 V.2.1 (notFace_of_selects (args := #[]) (mvT hZ V.2.2.1)) V.2.2.1 V.2.2.2.1 V.2.2.2.2.1 V.2.2.2.2.2.1 V.2.2.2.2.2.2 _ hM hf hl E hg (hsize.trans hml.symm) hlen hstack (by rw [hmo, Nat.zero_add]; exact Nat.le_refl _) hdg eT hc hs
theorem own_cp (X : Stand p l e R s m args below meth c T locs cells slots) (hx : p.tables.exec = Jvm.exec) (hZ : Z.Warmed39 s.vm) {own C : String} {index ml : Nat} (hown : s.vm.findClass own = some m.cls) (V : own_PW Z a0 own index y bytes maxL ret) (hml : c.maxLocals = ml)
    {g : JFrame} (hdg : decode c.code g.pc = .ok (.invokevirtual index, 3)) (eT : T.heap = h) {a : Addr} (E : Exa Z h a C) (argsL rest : List Value) (hlen : ∀ sig, parseMethodDescriptor y.desc = some sig → argsL.length = sig.parameters.length) (hM : own_Con l Z y bytes maxL ret rm (.ref a :: argsL).toArray h Q)
    (hg : g.method = m := by rfl) (hsize : g.locals.size = ml := by rfl) (hstack : g.stack = argsL.reverse ++ .ref a :: rest := by rfl) (hmo : 2 * g.monitorRoom = 0 := by rfl) (hf : rm.frames + 1 ≤ R.frames := by exact Nat.le_of_ble_eq_true rfl) (hl : (rest.map fun v => v.category).sum + (maxL + 11) + rm.locals ≤ R.locals := by exact Nat.le_of_ble_eq_true rfl) (hc : cells + rm.cells ≤ R.cells := by exact Nat.le_of_ble_eq_true rfl) (hs : slots + rm.slots ≤ R.slots := by exact Nat.le_of_ble_eq_true rfl) :
    ∃ (v : Option Value) (T' : State) (L : List Loc), Stand p l e R s m args below meth c T' (locs ++ L) (cells + rm.cells) (slots + rm.slots) ∧ Q v T'.heap L ∧
      ∀ target, Steps p.tables e below (T'.setTop { g with pc := g.pc + 3, stack := v.toList ++ rest }) target → Steps p.tables e below (T.setTop g) target := by
  obtain ⟨kk, wk⟩ := V.2.2.1
  exact own_private X hx hZ hown V.1 V.2.1 wk V.2.2.2.1 V.2.2.2.2.1 V.2.2.2.2.2.1 V.2.2.2.2.2.2 _ hM hf hl E hg (hsize.trans hml.symm) hlen hstack (by rw [hmo, Nat.zero_add]; exact Nat.le_refl _) hdg eT hc hs
/-! arrays out of the case's words -/
theorem own_oxE {Y : Heap} (X : Ext Y h) (E : Ext h h') : Ext Y h' := ⟨Nat.le_trans X.1 E.1, fun a c q => E.2 a c (X.2 a c q)⟩
theorem own_oxK {Y : Heap} (X : Ext Y h) (K : Keep h h' ws) (q : ∀ x ∈ ws, Y.size ≤ x) : Ext Y h' := ⟨Nat.le_trans X.1 K.1, fun a c r => K.2.1 a c (X.2 a c r) fun z => absurd (Array.getElem?_eq_some_iff.mp r).1 (Nat.not_lt.mpr (q a z))⟩
theorem own_oxW {Y : Heap} {a : Addr} {sl : Nat} {v : Value} (X : Ext Y h) (W : Wr h h' a sl v) (q : Y.size ≤ a) : Ext Y h' := own_oxK X (Keep.of_wr W) (allS q all0)
theorem own_neI {t : Term} {x k : Int32} (ev : t.eval args s none [] s = some (.int x)) (h : (Cond.not (Cond.eq t (Term.int k))).value args s none s [] = some true) : ¬ (x = k) := by
  have q := not_v h
  intro e
  subst e
  simp [Cond.value, ev, Term.eval] at q
theorem own_subix {j k : Int32} {f : State} {o : Option Outcome} (nn : ¬ j < 0) : (Term.sub (Term.index 0) (Term.int k)).eval args f o [j.toNatClampNeg] s = some (.int (j - k)) := by
  have q : (Term.index 0).eval args f o [j.toNatClampNeg] s = some (.int j) := idx_at nn
  simp only [Term.eval] at q ⊢
  have q2 : j.toNatClampNeg.toInt32 = j := by simpa using q
  simp [q2]
theorem own_evI {t : Term} {k : Int32} (h : (Cond.eq t (Term.int k)).value args s none s [] = some true) : t.eval args s none [] s = some (.int k) := by
  cases ht : t.eval args s none [] s with
  | none => simp [Cond.value, ht] at h
  | some x => cases x <;> simp [Cond.value, ht, Term.eval] at h ⊢; exact h
theorem own_evR {t u : Term} {b : Addr} (eu : u.eval args s none [] s = some (.ref b)) (h : (Cond.eq t u).value args s none s [] = some true) : t.eval args s none [] s = some (.ref b) := by
  cases ht : t.eval args s none [] s with
  | none => simp [Cond.value, ht] at h
  | some x => cases x <;> simp [Cond.value, ht, eu] at h ⊢; exact h
theorem own_arr {t : Term} {ty : FieldType} {a : Addr} (ev : t.eval args s none [] s = some (.ref a)) (h : (Cond.arrayOf t ty).value args s none s [] = some true) : ∃ cl, Arr s s.heap a cl ty := Arr.start ev h
theorem own_len {t : Term} {ty : FieldType} {a : Addr} {cl : Cell} {n : Int32} (ev : t.eval args s none [] s = some (.ref a)) (A : Arr s s.heap a cl ty) (h : (Cond.eq (Term.length t) (Term.int n)).value args s none s [] = some true) : cl.slots.size < 2 ^ 31 ∧ cl.slots.size.toInt32 = n := by
  have ha : s.arrayAt? a = some cl := A.fin (Vm.Alike.refl _)
  by_cases hl : cl.slots.size < 2 ^ 31
  · refine ⟨hl, ?_⟩
    have q := len_f (args := args) (first := s) (o := none) (idx := []) ev ha hl
    simp only [Cond.value, q, Term.int_eval] at h
    simpa using h
  · exfalso
    simp [Cond.value, Term.eval, ev, ha, hl] at h
theorem own_elem {t u : Term} {ty : FieldType} {a : Addr} {cl : Cell} {j : Int32} {v : Value} (ev : t.eval args s none [] s = some (.ref a)) (A : Arr s s.heap a cl ty) (eu : u.eval args s none [] s = some v) (hv : ∀ w, (Cond.eq (Term.elem t (Term.int j)) u).value args s none s [] = some true → (Term.elem t (Term.int j)).eval args s none [] s = some w → w = v)
    (h : (Cond.eq (Term.elem t (Term.int j)) u).value args s none s [] = some true) : cl.slots[j.toNatClampNeg]? = some v := by
  obtain ⟨x, w, h1, h2, -⟩ := cmp_v (Or.inl h)
  have q := (elem_in h1 ev rfl A.1).2
  rw [hv x h h1] at q
  exact q
theorem own_elemI {t : Term} {ty : FieldType} {a : Addr} {cl : Cell} {j k : Int32} (ev : t.eval args s none [] s = some (.ref a)) (A : Arr s s.heap a cl ty)
    (h : (Cond.eq (Term.elem t (Term.int j)) (Term.int k)).value args s none s [] = some true) : cl.slots[j.toNatClampNeg]? = some (.int k) :=
  own_elem ev A (Term.int_eval k) (fun w q r => by simp only [Cond.value, r, Term.int_eval] at q; cases w <;> simp at q ⊢; exact q) h
theorem own_elemR {t u : Term} {ty : FieldType} {a b : Addr} {cl : Cell} {j : Int32} (ev : t.eval args s none [] s = some (.ref a)) (A : Arr s s.heap a cl ty) (eu : u.eval args s none [] s = some (.ref b))
    (h : (Cond.eq (Term.elem t (Term.int j)) u).value args s none s [] = some true) : cl.slots[j.toNatClampNeg]? = some (.ref b) :=
  own_elem ev A eu (fun w q r => by simp only [Cond.value, r, eu] at q; cases w <;> simp at q ⊢; exact q) h
end Own2
end Jvm.RoadKit
namespace Jvm.Pilot.@@N@@
open Jvm Jvm.ClassFile Sem Op Lib Jvm.Free Jvm.Stand Jvm.LawKit Jvm.RoadKit Bundle Jvm.Pilot.@@N@@.Jvm.D
theorem own_ch (x : Int32) : ¬ ((255 : Int32) < ((x &&& (255 : Int32)).toUInt32.toUInt16.toUInt32.toInt32)) := by
  have h1 := c_mask x 255 8 (by decide) (by decide)
  have h2 := c_i2c (x &&& (255 : Int32))
  intro h
  rw [Int32.lt_iff_toInt_lt] at h
  have h3 : (255 : Int32).toInt = 255 := by decide
  omega
theorem own_ix1 {x : Int32} (h1 : ¬ (x < (-128 : Int32))) (h2 : ¬ ((127 : Int32) < x)) : ¬ ((x + (128 : Int32)) < (0 : Int32)) := by
  rw [Int32.lt_iff_toInt_lt] at *
  have q := c_iadd x 128
  have r := rng32 (x + 128)
  have e1 : (-128 : Int32).toInt = -128 := by decide
  have e2 : (127 : Int32).toInt = 127 := by decide
  have e3 : (128 : Int32).toInt = 128 := by decide
  have e4 : (0 : Int32).toInt = 0 := by decide
  omega
theorem own_ix2 {x : Int32} (h1 : ¬ (x < (-128 : Int32))) (h2 : ¬ ((127 : Int32) < x)) : (x + (128 : Int32)) < (256 : Int32) := by
  rw [Int32.lt_iff_toInt_lt] at *
  have q := c_iadd x 128
  have r := rng32 (x + 128)
  have e1 : (-128 : Int32).toInt = -128 := by decide
  have e2 : (127 : Int32).toInt = 127 := by decide
  have e3 : (128 : Int32).toInt = 128 := by decide
  have e4 : (256 : Int32).toInt = 256 := by decide
  omega
def own_Q0 (n0 : Nat) (v : Option Value) (h : Heap) (L : List Loc) : Prop := v = some (.int 1) ∧ Fr n0 L
theorem own_d1_0 : decode jdk_42_method_139_code 0 = .ok (.getstatic 38, 3) := by decide +kernel
theorem own_d1_3 : decode jdk_42_method_139_code 3 = .ok (.ifCond .eq 23, 3) := by decide +kernel
theorem own_d1_6 : decode jdk_42_method_139_code 6 = .ok (.iload_n 0, 1) := by decide +kernel
theorem own_d1_7 : decode jdk_42_method_139_code 7 = .ok (.invokestatic 1015, 3) := by decide +kernel
theorem own_d2_0 : decode jdk_43_method_3_code 0 = .ok (.iload_n 0, 1) := by decide +kernel
theorem own_d2_1 : decode jdk_43_method_3_code 1 = .ok (.sipush 255, 3) := by decide +kernel
theorem own_d2_4 : decode jdk_43_method_3_code 4 = .ok (.if_icmp .gt 7, 3) := by decide +kernel
theorem own_d2_7 : decode jdk_43_method_3_code 7 = .ok (.iconst 1, 1) := by decide +kernel
theorem own_d2_8 : decode jdk_43_method_3_code 8 = .ok (.goto 4, 3) := by decide +kernel
theorem own_d2_12 : decode jdk_43_method_3_code 12 = .ok (.ireturn, 1) := by decide +kernel
theorem own_pn0 : plainName "java/lang/StringLatin1" = true := by first | (simp [plainName, overriddenIn]; done) | decide +kernel
theorem own_ef17 (m : MethodId) (x0 : Int32) : entryFrame m #[(.int x0)] 1 = mkF m 0 #[.val (.int x0)] [] := by first | (simp [entryFrame, mkF, argsToLocals, Value.category]; done) | rfl
set_option maxRecDepth 65536 in
set_option maxHeartbeats 40000000 in
theorem own_rm17 (l : Launch) (Z : State) (a0 : Array Value) (hw : ∀ d ∈ tables_1, d.before a0 Z = true) (h0 : Heap) (p18 : Int32) (hp20 : ¬ ((255 : Int32) < p18)) :
    own_Con l Z (⟨"java/lang/StringLatin1", "canEncode", "(C)Z"⟩ : MethodName) jdk_43_method_3_code 1 (some .boolean) ({ frames := 0, cells := 0, slots := 0, locals := 0 } : Room) #[(.int p18)] h0 (own_QP (some (.int (1 : Int32))) h0) := by
  refine MetFree.of_bodySF (plainFor_of_name own_pn0) hisR ?_
  intro p e s m args below meth c s₁ Bd hml0 hP hK
  obtain ⟨rfl, hZ, hh⟩ := hP
  have hx := Bd.exec
  have hby := Bd.bytes
  have hml : c.maxLocals = 1 := hml0
  have hown : s.vm.findClass "java/lang/StringLatin1" = some m.cls := findClass_of_methodNamed Bd.named
  have hnm := (name_of_methodNamed Bd.named Bd.method).1
  have X0 : Stand p l e ({ frames := 0, cells := 0, slots := 0, locals := 0 } : Room) s m #[(.int p18)] below meth c s₁ [] 0 0 := Stand.of_body Bd
  have e0 : s₁.heap = h0 := by rw [← hh, Bd.state]; rfl
  have K0 : own_Kp h0 h0 [] [] := own_kpRefl _ _
  show own_Go p e below (own_K s (own_QP (some (.int (1 : Int32))) h0) 0 0) s₁ (entryFrame m #[(.int p18)] 1)
  rw [own_ef17]
  refine own_go (T2 := s₁) (g2 := (mkF m 12 #[.val (.int p18)] [(.int (1 : Int32))])) (fun t k => XS.iloadN X0.here hx rfl (hb hby own_d2_0) rfl  (XS.sipush X0.here hx rfl (hb hby own_d2_1) (XS.icmpNo X0.here hx rfl (hb hby own_d2_4) rfl (flt (show ¬ ((255 : Int32) < p18) from hp20)).2.2.1 (XS.iconst X0.here hx rfl (hb hby own_d2_7) (XS.goto X0.here hx rfl (pc0 := 8) (pc' := 12) rfl (hb hby own_d2_8) (by decide) (by decide) k))))) ?_
  exact own_endN X0 hx Bd.notSynchronized (t := .boolean) Bd.returns (by simp) (hb hby own_d2_12) (z' := (1 : Int32)) rfl (by decide) (by decide) ⟨rfl, rfl, e0⟩
theorem own_pd0 : parseMethodDescriptor "(C)Z" = some ⟨[.char], some .boolean⟩ := by decide +kernel
theorem own_w21 {Z : State} {a0 : Array Value} (hw : ∀ d ∈ tables_1, d.before a0 Z = true) : own_SW Z a0 "java/lang/String" 1015 (⟨"java/lang/StringLatin1", "canEncode", "(C)Z"⟩ : MethodName) jdk_43_method_3_code 1 (some .boolean) := ⟨(own_wd hw 5 rfl), (own_wd hw 6 rfl), (own_wd hw 7 rfl), (own_wd hw 8 rfl), (by decide)⟩
theorem own_d1_10 : decode jdk_42_method_139_code 10 = .ok (.ifCond .eq 16, 3) := by decide +kernel
theorem own_d1_13 : decode jdk_42_method_139_code 13 = .ok (.new 10, 3) := by decide +kernel
theorem own_d1_16 : decode jdk_42_method_139_code 16 = .ok (.dup, 1) := by decide +kernel
theorem own_d1_17 : decode jdk_42_method_139_code 17 = .ok (.iload_n 0, 1) := by decide +kernel
theorem own_d1_18 : decode jdk_42_method_139_code 18 = .ok (.invokestatic 1018, 3) := by decide +kernel
theorem own_d3_0 : decode jdk_43_method_46_code 0 = .ok (.iconst 1, 1) := by decide +kernel
theorem own_d3_1 : decode jdk_43_method_46_code 1 = .ok (.newarray .byte, 2) := by decide +kernel
theorem own_d3_3 : decode jdk_43_method_46_code 3 = .ok (.dup, 1) := by decide +kernel
theorem own_d3_4 : decode jdk_43_method_46_code 4 = .ok (.iconst 0, 1) := by decide +kernel
theorem own_d3_5 : decode jdk_43_method_46_code 5 = .ok (.iload_n 0, 1) := by decide +kernel
theorem own_d3_6 : decode jdk_43_method_46_code 6 = .ok (.i2b, 1) := by decide +kernel
theorem own_d3_7 : decode jdk_43_method_46_code 7 = .ok (.bastore, 1) := by decide +kernel
theorem own_d3_8 : decode jdk_43_method_46_code 8 = .ok (.areturn, 1) := by decide +kernel
def own_Q26 (Z : State) (h0 : Heap) (p27 : Int32) (v : Option Value) (h : Heap) (L : List Loc) : Prop := ∃ (b28 : Addr) (k28 : ClassId), v = (some (.ref b28)) ∧ own_Kp h0 h [] L ∧ h0.size ≤ b28 ∧ Arv Z h b28 k28 .byte (1 : Int32) [(.int (p27.toInt8.toInt32).toInt8.toInt32)] (.int (0 : Int32))
theorem own_ef26 (m : MethodId) (x0 : Int32) : entryFrame m #[(.int x0)] 1 = mkF m 0 #[.val (.int x0)] [] := by first | (simp [entryFrame, mkF, argsToLocals, Value.category]; done) | rfl
set_option maxRecDepth 65536 in
set_option maxHeartbeats 40000000 in
theorem own_rm26 (l : Launch) (Z : State) (a0 : Array Value) (hw : ∀ d ∈ tables_1, d.before a0 Z = true) (h0 : Heap) (p27 : Int32)  :
    own_Con l Z (⟨"java/lang/StringLatin1", "toBytes", "(C)[B"⟩ : MethodName) jdk_43_method_46_code 1 (some (.array .byte)) ({ frames := 0, cells := 1, slots := 1, locals := 0 } : Room) #[(.int p27)] h0 (own_Q26 Z h0 p27) := by
  refine MetFree.of_bodySF (plainFor_of_name own_pn0) hisR ?_
  intro p e s m args below meth c s₁ Bd hml0 hP hK
  obtain ⟨rfl, hZ, hh⟩ := hP
  have hx := Bd.exec
  have hby := Bd.bytes
  have hml : c.maxLocals = 1 := hml0
  have hown : s.vm.findClass "java/lang/StringLatin1" = some m.cls := findClass_of_methodNamed Bd.named
  have hnm := (name_of_methodNamed Bd.named Bd.method).1
  have X0 : Stand p l e ({ frames := 0, cells := 1, slots := 1, locals := 0 } : Room) s m #[(.int p27)] below meth c s₁ [] 0 0 := Stand.of_body Bd
  have e0 : s₁.heap = h0 := by rw [← hh, Bd.state]; rfl
  have K0 : own_Kp h0 h0 [] [] := own_kpRefl _ _
  show own_Go p e below (own_K s (own_Q26 Z h0 p27) 1 1) s₁ (entryFrame m #[(.int p27)] 1)
  rw [own_ef26]
  obtain ⟨T28, h28, k28, X28, e28, E28, A28, st28⟩ := newP X0 hx hZ (own_wd hw 14 rfl) e0 (g := (mkF m 1 #[.val (.int p27)] [(.int (1 : Int32))])) rfl (hb hby own_d3_1) rfl (by decide) (cap := 1) (by decide) (by decide) (by decide) (by decide)
  obtain ⟨b28, g28⟩ : ∃ z, z = h0.size := ⟨_, rfl⟩
  rw [← g28] at A28 st28
  have z_E28 : h0.size ≤ h28.size := E28.1
  have lo_b28 : h0.size ≤ b28 := Nat.le_of_eq g28.symm
  have sz_b28 : h0.size ≤ b28 := Nat.le_trans K0.1.1 lo_b28
  have K28 := own_kpExt K0 E28
  have V28 : Arv Z h28 b28 k28 .byte (1 : Int32) [(.int (0 : Int32))] (.int (0 : Int32)) := (Arv.new A28 (by decide)).pad (pad_rep [] (.int (0 : Int32)) 1)
  obtain ⟨cl29, Ar29, q29, S29, N29, H29, G29⟩ := id V28
  have hin29 : ¬ ((0 : Int32) < 0 ∨ cl29.slots.size ≤ ((0 : Int32)).toNatClampNeg) := inb_of S29 ⟨by decide, by decide⟩
  obtain ⟨T29, h29, X29, e29, W29, st29⟩ := stB X28 hx hZ e28 Ar29 (j := (0 : Int32)) hin29 (g := (mkF m 7 #[.val (.int p27)] [(.int (p27.toInt8.toInt32)), (.int (0 : Int32)), (.ref b28), (.ref b28)])) rfl rfl (hb hby own_d3_7)
  have V29 : Arv Z h29 b28 k28 .byte (1 : Int32) [(.int (p27.toInt8.toInt32).toInt8.toInt32)] (.int (0 : Int32)) := Arv.set Ar29 q29 S29 N29 H29 G29 (fits_nar_byte (p27.toInt8.toInt32)) W29 0 rfl (Nat.le_of_ble_eq_true rfl)
  have K29 := own_kpWr K28 W29 (Or.inr sz_b28)
  have z_W29 : h28.size ≤ h29.size := Nat.le_of_eq W29.size.symm
  refine own_go (T2 := T29) (g2 := (mkF m 8 #[.val (.int p27)] [(.ref b28)])) (fun t k => XS.iconst X0.here hx rfl (hb hby own_d3_0) (st28 _ (XS.dup X28.here hx rfl (hb hby own_d3_3) rfl rfl (XS.iconst X28.here hx rfl (hb hby own_d3_4) (XS.iloadN X28.here hx rfl (hb hby own_d3_5) rfl  (XS.i2b X28.here hx rfl (hb hby own_d3_6) rfl (st29 _ k))))))) ?_
  exact own_endR X29 hx Bd.notSynchronized Bd.returns rfl rfl (hb hby own_d3_8) (by decide) (by decide) (by rw [e29]; exact ⟨b28, k28, rfl, (by simpa only [List.append_nil] using K29), sz_b28, V29⟩)
theorem own_pd1 : parseMethodDescriptor "(C)[B" = some ⟨[.char], some (.array .byte)⟩ := by decide +kernel
theorem own_w33 {Z : State} {a0 : Array Value} (hw : ∀ d ∈ tables_1, d.before a0 Z = true) : own_SW Z a0 "java/lang/String" 1018 (⟨"java/lang/StringLatin1", "toBytes", "(C)[B"⟩ : MethodName) jdk_43_method_46_code 1 (some (.array .byte)) := ⟨(own_wd hw 11 rfl), (own_wd hw 12 rfl), (own_wd hw 7 rfl), (own_wd hw 13 rfl), (by decide)⟩
theorem own_d1_21 : decode jdk_42_method_139_code 21 = .ok (.iconst 0, 1) := by decide +kernel
theorem own_d1_22 : decode jdk_42_method_139_code 22 = .ok (.invokespecial 209, 3) := by decide +kernel
theorem own_d4_0 : decode jdk_42_method_151_code 0 = .ok (.aload_n 0, 1) := by decide +kernel
theorem own_d4_1 : decode jdk_42_method_151_code 1 = .ok (.invokespecial 1, 3) := by decide +kernel
theorem own_d4_4 : decode jdk_42_method_151_code 4 = .ok (.aload_n 0, 1) := by decide +kernel
theorem own_d4_5 : decode jdk_42_method_151_code 5 = .ok (.aload_n 1, 1) := by decide +kernel
theorem own_d4_6 : decode jdk_42_method_151_code 6 = .ok (.putfield 9, 3) := by decide +kernel
theorem own_d4_9 : decode jdk_42_method_151_code 9 = .ok (.aload_n 0, 1) := by decide +kernel
theorem own_d4_10 : decode jdk_42_method_151_code 10 = .ok (.iload_n 2, 1) := by decide +kernel
theorem own_d4_11 : decode jdk_42_method_151_code 11 = .ok (.putfield 15, 3) := by decide +kernel
theorem own_d4_14 : decode jdk_42_method_151_code 14 = .ok (.return_, 1) := by decide +kernel
def own_Q35 (Z : State) (h0 : Heap) (a36 : Addr) (a37 : Addr) (v : Option Value) (h : Heap) (L : List Loc) : Prop := v = none ∧ own_Kp h0 h [a36] L ∧ Fld Z h a36 "java/lang/String" "value" "[B" (.ref a37) ∧ Fld Z h a36 "java/lang/String" "coder" "B" (.int (0 : Int32))
theorem own_pn1 : plainName "java/lang/String" = true := by first | (simp [plainName, overriddenIn]; done) | decide +kernel
theorem own_ef35 (m : MethodId) (x0 : Addr) (x1 : Addr) : entryFrame m #[(.ref x0), (.ref x1), (.int (0 : Int32))] 3 = mkF m 0 #[.val (.ref x0), .val (.ref x1), .val (.int (0 : Int32))] [] := by first | (simp [entryFrame, mkF, argsToLocals, Value.category]; done) | rfl
set_option maxRecDepth 65536 in
set_option maxHeartbeats 40000000 in
theorem own_rm35 (l : Launch) (Z : State) (a0 : Array Value) (hw : ∀ d ∈ tables_1, d.before a0 Z = true) (h0 : Heap) (a36 : Addr) (a37 : Addr) (E40 : Exa Z h0 a36 "java/lang/String") (F42 : Fld Z h0 a36 "java/lang/String" "value" "[B" .null) (F45 : Fld Z h0 a36 "java/lang/String" "coder" "B" (.int (0 : Int32))) :
    own_Con l Z (⟨"java/lang/String", "<init>", "([BB)V"⟩ : MethodName) jdk_42_method_151_code 3 none ({ frames := 1, cells := 0, slots := 0, locals := 12 } : Room) #[(.ref a36), (.ref a37), (.int (0 : Int32))] h0 (own_Q35 Z h0 a36 a37) := by
  refine MetFree.of_bodySF (plainFor_of_name own_pn1) hisR ?_
  intro p e s m args below meth c s₁ Bd hml0 hP hK
  obtain ⟨rfl, hZ, hh⟩ := hP
  have hx := Bd.exec
  have hby := Bd.bytes
  have hml : c.maxLocals = 3 := hml0
  have hown : s.vm.findClass "java/lang/String" = some m.cls := findClass_of_methodNamed Bd.named
  have hnm := (name_of_methodNamed Bd.named Bd.method).1
  have X0 : Stand p l e ({ frames := 1, cells := 0, slots := 0, locals := 12 } : Room) s m #[(.ref a36), (.ref a37), (.int (0 : Int32))] below meth c s₁ [] 0 0 := Stand.of_body Bd
  have e0 : s₁.heap = h0 := by rw [← hh, Bd.state]; rfl
  have K0 : own_Kp h0 h0 [a36] [] := own_kpRefl _ _
  show own_Go p e below (own_K s (own_Q35 Z h0 a36 a37) 0 0) s₁ (entryFrame m #[(.ref a36), (.ref a37), (.int (0 : Int32))] 3)
  rw [own_ef35]
  obtain ⟨T38, X38, e38, st38⟩ := initO X0 hx hZ hown (own_wd hw 19 rfl) (own_wd hw 20 rfl) (own_wd hw 21 rfl) e0 (g := (mkF m 1 #[.val (.ref a36), .val (.ref a37), .val (.int (0 : Int32))] [(.ref a36)])) rfl (by rw [hml]; rfl) rfl (hb hby own_d4_1) (by decide) (W := 0) (by show 2 * 0 + _ ≤ _; exact Nat.le_of_eq rfl) (by decide)
  obtain ⟨T43, h43, X43, e43, W43, st43⟩ := putF X38 hx hZ hown (host := "") (Or.inl (own_wd hw 22 rfl)) Via.refl e38 F42 E40 (Or.inr ⟨(own_wd hw 23 rfl), rfl, hnm⟩) (own_wd hw 10 rfl) (ty := (.array .byte)) (by decide) rfl rfl (g := (mkF m 6 #[.val (.ref a36), .val (.ref a37), .val (.int (0 : Int32))] [(.ref a37), (.ref a36)])) rfl rfl (hb hby own_d4_6)
  have F43 : Fld Z h43 a36 "java/lang/String" "value" "[B" (.ref a37) := Fld.same W43 F42
  have K43 := own_kpWr K0 W43 (Or.inl (List.mem_of_getElem? (i := 0) rfl))
  have z_W43 : h0.size ≤ h43.size := Nat.le_of_eq W43.size.symm
  have F46 : Fld Z h43 a36 "java/lang/String" "coder" "B" (.int (0 : Int32)) := (Fld.other W43 F45 (Or.inr (slot_ne (Or.inr (own_wd hw 25 rfl)) (Or.inr (own_wd hw 23 rfl)) (by decide) (t := .byte) (t' := (.array .byte)) (by decide) (by decide))))
  have E47 : Exa Z h43 a36 "java/lang/String" := (Exa.wr W43 E40)
  obtain ⟨T48, h48, X48, e48, W48, st48⟩ := putFN X43 hx hZ hown (own_wd hw 24 rfl) Via.refl e43 F46 E47 (Or.inr ⟨(own_wd hw 25 rfl), rfl, hnm⟩) (own_wd hw 10 rfl) (ty := .byte) (v' := (.int (0 : Int32))) (by decide) rfl (fits_nar_byte (0 : Int32)) (g := (mkF m 11 #[.val (.ref a36), .val (.ref a37), .val (.int (0 : Int32))] [(.int (0 : Int32)), (.ref a36)])) rfl rfl (hb hby own_d4_11)
  have F48 : Fld Z h48 a36 "java/lang/String" "coder" "B" (.int (0 : Int32)) := Fld.same W48 F46
  have K48 := own_kpWr K43 W48 (Or.inl (List.mem_of_getElem? (i := 0) rfl))
  have z_W48 : h43.size ≤ h48.size := Nat.le_of_eq W48.size.symm
  have F49 : Fld Z h48 a36 "java/lang/String" "value" "[B" (.ref a37) := (Fld.other W48 F43 (Or.inr (slot_ne (Or.inr (own_wd hw 23 rfl)) (Or.inr (own_wd hw 25 rfl)) (by decide) (t := (.array .byte)) (t' := .byte) (by decide) (by decide))))
  refine own_go (T2 := T48) (g2 := (mkF m 14 #[.val (.ref a36), .val (.ref a37), .val (.int (0 : Int32))] [])) (fun t k => XS.aloadN X0.here hx rfl (hb hby own_d4_0) rfl rfl (st38 _ (XS.aloadN X38.here hx rfl (hb hby own_d4_4) rfl rfl (XS.aloadN X38.here hx rfl (hb hby own_d4_5) rfl rfl (st43 _ (XS.aloadN X43.here hx rfl (hb hby own_d4_9) rfl rfl (XS.iloadN X43.here hx rfl (hb hby own_d4_10) rfl  (st48 _ k)))))))) ?_
  exact own_endV X48 hx Bd.notSynchronized Bd.returns (hb hby own_d4_14) (by decide) (by decide) (by rw [e48]; exact ⟨rfl, (by simpa only [List.append_nil] using K48), F49, F48⟩)
theorem own_pd2 : parseMethodDescriptor "([BB)V" = some ⟨[(.array .byte), .byte], none⟩ := by decide +kernel
theorem own_w52 {Z : State} {a0 : Array Value} (hw : ∀ d ∈ tables_1, d.before a0 Z = true) : own_IW Z a0 "java/lang/String" 209 (⟨"java/lang/String", "<init>", "([BB)V"⟩ : MethodName) jdk_42_method_151_code 3 := ⟨rfl, (own_wd hw 15 rfl), (own_wd hw 16 rfl), (own_wd hw 2 rfl), (own_wd hw 18 rfl), (by decide)⟩
theorem own_d1_25 : decode jdk_42_method_139_code 25 = .ok (.areturn, 1) := by decide +kernel
def own_Q10 (Z : State) (h0 : Heap) (p11 : Int32) (p12 : Int32) (v : Option Value) (h : Heap) (L : List Loc) : Prop := ∃ (b22 : Addr) (b30 : Addr) (k31 : ClassId), v = (some (.ref b22)) ∧ own_Kp h0 h [] L ∧ h0.size ≤ b22 ∧ h0.size ≤ b30 ∧ b22 ≠ b30 ∧ Exa Z h b22 "java/lang/String" ∧ Fld Z h b22 "java/lang/String" "value" "[B" (.ref b30) ∧ Fld Z h b22 "java/lang/String" "coder" "B" (.int (0 : Int32)) ∧ Arv Z h b30 k31 .byte (1 : Int32) [(.int (p11.toInt8.toInt32).toInt8.toInt32)] (.int (0 : Int32))
theorem own_ef10 (m : MethodId) (x0 : Int32) : entryFrame m #[(.int x0)] 1 = mkF m 0 #[.val (.int x0)] [] := by first | (simp [entryFrame, mkF, argsToLocals, Value.category]; done) | rfl
set_option maxRecDepth 65536 in
set_option maxHeartbeats 40000000 in
theorem own_rm10 (l : Launch) (Z : State) (a0 : Array Value) (hw : ∀ d ∈ tables_1, d.before a0 Z = true) (h0 : Heap) (p11 : Int32) (p12 : Int32) (S13 : Sta Z h0 "java/lang/String" "COMPACT_STRINGS" "Z" (.int p12)) (hp15 : ¬ (p12 = (0 : Int32))) (hp19 : ¬ ((255 : Int32) < p11)) :
    own_Con l Z (⟨"java/lang/String", "valueOf", "(C)Ljava/lang/String;"⟩ : MethodName) jdk_42_method_139_code 1 (some (.object "java/lang/String")) ({ frames := 2, cells := 2, slots := 5, locals := 27 } : Room) #[(.int p11)] h0 (own_Q10 Z h0 p11 p12) := by
  refine MetFree.of_bodySF (plainFor_of_name own_pn1) hisR ?_
  intro p e s m args below meth c s₁ Bd hml0 hP hK
  obtain ⟨rfl, hZ, hh⟩ := hP
  have hx := Bd.exec
  have hby := Bd.bytes
  have hml : c.maxLocals = 1 := hml0
  have hown : s.vm.findClass "java/lang/String" = some m.cls := findClass_of_methodNamed Bd.named
  have hnm := (name_of_methodNamed Bd.named Bd.method).1
  have X0 : Stand p l e ({ frames := 2, cells := 2, slots := 5, locals := 27 } : Room) s m #[(.int p11)] below meth c s₁ [] 0 0 := Stand.of_body Bd
  have e0 : s₁.heap = h0 := by rw [← hh, Bd.state]; rfl
  have K0 : own_Kp h0 h0 [] [] := own_kpRefl _ _
  show own_Go p e below (own_K s (own_Q10 Z h0 p11 p12) 2 5) s₁ (entryFrame m #[(.int p11)] 1)
  rw [own_ef10]
  obtain ⟨T14, X14, e14, st14⟩ := getS2 X0 hx hZ hown (host := "") (Or.inl (own_wd hw 4 rfl)) Via.refl e0 S13 (g := (mkF m 0 #[.val (.int p11)] [])) rfl (hb hby own_d1_0)
  obtain ⟨_, T16, L16, X16, ⟨rfl, rfl, e16⟩, st16⟩ := own_cs X14 hx hZ hown (own_w21 hw) hml (g := (mkF m 7 #[.val (.int p11)] [(.int p11)])) (hb hby own_d1_7) e14 [(.int p11)] [] (lenOf own_pd0 rfl) (own_rm17 l Z a0 hw h0 p11 hp19)
  obtain ⟨T22, h22, X22, e22, E22, A22, D22, -, st22⟩ := newO X16 hx hZ hown (own_wd hw 9 rfl) (own_wd hw 10 rfl) (own_wd hw 2 rfl) e16 (g := (mkF m 13 #[.val (.int p11)] [])) rfl (hb hby own_d1_13) (by decide) (by decide)
  obtain ⟨b22, g22⟩ : ∃ z, z = h0.size := ⟨_, rfl⟩
  rw [← g22] at A22 D22 st22
  have z_E22 : h0.size ≤ h22.size := E22.1
  have lo_b22 : h0.size ≤ b22 := Nat.le_of_eq g22.symm
  have sz_b22 : h0.size ≤ b22 := Nat.le_trans K0.1.1 lo_b22
  have K22 := own_kpExt K0 E22
  have F23 : Fld Z h22 b22 "java/lang/String" "value" "[B" .null := D22 (Or.inr (own_wd hw 23 rfl)) (ty := (.array .byte)) (by decide)
  have F24 : Fld Z h22 b22 "java/lang/String" "coder" "B" (.int (0 : Int32)) := D22 (Or.inr (own_wd hw 25 rfl)) (ty := .byte) (by decide)
  obtain ⟨_, T25, L25, X25, ⟨b30, k31, rfl, K25c, lo_b30, A32⟩, st25⟩ := own_cs X22 hx hZ hown (own_w33 hw) hml (g := (mkF m 18 #[.val (.int p11)] [(.int p11), (.ref b22), (.ref b22)])) (hb hby own_d1_18) e22 [(.int p11)] [(.ref b22), (.ref b22)] (lenOf own_pd1 rfl) (own_rm26 l Z a0 hw h22 p11 )
  have z_K25c : h22.size ≤ T25.heap.size := K25c.1.1
  have sz_b30 : h0.size ≤ b30 := Nat.le_trans K22.1.1 lo_b30
  have K25 := own_kpTrans K22 K25c all0
  have E39 : Exa Z T25.heap b22 "java/lang/String" := (Exa.keep A22 K25c.1)
  have F41 : Fld Z T25.heap b22 "java/lang/String" "value" "[B" .null := (Fld.keep F23 K25c.1 nin0)
  have F44 : Fld Z T25.heap b22 "java/lang/String" "coder" "B" (.int (0 : Int32)) := (Fld.keep F24 K25c.1 nin0)
  obtain ⟨_, T34, L34, X34, ⟨rfl, K34c, F50, F51⟩, st34⟩ := own_ci X25 hx hZ hown (own_w52 hw) hml (g := (mkF m 22 #[.val (.int p11)] [(.int (0 : Int32)), (.ref b30), (.ref b22), (.ref b22)])) (hb hby own_d1_22) rfl (a := b22) [(.ref b30), (.int (0 : Int32))] [(.ref b22)] (lenOf own_pd2 rfl) (own_rm35 l Z a0 hw T25.heap b22 b30 E39 F41 F44)
  have z_K34c : T25.heap.size ≤ T34.heap.size := K34c.1.1
  have K34 := own_kpTrans K25 K34c (allS (Or.inr sz_b22) all0)
  have E53 : Exa Z T34.heap b22 "java/lang/String" := (Exa.keep E39 K34c.1)
  have ne54 : b22 ≠ b30 := Nat.ne_of_lt (Nat.lt_of_lt_of_le A22.lt (Nat.le_trans (Nat.le_refl _) lo_b30))
  have A55 : Arv Z T34.heap b30 k31 .byte (1 : Int32) [(.int (p11.toInt8.toInt32).toInt8.toInt32)] (.int (0 : Int32)) := (Arv.keep A32 K34c.1 (ninS (Ne.symm ne54) nin0))
  refine own_go (T2 := T34) (g2 := (mkF m 25 #[.val (.int p11)] [(.ref b22)])) (fun t k => st14 _ (XS.ifNo X14.here hx rfl (hb hby own_d1_3) rfl ((if0 _ _).trans (feq (show ¬ (p12 = (0 : Int32)) from hp15)).1) (XS.iloadN X14.here hx rfl (hb hby own_d1_6) rfl  (st16 _ (XS.ifNo X16.here hx rfl (hb hby own_d1_10) rfl ((if0 _ _).trans (feq (show ¬ ((1 : Int32) = (0 : Int32)) from (by decide))).1) (st22 _ (XS.dup X22.here hx rfl (hb hby own_d1_16) rfl rfl (XS.iloadN X22.here hx rfl (hb hby own_d1_17) rfl  (st25 _ (XS.iconst X25.here hx rfl (hb hby own_d1_21) (st34 _ k))))))))))) ?_
  exact own_endR X34 hx Bd.notSynchronized Bd.returns rfl rfl (hb hby own_d1_25) (by decide) (by decide) ⟨b22, b30, k31, rfl, (by simpa only [List.append_nil] using K34), sz_b22, sz_b30, ne54, E53, F50, F51, A55⟩
theorem own_pd3 : parseMethodDescriptor "(C)Ljava/lang/String;" = some ⟨[.char], some (.object "java/lang/String")⟩ := by decide +kernel
theorem own_w63 {Z : State} {a0 : Array Value} (hw : ∀ d ∈ tables_1, d.before a0 Z = true) : own_SW Z a0 "com/example/libentail/libentail/RolePairPinLaw" 7 (⟨"java/lang/String", "valueOf", "(C)Ljava/lang/String;"⟩ : MethodName) jdk_42_method_139_code 1 (some (.object "java/lang/String")) := ⟨(own_wd hw 0 rfl), (own_wd hw 1 rfl), (own_wd hw 2 rfl), (own_wd hw 3 rfl), (by decide)⟩
theorem own_d6_0 : decode jdk_33_method_22_code 0 = .ok (.iload_n 0, 1) := by decide +kernel
theorem own_d6_1 : decode jdk_33_method_22_code 1 = .ok (.bipush (-128), 2) := by decide +kernel
theorem own_d6_3 : decode jdk_33_method_22_code 3 = .ok (.if_icmp .lt 20, 3) := by decide +kernel
theorem own_d6_23 : decode jdk_33_method_22_code 23 = .ok (.new 1, 3) := by decide +kernel
theorem own_d6_26 : decode jdk_33_method_22_code 26 = .ok (.dup, 1) := by decide +kernel
theorem own_d6_27 : decode jdk_33_method_22_code 27 = .ok (.iload_n 0, 1) := by decide +kernel
theorem own_d6_28 : decode jdk_33_method_22_code 28 = .ok (.invokespecial 199, 3) := by decide +kernel
theorem own_d19_0 : decode jdk_33_method_23_code 0 = .ok (.aload_n 0, 1) := by decide +kernel
theorem own_d19_1 : decode jdk_33_method_23_code 1 = .ok (.invokespecial 202, 3) := by decide +kernel
theorem own_d20_0 : decode jdk_18_method_1_code 0 = .ok (.aload_n 0, 1) := by decide +kernel
theorem own_d20_1 : decode jdk_18_method_1_code 1 = .ok (.invokespecial 1, 3) := by decide +kernel
theorem own_d20_4 : decode jdk_18_method_1_code 4 = .ok (.return_, 1) := by decide +kernel
theorem own_pn2 : plainName "java/lang/Number" = true := by first | (simp [plainName, overriddenIn]; done) | decide +kernel
theorem own_ef89 (m : MethodId) (x0 : Addr) : entryFrame m #[(.ref x0)] 1 = mkF m 0 #[.val (.ref x0)] [] := by first | (simp [entryFrame, mkF, argsToLocals, Value.category]; done) | rfl
set_option maxRecDepth 65536 in
set_option maxHeartbeats 40000000 in
theorem own_rm89 (l : Launch) (Z : State) (a0 : Array Value) (hw : ∀ d ∈ tables_1, d.before a0 Z = true) (h0 : Heap) (a90 : Addr)  :
    own_Con l Z (⟨"java/lang/Number", "<init>", "()V"⟩ : MethodName) jdk_18_method_1_code 1 none ({ frames := 1, cells := 0, slots := 0, locals := 12 } : Room) #[(.ref a90)] h0 (own_QP none h0) := by
  refine MetFree.of_bodySF (plainFor_of_name own_pn2) hisR ?_
  intro p e s m args below meth c s₁ Bd hml0 hP hK
  obtain ⟨rfl, hZ, hh⟩ := hP
  have hx := Bd.exec
  have hby := Bd.bytes
  have hml : c.maxLocals = 1 := hml0
  have hown : s.vm.findClass "java/lang/Number" = some m.cls := findClass_of_methodNamed Bd.named
  have hnm := (name_of_methodNamed Bd.named Bd.method).1
  have X0 : Stand p l e ({ frames := 1, cells := 0, slots := 0, locals := 12 } : Room) s m #[(.ref a90)] below meth c s₁ [] 0 0 := Stand.of_body Bd
  have e0 : s₁.heap = h0 := by rw [← hh, Bd.state]; rfl
  have K0 : own_Kp h0 h0 [] [] := own_kpRefl _ _
  show own_Go p e below (own_K s (own_QP none h0) 0 0) s₁ (entryFrame m #[(.ref a90)] 1)
  rw [own_ef89]
  obtain ⟨T91, X91, e91, st91⟩ := initO X0 hx hZ hown (own_wd hw 127 rfl) (own_wd hw 20 rfl) (own_wd hw 21 rfl) e0 (g := (mkF m 1 #[.val (.ref a90)] [(.ref a90)])) rfl (by rw [hml]; rfl) rfl (hb hby own_d20_1) (by decide) (W := 0) (by show 2 * 0 + _ ≤ _; exact Nat.le_of_eq rfl) (by decide)
  refine own_go (T2 := T91) (g2 := (mkF m 4 #[.val (.ref a90)] [])) (fun t k => XS.aloadN X0.here hx rfl (hb hby own_d20_0) rfl rfl (st91 _ k)) ?_
  exact own_endV X91 hx Bd.notSynchronized Bd.returns (hb hby own_d20_4) (by decide) (by decide) ⟨rfl, rfl, e91⟩
theorem own_pd4 : parseMethodDescriptor "()V" = some ⟨[], none⟩ := by decide +kernel
theorem own_w92 {Z : State} {a0 : Array Value} (hw : ∀ d ∈ tables_1, d.before a0 Z = true) : own_IW Z a0 "java/lang/Integer" 202 (⟨"java/lang/Number", "<init>", "()V"⟩ : MethodName) jdk_18_method_1_code 1 := ⟨rfl, (own_wd hw 121 rfl), (own_wd hw 122 rfl), (own_wd hw 125 rfl), (own_wd hw 126 rfl), (by decide)⟩
theorem own_d19_4 : decode jdk_33_method_23_code 4 = .ok (.aload_n 0, 1) := by decide +kernel
theorem own_d19_5 : decode jdk_33_method_23_code 5 = .ok (.iload_n 1, 1) := by decide +kernel
theorem own_d19_6 : decode jdk_33_method_23_code 6 = .ok (.putfield 205, 3) := by decide +kernel
theorem own_d19_9 : decode jdk_33_method_23_code 9 = .ok (.return_, 1) := by decide +kernel
def own_Q85 (Z : State) (h0 : Heap) (a86 : Addr) (p87 : Int32) (v : Option Value) (h : Heap) (L : List Loc) : Prop := v = none ∧ own_Kp h0 h [a86] L ∧ Fld Z h a86 "java/lang/Integer" "value" "I" (.int p87)
theorem own_pn3 : plainName "java/lang/Integer" = true := by first | (simp [plainName, overriddenIn]; done) | decide +kernel
theorem own_ef85 (m : MethodId) (x0 : Addr) (x1 : Int32) : entryFrame m #[(.ref x0), (.int x1)] 2 = mkF m 0 #[.val (.ref x0), .val (.int x1)] [] := by first | (simp [entryFrame, mkF, argsToLocals, Value.category]; done) | rfl
set_option maxRecDepth 65536 in
set_option maxHeartbeats 40000000 in
theorem own_rm85 (l : Launch) (Z : State) (a0 : Array Value) (hw : ∀ d ∈ tables_1, d.before a0 Z = true) (h0 : Heap) (a86 : Addr) (p87 : Int32) (E93 : Exa Z h0 a86 "java/lang/Integer") (F94 : Fld Z h0 a86 "java/lang/Integer" "value" "I" (.int (0 : Int32))) :
    own_Con l Z (⟨"java/lang/Integer", "<init>", "(I)V"⟩ : MethodName) jdk_33_method_23_code 2 none ({ frames := 2, cells := 0, slots := 0, locals := 24 } : Room) #[(.ref a86), (.int p87)] h0 (own_Q85 Z h0 a86 p87) := by
  refine MetFree.of_bodySF (plainFor_of_name own_pn3) hisR ?_
  intro p e s m args below meth c s₁ Bd hml0 hP hK
  obtain ⟨rfl, hZ, hh⟩ := hP
  have hx := Bd.exec
  have hby := Bd.bytes
  have hml : c.maxLocals = 2 := hml0
  have hown : s.vm.findClass "java/lang/Integer" = some m.cls := findClass_of_methodNamed Bd.named
  have hnm := (name_of_methodNamed Bd.named Bd.method).1
  have X0 : Stand p l e ({ frames := 2, cells := 0, slots := 0, locals := 24 } : Room) s m #[(.ref a86), (.int p87)] below meth c s₁ [] 0 0 := Stand.of_body Bd
  have e0 : s₁.heap = h0 := by rw [← hh, Bd.state]; rfl
  have K0 : own_Kp h0 h0 [a86] [] := own_kpRefl _ _
  show own_Go p e below (own_K s (own_Q85 Z h0 a86 p87) 0 0) s₁ (entryFrame m #[(.ref a86), (.int p87)] 2)
  rw [own_ef85]
  obtain ⟨_, T88, L88, X88, ⟨rfl, rfl, e88⟩, st88⟩ := own_ci X0 hx hZ hown (own_w92 hw) hml (g := (mkF m 1 #[.val (.ref a86), .val (.int p87)] [(.ref a86)])) (hb hby own_d19_1) e0 (a := a86) [] [] (lenOf own_pd4 rfl) (own_rm89 l Z a0 hw h0 a86 )
  obtain ⟨T95, h95, X95, e95, W95, st95⟩ := putF X88 hx hZ hown (host := "") (Or.inl (own_wd hw 128 rfl)) Via.refl e88 F94 E93 (Or.inr ⟨(own_wd hw 129 rfl), rfl, hnm⟩) (own_wd hw 116 rfl) (ty := .int) (by decide) rfl rfl (g := (mkF m 6 #[.val (.ref a86), .val (.int p87)] [(.int p87), (.ref a86)])) rfl rfl (hb hby own_d19_6)
  have F95 : Fld Z h95 a86 "java/lang/Integer" "value" "I" (.int p87) := Fld.same W95 F94
  have K95 := own_kpWr K0 W95 (Or.inl (List.mem_of_getElem? (i := 0) rfl))
  have z_W95 : h0.size ≤ h95.size := Nat.le_of_eq W95.size.symm
  refine own_go (T2 := T95) (g2 := (mkF m 9 #[.val (.ref a86), .val (.int p87)] [])) (fun t k => XS.aloadN X0.here hx rfl (hb hby own_d19_0) rfl rfl (st88 _ (XS.aloadN X88.here hx rfl (hb hby own_d19_4) rfl rfl (XS.iloadN X88.here hx rfl (hb hby own_d19_5) rfl  (st95 _ k))))) ?_
  exact own_endV X95 hx Bd.notSynchronized Bd.returns (hb hby own_d19_9) (by decide) (by decide) (by rw [e95]; exact ⟨rfl, (by simpa only [List.append_nil] using K95), F95⟩)
theorem own_pd5 : parseMethodDescriptor "(I)V" = some ⟨[.int], none⟩ := by decide +kernel
theorem own_w97 {Z : State} {a0 : Array Value} (hw : ∀ d ∈ tables_1, d.before a0 Z = true) : own_IW Z a0 "java/lang/Integer" 199 (⟨"java/lang/Integer", "<init>", "(I)V"⟩ : MethodName) jdk_33_method_23_code 2 := ⟨rfl, (own_wd hw 117 rfl), (own_wd hw 118 rfl), (own_wd hw 28 rfl), (own_wd hw 120 rfl), (by decide)⟩
theorem own_d6_31 : decode jdk_33_method_22_code 31 = .ok (.areturn, 1) := by decide +kernel
def own_Q79 (Z : State) (h0 : Heap) (p80 : Int32) (v : Option Value) (h : Heap) (L : List Loc) : Prop := ∃ (b82 : Addr), v = (some (.ref b82)) ∧ own_Kp h0 h [] L ∧ h0.size ≤ b82 ∧ Exa Z h b82 "java/lang/Integer" ∧ Fld Z h b82 "java/lang/Integer" "value" "I" (.int p80)
theorem own_ef79 (m : MethodId) (x0 : Int32) : entryFrame m #[(.int x0)] 1 = mkF m 0 #[.val (.int x0)] [] := by first | (simp [entryFrame, mkF, argsToLocals, Value.category]; done) | rfl
set_option maxRecDepth 65536 in
set_option maxHeartbeats 40000000 in
theorem own_rm79 (l : Launch) (Z : State) (a0 : Array Value) (hw : ∀ d ∈ tables_1, d.before a0 Z = true) (h0 : Heap) (p80 : Int32) (hp81 : p80 < (-128 : Int32)) :
    own_Con l Z (⟨"java/lang/Integer", "valueOf", "(I)Ljava/lang/Integer;"⟩ : MethodName) jdk_33_method_22_code 1 (some (.object "java/lang/Integer")) ({ frames := 3, cells := 1, slots := 1, locals := 38 } : Room) #[(.int p80)] h0 (own_Q79 Z h0 p80) := by
  refine MetFree.of_bodySF (plainFor_of_name own_pn3) hisR ?_
  intro p e s m args below meth c s₁ Bd hml0 hP hK
  obtain ⟨rfl, hZ, hh⟩ := hP
  have hx := Bd.exec
  have hby := Bd.bytes
  have hml : c.maxLocals = 1 := hml0
  have hown : s.vm.findClass "java/lang/Integer" = some m.cls := findClass_of_methodNamed Bd.named
  have hnm := (name_of_methodNamed Bd.named Bd.method).1
  have X0 : Stand p l e ({ frames := 3, cells := 1, slots := 1, locals := 38 } : Room) s m #[(.int p80)] below meth c s₁ [] 0 0 := Stand.of_body Bd
  have e0 : s₁.heap = h0 := by rw [← hh, Bd.state]; rfl
  have K0 : own_Kp h0 h0 [] [] := own_kpRefl _ _
  show own_Go p e below (own_K s (own_Q79 Z h0 p80) 1 1) s₁ (entryFrame m #[(.int p80)] 1)
  rw [own_ef79]
  obtain ⟨T82, h82, X82, e82, E82, A82, D82, -, st82⟩ := newO X0 hx hZ hown (own_wd hw 115 rfl) (own_wd hw 116 rfl) (own_wd hw 28 rfl) e0 (g := (mkF m 23 #[.val (.int p80)] [])) rfl (hb hby own_d6_23) (by decide) (by decide)
  obtain ⟨b82, g82⟩ : ∃ z, z = h0.size := ⟨_, rfl⟩
  rw [← g82] at A82 D82 st82
  have z_E82 : h0.size ≤ h82.size := E82.1
  have lo_b82 : h0.size ≤ b82 := Nat.le_of_eq g82.symm
  have sz_b82 : h0.size ≤ b82 := Nat.le_trans K0.1.1 lo_b82
  have K82 := own_kpExt K0 E82
  have F83 : Fld Z h82 b82 "java/lang/Integer" "value" "I" (.int (0 : Int32)) := D82 (Or.inr (own_wd hw 129 rfl)) (ty := .int) (by decide)
  obtain ⟨_, T84, L84, X84, ⟨rfl, K84c, F96⟩, st84⟩ := own_ci X82 hx hZ hown (own_w97 hw) hml (g := (mkF m 28 #[.val (.int p80)] [(.int p80), (.ref b82), (.ref b82)])) (hb hby own_d6_28) e82 (a := b82) [(.int p80)] [(.ref b82)] (lenOf own_pd5 rfl) (own_rm85 l Z a0 hw h82 b82 p80 A82 F83)
  have z_K84c : h82.size ≤ T84.heap.size := K84c.1.1
  have K84 := own_kpTrans K82 K84c (allS (Or.inr sz_b82) all0)
  have E98 : Exa Z T84.heap b82 "java/lang/Integer" := (Exa.keep A82 K84c.1)
  refine own_go (T2 := T84) (g2 := (mkF m 31 #[.val (.int p80)] [(.ref b82)])) (fun t k => XS.iloadN X0.here hx rfl (hb hby own_d6_0) rfl  (XS.bipush X0.here hx rfl (hb hby own_d6_1) (XS.icmpYes X0.here hx rfl (pc0 := 3) (pc' := 23) rfl (hb hby own_d6_3) rfl (tlt (show p80 < (-128 : Int32) from hp81)).1 (by decide) (by decide) (st82 _ (XS.dup X82.here hx rfl (hb hby own_d6_26) rfl rfl (XS.iloadN X82.here hx rfl (hb hby own_d6_27) rfl  (st84 _ k))))))) ?_
  exact own_endR X84 hx Bd.notSynchronized Bd.returns rfl rfl (hb hby own_d6_31) (by decide) (by decide) ⟨b82, rfl, (by simpa only [List.append_nil] using K84), sz_b82, E98, F96⟩
theorem own_pd6 : parseMethodDescriptor "(I)Ljava/lang/Integer;" = some ⟨[.int], some (.object "java/lang/Integer")⟩ := by decide +kernel
theorem own_w102 {Z : State} {a0 : Array Value} (hw : ∀ d ∈ tables_1, d.before a0 Z = true) : own_SW Z a0 "com/example/libentail/libentail/RolePairPinLaw" 13 (⟨"java/lang/Integer", "valueOf", "(I)Ljava/lang/Integer;"⟩ : MethodName) jdk_33_method_22_code 1 (some (.object "java/lang/Integer")) := ⟨(own_wd hw 26 rfl), (own_wd hw 27 rfl), (own_wd hw 28 rfl), (own_wd hw 29 rfl), (by decide)⟩
theorem own_d7_0 : decode prog_13_method_1_code 0 = .ok (.aload_n 0, 1) := by decide +kernel
theorem own_d7_1 : decode prog_13_method_1_code 1 = .ok (.invokespecial 1, 3) := by decide +kernel
theorem own_d7_4 : decode prog_13_method_1_code 4 = .ok (.aload_n 0, 1) := by decide +kernel
theorem own_d7_5 : decode prog_13_method_1_code 5 = .ok (.aload_n 1, 1) := by decide +kernel
theorem own_d7_6 : decode prog_13_method_1_code 6 = .ok (.putfield 7, 3) := by decide +kernel
theorem own_d7_9 : decode prog_13_method_1_code 9 = .ok (.aload_n 0, 1) := by decide +kernel
theorem own_d7_10 : decode prog_13_method_1_code 10 = .ok (.aload_n 2, 1) := by decide +kernel
theorem own_d7_11 : decode prog_13_method_1_code 11 = .ok (.putfield 13, 3) := by decide +kernel
theorem own_d7_14 : decode prog_13_method_1_code 14 = .ok (.aload_n 0, 1) := by decide +kernel
theorem own_d7_15 : decode prog_13_method_1_code 15 = .ok (.iload_n 3, 1) := by decide +kernel
theorem own_d7_16 : decode prog_13_method_1_code 16 = .ok (.putfield 17, 3) := by decide +kernel
theorem own_d7_19 : decode prog_13_method_1_code 19 = .ok (.aload_n 0, 1) := by decide +kernel
theorem own_d7_20 : decode prog_13_method_1_code 20 = .ok (.aload_n 0, 1) := by decide +kernel
theorem own_d7_21 : decode prog_13_method_1_code 21 = .ok (.invokestatic 21, 3) := by decide +kernel
theorem own_d8_0 : decode jdk_40_method_37_code 0 = .ok (.new 96, 3) := by decide +kernel
theorem own_d8_3 : decode jdk_40_method_37_code 3 = .ok (.dup, 1) := by decide +kernel
theorem own_d8_4 : decode jdk_40_method_37_code 4 = .ok (.aload_n 0, 1) := by decide +kernel
theorem own_d8_5 : decode jdk_40_method_37_code 5 = .ok (.invokespecial 98, 3) := by decide +kernel
theorem own_d9_0 : decode jdk_44_method_1_code 0 = .ok (.aload_n 0, 1) := by decide +kernel
theorem own_d9_1 : decode jdk_44_method_1_code 1 = .ok (.invokespecial 1, 3) := by decide +kernel
theorem own_d10_0 : decode jdk_46_method_1_code 0 = .ok (.aload_n 0, 1) := by decide +kernel
theorem own_d10_1 : decode jdk_46_method_1_code 1 = .ok (.invokespecial 1, 3) := by decide +kernel
theorem own_d11_0 : decode jdk_47_method_1_code 0 = .ok (.aload_n 0, 1) := by decide +kernel
theorem own_d11_1 : decode jdk_47_method_1_code 1 = .ok (.invokespecial 1, 3) := by decide +kernel
theorem own_d12_0 : decode jdk_22_method_1_code 0 = .ok (.aload_n 0, 1) := by decide +kernel
theorem own_d12_1 : decode jdk_22_method_1_code 1 = .ok (.invokespecial 1, 3) := by decide +kernel
theorem own_d12_4 : decode jdk_22_method_1_code 4 = .ok (.return_, 1) := by decide +kernel
theorem own_pn4 : plainName "java/util/AbstractCollection" = true := by first | (simp [plainName, overriddenIn]; done) | decide +kernel
theorem own_ef145 (m : MethodId) (x0 : Addr) : entryFrame m #[(.ref x0)] 1 = mkF m 0 #[.val (.ref x0)] [] := by first | (simp [entryFrame, mkF, argsToLocals, Value.category]; done) | rfl
set_option maxRecDepth 65536 in
set_option maxHeartbeats 40000000 in
theorem own_rm145 (l : Launch) (Z : State) (a0 : Array Value) (hw : ∀ d ∈ tables_1, d.before a0 Z = true) (h0 : Heap) (a146 : Addr)  :
    own_Con l Z (⟨"java/util/AbstractCollection", "<init>", "()V"⟩ : MethodName) jdk_22_method_1_code 1 none ({ frames := 1, cells := 0, slots := 0, locals := 12 } : Room) #[(.ref a146)] h0 (own_QP none h0) := by
  refine MetFree.of_bodySF (plainFor_of_name own_pn4) hisR ?_
  intro p e s m args below meth c s₁ Bd hml0 hP hK
  obtain ⟨rfl, hZ, hh⟩ := hP
  have hx := Bd.exec
  have hby := Bd.bytes
  have hml : c.maxLocals = 1 := hml0
  have hown : s.vm.findClass "java/util/AbstractCollection" = some m.cls := findClass_of_methodNamed Bd.named
  have hnm := (name_of_methodNamed Bd.named Bd.method).1
  have X0 : Stand p l e ({ frames := 1, cells := 0, slots := 0, locals := 12 } : Room) s m #[(.ref a146)] below meth c s₁ [] 0 0 := Stand.of_body Bd
  have e0 : s₁.heap = h0 := by rw [← hh, Bd.state]; rfl
  have K0 : own_Kp h0 h0 [] [] := own_kpRefl _ _
  show own_Go p e below (own_K s (own_QP none h0) 0 0) s₁ (entryFrame m #[(.ref a146)] 1)
  rw [own_ef145]
  obtain ⟨T147, X147, e147, st147⟩ := initO X0 hx hZ hown (own_wd hw 75 rfl) (own_wd hw 20 rfl) (own_wd hw 21 rfl) e0 (g := (mkF m 1 #[.val (.ref a146)] [(.ref a146)])) rfl (by rw [hml]; rfl) rfl (hb hby own_d12_1) (by decide) (W := 0) (by show 2 * 0 + _ ≤ _; exact Nat.le_of_eq rfl) (by decide)
  refine own_go (T2 := T147) (g2 := (mkF m 4 #[.val (.ref a146)] [])) (fun t k => XS.aloadN X0.here hx rfl (hb hby own_d12_0) rfl rfl (st147 _ k)) ?_
  exact own_endV X147 hx Bd.notSynchronized Bd.returns (hb hby own_d12_4) (by decide) (by decide) ⟨rfl, rfl, e147⟩
theorem own_w148 {Z : State} {a0 : Array Value} (hw : ∀ d ∈ tables_1, d.before a0 Z = true) : own_IW Z a0 "java/util/ImmutableCollections$AbstractImmutableCollection" 1 (⟨"java/util/AbstractCollection", "<init>", "()V"⟩ : MethodName) jdk_22_method_1_code 1 := ⟨rfl, (own_wd hw 69 rfl), (own_wd hw 70 rfl), (own_wd hw 73 rfl), (own_wd hw 74 rfl), (by decide)⟩
theorem own_d11_4 : decode jdk_47_method_1_code 4 = .ok (.return_, 1) := by decide +kernel
theorem own_pn5 : plainName "java/util/ImmutableCollections$AbstractImmutableCollection" = true := by first | (simp [plainName, overriddenIn]; done) | decide +kernel
theorem own_ef142 (m : MethodId) (x0 : Addr) : entryFrame m #[(.ref x0)] 1 = mkF m 0 #[.val (.ref x0)] [] := by first | (simp [entryFrame, mkF, argsToLocals, Value.category]; done) | rfl
set_option maxRecDepth 65536 in
set_option maxHeartbeats 40000000 in
theorem own_rm142 (l : Launch) (Z : State) (a0 : Array Value) (hw : ∀ d ∈ tables_1, d.before a0 Z = true) (h0 : Heap) (a143 : Addr)  :
    own_Con l Z (⟨"java/util/ImmutableCollections$AbstractImmutableCollection", "<init>", "()V"⟩ : MethodName) jdk_47_method_1_code 1 none ({ frames := 2, cells := 0, slots := 0, locals := 24 } : Room) #[(.ref a143)] h0 (own_QP none h0) := by
  refine MetFree.of_bodySF (plainFor_of_name own_pn5) hisR ?_
  intro p e s m args below meth c s₁ Bd hml0 hP hK
  obtain ⟨rfl, hZ, hh⟩ := hP
  have hx := Bd.exec
  have hby := Bd.bytes
  have hml : c.maxLocals = 1 := hml0
  have hown : s.vm.findClass "java/util/ImmutableCollections$AbstractImmutableCollection" = some m.cls := findClass_of_methodNamed Bd.named
  have hnm := (name_of_methodNamed Bd.named Bd.method).1
  have X0 : Stand p l e ({ frames := 2, cells := 0, slots := 0, locals := 24 } : Room) s m #[(.ref a143)] below meth c s₁ [] 0 0 := Stand.of_body Bd
  have e0 : s₁.heap = h0 := by rw [← hh, Bd.state]; rfl
  have K0 : own_Kp h0 h0 [] [] := own_kpRefl _ _
  show own_Go p e below (own_K s (own_QP none h0) 0 0) s₁ (entryFrame m #[(.ref a143)] 1)
  rw [own_ef142]
  obtain ⟨_, T144, L144, X144, ⟨rfl, rfl, e144⟩, st144⟩ := own_ci X0 hx hZ hown (own_w148 hw) hml (g := (mkF m 1 #[.val (.ref a143)] [(.ref a143)])) (hb hby own_d11_1) e0 (a := a143) [] [] (lenOf own_pd4 rfl) (own_rm145 l Z a0 hw h0 a143 )
  refine own_go (T2 := T144) (g2 := (mkF m 4 #[.val (.ref a143)] [])) (fun t k => XS.aloadN X0.here hx rfl (hb hby own_d11_0) rfl rfl (st144 _ k)) ?_
  exact own_endV X144 hx Bd.notSynchronized Bd.returns (hb hby own_d11_4) (by decide) (by decide) ⟨rfl, rfl, e144⟩
theorem own_w149 {Z : State} {a0 : Array Value} (hw : ∀ d ∈ tables_1, d.before a0 Z = true) : own_IW Z a0 "java/util/ImmutableCollections$AbstractImmutableList" 1 (⟨"java/util/ImmutableCollections$AbstractImmutableCollection", "<init>", "()V"⟩ : MethodName) jdk_47_method_1_code 1 := ⟨rfl, (own_wd hw 63 rfl), (own_wd hw 64 rfl), (own_wd hw 67 rfl), (own_wd hw 68 rfl), (by decide)⟩
theorem own_d10_4 : decode jdk_46_method_1_code 4 = .ok (.return_, 1) := by decide +kernel
theorem own_pn6 : plainName "java/util/ImmutableCollections$AbstractImmutableList" = true := by first | (simp [plainName, overriddenIn]; done) | decide +kernel
theorem own_ef139 (m : MethodId) (x0 : Addr) : entryFrame m #[(.ref x0)] 1 = mkF m 0 #[.val (.ref x0)] [] := by first | (simp [entryFrame, mkF, argsToLocals, Value.category]; done) | rfl
set_option maxRecDepth 65536 in
set_option maxHeartbeats 40000000 in
theorem own_rm139 (l : Launch) (Z : State) (a0 : Array Value) (hw : ∀ d ∈ tables_1, d.before a0 Z = true) (h0 : Heap) (a140 : Addr)  :
    own_Con l Z (⟨"java/util/ImmutableCollections$AbstractImmutableList", "<init>", "()V"⟩ : MethodName) jdk_46_method_1_code 1 none ({ frames := 3, cells := 0, slots := 0, locals := 36 } : Room) #[(.ref a140)] h0 (own_QP none h0) := by
  refine MetFree.of_bodySF (plainFor_of_name own_pn6) hisR ?_
  intro p e s m args below meth c s₁ Bd hml0 hP hK
  obtain ⟨rfl, hZ, hh⟩ := hP
  have hx := Bd.exec
  have hby := Bd.bytes
  have hml : c.maxLocals = 1 := hml0
  have hown : s.vm.findClass "java/util/ImmutableCollections$AbstractImmutableList" = some m.cls := findClass_of_methodNamed Bd.named
  have hnm := (name_of_methodNamed Bd.named Bd.method).1
  have X0 : Stand p l e ({ frames := 3, cells := 0, slots := 0, locals := 36 } : Room) s m #[(.ref a140)] below meth c s₁ [] 0 0 := Stand.of_body Bd
  have e0 : s₁.heap = h0 := by rw [← hh, Bd.state]; rfl
  have K0 : own_Kp h0 h0 [] [] := own_kpRefl _ _
  show own_Go p e below (own_K s (own_QP none h0) 0 0) s₁ (entryFrame m #[(.ref a140)] 1)
  rw [own_ef139]
  obtain ⟨_, T141, L141, X141, ⟨rfl, rfl, e141⟩, st141⟩ := own_ci X0 hx hZ hown (own_w149 hw) hml (g := (mkF m 1 #[.val (.ref a140)] [(.ref a140)])) (hb hby own_d10_1) e0 (a := a140) [] [] (lenOf own_pd4 rfl) (own_rm142 l Z a0 hw h0 a140 )
  refine own_go (T2 := T141) (g2 := (mkF m 4 #[.val (.ref a140)] [])) (fun t k => XS.aloadN X0.here hx rfl (hb hby own_d10_0) rfl rfl (st141 _ k)) ?_
  exact own_endV X141 hx Bd.notSynchronized Bd.returns (hb hby own_d10_4) (by decide) (by decide) ⟨rfl, rfl, e141⟩
theorem own_w150 {Z : State} {a0 : Array Value} (hw : ∀ d ∈ tables_1, d.before a0 Z = true) : own_IW Z a0 "java/util/ImmutableCollections$List12" 1 (⟨"java/util/ImmutableCollections$AbstractImmutableList", "<init>", "()V"⟩ : MethodName) jdk_46_method_1_code 1 := ⟨rfl, (own_wd hw 57 rfl), (own_wd hw 58 rfl), (own_wd hw 61 rfl), (own_wd hw 62 rfl), (by decide)⟩
theorem own_d9_4 : decode jdk_44_method_1_code 4 = .ok (.aload_n 0, 1) := by decide +kernel
theorem own_d9_5 : decode jdk_44_method_1_code 5 = .ok (.aload_n 1, 1) := by decide +kernel
theorem own_d9_6 : decode jdk_44_method_1_code 6 = .ok (.invokestatic 7, 3) := by decide +kernel
theorem own_d13_0 : decode jdk_31_method_10_code 0 = .ok (.aload_n 0, 1) := by decide +kernel
theorem own_d13_1 : decode jdk_31_method_10_code 1 = .ok (.ifnonnull 11, 3) := by decide +kernel
theorem own_d13_12 : decode jdk_31_method_10_code 12 = .ok (.aload_n 0, 1) := by decide +kernel
theorem own_d13_13 : decode jdk_31_method_10_code 13 = .ok (.areturn, 1) := by decide +kernel
theorem own_pn7 : plainName "java/util/Objects" = true := by first | (simp [plainName, overriddenIn]; done) | decide +kernel
theorem own_ef152 (m : MethodId) (x0 : Addr) : entryFrame m #[(.ref x0)] 1 = mkF m 0 #[.val (.ref x0)] [] := by first | (simp [entryFrame, mkF, argsToLocals, Value.category]; done) | rfl
set_option maxRecDepth 65536 in
set_option maxHeartbeats 40000000 in
theorem own_rm152 (l : Launch) (Z : State) (a0 : Array Value) (hw : ∀ d ∈ tables_1, d.before a0 Z = true) (h0 : Heap) (a153 : Addr)  :
    own_Con l Z (⟨"java/util/Objects", "requireNonNull", "(Ljava/lang/Object;)Ljava/lang/Object;"⟩ : MethodName) jdk_31_method_10_code 1 (some (.object "java/lang/Object")) ({ frames := 0, cells := 0, slots := 0, locals := 0 } : Room) #[(.ref a153)] h0 (own_QP (some (.ref a153)) h0) := by
  refine MetFree.of_bodySF (plainFor_of_name own_pn7) hisR ?_
  intro p e s m args below meth c s₁ Bd hml0 hP hK
  obtain ⟨rfl, hZ, hh⟩ := hP
  have hx := Bd.exec
  have hby := Bd.bytes
  have hml : c.maxLocals = 1 := hml0
  have hown : s.vm.findClass "java/util/Objects" = some m.cls := findClass_of_methodNamed Bd.named
  have hnm := (name_of_methodNamed Bd.named Bd.method).1
  have X0 : Stand p l e ({ frames := 0, cells := 0, slots := 0, locals := 0 } : Room) s m #[(.ref a153)] below meth c s₁ [] 0 0 := Stand.of_body Bd
  have e0 : s₁.heap = h0 := by rw [← hh, Bd.state]; rfl
  have K0 : own_Kp h0 h0 [] [] := own_kpRefl _ _
  show own_Go p e below (own_K s (own_QP (some (.ref a153)) h0) 0 0) s₁ (entryFrame m #[(.ref a153)] 1)
  rw [own_ef152]
  refine own_go (T2 := s₁) (g2 := (mkF m 13 #[.val (.ref a153)] [(.ref a153)])) (fun t k => XS.aloadN X0.here hx rfl (hb hby own_d13_0) rfl rfl (XS.ifnonnullYes X0.here hx rfl (pc0 := 1) (pc' := 12) rfl (hb hby own_d13_1) rfl (by decide) (by decide) (XS.aloadN X0.here hx rfl (hb hby own_d13_12) rfl rfl k))) ?_
  exact own_endR X0 hx Bd.notSynchronized Bd.returns rfl rfl (hb hby own_d13_13) (by decide) (by decide) ⟨rfl, rfl, e0⟩
theorem own_pd7 : parseMethodDescriptor "(Ljava/lang/Object;)Ljava/lang/Object;" = some ⟨[(.object "java/lang/Object")], some (.object "java/lang/Object")⟩ := by decide +kernel
theorem own_w154 {Z : State} {a0 : Array Value} (hw : ∀ d ∈ tables_1, d.before a0 Z = true) : own_SW Z a0 "java/util/ImmutableCollections$List12" 7 (⟨"java/util/Objects", "requireNonNull", "(Ljava/lang/Object;)Ljava/lang/Object;"⟩ : MethodName) jdk_31_method_10_code 1 (some (.object "java/lang/Object")) := ⟨(own_wd hw 76 rfl), (own_wd hw 77 rfl), (own_wd hw 78 rfl), (own_wd hw 79 rfl), (by decide)⟩
theorem own_d9_9 : decode jdk_44_method_1_code 9 = .ok (.putfield 13, 3) := by decide +kernel
theorem own_d9_12 : decode jdk_44_method_1_code 12 = .ok (.aload_n 0, 1) := by decide +kernel
theorem own_d9_13 : decode jdk_44_method_1_code 13 = .ok (.getstatic 19, 3) := by decide +kernel
theorem own_d9_16 : decode jdk_44_method_1_code 16 = .ok (.putfield 24, 3) := by decide +kernel
theorem own_d9_19 : decode jdk_44_method_1_code 19 = .ok (.return_, 1) := by decide +kernel
def own_Q135 (Z : State) (h0 : Heap) (a136 : Addr) (a137 : Addr) (a165 : Addr) (v : Option Value) (h : Heap) (L : List Loc) : Prop := v = none ∧ own_Kp h0 h [a136] L ∧ Fld Z h a136 "java/util/ImmutableCollections$List12" "e0" "Ljava/lang/Object;" (.ref a137) ∧ Fld Z h a136 "java/util/ImmutableCollections$List12" "e1" "Ljava/lang/Object;" (.ref a165)
theorem own_pn8 : plainName "java/util/ImmutableCollections$List12" = true := by first | (simp [plainName, overriddenIn]; done) | decide +kernel
theorem own_ef135 (m : MethodId) (x0 : Addr) (x1 : Addr) : entryFrame m #[(.ref x0), (.ref x1)] 2 = mkF m 0 #[.val (.ref x0), .val (.ref x1)] [] := by first | (simp [entryFrame, mkF, argsToLocals, Value.category]; done) | rfl
set_option maxRecDepth 65536 in
set_option maxHeartbeats 40000000 in
theorem own_rm135 (l : Launch) (Z : State) (a0 : Array Value) (hw : ∀ d ∈ tables_1, d.before a0 Z = true) (h0 : Heap) (a136 : Addr) (a137 : Addr) (a165 : Addr) (E155 : Exa Z h0 a136 "java/util/ImmutableCollections$List12") (F156 : Fld Z h0 a136 "java/util/ImmutableCollections$List12" "e0" "Ljava/lang/Object;" .null) (S166 : Sta Z h0 "java/util/ImmutableCollections" "EMPTY" "Ljava/lang/Object;" (.ref a165)) (F169 : Fld Z h0 a136 "java/util/ImmutableCollections$List12" "e1" "Ljava/lang/Object;" .null) :
    own_Con l Z (⟨"java/util/ImmutableCollections$List12", "<init>", "(Ljava/lang/Object;)V"⟩ : MethodName) jdk_44_method_1_code 2 none ({ frames := 4, cells := 0, slots := 0, locals := 48 } : Room) #[(.ref a136), (.ref a137)] h0 (own_Q135 Z h0 a136 a137 a165) := by
  refine MetFree.of_bodySF (plainFor_of_name own_pn8) hisR ?_
  intro p e s m args below meth c s₁ Bd hml0 hP hK
  obtain ⟨rfl, hZ, hh⟩ := hP
  have hx := Bd.exec
  have hby := Bd.bytes
  have hml : c.maxLocals = 2 := hml0
  have hown : s.vm.findClass "java/util/ImmutableCollections$List12" = some m.cls := findClass_of_methodNamed Bd.named
  have hnm := (name_of_methodNamed Bd.named Bd.method).1
  have X0 : Stand p l e ({ frames := 4, cells := 0, slots := 0, locals := 48 } : Room) s m #[(.ref a136), (.ref a137)] below meth c s₁ [] 0 0 := Stand.of_body Bd
  have e0 : s₁.heap = h0 := by rw [← hh, Bd.state]; rfl
  have K0 : own_Kp h0 h0 [a136] [] := own_kpRefl _ _
  show own_Go p e below (own_K s (own_Q135 Z h0 a136 a137 a165) 0 0) s₁ (entryFrame m #[(.ref a136), (.ref a137)] 2)
  rw [own_ef135]
  obtain ⟨_, T138, L138, X138, ⟨rfl, rfl, e138⟩, st138⟩ := own_ci X0 hx hZ hown (own_w150 hw) hml (g := (mkF m 1 #[.val (.ref a136), .val (.ref a137)] [(.ref a136)])) (hb hby own_d9_1) e0 (a := a136) [] [] (lenOf own_pd4 rfl) (own_rm139 l Z a0 hw h0 a136 )
  obtain ⟨_, T151, L151, X151, ⟨rfl, rfl, e151⟩, st151⟩ := own_cs X138 hx hZ hown (own_w154 hw) hml (g := (mkF m 6 #[.val (.ref a136), .val (.ref a137)] [(.ref a137), (.ref a136)])) (hb hby own_d9_6) e138 [(.ref a137)] [(.ref a136)] (lenOf own_pd7 rfl) (own_rm152 l Z a0 hw h0 a137 )
  obtain ⟨T157, h157, X157, e157, W157, st157⟩ := putF X151 hx hZ hown (host := "") (Or.inl (own_wd hw 80 rfl)) Via.refl e151 F156 E155 (Or.inr ⟨(own_wd hw 81 rfl), rfl, hnm⟩) (own_wd hw 51 rfl) (ty := (.object "java/lang/Object")) (by decide) rfl rfl (g := (mkF m 9 #[.val (.ref a136), .val (.ref a137)] [(.ref a137), (.ref a136)])) rfl rfl (hb hby own_d9_9)
  have F157 : Fld Z h157 a136 "java/util/ImmutableCollections$List12" "e0" "Ljava/lang/Object;" (.ref a137) := Fld.same W157 F156
  have K157 := own_kpWr K0 W157 (Or.inl (List.mem_of_getElem? (i := 0) rfl))
  have z_W157 : h0.size ≤ h157.size := Nat.le_of_eq W157.size.symm
  have S167 : Sta Z h157 "java/util/ImmutableCollections" "EMPTY" "Ljava/lang/Object;" (.ref a165) := (Sta.wr W157 S166)
  obtain ⟨T168, X168, e168, st168⟩ := getS2 X157 hx hZ hown (Or.inr (own_wd hw 82 rfl)) Via.refl e157 S167 (g := (mkF m 13 #[.val (.ref a136), .val (.ref a137)] [(.ref a136)])) rfl (hb hby own_d9_13)
  have F170 : Fld Z h157 a136 "java/util/ImmutableCollections$List12" "e1" "Ljava/lang/Object;" .null := (Fld.other W157 F169 (Or.inr (slot_ne (Or.inr (own_wd hw 85 rfl)) (Or.inr (own_wd hw 81 rfl)) (by decide) (t := (.object "java/lang/Object")) (t' := (.object "java/lang/Object")) (by decide) (by decide))))
  have E171 : Exa Z h157 a136 "java/util/ImmutableCollections$List12" := (Exa.wr W157 E155)
  obtain ⟨T172, h172, X172, e172, W172, st172⟩ := putF X168 hx hZ hown (host := "") (Or.inl (own_wd hw 84 rfl)) Via.refl e168 F170 E171 (Or.inr ⟨(own_wd hw 85 rfl), rfl, hnm⟩) (own_wd hw 51 rfl) (ty := (.object "java/lang/Object")) (by decide) rfl rfl (g := (mkF m 16 #[.val (.ref a136), .val (.ref a137)] [(.ref a165), (.ref a136)])) rfl rfl (hb hby own_d9_16)
  have F172 : Fld Z h172 a136 "java/util/ImmutableCollections$List12" "e1" "Ljava/lang/Object;" (.ref a165) := Fld.same W172 F170
  have K172 := own_kpWr K157 W172 (Or.inl (List.mem_of_getElem? (i := 0) rfl))
  have z_W172 : h157.size ≤ h172.size := Nat.le_of_eq W172.size.symm
  have F173 : Fld Z h172 a136 "java/util/ImmutableCollections$List12" "e0" "Ljava/lang/Object;" (.ref a137) := (Fld.other W172 F157 (Or.inr (slot_ne (Or.inr (own_wd hw 81 rfl)) (Or.inr (own_wd hw 85 rfl)) (by decide) (t := (.object "java/lang/Object")) (t' := (.object "java/lang/Object")) (by decide) (by decide))))
  refine own_go (T2 := T172) (g2 := (mkF m 19 #[.val (.ref a136), .val (.ref a137)] [])) (fun t k => XS.aloadN X0.here hx rfl (hb hby own_d9_0) rfl rfl (st138 _ (XS.aloadN X138.here hx rfl (hb hby own_d9_4) rfl rfl (XS.aloadN X138.here hx rfl (hb hby own_d9_5) rfl rfl (st151 _ (st157 _ (XS.aloadN X157.here hx rfl (hb hby own_d9_12) rfl rfl (st168 _ (st172 _ k))))))))) ?_
  exact own_endV X172 hx Bd.notSynchronized Bd.returns (hb hby own_d9_19) (by decide) (by decide) (by rw [e172]; exact ⟨rfl, (by simpa only [List.append_nil] using K172), F173, F172⟩)
theorem own_pd8 : parseMethodDescriptor "(Ljava/lang/Object;)V" = some ⟨[(.object "java/lang/Object")], none⟩ := by decide +kernel
theorem own_w176 {Z : State} {a0 : Array Value} (hw : ∀ d ∈ tables_1, d.before a0 Z = true) : own_IW Z a0 "java/util/List" 98 (⟨"java/util/ImmutableCollections$List12", "<init>", "(Ljava/lang/Object;)V"⟩ : MethodName) jdk_44_method_1_code 2 := ⟨rfl, (own_wd hw 53 rfl), (own_wd hw 54 rfl), (own_wd hw 52 rfl), (own_wd hw 56 rfl), (by decide)⟩
theorem own_d8_8 : decode jdk_40_method_37_code 8 = .ok (.areturn, 1) := by decide +kernel
def own_Q129 (Z : State) (h0 : Heap) (a130 : Addr) (a162 : Addr) (v : Option Value) (h : Heap) (L : List Loc) : Prop := ∃ (b131 : Addr), v = (some (.ref b131)) ∧ own_Kp h0 h [] L ∧ h0.size ≤ b131 ∧ Exa Z h b131 "java/util/ImmutableCollections$List12" ∧ Fld Z h b131 "java/util/ImmutableCollections$List12" "e0" "Ljava/lang/Object;" (.ref a130) ∧ Fld Z h b131 "java/util/ImmutableCollections$List12" "e1" "Ljava/lang/Object;" (.ref a162)
theorem own_pn9 : plainName "java/util/List" = true := by first | (simp [plainName, overriddenIn]; done) | decide +kernel
theorem own_ef129 (m : MethodId) (x0 : Addr) : entryFrame m #[(.ref x0)] 1 = mkF m 0 #[.val (.ref x0)] [] := by first | (simp [entryFrame, mkF, argsToLocals, Value.category]; done) | rfl
set_option maxRecDepth 65536 in
set_option maxHeartbeats 40000000 in
theorem own_rm129 (l : Launch) (Z : State) (a0 : Array Value) (hw : ∀ d ∈ tables_1, d.before a0 Z = true) (h0 : Heap) (a130 : Addr) (a162 : Addr) (S163 : Sta Z h0 "java/util/ImmutableCollections" "EMPTY" "Ljava/lang/Object;" (.ref a162)) :
    own_Con l Z (⟨"java/util/List", "of", "(Ljava/lang/Object;)Ljava/util/List;"⟩ : MethodName) jdk_40_method_37_code 1 (some (.object "java/util/List")) ({ frames := 5, cells := 1, slots := 2, locals := 62 } : Room) #[(.ref a130)] h0 (own_Q129 Z h0 a130 a162) := by
  refine MetFree.of_bodySF (plainFor_of_name own_pn9) hisR ?_
  intro p e s m args below meth c s₁ Bd hml0 hP hK
  obtain ⟨rfl, hZ, hh⟩ := hP
  have hx := Bd.exec
  have hby := Bd.bytes
  have hml : c.maxLocals = 1 := hml0
  have hown : s.vm.findClass "java/util/List" = some m.cls := findClass_of_methodNamed Bd.named
  have hnm := (name_of_methodNamed Bd.named Bd.method).1
  have X0 : Stand p l e ({ frames := 5, cells := 1, slots := 2, locals := 62 } : Room) s m #[(.ref a130)] below meth c s₁ [] 0 0 := Stand.of_body Bd
  have e0 : s₁.heap = h0 := by rw [← hh, Bd.state]; rfl
  have K0 : own_Kp h0 h0 [] [] := own_kpRefl _ _
  show own_Go p e below (own_K s (own_Q129 Z h0 a130 a162) 1 2) s₁ (entryFrame m #[(.ref a130)] 1)
  rw [own_ef129]
  obtain ⟨T131, h131, X131, e131, E131, A131, D131, -, st131⟩ := newO X0 hx hZ hown (own_wd hw 50 rfl) (own_wd hw 51 rfl) (own_wd hw 52 rfl) e0 (g := (mkF m 0 #[.val (.ref a130)] [])) rfl (hb hby own_d8_0) (by decide) (by decide)
  obtain ⟨b131, g131⟩ : ∃ z, z = h0.size := ⟨_, rfl⟩
  rw [← g131] at A131 D131 st131
  have z_E131 : h0.size ≤ h131.size := E131.1
  have lo_b131 : h0.size ≤ b131 := Nat.le_of_eq g131.symm
  have sz_b131 : h0.size ≤ b131 := Nat.le_trans K0.1.1 lo_b131
  have K131 := own_kpExt K0 E131
  have F132 : Fld Z h131 b131 "java/util/ImmutableCollections$List12" "e0" "Ljava/lang/Object;" .null := D131 (Or.inr (own_wd hw 81 rfl)) (ty := (.object "java/lang/Object")) (by decide)
  have F133 : Fld Z h131 b131 "java/util/ImmutableCollections$List12" "e1" "Ljava/lang/Object;" .null := D131 (Or.inr (own_wd hw 85 rfl)) (ty := (.object "java/lang/Object")) (by decide)
  have S164 : Sta Z h131 "java/util/ImmutableCollections" "EMPTY" "Ljava/lang/Object;" (.ref a162) := (Sta.ext E131 S163)
  obtain ⟨_, T134, L134, X134, ⟨rfl, K134c, F174, F175⟩, st134⟩ := own_ci X131 hx hZ hown (own_w176 hw) hml (g := (mkF m 5 #[.val (.ref a130)] [(.ref a130), (.ref b131), (.ref b131)])) (hb hby own_d8_5) e131 (a := b131) [(.ref a130)] [(.ref b131)] (lenOf own_pd8 rfl) (own_rm135 l Z a0 hw h131 b131 a130 a162 A131 F132 S164 F133)
  have z_K134c : h131.size ≤ T134.heap.size := K134c.1.1
  have K134 := own_kpTrans K131 K134c (allS (Or.inr sz_b131) all0)
  have E177 : Exa Z T134.heap b131 "java/util/ImmutableCollections$List12" := (Exa.keep A131 K134c.1)
  refine own_go (T2 := T134) (g2 := (mkF m 8 #[.val (.ref a130)] [(.ref b131)])) (fun t k => st131 _ (XS.dup X131.here hx rfl (hb hby own_d8_3) rfl rfl (XS.aloadN X131.here hx rfl (hb hby own_d8_4) rfl rfl (st134 _ k)))) ?_
  exact own_endR X134 hx Bd.notSynchronized Bd.returns rfl rfl (hb hby own_d8_8) (by decide) (by decide) ⟨b131, rfl, (by simpa only [List.append_nil] using K134), sz_b131, E177, F174, F175⟩
theorem own_pd9 : parseMethodDescriptor "(Ljava/lang/Object;)Ljava/util/List;" = some ⟨[(.object "java/lang/Object")], some (.object "java/util/List")⟩ := by decide +kernel
theorem own_w182 {Z : State} {a0 : Array Value} (hw : ∀ d ∈ tables_1, d.before a0 Z = true) : own_SW Z a0 "com/example/libentail/libentail/Role" 21 (⟨"java/util/List", "of", "(Ljava/lang/Object;)Ljava/util/List;"⟩ : MethodName) jdk_40_method_37_code 1 (some (.object "java/util/List")) := ⟨(own_wd hw 46 rfl), (own_wd hw 47 rfl), (own_wd hw 48 rfl), (own_wd hw 49 rfl), (by decide)⟩
theorem own_d7_24 : decode prog_13_method_1_code 24 = .ok (.putfield 27, 3) := by decide +kernel
theorem own_d7_27 : decode prog_13_method_1_code 27 = .ok (.return_, 1) := by decide +kernel
def own_Q111 (Z : State) (h0 : Heap) (a112 : Addr) (a113 : Addr) (a114 : Addr) (p115 : Int32) (a159 : Addr) (v : Option Value) (h : Heap) (L : List Loc) : Prop := ∃ (b178 : Addr), v = none ∧ own_Kp h0 h [a112] L ∧ h0.size ≤ b178 ∧ Fld Z h a112 "com/example/libentail/libentail/Role" "owner" "Ljava/lang/Object;" (.ref a113) ∧ Fld Z h a112 "com/example/libentail/libentail/Role" "name" "Ljava/lang/String;" (.ref a114) ∧ Fld Z h a112 "com/example/libentail/libentail/Role" "id" "I" (.int p115) ∧ Fld Z h a112 "com/example/libentail/libentail/Role" "members" "Ljava/util/List;" (.ref b178) ∧ Fld Z h a112 "com/example/libentail/libentail/Role" "inverse" "Lcom/example/libentail/libentail/Role;" .null ∧ Fld Z h a112 "com/example/libentail/libentail/Role" "inverted" "Z" (.int (0 : Int32)) ∧ Exa Z h b178 "java/util/ImmutableCollections$List12" ∧ Fld Z h b178 "java/util/ImmutableCollections$List12" "e0" "Ljava/lang/Object;" (.ref a112) ∧ Fld Z h b178 "java/util/ImmutableCollections$List12" "e1" "Ljava/lang/Object;" (.ref a159)
theorem own_pn10 : plainName "com/example/libentail/libentail/Role" = true := by first | (simp [plainName, overriddenIn]; done) | decide +kernel
theorem own_ef111 (m : MethodId) (x0 : Addr) (x1 : Addr) (x2 : Addr) (x3 : Int32) : entryFrame m #[(.ref x0), (.ref x1), (.ref x2), (.int x3)] 4 = mkF m 0 #[.val (.ref x0), .val (.ref x1), .val (.ref x2), .val (.int x3)] [] := by first | (simp [entryFrame, mkF, argsToLocals, Value.category]; done) | rfl
set_option maxRecDepth 65536 in
set_option maxHeartbeats 40000000 in
theorem own_rm111 (l : Launch) (Z : State) (a0 : Array Value) (hw : ∀ d ∈ tables_1, d.before a0 Z = true) (h0 : Heap) (a112 : Addr) (a113 : Addr) (a114 : Addr) (p115 : Int32) (a159 : Addr) (E117 : Exa Z h0 a112 "com/example/libentail/libentail/Role") (F118 : Fld Z h0 a112 "com/example/libentail/libentail/Role" "owner" "Ljava/lang/Object;" .null) (F120 : Fld Z h0 a112 "com/example/libentail/libentail/Role" "name" "Ljava/lang/String;" .null) (F124 : Fld Z h0 a112 "com/example/libentail/libentail/Role" "id" "I" (.int (0 : Int32))) (S160 : Sta Z h0 "java/util/ImmutableCollections" "EMPTY" "Ljava/lang/Object;" (.ref a159)) (F183 : Fld Z h0 a112 "com/example/libentail/libentail/Role" "members" "Ljava/util/List;" .null) (F190 : Fld Z h0 a112 "com/example/libentail/libentail/Role" "inverse" "Lcom/example/libentail/libentail/Role;" .null) (F192 : Fld Z h0 a112 "com/example/libentail/libentail/Role" "inverted" "Z" (.int (0 : Int32))) :
    own_Con l Z (⟨"com/example/libentail/libentail/Role", "<init>", "(Ljava/lang/Object;Ljava/lang/String;I)V"⟩ : MethodName) prog_13_method_1_code 4 none ({ frames := 6, cells := 1, slots := 2, locals := 75 } : Room) #[(.ref a112), (.ref a113), (.ref a114), (.int p115)] h0 (own_Q111 Z h0 a112 a113 a114 p115 a159) := by
  refine MetFree.of_bodySF (plainFor_of_name own_pn10) hisR ?_
  intro p e s m args below meth c s₁ Bd hml0 hP hK
  obtain ⟨rfl, hZ, hh⟩ := hP
  have hx := Bd.exec
  have hby := Bd.bytes
  have hml : c.maxLocals = 4 := hml0
  have hown : s.vm.findClass "com/example/libentail/libentail/Role" = some m.cls := findClass_of_methodNamed Bd.named
  have hnm := (name_of_methodNamed Bd.named Bd.method).1
  have X0 : Stand p l e ({ frames := 6, cells := 1, slots := 2, locals := 75 } : Room) s m #[(.ref a112), (.ref a113), (.ref a114), (.int p115)] below meth c s₁ [] 0 0 := Stand.of_body Bd
  have e0 : s₁.heap = h0 := by rw [← hh, Bd.state]; rfl
  have K0 : own_Kp h0 h0 [a112] [] := own_kpRefl _ _
  show own_Go p e below (own_K s (own_Q111 Z h0 a112 a113 a114 p115 a159) 1 2) s₁ (entryFrame m #[(.ref a112), (.ref a113), (.ref a114), (.int p115)] 4)
  rw [own_ef111]
  obtain ⟨T116, X116, e116, st116⟩ := initO X0 hx hZ hown (own_wd hw 39 rfl) (own_wd hw 20 rfl) (own_wd hw 21 rfl) e0 (g := (mkF m 1 #[.val (.ref a112), .val (.ref a113), .val (.ref a114), .val (.int p115)] [(.ref a112)])) rfl (by rw [hml]; rfl) rfl (hb hby own_d7_1) (by decide) (W := 0) (by show 2 * 0 + _ ≤ _; exact Nat.le_of_eq rfl) (by decide)
  obtain ⟨T119, h119, X119, e119, W119, st119⟩ := putF X116 hx hZ hown (host := "") (Or.inl (own_wd hw 40 rfl)) Via.refl e116 F118 E117 (Or.inr ⟨(own_wd hw 41 rfl), rfl, hnm⟩) (own_wd hw 34 rfl) (ty := (.object "java/lang/Object")) (by decide) rfl rfl (g := (mkF m 6 #[.val (.ref a112), .val (.ref a113), .val (.ref a114), .val (.int p115)] [(.ref a113), (.ref a112)])) rfl rfl (hb hby own_d7_6)
  have F119 : Fld Z h119 a112 "com/example/libentail/libentail/Role" "owner" "Ljava/lang/Object;" (.ref a113) := Fld.same W119 F118
  have K119 := own_kpWr K0 W119 (Or.inl (List.mem_of_getElem? (i := 0) rfl))
  have z_W119 : h0.size ≤ h119.size := Nat.le_of_eq W119.size.symm
  have F121 : Fld Z h119 a112 "com/example/libentail/libentail/Role" "name" "Ljava/lang/String;" .null := (Fld.other W119 F120 (Or.inr (slot_ne (Or.inr (own_wd hw 43 rfl)) (Or.inr (own_wd hw 41 rfl)) (by decide) (t := (.object "java/lang/String")) (t' := (.object "java/lang/Object")) (by decide) (by decide))))
  have E122 : Exa Z h119 a112 "com/example/libentail/libentail/Role" := (Exa.wr W119 E117)
  obtain ⟨T123, h123, X123, e123, W123, st123⟩ := putF X119 hx hZ hown (host := "") (Or.inl (own_wd hw 42 rfl)) Via.refl e119 F121 E122 (Or.inr ⟨(own_wd hw 43 rfl), rfl, hnm⟩) (own_wd hw 34 rfl) (ty := (.object "java/lang/String")) (by decide) rfl rfl (g := (mkF m 11 #[.val (.ref a112), .val (.ref a113), .val (.ref a114), .val (.int p115)] [(.ref a114), (.ref a112)])) rfl rfl (hb hby own_d7_11)
  have F123 : Fld Z h123 a112 "com/example/libentail/libentail/Role" "name" "Ljava/lang/String;" (.ref a114) := Fld.same W123 F121
  have K123 := own_kpWr K119 W123 (Or.inl (List.mem_of_getElem? (i := 0) rfl))
  have z_W123 : h119.size ≤ h123.size := Nat.le_of_eq W123.size.symm
  have F125 : Fld Z h123 a112 "com/example/libentail/libentail/Role" "id" "I" (.int (0 : Int32)) := (Fld.other W123 (Fld.other W119 F124 (Or.inr (slot_ne (Or.inr (own_wd hw 45 rfl)) (Or.inr (own_wd hw 41 rfl)) (by decide) (t := .int) (t' := (.object "java/lang/Object")) (by decide) (by decide)))) (Or.inr (slot_ne (Or.inr (own_wd hw 45 rfl)) (Or.inr (own_wd hw 43 rfl)) (by decide) (t := .int) (t' := (.object "java/lang/String")) (by decide) (by decide))))
  have E126 : Exa Z h123 a112 "com/example/libentail/libentail/Role" := (Exa.wr W123 E122)
  obtain ⟨T127, h127, X127, e127, W127, st127⟩ := putF X123 hx hZ hown (host := "") (Or.inl (own_wd hw 44 rfl)) Via.refl e123 F125 E126 (Or.inr ⟨(own_wd hw 45 rfl), rfl, hnm⟩) (own_wd hw 34 rfl) (ty := .int) (by decide) rfl rfl (g := (mkF m 16 #[.val (.ref a112), .val (.ref a113), .val (.ref a114), .val (.int p115)] [(.int p115), (.ref a112)])) rfl rfl (hb hby own_d7_16)
  have F127 : Fld Z h127 a112 "com/example/libentail/libentail/Role" "id" "I" (.int p115) := Fld.same W127 F125
  have K127 := own_kpWr K123 W127 (Or.inl (List.mem_of_getElem? (i := 0) rfl))
  have z_W127 : h123.size ≤ h127.size := Nat.le_of_eq W127.size.symm
  refine own_go (T2 := T127) (g2 := (mkF m 20 #[.val (.ref a112), .val (.ref a113), .val (.ref a114), .val (.int p115)] [(.ref a112)])) (fun t k => XS.aloadN X0.here hx rfl (hb hby own_d7_0) rfl rfl (st116 _ (XS.aloadN X116.here hx rfl (hb hby own_d7_4) rfl rfl (XS.aloadN X116.here hx rfl (hb hby own_d7_5) rfl rfl (st119 _ (XS.aloadN X119.here hx rfl (hb hby own_d7_9) rfl rfl (XS.aloadN X119.here hx rfl (hb hby own_d7_10) rfl rfl (st123 _ (XS.aloadN X123.here hx rfl (hb hby own_d7_14) rfl rfl (XS.iloadN X123.here hx rfl (hb hby own_d7_15) rfl  (st127 _ (XS.aloadN X127.here hx rfl (hb hby own_d7_19) rfl rfl k)))))))))))) ?_
  have S161 : Sta Z h127 "java/util/ImmutableCollections" "EMPTY" "Ljava/lang/Object;" (.ref a159) := (Sta.wr W127 (Sta.wr W123 (Sta.wr W119 S160)))
  obtain ⟨_, T128, L128, X128, ⟨b178, rfl, K128c, lo_b178, E179, F180, F181⟩, st128⟩ := own_cs X127 hx hZ hown (own_w182 hw) hml (g := (mkF m 21 #[.val (.ref a112), .val (.ref a113), .val (.ref a114), .val (.int p115)] [(.ref a112), (.ref a112)])) (hb hby own_d7_21) e127 [(.ref a112)] [(.ref a112)] (lenOf own_pd9 rfl) (own_rm129 l Z a0 hw h127 a112 a159 S161)
  have z_K128c : h127.size ≤ T128.heap.size := K128c.1.1
  have sz_b178 : h0.size ≤ b178 := Nat.le_trans K127.1.1 lo_b178
  have K128 := own_kpTrans K127 K128c all0
  have F184 : Fld Z T128.heap a112 "com/example/libentail/libentail/Role" "members" "Ljava/util/List;" .null := (Fld.keep (Fld.other W127 (Fld.other W123 (Fld.other W119 F183 (Or.inr (slot_ne (Or.inr (own_wd hw 87 rfl)) (Or.inr (own_wd hw 41 rfl)) (by decide) (t := (.object "java/util/List")) (t' := (.object "java/lang/Object")) (by decide) (by decide)))) (Or.inr (slot_ne (Or.inr (own_wd hw 87 rfl)) (Or.inr (own_wd hw 43 rfl)) (by decide) (t := (.object "java/util/List")) (t' := (.object "java/lang/String")) (by decide) (by decide)))) (Or.inr (slot_ne (Or.inr (own_wd hw 87 rfl)) (Or.inr (own_wd hw 45 rfl)) (by decide) (t := (.object "java/util/List")) (t' := .int) (by decide) (by decide)))) K128c.1 nin0)
  have E185 : Exa Z T128.heap a112 "com/example/libentail/libentail/Role" := (Exa.keep (Exa.wr W127 E126) K128c.1)
  obtain ⟨T186, h186, X186, e186, W186, st186⟩ := putF X128 hx hZ hown (host := "") (Or.inl (own_wd hw 86 rfl)) Via.refl rfl F184 E185 (Or.inr ⟨(own_wd hw 87 rfl), rfl, hnm⟩) (own_wd hw 34 rfl) (ty := (.object "java/util/List")) (by decide) rfl rfl (g := (mkF m 24 #[.val (.ref a112), .val (.ref a113), .val (.ref a114), .val (.int p115)] [(.ref b178), (.ref a112)])) rfl rfl (hb hby own_d7_24)
  have F186 : Fld Z h186 a112 "com/example/libentail/libentail/Role" "members" "Ljava/util/List;" (.ref b178) := Fld.same W186 F184
  have K186 := own_kpWr K128 W186 (Or.inl (List.mem_of_getElem? (i := 0) rfl))
  have z_W186 : T128.heap.size ≤ h186.size := Nat.le_of_eq W186.size.symm
  have F187 : Fld Z h186 a112 "com/example/libentail/libentail/Role" "owner" "Ljava/lang/Object;" (.ref a113) := (Fld.other W186 (Fld.keep (Fld.other W127 (Fld.other W123 F119 (Or.inr (slot_ne (Or.inr (own_wd hw 41 rfl)) (Or.inr (own_wd hw 43 rfl)) (by decide) (t := (.object "java/lang/Object")) (t' := (.object "java/lang/String")) (by decide) (by decide)))) (Or.inr (slot_ne (Or.inr (own_wd hw 41 rfl)) (Or.inr (own_wd hw 45 rfl)) (by decide) (t := (.object "java/lang/Object")) (t' := .int) (by decide) (by decide)))) K128c.1 nin0) (Or.inr (slot_ne (Or.inr (own_wd hw 41 rfl)) (Or.inr (own_wd hw 87 rfl)) (by decide) (t := (.object "java/lang/Object")) (t' := (.object "java/util/List")) (by decide) (by decide))))
  have F188 : Fld Z h186 a112 "com/example/libentail/libentail/Role" "name" "Ljava/lang/String;" (.ref a114) := (Fld.other W186 (Fld.keep (Fld.other W127 F123 (Or.inr (slot_ne (Or.inr (own_wd hw 43 rfl)) (Or.inr (own_wd hw 45 rfl)) (by decide) (t := (.object "java/lang/String")) (t' := .int) (by decide) (by decide)))) K128c.1 nin0) (Or.inr (slot_ne (Or.inr (own_wd hw 43 rfl)) (Or.inr (own_wd hw 87 rfl)) (by decide) (t := (.object "java/lang/String")) (t' := (.object "java/util/List")) (by decide) (by decide))))
  have F189 : Fld Z h186 a112 "com/example/libentail/libentail/Role" "id" "I" (.int p115) := (Fld.other W186 (Fld.keep F127 K128c.1 nin0) (Or.inr (slot_ne (Or.inr (own_wd hw 45 rfl)) (Or.inr (own_wd hw 87 rfl)) (by decide) (t := .int) (t' := (.object "java/util/List")) (by decide) (by decide))))
  have F191 : Fld Z h186 a112 "com/example/libentail/libentail/Role" "inverse" "Lcom/example/libentail/libentail/Role;" .null := (Fld.other W186 (Fld.keep (Fld.other W127 (Fld.other W123 (Fld.other W119 F190 (Or.inr (slot_ne (Or.inl (own_wd hw 92 rfl)) (Or.inr (own_wd hw 41 rfl)) (by decide) (t := (.object "com/example/libentail/libentail/Role")) (t' := (.object "java/lang/Object")) (by decide) (by decide)))) (Or.inr (slot_ne (Or.inl (own_wd hw 92 rfl)) (Or.inr (own_wd hw 43 rfl)) (by decide) (t := (.object "com/example/libentail/libentail/Role")) (t' := (.object "java/lang/String")) (by decide) (by decide)))) (Or.inr (slot_ne (Or.inl (own_wd hw 92 rfl)) (Or.inr (own_wd hw 45 rfl)) (by decide) (t := (.object "com/example/libentail/libentail/Role")) (t' := .int) (by decide) (by decide)))) K128c.1 nin0) (Or.inr (slot_ne (Or.inl (own_wd hw 92 rfl)) (Or.inr (own_wd hw 87 rfl)) (by decide) (t := (.object "com/example/libentail/libentail/Role")) (t' := (.object "java/util/List")) (by decide) (by decide))))
  have F193 : Fld Z h186 a112 "com/example/libentail/libentail/Role" "inverted" "Z" (.int (0 : Int32)) := (Fld.other W186 (Fld.keep (Fld.other W127 (Fld.other W123 (Fld.other W119 F192 (Or.inr (slot_ne (Or.inl (own_wd hw 94 rfl)) (Or.inr (own_wd hw 41 rfl)) (by decide) (t := .boolean) (t' := (.object "java/lang/Object")) (by decide) (by decide)))) (Or.inr (slot_ne (Or.inl (own_wd hw 94 rfl)) (Or.inr (own_wd hw 43 rfl)) (by decide) (t := .boolean) (t' := (.object "java/lang/String")) (by decide) (by decide)))) (Or.inr (slot_ne (Or.inl (own_wd hw 94 rfl)) (Or.inr (own_wd hw 45 rfl)) (by decide) (t := .boolean) (t' := .int) (by decide) (by decide)))) K128c.1 nin0) (Or.inr (slot_ne (Or.inl (own_wd hw 94 rfl)) (Or.inr (own_wd hw 87 rfl)) (by decide) (t := .boolean) (t' := (.object "java/util/List")) (by decide) (by decide))))
  have E194 : Exa Z h186 b178 "java/util/ImmutableCollections$List12" := (Exa.wr W186 E179)
  have ne195 : a112 ≠ b178 := Nat.ne_of_lt (Nat.lt_of_lt_of_le E117.lt (Nat.le_trans (Nat.le_trans (Nat.le_trans z_W119 z_W123) z_W127) lo_b178))
  have F196 : Fld Z h186 b178 "java/util/ImmutableCollections$List12" "e0" "Ljava/lang/Object;" (.ref a112) := (Fld.other W186 F180 (Or.inl (Ne.symm ne195)))
  have F197 : Fld Z h186 b178 "java/util/ImmutableCollections$List12" "e1" "Ljava/lang/Object;" (.ref a159) := (Fld.other W186 F181 (Or.inl (Ne.symm ne195)))
  refine own_go (T2 := T186) (g2 := (mkF m 27 #[.val (.ref a112), .val (.ref a113), .val (.ref a114), .val (.int p115)] [])) (fun t k => XS.aloadN X127.here hx rfl (hb hby own_d7_20) rfl rfl (st128 _ (st186 _ k))) ?_
  exact own_endV X186 hx Bd.notSynchronized Bd.returns (hb hby own_d7_27) (by decide) (by decide) (by rw [e186]; exact ⟨b178, rfl, (by simpa only [List.append_nil] using K186), sz_b178, F187, F188, F189, F186, F191, F193, E194, F196, F197⟩)
theorem own_pd10 : parseMethodDescriptor "(Ljava/lang/Object;Ljava/lang/String;I)V" = some ⟨[(.object "java/lang/Object"), (.object "java/lang/String"), .int], none⟩ := by decide +kernel
theorem own_w208 {Z : State} {a0 : Array Value} (hw : ∀ d ∈ tables_1, d.before a0 Z = true) : own_IW Z a0 "com/example/libentail/libentail/RolePairPinLaw" 20 (⟨"com/example/libentail/libentail/Role", "<init>", "(Ljava/lang/Object;Ljava/lang/String;I)V"⟩ : MethodName) prog_13_method_1_code 4 := ⟨rfl, (own_wd hw 36 rfl), (own_wd hw 37 rfl), (own_wd hw 35 rfl), (own_wd hw 38 rfl), (by decide)⟩
theorem own_d14_0 : decode prog_13_method_9_code 0 = .ok (.aload_n 0, 1) := by decide +kernel
theorem own_d14_1 : decode prog_13_method_9_code 1 = .ok (.aload_n 1, 1) := by decide +kernel
theorem own_d14_2 : decode prog_13_method_9_code 2 = .ok (.putfield 67, 3) := by decide +kernel
theorem own_d14_5 : decode prog_13_method_9_code 5 = .ok (.aload_n 1, 1) := by decide +kernel
theorem own_d14_6 : decode prog_13_method_9_code 6 = .ok (.aload_n 0, 1) := by decide +kernel
theorem own_d14_7 : decode prog_13_method_9_code 7 = .ok (.putfield 67, 3) := by decide +kernel
theorem own_d14_10 : decode prog_13_method_9_code 10 = .ok (.aload_n 1, 1) := by decide +kernel
theorem own_d14_11 : decode prog_13_method_9_code 11 = .ok (.iconst 1, 1) := by decide +kernel
theorem own_d14_12 : decode prog_13_method_9_code 12 = .ok (.putfield 71, 3) := by decide +kernel
theorem own_d14_15 : decode prog_13_method_9_code 15 = .ok (.return_, 1) := by decide +kernel
def own_Q230 (Z : State) (h0 : Heap) (a231 : Addr) (a232 : Addr) (a251 : Addr) (a255 : Addr) (p259 : Int32) (a263 : Addr) (a272 : Addr) (p275 : Int32) (a278 : Addr) (v : Option Value) (h : Heap) (L : List Loc) : Prop := v = none ∧ own_Kp h0 h [a231, a232] L ∧ Fld Z h a231 "com/example/libentail/libentail/Role" "inverse" "Lcom/example/libentail/libentail/Role;" (.ref a232) ∧ Fld Z h a231 "com/example/libentail/libentail/Role" "owner" "Ljava/lang/Object;" (.ref a251) ∧ Fld Z h a231 "com/example/libentail/libentail/Role" "name" "Ljava/lang/String;" (.ref a255) ∧ Fld Z h a231 "com/example/libentail/libentail/Role" "id" "I" (.int p259) ∧ Fld Z h a231 "com/example/libentail/libentail/Role" "members" "Ljava/util/List;" (.ref a263) ∧ Fld Z h a231 "com/example/libentail/libentail/Role" "inverted" "Z" (.int (0 : Int32)) ∧ Fld Z h a232 "com/example/libentail/libentail/Role" "inverse" "Lcom/example/libentail/libentail/Role;" (.ref a231) ∧ Fld Z h a232 "com/example/libentail/libentail/Role" "inverted" "Z" (.int (1 : Int32)) ∧ Fld Z h a232 "com/example/libentail/libentail/Role" "owner" "Ljava/lang/Object;" (.ref a251) ∧ Fld Z h a232 "com/example/libentail/libentail/Role" "name" "Ljava/lang/String;" (.ref a272) ∧ Fld Z h a232 "com/example/libentail/libentail/Role" "id" "I" (.int p275) ∧ Fld Z h a232 "com/example/libentail/libentail/Role" "members" "Ljava/util/List;" (.ref a278)
theorem own_ef230 (m : MethodId) (x0 : Addr) (x1 : Addr) : entryFrame m #[(.ref x0), (.ref x1)] 2 = mkF m 0 #[.val (.ref x0), .val (.ref x1)] [] := by first | (simp [entryFrame, mkF, argsToLocals, Value.category]; done) | rfl
set_option maxRecDepth 65536 in
set_option maxHeartbeats 40000000 in
theorem own_rm230 (l : Launch) (Z : State) (a0 : Array Value) (hw : ∀ d ∈ tables_1, d.before a0 Z = true) (h0 : Heap) (a231 : Addr) (a232 : Addr) (a251 : Addr) (a255 : Addr) (p259 : Int32) (a263 : Addr) (a272 : Addr) (p275 : Int32) (a278 : Addr) (E234 : Exa Z h0 a231 "com/example/libentail/libentail/Role") (F237 : Fld Z h0 a231 "com/example/libentail/libentail/Role" "inverse" "Lcom/example/libentail/libentail/Role;" .null) (E240 : Exa Z h0 a232 "com/example/libentail/libentail/Role") (F242 : Fld Z h0 a232 "com/example/libentail/libentail/Role" "inverse" "Lcom/example/libentail/libentail/Role;" .null) (ne243 : a232 ≠ a231) (F246 : Fld Z h0 a232 "com/example/libentail/libentail/Role" "inverted" "Z" (.int (0 : Int32))) (F252 : Fld Z h0 a231 "com/example/libentail/libentail/Role" "owner" "Ljava/lang/Object;" (.ref a251)) (F256 : Fld Z h0 a231 "com/example/libentail/libentail/Role" "name" "Ljava/lang/String;" (.ref a255)) (F260 : Fld Z h0 a231 "com/example/libentail/libentail/Role" "id" "I" (.int p259)) (F264 : Fld Z h0 a231 "com/example/libentail/libentail/Role" "members" "Ljava/util/List;" (.ref a263)) (F268 : Fld Z h0 a231 "com/example/libentail/libentail/Role" "inverted" "Z" (.int (0 : Int32))) (F270 : Fld Z h0 a232 "com/example/libentail/libentail/Role" "owner" "Ljava/lang/Object;" (.ref a251)) (F273 : Fld Z h0 a232 "com/example/libentail/libentail/Role" "name" "Ljava/lang/String;" (.ref a272)) (F276 : Fld Z h0 a232 "com/example/libentail/libentail/Role" "id" "I" (.int p275)) (F279 : Fld Z h0 a232 "com/example/libentail/libentail/Role" "members" "Ljava/util/List;" (.ref a278)) :
    own_Con l Z (⟨"com/example/libentail/libentail/Role", "pair", "(Lcom/example/libentail/libentail/Role;Lcom/example/libentail/libentail/Role;)V"⟩ : MethodName) prog_13_method_9_code 2 none ({ frames := 0, cells := 0, slots := 0, locals := 0 } : Room) #[(.ref a231), (.ref a232)] h0 (own_Q230 Z h0 a231 a232 a251 a255 p259 a263 a272 p275 a278) := by
  refine MetFree.of_bodySF (plainFor_of_name own_pn10) hisR ?_
  intro p e s m args below meth c s₁ Bd hml0 hP hK
  obtain ⟨rfl, hZ, hh⟩ := hP
  have hx := Bd.exec
  have hby := Bd.bytes
  have hml : c.maxLocals = 2 := hml0
  have hown : s.vm.findClass "com/example/libentail/libentail/Role" = some m.cls := findClass_of_methodNamed Bd.named
  have hnm := (name_of_methodNamed Bd.named Bd.method).1
  have X0 : Stand p l e ({ frames := 0, cells := 0, slots := 0, locals := 0 } : Room) s m #[(.ref a231), (.ref a232)] below meth c s₁ [] 0 0 := Stand.of_body Bd
  have e0 : s₁.heap = h0 := by rw [← hh, Bd.state]; rfl
  have K0 : own_Kp h0 h0 [a231, a232] [] := own_kpRefl _ _
  show own_Go p e below (own_K s (own_Q230 Z h0 a231 a232 a251 a255 p259 a263 a272 p275 a278) 0 0) s₁ (entryFrame m #[(.ref a231), (.ref a232)] 2)
  rw [own_ef230]
  obtain ⟨T238, h238, X238, e238, W238, st238⟩ := putF X0 hx hZ hown (host := "") (Or.inl (own_wd hw 91 rfl)) Via.refl e0 F237 E234 (Or.inl (own_wd hw 92 rfl)) (own_wd hw 34 rfl) (ty := (.object "com/example/libentail/libentail/Role")) (by decide) rfl rfl (g := (mkF m 2 #[.val (.ref a231), .val (.ref a232)] [(.ref a232), (.ref a231)])) rfl rfl (hb hby own_d14_2)
  have F238 : Fld Z h238 a231 "com/example/libentail/libentail/Role" "inverse" "Lcom/example/libentail/libentail/Role;" (.ref a232) := Fld.same W238 F237
  have K238 := own_kpWr K0 W238 (Or.inl (List.mem_of_getElem? (i := 0) rfl))
  have z_W238 : h0.size ≤ h238.size := Nat.le_of_eq W238.size.symm
  have E241 : Exa Z h238 a232 "com/example/libentail/libentail/Role" := (Exa.wr W238 E240)
  have F244 : Fld Z h238 a232 "com/example/libentail/libentail/Role" "inverse" "Lcom/example/libentail/libentail/Role;" .null := (Fld.other W238 F242 (Or.inl ne243))
  obtain ⟨T245, h245, X245, e245, W245, st245⟩ := putF X238 hx hZ hown (host := "") (Or.inl (own_wd hw 91 rfl)) Via.refl e238 F244 E241 (Or.inl (own_wd hw 92 rfl)) (own_wd hw 34 rfl) (ty := (.object "com/example/libentail/libentail/Role")) (by decide) rfl rfl (g := (mkF m 7 #[.val (.ref a231), .val (.ref a232)] [(.ref a231), (.ref a232)])) rfl rfl (hb hby own_d14_7)
  have F245 : Fld Z h245 a232 "com/example/libentail/libentail/Role" "inverse" "Lcom/example/libentail/libentail/Role;" (.ref a231) := Fld.same W245 F244
  have K245 := own_kpWr K238 W245 (Or.inl (List.mem_of_getElem? (i := 1) rfl))
  have z_W245 : h238.size ≤ h245.size := Nat.le_of_eq W245.size.symm
  have F247 : Fld Z h245 a232 "com/example/libentail/libentail/Role" "inverted" "Z" (.int (0 : Int32)) := (Fld.other W245 (Fld.other W238 F246 (Or.inl ne243)) (Or.inr (slot_ne (Or.inl (own_wd hw 94 rfl)) (Or.inl (own_wd hw 92 rfl)) (by decide) (t := .boolean) (t' := (.object "com/example/libentail/libentail/Role")) (by decide) (by decide))))
  have E248 : Exa Z h245 a232 "com/example/libentail/libentail/Role" := (Exa.wr W245 E241)
  obtain ⟨T249, h249, X249, e249, W249, st249⟩ := putFN X245 hx hZ hown (own_wd hw 93 rfl) Via.refl e245 F247 E248 (Or.inl (own_wd hw 94 rfl)) (own_wd hw 34 rfl) (ty := .boolean) (v' := (.int (1 : Int32))) (by decide) rfl (fits_nar_bool (1 : Int32)) (g := (mkF m 12 #[.val (.ref a231), .val (.ref a232)] [(.int (1 : Int32)), (.ref a232)])) rfl rfl (hb hby own_d14_12)
  have F249 : Fld Z h249 a232 "com/example/libentail/libentail/Role" "inverted" "Z" (.int (1 : Int32)) := Fld.same W249 F247
  have K249 := own_kpWr K245 W249 (Or.inl (List.mem_of_getElem? (i := 1) rfl))
  have z_W249 : h245.size ≤ h249.size := Nat.le_of_eq W249.size.symm
  have F253 : Fld Z h249 a231 "com/example/libentail/libentail/Role" "owner" "Ljava/lang/Object;" (.ref a251) := (Fld.other W249 (Fld.other W245 (Fld.other W238 F252 (Or.inr (slot_ne (Or.inr (own_wd hw 41 rfl)) (Or.inl (own_wd hw 92 rfl)) (by decide) (t := (.object "java/lang/Object")) (t' := (.object "com/example/libentail/libentail/Role")) (by decide) (by decide)))) (Or.inl (Ne.symm ne243))) (Or.inl (Ne.symm ne243)))
  have F257 : Fld Z h249 a231 "com/example/libentail/libentail/Role" "name" "Ljava/lang/String;" (.ref a255) := (Fld.other W249 (Fld.other W245 (Fld.other W238 F256 (Or.inr (slot_ne (Or.inr (own_wd hw 43 rfl)) (Or.inl (own_wd hw 92 rfl)) (by decide) (t := (.object "java/lang/String")) (t' := (.object "com/example/libentail/libentail/Role")) (by decide) (by decide)))) (Or.inl (Ne.symm ne243))) (Or.inl (Ne.symm ne243)))
  have F261 : Fld Z h249 a231 "com/example/libentail/libentail/Role" "id" "I" (.int p259) := (Fld.other W249 (Fld.other W245 (Fld.other W238 F260 (Or.inr (slot_ne (Or.inr (own_wd hw 45 rfl)) (Or.inl (own_wd hw 92 rfl)) (by decide) (t := .int) (t' := (.object "com/example/libentail/libentail/Role")) (by decide) (by decide)))) (Or.inl (Ne.symm ne243))) (Or.inl (Ne.symm ne243)))
  have F265 : Fld Z h249 a231 "com/example/libentail/libentail/Role" "members" "Ljava/util/List;" (.ref a263) := (Fld.other W249 (Fld.other W245 (Fld.other W238 F264 (Or.inr (slot_ne (Or.inr (own_wd hw 87 rfl)) (Or.inl (own_wd hw 92 rfl)) (by decide) (t := (.object "java/util/List")) (t' := (.object "com/example/libentail/libentail/Role")) (by decide) (by decide)))) (Or.inl (Ne.symm ne243))) (Or.inl (Ne.symm ne243)))
  have F266 : Fld Z h249 a231 "com/example/libentail/libentail/Role" "inverse" "Lcom/example/libentail/libentail/Role;" (.ref a232) := (Fld.other W249 (Fld.other W245 F238 (Or.inl (Ne.symm ne243))) (Or.inl (Ne.symm ne243)))
  have F269 : Fld Z h249 a231 "com/example/libentail/libentail/Role" "inverted" "Z" (.int (0 : Int32)) := (Fld.other W249 (Fld.other W245 (Fld.other W238 F268 (Or.inr (slot_ne (Or.inl (own_wd hw 94 rfl)) (Or.inl (own_wd hw 92 rfl)) (by decide) (t := .boolean) (t' := (.object "com/example/libentail/libentail/Role")) (by decide) (by decide)))) (Or.inl (Ne.symm ne243))) (Or.inl (Ne.symm ne243)))
  have F271 : Fld Z h249 a232 "com/example/libentail/libentail/Role" "owner" "Ljava/lang/Object;" (.ref a251) := (Fld.other W249 (Fld.other W245 (Fld.other W238 F270 (Or.inl ne243)) (Or.inr (slot_ne (Or.inr (own_wd hw 41 rfl)) (Or.inl (own_wd hw 92 rfl)) (by decide) (t := (.object "java/lang/Object")) (t' := (.object "com/example/libentail/libentail/Role")) (by decide) (by decide)))) (Or.inr (slot_ne (Or.inr (own_wd hw 41 rfl)) (Or.inl (own_wd hw 94 rfl)) (by decide) (t := (.object "java/lang/Object")) (t' := .boolean) (by decide) (by decide))))
  have F274 : Fld Z h249 a232 "com/example/libentail/libentail/Role" "name" "Ljava/lang/String;" (.ref a272) := (Fld.other W249 (Fld.other W245 (Fld.other W238 F273 (Or.inl ne243)) (Or.inr (slot_ne (Or.inr (own_wd hw 43 rfl)) (Or.inl (own_wd hw 92 rfl)) (by decide) (t := (.object "java/lang/String")) (t' := (.object "com/example/libentail/libentail/Role")) (by decide) (by decide)))) (Or.inr (slot_ne (Or.inr (own_wd hw 43 rfl)) (Or.inl (own_wd hw 94 rfl)) (by decide) (t := (.object "java/lang/String")) (t' := .boolean) (by decide) (by decide))))
  have F277 : Fld Z h249 a232 "com/example/libentail/libentail/Role" "id" "I" (.int p275) := (Fld.other W249 (Fld.other W245 (Fld.other W238 F276 (Or.inl ne243)) (Or.inr (slot_ne (Or.inr (own_wd hw 45 rfl)) (Or.inl (own_wd hw 92 rfl)) (by decide) (t := .int) (t' := (.object "com/example/libentail/libentail/Role")) (by decide) (by decide)))) (Or.inr (slot_ne (Or.inr (own_wd hw 45 rfl)) (Or.inl (own_wd hw 94 rfl)) (by decide) (t := .int) (t' := .boolean) (by decide) (by decide))))
  have F280 : Fld Z h249 a232 "com/example/libentail/libentail/Role" "members" "Ljava/util/List;" (.ref a278) := (Fld.other W249 (Fld.other W245 (Fld.other W238 F279 (Or.inl ne243)) (Or.inr (slot_ne (Or.inr (own_wd hw 87 rfl)) (Or.inl (own_wd hw 92 rfl)) (by decide) (t := (.object "java/util/List")) (t' := (.object "com/example/libentail/libentail/Role")) (by decide) (by decide)))) (Or.inr (slot_ne (Or.inr (own_wd hw 87 rfl)) (Or.inl (own_wd hw 94 rfl)) (by decide) (t := (.object "java/util/List")) (t' := .boolean) (by decide) (by decide))))
  have F281 : Fld Z h249 a232 "com/example/libentail/libentail/Role" "inverse" "Lcom/example/libentail/libentail/Role;" (.ref a231) := (Fld.other W249 F245 (Or.inr (slot_ne (Or.inl (own_wd hw 92 rfl)) (Or.inl (own_wd hw 94 rfl)) (by decide) (t := (.object "com/example/libentail/libentail/Role")) (t' := .boolean) (by decide) (by decide))))
  refine own_go (T2 := T249) (g2 := (mkF m 15 #[.val (.ref a231), .val (.ref a232)] [])) (fun t k => XS.aloadN X0.here hx rfl (hb hby own_d14_0) rfl rfl (XS.aloadN X0.here hx rfl (hb hby own_d14_1) rfl rfl (st238 _ (XS.aloadN X238.here hx rfl (hb hby own_d14_5) rfl rfl (XS.aloadN X238.here hx rfl (hb hby own_d14_6) rfl rfl (st245 _ (XS.aloadN X245.here hx rfl (hb hby own_d14_10) rfl rfl (XS.iconst X245.here hx rfl (hb hby own_d14_11) (st249 _ k))))))))) ?_
  exact own_endV X249 hx Bd.notSynchronized Bd.returns (hb hby own_d14_15) (by decide) (by decide) (by rw [e249]; exact ⟨rfl, (by simpa only [List.append_nil] using K249), F266, F253, F257, F261, F265, F269, F281, F249, F271, F274, F277, F280⟩)
theorem own_pd11 : parseMethodDescriptor "(Lcom/example/libentail/libentail/Role;Lcom/example/libentail/libentail/Role;)V" = some ⟨[(.object "com/example/libentail/libentail/Role"), (.object "com/example/libentail/libentail/Role")], none⟩ := by decide +kernel
theorem own_w294 {Z : State} {a0 : Array Value} (hw : ∀ d ∈ tables_1, d.before a0 Z = true) : own_SW Z a0 "com/example/libentail/libentail/RolePairPinLaw" 23 (⟨"com/example/libentail/libentail/Role", "pair", "(Lcom/example/libentail/libentail/Role;Lcom/example/libentail/libentail/Role;)V"⟩ : MethodName) prog_13_method_9_code 2 none := ⟨(own_wd hw 88 rfl), (own_wd hw 89 rfl), (own_wd hw 35 rfl), (own_wd hw 90 rfl), (by decide)⟩
theorem own_d15_0 : decode prog_13_method_7_code 0 = .ok (.aload_n 0, 1) := by decide +kernel
theorem own_d15_1 : decode prog_13_method_7_code 1 = .ok (.getfield 67, 3) := by decide +kernel
theorem own_d15_4 : decode prog_13_method_7_code 4 = .ok (.areturn, 1) := by decide +kernel
theorem own_ef296 (m : MethodId) (x0 : Addr) : entryFrame m #[(.ref x0)] 1 = mkF m 0 #[.val (.ref x0)] [] := by first | (simp [entryFrame, mkF, argsToLocals, Value.category]; done) | rfl
set_option maxRecDepth 65536 in
set_option maxHeartbeats 40000000 in
theorem own_rm296 (l : Launch) (Z : State) (a0 : Array Value) (hw : ∀ d ∈ tables_1, d.before a0 Z = true) (h0 : Heap) (a297 : Addr) (a298 : Addr) (F299 : Fld Z h0 a297 "com/example/libentail/libentail/Role" "inverse" "Lcom/example/libentail/libentail/Role;" (.ref a298)) :
    own_Con l Z (⟨"com/example/libentail/libentail/Role", "inverse", "()Lcom/example/libentail/libentail/Role;"⟩ : MethodName) prog_13_method_7_code 1 (some (.object "com/example/libentail/libentail/Role")) ({ frames := 0, cells := 0, slots := 0, locals := 0 } : Room) #[(.ref a297)] h0 (own_QP (some (.ref a298)) h0) := by
  refine MetFree.of_bodySF (plainFor_of_name own_pn10) hisR ?_
  intro p e s m args below meth c s₁ Bd hml0 hP hK
  obtain ⟨rfl, hZ, hh⟩ := hP
  have hx := Bd.exec
  have hby := Bd.bytes
  have hml : c.maxLocals = 1 := hml0
  have hown : s.vm.findClass "com/example/libentail/libentail/Role" = some m.cls := findClass_of_methodNamed Bd.named
  have hnm := (name_of_methodNamed Bd.named Bd.method).1
  have X0 : Stand p l e ({ frames := 0, cells := 0, slots := 0, locals := 0 } : Room) s m #[(.ref a297)] below meth c s₁ [] 0 0 := Stand.of_body Bd
  have e0 : s₁.heap = h0 := by rw [← hh, Bd.state]; rfl
  have K0 : own_Kp h0 h0 [] [] := own_kpRefl _ _
  show own_Go p e below (own_K s (own_QP (some (.ref a298)) h0) 0 0) s₁ (entryFrame m #[(.ref a297)] 1)
  rw [own_ef296]
  obtain ⟨T300, X300, e300, st300⟩ := getF X0 hx hZ hown (host := "") (Or.inl (own_wd hw 91 rfl)) Via.refl e0 F299 (g := (mkF m 1 #[.val (.ref a297)] [(.ref a297)])) rfl rfl (hb hby own_d15_1)
  refine own_go (T2 := T300) (g2 := (mkF m 4 #[.val (.ref a297)] [(.ref a298)])) (fun t k => XS.aloadN X0.here hx rfl (hb hby own_d15_0) rfl rfl (st300 _ k)) ?_
  exact own_endR X300 hx Bd.notSynchronized Bd.returns rfl rfl (hb hby own_d15_4) (by decide) (by decide) ⟨rfl, rfl, e300⟩
theorem own_pd12 : parseMethodDescriptor "()Lcom/example/libentail/libentail/Role;" = some ⟨[], some (.object "com/example/libentail/libentail/Role")⟩ := by decide +kernel
theorem own_w302 {Z : State} {a0 : Array Value} (hw : ∀ d ∈ tables_1, d.before a0 Z = true) : own_VW Z a0 "com/example/libentail/libentail/RolePairPinLaw" 27 "com/example/libentail/libentail/Role" (⟨"com/example/libentail/libentail/Role", "inverse", "()Lcom/example/libentail/libentail/Role;"⟩ : MethodName) prog_13_method_7_code 1 (some (.object "com/example/libentail/libentail/Role")) := ⟨(own_wd hw 95 rfl), (own_wd hw 96 rfl), (own_wd hw 98 rfl), (own_wd hw 97 rfl), (own_wd hw 35 rfl), (own_wd hw 99 rfl), (by decide)⟩
theorem own_d16_0 : decode prog_13_method_8_code 0 = .ok (.aload_n 0, 1) := by decide +kernel
theorem own_d16_1 : decode prog_13_method_8_code 1 = .ok (.getfield 71, 3) := by decide +kernel
theorem own_d16_4 : decode prog_13_method_8_code 4 = .ok (.ireturn, 1) := by decide +kernel
theorem own_ef306 (m : MethodId) (x0 : Addr) : entryFrame m #[(.ref x0)] 1 = mkF m 0 #[.val (.ref x0)] [] := by first | (simp [entryFrame, mkF, argsToLocals, Value.category]; done) | rfl
set_option maxRecDepth 65536 in
set_option maxHeartbeats 40000000 in
theorem own_rm306 (l : Launch) (Z : State) (a0 : Array Value) (hw : ∀ d ∈ tables_1, d.before a0 Z = true) (h0 : Heap) (a307 : Addr) (F308 : Fld Z h0 a307 "com/example/libentail/libentail/Role" "inverted" "Z" (.int (1 : Int32))) :
    own_Con l Z (⟨"com/example/libentail/libentail/Role", "isInverse", "()Z"⟩ : MethodName) prog_13_method_8_code 1 (some .boolean) ({ frames := 0, cells := 0, slots := 0, locals := 0 } : Room) #[(.ref a307)] h0 (own_QP (some (.int (1 : Int32))) h0) := by
  refine MetFree.of_bodySF (plainFor_of_name own_pn10) hisR ?_
  intro p e s m args below meth c s₁ Bd hml0 hP hK
  obtain ⟨rfl, hZ, hh⟩ := hP
  have hx := Bd.exec
  have hby := Bd.bytes
  have hml : c.maxLocals = 1 := hml0
  have hown : s.vm.findClass "com/example/libentail/libentail/Role" = some m.cls := findClass_of_methodNamed Bd.named
  have hnm := (name_of_methodNamed Bd.named Bd.method).1
  have X0 : Stand p l e ({ frames := 0, cells := 0, slots := 0, locals := 0 } : Room) s m #[(.ref a307)] below meth c s₁ [] 0 0 := Stand.of_body Bd
  have e0 : s₁.heap = h0 := by rw [← hh, Bd.state]; rfl
  have K0 : own_Kp h0 h0 [] [] := own_kpRefl _ _
  show own_Go p e below (own_K s (own_QP (some (.int (1 : Int32))) h0) 0 0) s₁ (entryFrame m #[(.ref a307)] 1)
  rw [own_ef306]
  obtain ⟨T309, X309, e309, st309⟩ := getF X0 hx hZ hown (host := "") (Or.inl (own_wd hw 93 rfl)) Via.refl e0 F308 (g := (mkF m 1 #[.val (.ref a307)] [(.ref a307)])) rfl rfl (hb hby own_d16_1)
  refine own_go (T2 := T309) (g2 := (mkF m 4 #[.val (.ref a307)] [(.int (1 : Int32))])) (fun t k => XS.aloadN X0.here hx rfl (hb hby own_d16_0) rfl rfl (st309 _ k)) ?_
  exact own_endN X309 hx Bd.notSynchronized (t := .boolean) Bd.returns (by simp) (hb hby own_d16_4) (z' := (1 : Int32)) rfl (by decide) (by decide) ⟨rfl, rfl, e309⟩
theorem own_pd13 : parseMethodDescriptor "()Z" = some ⟨[], some .boolean⟩ := by decide +kernel
theorem own_w310 {Z : State} {a0 : Array Value} (hw : ∀ d ∈ tables_1, d.before a0 Z = true) : own_VW Z a0 "com/example/libentail/libentail/RolePairPinLaw" 31 "com/example/libentail/libentail/Role" (⟨"com/example/libentail/libentail/Role", "isInverse", "()Z"⟩ : MethodName) prog_13_method_8_code 1 (some .boolean) := ⟨(own_wd hw 100 rfl), (own_wd hw 101 rfl), (own_wd hw 103 rfl), (own_wd hw 102 rfl), (own_wd hw 35 rfl), (own_wd hw 104 rfl), (by decide)⟩
theorem own_ef312 (m : MethodId) (x0 : Addr) : entryFrame m #[(.ref x0)] 1 = mkF m 0 #[.val (.ref x0)] [] := by first | (simp [entryFrame, mkF, argsToLocals, Value.category]; done) | rfl
set_option maxRecDepth 65536 in
set_option maxHeartbeats 40000000 in
theorem own_rm312 (l : Launch) (Z : State) (a0 : Array Value) (hw : ∀ d ∈ tables_1, d.before a0 Z = true) (h0 : Heap) (a313 : Addr) (F314 : Fld Z h0 a313 "com/example/libentail/libentail/Role" "inverted" "Z" (.int (0 : Int32))) :
    own_Con l Z (⟨"com/example/libentail/libentail/Role", "isInverse", "()Z"⟩ : MethodName) prog_13_method_8_code 1 (some .boolean) ({ frames := 0, cells := 0, slots := 0, locals := 0 } : Room) #[(.ref a313)] h0 (own_QP (some (.int (0 : Int32))) h0) := by
  refine MetFree.of_bodySF (plainFor_of_name own_pn10) hisR ?_
  intro p e s m args below meth c s₁ Bd hml0 hP hK
  obtain ⟨rfl, hZ, hh⟩ := hP
  have hx := Bd.exec
  have hby := Bd.bytes
  have hml : c.maxLocals = 1 := hml0
  have hown : s.vm.findClass "com/example/libentail/libentail/Role" = some m.cls := findClass_of_methodNamed Bd.named
  have hnm := (name_of_methodNamed Bd.named Bd.method).1
  have X0 : Stand p l e ({ frames := 0, cells := 0, slots := 0, locals := 0 } : Room) s m #[(.ref a313)] below meth c s₁ [] 0 0 := Stand.of_body Bd
  have e0 : s₁.heap = h0 := by rw [← hh, Bd.state]; rfl
  have K0 : own_Kp h0 h0 [] [] := own_kpRefl _ _
  show own_Go p e below (own_K s (own_QP (some (.int (0 : Int32))) h0) 0 0) s₁ (entryFrame m #[(.ref a313)] 1)
  rw [own_ef312]
  obtain ⟨T315, X315, e315, st315⟩ := getF X0 hx hZ hown (host := "") (Or.inl (own_wd hw 93 rfl)) Via.refl e0 F314 (g := (mkF m 1 #[.val (.ref a313)] [(.ref a313)])) rfl rfl (hb hby own_d16_1)
  refine own_go (T2 := T315) (g2 := (mkF m 4 #[.val (.ref a313)] [(.int (0 : Int32))])) (fun t k => XS.aloadN X0.here hx rfl (hb hby own_d16_0) rfl rfl (st315 _ k)) ?_
  exact own_endN X315 hx Bd.notSynchronized (t := .boolean) Bd.returns (by simp) (hb hby own_d16_4) (z' := (0 : Int32)) rfl (by decide) (by decide) ⟨rfl, rfl, e315⟩
theorem own_d17_0 : decode prog_13_method_5_code 0 = .ok (.aload_n 0, 1) := by decide +kernel
theorem own_d17_1 : decode prog_13_method_5_code 1 = .ok (.getfield 17, 3) := by decide +kernel
theorem own_d17_4 : decode prog_13_method_5_code 4 = .ok (.ireturn, 1) := by decide +kernel
theorem own_ef317 (m : MethodId) (x0 : Addr) : entryFrame m #[(.ref x0)] 1 = mkF m 0 #[.val (.ref x0)] [] := by first | (simp [entryFrame, mkF, argsToLocals, Value.category]; done) | rfl
set_option maxRecDepth 65536 in
set_option maxHeartbeats 40000000 in
theorem own_rm317 (l : Launch) (Z : State) (a0 : Array Value) (hw : ∀ d ∈ tables_1, d.before a0 Z = true) (h0 : Heap) (a318 : Addr) (p319 : Int32) (F320 : Fld Z h0 a318 "com/example/libentail/libentail/Role" "id" "I" (.int p319)) :
    own_Con l Z (⟨"com/example/libentail/libentail/Role", "id", "()I"⟩ : MethodName) prog_13_method_5_code 1 (some .int) ({ frames := 0, cells := 0, slots := 0, locals := 0 } : Room) #[(.ref a318)] h0 (own_QP (some (.int p319)) h0) := by
  refine MetFree.of_bodySF (plainFor_of_name own_pn10) hisR ?_
  intro p e s m args below meth c s₁ Bd hml0 hP hK
  obtain ⟨rfl, hZ, hh⟩ := hP
  have hx := Bd.exec
  have hby := Bd.bytes
  have hml : c.maxLocals = 1 := hml0
  have hown : s.vm.findClass "com/example/libentail/libentail/Role" = some m.cls := findClass_of_methodNamed Bd.named
  have hnm := (name_of_methodNamed Bd.named Bd.method).1
  have X0 : Stand p l e ({ frames := 0, cells := 0, slots := 0, locals := 0 } : Room) s m #[(.ref a318)] below meth c s₁ [] 0 0 := Stand.of_body Bd
  have e0 : s₁.heap = h0 := by rw [← hh, Bd.state]; rfl
  have K0 : own_Kp h0 h0 [] [] := own_kpRefl _ _
  show own_Go p e below (own_K s (own_QP (some (.int p319)) h0) 0 0) s₁ (entryFrame m #[(.ref a318)] 1)
  rw [own_ef317]
  obtain ⟨T321, X321, e321, st321⟩ := getF X0 hx hZ hown (host := "") (Or.inl (own_wd hw 44 rfl)) Via.refl e0 F320 (g := (mkF m 1 #[.val (.ref a318)] [(.ref a318)])) rfl rfl (hb hby own_d17_1)
  refine own_go (T2 := T321) (g2 := (mkF m 4 #[.val (.ref a318)] [(.int p319)])) (fun t k => XS.aloadN X0.here hx rfl (hb hby own_d17_0) rfl rfl (st321 _ k)) ?_
  exact own_endI X321 hx Bd.notSynchronized Bd.returns (hb hby own_d17_4) (by decide) (by decide) ⟨rfl, rfl, e321⟩
theorem own_pd14 : parseMethodDescriptor "()I" = some ⟨[], some .int⟩ := by decide +kernel
theorem own_w322 {Z : State} {a0 : Array Value} (hw : ∀ d ∈ tables_1, d.before a0 Z = true) : own_VW Z a0 "com/example/libentail/libentail/RolePairPinLaw" 35 "com/example/libentail/libentail/Role" (⟨"com/example/libentail/libentail/Role", "id", "()I"⟩ : MethodName) prog_13_method_5_code 1 (some .int) := ⟨(own_wd hw 105 rfl), (own_wd hw 106 rfl), (own_wd hw 108 rfl), (own_wd hw 107 rfl), (own_wd hw 35 rfl), (own_wd hw 109 rfl), (by decide)⟩
theorem own_d18_0 : decode prog_13_method_4_code 0 = .ok (.aload_n 0, 1) := by decide +kernel
theorem own_d18_1 : decode prog_13_method_4_code 1 = .ok (.getfield 13, 3) := by decide +kernel
theorem own_d18_4 : decode prog_13_method_4_code 4 = .ok (.areturn, 1) := by decide +kernel
theorem own_ef325 (m : MethodId) (x0 : Addr) : entryFrame m #[(.ref x0)] 1 = mkF m 0 #[.val (.ref x0)] [] := by first | (simp [entryFrame, mkF, argsToLocals, Value.category]; done) | rfl
set_option maxRecDepth 65536 in
set_option maxHeartbeats 40000000 in
theorem own_rm325 (l : Launch) (Z : State) (a0 : Array Value) (hw : ∀ d ∈ tables_1, d.before a0 Z = true) (h0 : Heap) (a326 : Addr) (a327 : Addr) (F328 : Fld Z h0 a326 "com/example/libentail/libentail/Role" "name" "Ljava/lang/String;" (.ref a327)) :
    own_Con l Z (⟨"com/example/libentail/libentail/Role", "getName", "()Ljava/lang/String;"⟩ : MethodName) prog_13_method_4_code 1 (some (.object "java/lang/String")) ({ frames := 0, cells := 0, slots := 0, locals := 0 } : Room) #[(.ref a326)] h0 (own_QP (some (.ref a327)) h0) := by
  refine MetFree.of_bodySF (plainFor_of_name own_pn10) hisR ?_
  intro p e s m args below meth c s₁ Bd hml0 hP hK
  obtain ⟨rfl, hZ, hh⟩ := hP
  have hx := Bd.exec
  have hby := Bd.bytes
  have hml : c.maxLocals = 1 := hml0
  have hown : s.vm.findClass "com/example/libentail/libentail/Role" = some m.cls := findClass_of_methodNamed Bd.named
  have hnm := (name_of_methodNamed Bd.named Bd.method).1
  have X0 : Stand p l e ({ frames := 0, cells := 0, slots := 0, locals := 0 } : Room) s m #[(.ref a326)] below meth c s₁ [] 0 0 := Stand.of_body Bd
  have e0 : s₁.heap = h0 := by rw [← hh, Bd.state]; rfl
  have K0 : own_Kp h0 h0 [] [] := own_kpRefl _ _
  show own_Go p e below (own_K s (own_QP (some (.ref a327)) h0) 0 0) s₁ (entryFrame m #[(.ref a326)] 1)
  rw [own_ef325]
  obtain ⟨T329, X329, e329, st329⟩ := getF X0 hx hZ hown (host := "") (Or.inl (own_wd hw 42 rfl)) Via.refl e0 F328 (g := (mkF m 1 #[.val (.ref a326)] [(.ref a326)])) rfl rfl (hb hby own_d18_1)
  refine own_go (T2 := T329) (g2 := (mkF m 4 #[.val (.ref a326)] [(.ref a327)])) (fun t k => XS.aloadN X0.here hx rfl (hb hby own_d18_0) rfl rfl (st329 _ k)) ?_
  exact own_endR X329 hx Bd.notSynchronized Bd.returns rfl rfl (hb hby own_d18_4) (by decide) (by decide) ⟨rfl, rfl, e329⟩
theorem own_pd15 : parseMethodDescriptor "()Ljava/lang/String;" = some ⟨[], some (.object "java/lang/String")⟩ := by decide +kernel
theorem own_w330 {Z : State} {a0 : Array Value} (hw : ∀ d ∈ tables_1, d.before a0 Z = true) : own_VW Z a0 "com/example/libentail/libentail/RolePairPinLaw" 39 "com/example/libentail/libentail/Role" (⟨"com/example/libentail/libentail/Role", "getName", "()Ljava/lang/String;"⟩ : MethodName) prog_13_method_4_code 1 (some (.object "java/lang/String")) := ⟨(own_wd hw 110 rfl), (own_wd hw 111 rfl), (own_wd hw 113 rfl), (own_wd hw 112 rfl), (own_wd hw 35 rfl), (own_wd hw 114 rfl), (by decide)⟩
theorem own_d6_6 : decode jdk_33_method_22_code 6 = .ok (.iload_n 0, 1) := by decide +kernel
theorem own_d6_7 : decode jdk_33_method_22_code 7 = .ok (.getstatic 191, 3) := by decide +kernel
theorem own_d6_10 : decode jdk_33_method_22_code 10 = .ok (.if_icmp .gt 13, 3) := by decide +kernel
def own_Q341 (Z : State) (h0 : Heap) (p342 : Int32) (v : Option Value) (h : Heap) (L : List Loc) : Prop := ∃ (b348 : Addr), v = (some (.ref b348)) ∧ own_Kp h0 h [] L ∧ h0.size ≤ b348 ∧ Exa Z h b348 "java/lang/Integer" ∧ Fld Z h b348 "java/lang/Integer" "value" "I" (.int p342)
theorem own_ef341 (m : MethodId) (x0 : Int32) : entryFrame m #[(.int x0)] 1 = mkF m 0 #[.val (.int x0)] [] := by first | (simp [entryFrame, mkF, argsToLocals, Value.category]; done) | rfl
set_option maxRecDepth 65536 in
set_option maxHeartbeats 40000000 in
theorem own_rm341 (l : Launch) (Z : State) (a0 : Array Value) (hw : ∀ d ∈ tables_1, d.before a0 Z = true) (h0 : Heap) (p342 : Int32) (hp343 : ¬ (p342 < (-128 : Int32))) (S345 : Sta Z h0 "java/lang/Integer$IntegerCache" "high" "I" (.int (127 : Int32))) (hp347 : (127 : Int32) < p342) :
    own_Con l Z (⟨"java/lang/Integer", "valueOf", "(I)Ljava/lang/Integer;"⟩ : MethodName) jdk_33_method_22_code 1 (some (.object "java/lang/Integer")) ({ frames := 3, cells := 1, slots := 1, locals := 38 } : Room) #[(.int p342)] h0 (own_Q341 Z h0 p342) := by
  refine MetFree.of_bodySF (plainFor_of_name own_pn3) hisR ?_
  intro p e s m args below meth c s₁ Bd hml0 hP hK
  obtain ⟨rfl, hZ, hh⟩ := hP
  have hx := Bd.exec
  have hby := Bd.bytes
  have hml : c.maxLocals = 1 := hml0
  have hown : s.vm.findClass "java/lang/Integer" = some m.cls := findClass_of_methodNamed Bd.named
  have hnm := (name_of_methodNamed Bd.named Bd.method).1
  have X0 : Stand p l e ({ frames := 3, cells := 1, slots := 1, locals := 38 } : Room) s m #[(.int p342)] below meth c s₁ [] 0 0 := Stand.of_body Bd
  have e0 : s₁.heap = h0 := by rw [← hh, Bd.state]; rfl
  have K0 : own_Kp h0 h0 [] [] := own_kpRefl _ _
  show own_Go p e below (own_K s (own_Q341 Z h0 p342) 1 1) s₁ (entryFrame m #[(.int p342)] 1)
  rw [own_ef341]
  obtain ⟨T346, X346, e346, st346⟩ := getS2 X0 hx hZ hown (host := "") (Or.inl (own_wd hw 30 rfl)) Via.refl e0 S345 (g := (mkF m 7 #[.val (.int p342)] [(.int p342)])) rfl (hb hby own_d6_7)
  obtain ⟨T348, h348, X348, e348, E348, A348, D348, -, st348⟩ := newO X346 hx hZ hown (own_wd hw 115 rfl) (own_wd hw 116 rfl) (own_wd hw 28 rfl) e346 (g := (mkF m 23 #[.val (.int p342)] [])) rfl (hb hby own_d6_23) (by decide) (by decide)
  obtain ⟨b348, g348⟩ : ∃ z, z = h0.size := ⟨_, rfl⟩
  rw [← g348] at A348 D348 st348
  have z_E348 : h0.size ≤ h348.size := E348.1
  have lo_b348 : h0.size ≤ b348 := Nat.le_of_eq g348.symm
  have sz_b348 : h0.size ≤ b348 := Nat.le_trans K0.1.1 lo_b348
  have K348 := own_kpExt K0 E348
  have F349 : Fld Z h348 b348 "java/lang/Integer" "value" "I" (.int (0 : Int32)) := D348 (Or.inr (own_wd hw 129 rfl)) (ty := .int) (by decide)
  obtain ⟨_, T350, L350, X350, ⟨rfl, K350c, F351⟩, st350⟩ := own_ci X348 hx hZ hown (own_w97 hw) hml (g := (mkF m 28 #[.val (.int p342)] [(.int p342), (.ref b348), (.ref b348)])) (hb hby own_d6_28) e348 (a := b348) [(.int p342)] [(.ref b348)] (lenOf own_pd5 rfl) (own_rm85 l Z a0 hw h348 b348 p342 A348 F349)
  have z_K350c : h348.size ≤ T350.heap.size := K350c.1.1
  have K350 := own_kpTrans K348 K350c (allS (Or.inr sz_b348) all0)
  have E352 : Exa Z T350.heap b348 "java/lang/Integer" := (Exa.keep A348 K350c.1)
  refine own_go (T2 := T350) (g2 := (mkF m 31 #[.val (.int p342)] [(.ref b348)])) (fun t k => XS.iloadN X0.here hx rfl (hb hby own_d6_0) rfl  (XS.bipush X0.here hx rfl (hb hby own_d6_1) (XS.icmpNo X0.here hx rfl (hb hby own_d6_3) rfl (flt (show ¬ (p342 < (-128 : Int32)) from hp343)).1 (XS.iloadN X0.here hx rfl (hb hby own_d6_6) rfl  (st346 _ (XS.icmpYes X346.here hx rfl (pc0 := 10) (pc' := 23) rfl (hb hby own_d6_10) rfl (tlt (show (127 : Int32) < p342 from hp347)).2.2.1 (by decide) (by decide) (st348 _ (XS.dup X348.here hx rfl (hb hby own_d6_26) rfl rfl (XS.iloadN X348.here hx rfl (hb hby own_d6_27) rfl  (st350 _ k)))))))))) ?_
  exact own_endR X350 hx Bd.notSynchronized Bd.returns rfl rfl (hb hby own_d6_31) (by decide) (by decide) ⟨b348, rfl, (by simpa only [List.append_nil] using K350), sz_b348, E352, F351⟩
theorem own_d6_13 : decode jdk_33_method_22_code 13 = .ok (.getstatic 195, 3) := by decide +kernel
theorem own_d6_16 : decode jdk_33_method_22_code 16 = .ok (.iload_n 0, 1) := by decide +kernel
theorem own_d6_17 : decode jdk_33_method_22_code 17 = .ok (.sipush 128, 3) := by decide +kernel
theorem own_d6_20 : decode jdk_33_method_22_code 20 = .ok (.iadd, 1) := by decide +kernel
theorem own_d6_21 : decode jdk_33_method_22_code 21 = .ok (.aaload, 1) := by decide +kernel
theorem own_d6_22 : decode jdk_33_method_22_code 22 = .ok (.areturn, 1) := by decide +kernel
def own_Q439 (Z : State) (h0 : Heap) (p440 : Int32) (a447 : Addr) (cl450 : Cell) (v : Option Value) (h : Heap) (L : List Loc) : Prop := ∃ (b455 : Addr), v = (some (.ref b455)) ∧ own_Kp h0 h [] L ∧ Exa Z h b455 "java/lang/Integer" ∧ Fld Z h b455 "java/lang/Integer" "value" "I" (.int ((p440 + (128 : Int32)) - (128 : Int32)))
theorem own_ef439 (m : MethodId) (x0 : Int32) : entryFrame m #[(.int x0)] 1 = mkF m 0 #[.val (.int x0)] [] := by first | (simp [entryFrame, mkF, argsToLocals, Value.category]; done) | rfl
set_option maxRecDepth 65536 in
set_option maxHeartbeats 40000000 in
theorem own_rm439 (l : Launch) (Z : State) (a0 : Array Value) (hw : ∀ d ∈ tables_1, d.before a0 Z = true) (h0 : Heap) (p440 : Int32) (a447 : Addr) (cl450 : Cell) (hp441 : ¬ (p440 < (-128 : Int32))) (S443 : Sta Z h0 "java/lang/Integer$IntegerCache" "high" "I" (.int (127 : Int32))) (hp445 : ¬ ((127 : Int32) < p440)) (S448 : Sta Z h0 "java/lang/Integer$IntegerCache" "cache" "[Ljava/lang/Integer;" (.ref a447)) (B451 : Bxs Z a447 cl450 "java/lang/Integer" "I" (256 : Int32) (fun j => (.int (j - (128 : Int32))))) (OX0 : Ext Z.heap h0) (hp453 : ¬ ((p440 + (128 : Int32)) < (0 : Int32))) (hp454 : (p440 + (128 : Int32)) < (256 : Int32)) :
    own_Con l Z (⟨"java/lang/Integer", "valueOf", "(I)Ljava/lang/Integer;"⟩ : MethodName) jdk_33_method_22_code 1 (some (.object "java/lang/Integer")) ({ frames := 0, cells := 0, slots := 0, locals := 0 } : Room) #[(.int p440)] h0 (own_Q439 Z h0 p440 a447 cl450) := by
  refine MetFree.of_bodySF (plainFor_of_name own_pn3) hisR ?_
  intro p e s m args below meth c s₁ Bd hml0 hP hK
  obtain ⟨rfl, hZ, hh⟩ := hP
  have hx := Bd.exec
  have hby := Bd.bytes
  have hml : c.maxLocals = 1 := hml0
  have hown : s.vm.findClass "java/lang/Integer" = some m.cls := findClass_of_methodNamed Bd.named
  have hnm := (name_of_methodNamed Bd.named Bd.method).1
  have X0 : Stand p l e ({ frames := 0, cells := 0, slots := 0, locals := 0 } : Room) s m #[(.int p440)] below meth c s₁ [] 0 0 := Stand.of_body Bd
  have e0 : s₁.heap = h0 := by rw [← hh, Bd.state]; rfl
  have K0 : own_Kp h0 h0 [] [] := own_kpRefl _ _
  show own_Go p e below (own_K s (own_Q439 Z h0 p440 a447 cl450) 0 0) s₁ (entryFrame m #[(.int p440)] 1)
  rw [own_ef439]
  obtain ⟨T444, X444, e444, st444⟩ := getS2 X0 hx hZ hown (host := "") (Or.inl (own_wd hw 30 rfl)) Via.refl e0 S443 (g := (mkF m 7 #[.val (.int p440)] [(.int p440)])) rfl (hb hby own_d6_7)
  obtain ⟨T449, X449, e449, st449⟩ := getS2 X444 hx hZ hown (host := "") (Or.inl (own_wd hw 32 rfl)) Via.refl e444 S448 (g := (mkF m 13 #[.val (.int p440)] [])) rfl (hb hby own_d6_13)
  have hin455 : ¬ ((p440 + (128 : Int32)) < 0 ∨ cl450.slots.size ≤ ((p440 + (128 : Int32))).toNatClampNeg) := inb_of B451.2.1 ⟨hp453, hp454⟩
  obtain ⟨b455, eb455, Eb455, Fb455⟩ := B451.2.2.2 (p440 + (128 : Int32)) hin455
  have Ec455 : Exa Z h0 b455 "java/lang/Integer" := Exa.ext OX0 Eb455
  have Fc455 : Fld Z h0 b455 "java/lang/Integer" "value" "I" (.int ((p440 + (128 : Int32)) - (128 : Int32))) := Fld.ext OX0 Fb455
  refine own_go (T2 := T449) (g2 := (mkF m 22 #[.val (.int p440)] [(.ref b455)])) (fun t k => XS.iloadN X0.here hx rfl (hb hby own_d6_0) rfl  (XS.bipush X0.here hx rfl (hb hby own_d6_1) (XS.icmpNo X0.here hx rfl (hb hby own_d6_3) rfl (flt (show ¬ (p440 < (-128 : Int32)) from hp441)).1 (XS.iloadN X0.here hx rfl (hb hby own_d6_6) rfl  (st444 _ (XS.icmpNo X444.here hx rfl (hb hby own_d6_10) rfl (flt (show ¬ ((127 : Int32) < p440) from hp445)).2.2.1 (st449 _ (XS.iloadN X449.here hx rfl (hb hby own_d6_16) rfl  (XS.sipush X449.here hx rfl (hb hby own_d6_17) (XS.iadd X449.here hx rfl (hb hby own_d6_20) rfl (own_ap (X449.aaload hx (j := (p440 + (128 : Int32))) (v := (.ref b455)) (own_hp e449 (B451.1.ext OX0).1) (State.isArrayOf_alike hZ.alike B451.1.2.1) rfl B451.1.2.2 hin455 eb455 rfl rfl (hb hby own_d6_21)) k))))))))))) ?_
  exact own_endR X449 hx Bd.notSynchronized Bd.returns rfl rfl (hb hby own_d6_22) (by decide) (by decide) (by rw [e449]; exact ⟨b455, rfl, (by simpa only [List.append_nil] using K0), Ec455, Fc455⟩)
theorem own_pn11 : plainName "com/example/libentail/libentail/RolePairPinLaw" = true := by first | (simp [plainName, overriddenIn]; done) | decide +kernel
theorem own_ef0 (m : MethodId) (x0 : Int32) (x1 : Int32) (x2 : Int32) (x3 : Int32) : entryFrame m #[(.int x0), (.int x1), (.int x2), (.int x3)] maxLocals = mkF m 0 #[.val (.int x0), .val (.int x1), .val (.int x2), .val (.int x3), .unset, .unset, .unset, .unset, .unset, .unset, .unset, .unset] [] := by first | (simp [entryFrame, mkF, argsToLocals, Value.category, maxLocals]; done) | rfl
set_option maxRecDepth 65536 in
set_option maxHeartbeats 40000000 in
theorem own_rm0 (l : Launch) (Z : State) (a0 : Array Value) (hw : ∀ d ∈ tables_1, d.before a0 Z = true) (ws : List Jvm.Cond) (h0 : Heap) (p_0 : Int32) (p_1 : Int32) (p_2 : Int32) (p_3 : Int32) (i_COMPACT_STRINGS : Int32) (w_cache : Addr) (w_EMPTY : Addr) (w_EMPTY_LIST : Addr) (cl_w_cache : Cell)
    (OX0 : Ext Z.heap h0)
    (S_COMPACT_STRINGS_2 : Sta Z h0 "java/lang/String" "COMPACT_STRINGS" "Z" (.int i_COMPACT_STRINGS))
    (S_cache_3 : Sta Z h0 "java/lang/Integer$IntegerCache" "cache" "[Ljava/lang/Integer;" (.ref w_cache))
    (E_w_cache : Exa Z h0 w_cache "[Ljava/lang/Integer;")
    (S_EMPTY_4 : Sta Z h0 "java/util/ImmutableCollections" "EMPTY" "Ljava/lang/Object;" (.ref w_EMPTY))
    (E_w_EMPTY : Exa Z h0 w_EMPTY "java/lang/Object")
    (S_EMPTY_LIST_5 : Sta Z h0 "java/util/ImmutableCollections" "EMPTY_LIST" "Ljava/util/ImmutableCollections$ListN;" (.ref w_EMPTY_LIST))
    (E_w_EMPTY_LIST : Exa Z h0 w_EMPTY_LIST "java/util/ImmutableCollections$ListN")
    (NI_6 : ¬ (i_COMPACT_STRINGS = (0 : Int32)))
    (S_high_7 : Sta Z h0 "java/lang/Integer$IntegerCache" "high" "I" (.int (127 : Int32)))
    (S__assertionsDisabled_8 : Sta Z h0 "java/util/ImmutableCollections" "$assertionsDisabled" "Z" (.int (1 : Int32)))
    (B_w_cache : Bxs Z w_cache cl_w_cache "java/lang/Integer" "I" (256 : Int32) (fun j => (.int (j - (128 : Int32))))) :
    MetFree l x (head1 (Jvm.Cond.code x code maxLocals ret :: ws) room_1) (fun a U => a = #[(.int p_0), (.int p_1), (.int p_2), (.int p_3)] ∧ Z.Warmed39 U.vm ∧ U.heap = h0) (fun _ _ _ _ _ => True) (fun _ U o U' => ∃ v L, o = .returned v ∧ own_Q0 h0.size v U'.heap L ∧ FrameEnd U o U' L room_1.cells room_1.slots) := by
  refine MetFree.of_bodySF (plainFor_of_name own_pn11) hisR ?_
  intro p e s m args below meth c s₁ Bd hml0 hP hK
  obtain ⟨rfl, hZ, hh⟩ := hP
  have hx := Bd.exec
  have hby := Bd.bytes
  have hml : c.maxLocals = 12 := hml0
  have hown : s.vm.findClass "com/example/libentail/libentail/RolePairPinLaw" = some m.cls := findClass_of_methodNamed Bd.named
  have X0 : Stand p l e room_1 s m #[(.int p_0), (.int p_1), (.int p_2), (.int p_3)] below meth c s₁ [] 0 0 := Stand.of_body Bd
  have e0 : s₁.heap = h0 := by rw [← hh, Bd.state]; rfl
  have K0 : own_Kp h0 h0 [] [] := own_kpRefl _ _
  show own_Go p e below (own_K s (own_Q0 h0.size) room_1.cells room_1.slots) s₁ (entryFrame m #[(.int p_0), (.int p_1), (.int p_2), (.int p_3)] maxLocals)
  rw [own_ef0]
  obtain ⟨_, T9, L9, X9, ⟨b56, b57, k58, rfl, K9c, lo_b56, lo_b57, ne_b56_b57, E59, F60, F61, A62⟩, st9⟩ := own_cs X0 hx hZ hown (own_w63 hw) hml (g := (mkF m 6 #[.val (.int p_0), .val (.int p_1), .val (.int p_2), .val (.int p_3), .unset, .unset, .unset, .unset, .unset, .unset, .unset, .unset] [(.int ((p_2 &&& (255 : Int32)).toUInt32.toUInt16.toUInt32.toInt32))])) (hb hby at_6) e0 [(.int ((p_2 &&& (255 : Int32)).toUInt32.toUInt16.toUInt32.toInt32))] [] (lenOf own_pd3 rfl) (own_rm10 l Z a0 hw h0 ((p_2 &&& (255 : Int32)).toUInt32.toUInt16.toUInt32.toInt32) i_COMPACT_STRINGS S_COMPACT_STRINGS_2 NI_6 (own_ch p_2))
  have z_K9c : h0.size ≤ T9.heap.size := K9c.1.1
  have sz_b56 : h0.size ≤ b56 := Nat.le_trans K0.1.1 lo_b56
  have sz_b57 : h0.size ≤ b57 := Nat.le_trans K0.1.1 lo_b57
  have K9 := own_kpTrans K0 K9c all0
  have S66 : Sta Z T9.heap "java/lang/String" "COMPACT_STRINGS" "Z" (.int i_COMPACT_STRINGS) := (own_kpSta K9c S_COMPACT_STRINGS_2)
  obtain ⟨_, T64, L64, X64, ⟨b67, b68, k69, rfl, K64c, lo_b67, lo_b68, ne_b67_b68, E70, F71, F72, A73⟩, st64⟩ := own_cs X9 hx hZ hown (own_w63 hw) hml (g := (mkF m 17 #[.val (.int p_0), .val (.int p_1), .val (.int p_2), .val (.int p_3), .val (.ref b56), .unset, .unset, .unset, .unset, .unset, .unset, .unset] [(.int ((p_3 &&& (255 : Int32)).toUInt32.toUInt16.toUInt32.toInt32))])) (hb hby at_17) rfl [(.int ((p_3 &&& (255 : Int32)).toUInt32.toUInt16.toUInt32.toInt32))] [] (lenOf own_pd3 rfl) (own_rm10 l Z a0 hw T9.heap ((p_3 &&& (255 : Int32)).toUInt32.toUInt16.toUInt32.toInt32) i_COMPACT_STRINGS S66 NI_6 (own_ch p_3))
  have z_K64c : T9.heap.size ≤ T64.heap.size := K64c.1.1
  have sz_b67 : h0.size ≤ b67 := Nat.le_trans K9.1.1 lo_b67
  have sz_b68 : h0.size ≤ b68 := Nat.le_trans K9.1.1 lo_b68
  have K64 := own_kpTrans K9 K64c all0
  refine own_go (T2 := T64) (g2 := (mkF m 22 #[.val (.int p_0), .val (.int p_1), .val (.int p_2), .val (.int p_3), .val (.ref b56), .val (.ref b67), .unset, .unset, .unset, .unset, .unset, .unset] [])) (fun t k => XS.iloadN X0.here hx rfl (hb hby at_0) rfl  (XS.sipush X0.here hx rfl (hb hby at_1) (XS.iand X0.here hx rfl (hb hby at_4) rfl (XS.i2c X0.here hx rfl (hb hby at_5) rfl (st9 _ (XS.astore X9.here hx rfl (hb hby at_9) rfl rfl (l' := #[.val (.int p_0), .val (.int p_1), .val (.int p_2), .val (.int p_3), .val (.ref b56), .unset, .unset, .unset, .unset, .unset, .unset, .unset]) rfl (XS.iloadN X9.here hx rfl (hb hby at_11) rfl  (XS.sipush X9.here hx rfl (hb hby at_12) (XS.iand X9.here hx rfl (hb hby at_15) rfl (XS.i2c X9.here hx rfl (hb hby at_16) rfl (st64 _ (XS.astore X64.here hx rfl (hb hby at_20) rfl rfl (l' := #[.val (.int p_0), .val (.int p_1), .val (.int p_2), .val (.int p_3), .val (.ref b56), .val (.ref b67), .unset, .unset, .unset, .unset, .unset, .unset]) rfl k)))))))))))) ?_
  refine own_go (T2 := T64) (g2 := (mkF m 23 #[.val (.int p_0), .val (.int p_1), .val (.int p_2), .val (.int p_3), .val (.ref b56), .val (.ref b67), .unset, .unset, .unset, .unset, .unset, .unset] [(.int p_0)])) (fun t k => XS.iloadN X64.here hx rfl (hb hby at_22) rfl  k) ?_
  by_cases hc77 : p_0 < (-128 : Int32)
  · skip
    obtain ⟨_, T78, L78, X78, ⟨b99, rfl, K78c, lo_b99, E100, F101⟩, st78⟩ := own_cs X64 hx hZ hown (own_w102 hw) hml (g := (mkF m 23 #[.val (.int p_0), .val (.int p_1), .val (.int p_2), .val (.int p_3), .val (.ref b56), .val (.ref b67), .unset, .unset, .unset, .unset, .unset, .unset] [(.int p_0)])) (hb hby at_23) rfl [(.int p_0)] [] (lenOf own_pd6 rfl) (own_rm79 l Z a0 hw T64.heap p_0 hc77)
    have z_K78c : T64.heap.size ≤ T78.heap.size := K78c.1.1
    have sz_b99 : h0.size ≤ b99 := Nat.le_trans K64.1.1 lo_b99
    have K78 := own_kpTrans K64 K78c all0
    obtain ⟨T103, h103, X103, e103, E103, A103, D103, -, st103⟩ := newO X78 hx hZ hown (own_wd hw 33 rfl) (own_wd hw 34 rfl) (own_wd hw 35 rfl) rfl (g := (mkF m 28 #[.val (.int p_0), .val (.int p_1), .val (.int p_2), .val (.int p_3), .val (.ref b56), .val (.ref b67), .val (.ref b99), .unset, .unset, .unset, .unset, .unset] [])) rfl (hb hby at_28) (by decide) (by decide)
    obtain ⟨b103, g103⟩ : ∃ z, z = T78.heap.size := ⟨_, rfl⟩
    rw [← g103] at A103 D103 st103
    have z_E103 : T78.heap.size ≤ h103.size := E103.1
    have lo_b103 : T78.heap.size ≤ b103 := Nat.le_of_eq g103.symm
    have sz_b103 : h0.size ≤ b103 := Nat.le_trans K78.1.1 lo_b103
    have K103 := own_kpExt K78 E103
    have F104 : Fld Z h103 b103 "com/example/libentail/libentail/Role" "owner" "Ljava/lang/Object;" .null := D103 (Or.inr (own_wd hw 41 rfl)) (ty := (.object "java/lang/Object")) (by decide)
    have F105 : Fld Z h103 b103 "com/example/libentail/libentail/Role" "name" "Ljava/lang/String;" .null := D103 (Or.inr (own_wd hw 43 rfl)) (ty := (.object "java/lang/String")) (by decide)
    have F106 : Fld Z h103 b103 "com/example/libentail/libentail/Role" "id" "I" (.int (0 : Int32)) := D103 (Or.inr (own_wd hw 45 rfl)) (ty := .int) (by decide)
    have F107 : Fld Z h103 b103 "com/example/libentail/libentail/Role" "members" "Ljava/util/List;" .null := D103 (Or.inr (own_wd hw 87 rfl)) (ty := (.object "java/util/List")) (by decide)
    have F108 : Fld Z h103 b103 "com/example/libentail/libentail/Role" "inverse" "Lcom/example/libentail/libentail/Role;" .null := D103 (Or.inl (own_wd hw 92 rfl)) (ty := (.object "com/example/libentail/libentail/Role")) (by decide)
    have F109 : Fld Z h103 b103 "com/example/libentail/libentail/Role" "inverted" "Z" (.int (0 : Int32)) := D103 (Or.inl (own_wd hw 94 rfl)) (ty := .boolean) (by decide)
    have S158 : Sta Z h103 "java/util/ImmutableCollections" "EMPTY" "Ljava/lang/Object;" (.ref w_EMPTY) := (Sta.ext E103 (own_kpSta K78c (own_kpSta K64c (own_kpSta K9c S_EMPTY_4))))
    obtain ⟨_, T110, L110, X110, ⟨b198, rfl, K110c, lo_b198, F199, F200, F201, F202, F203, F204, E205, F206, F207⟩, st110⟩ := own_ci X103 hx hZ hown (own_w208 hw) hml (g := (mkF m 37 #[.val (.int p_0), .val (.int p_1), .val (.int p_2), .val (.int p_3), .val (.ref b56), .val (.ref b67), .val (.ref b99), .unset, .unset, .unset, .unset, .unset] [(.int p_0), (.ref b56), (.ref b99), (.ref b103), (.ref b103)])) (hb hby at_37) e103 (a := b103) [(.ref b99), (.ref b56), (.int p_0)] [(.ref b103)] (lenOf own_pd10 rfl) (own_rm111 l Z a0 hw h103 b103 b99 b56 p_0 w_EMPTY A103 F104 F105 F106 S158 F107 F108 F109)
    have z_K110c : h103.size ≤ T110.heap.size := K110c.1.1
    have sz_b198 : h0.size ≤ b198 := Nat.le_trans K103.1.1 lo_b198
    have K110 := own_kpTrans K103 K110c (allS (Or.inr sz_b103) all0)
    obtain ⟨T209, h209, X209, e209, E209, A209, D209, -, st209⟩ := newO X110 hx hZ hown (own_wd hw 33 rfl) (own_wd hw 34 rfl) (own_wd hw 35 rfl) rfl (g := (mkF m 42 #[.val (.int p_0), .val (.int p_1), .val (.int p_2), .val (.int p_3), .val (.ref b56), .val (.ref b67), .val (.ref b99), .val (.ref b103), .unset, .unset, .unset, .unset] [])) rfl (hb hby at_42) (by decide) (by decide)
    obtain ⟨b209, g209⟩ : ∃ z, z = T110.heap.size := ⟨_, rfl⟩
    rw [← g209] at A209 D209 st209
    have z_E209 : T110.heap.size ≤ h209.size := E209.1
    have lo_b209 : T110.heap.size ≤ b209 := Nat.le_of_eq g209.symm
    have sz_b209 : h0.size ≤ b209 := Nat.le_trans K110.1.1 lo_b209
    have K209 := own_kpExt K110 E209
    have F210 : Fld Z h209 b209 "com/example/libentail/libentail/Role" "owner" "Ljava/lang/Object;" .null := D209 (Or.inr (own_wd hw 41 rfl)) (ty := (.object "java/lang/Object")) (by decide)
    have F211 : Fld Z h209 b209 "com/example/libentail/libentail/Role" "name" "Ljava/lang/String;" .null := D209 (Or.inr (own_wd hw 43 rfl)) (ty := (.object "java/lang/String")) (by decide)
    have F212 : Fld Z h209 b209 "com/example/libentail/libentail/Role" "id" "I" (.int (0 : Int32)) := D209 (Or.inr (own_wd hw 45 rfl)) (ty := .int) (by decide)
    have F213 : Fld Z h209 b209 "com/example/libentail/libentail/Role" "members" "Ljava/util/List;" .null := D209 (Or.inr (own_wd hw 87 rfl)) (ty := (.object "java/util/List")) (by decide)
    have F214 : Fld Z h209 b209 "com/example/libentail/libentail/Role" "inverse" "Lcom/example/libentail/libentail/Role;" .null := D209 (Or.inl (own_wd hw 92 rfl)) (ty := (.object "com/example/libentail/libentail/Role")) (by decide)
    have F215 : Fld Z h209 b209 "com/example/libentail/libentail/Role" "inverted" "Z" (.int (0 : Int32)) := D209 (Or.inl (own_wd hw 94 rfl)) (ty := .boolean) (by decide)
    refine own_go (T2 := T209) (g2 := (mkF m 48 #[.val (.int p_0), .val (.int p_1), .val (.int p_2), .val (.int p_3), .val (.ref b56), .val (.ref b67), .val (.ref b99), .val (.ref b103), .unset, .unset, .unset, .unset] [(.ref b99), (.ref b209), (.ref b209)])) (fun t k => st78 _ (XS.astore X78.here hx rfl (hb hby at_26) rfl rfl (l' := #[.val (.int p_0), .val (.int p_1), .val (.int p_2), .val (.int p_3), .val (.ref b56), .val (.ref b67), .val (.ref b99), .unset, .unset, .unset, .unset, .unset]) rfl (st103 _ (XS.dup X103.here hx rfl (hb hby at_31) rfl rfl (XS.aload X103.here hx rfl (hb hby at_32) rfl rfl (XS.aload X103.here hx rfl (hb hby at_34) rfl rfl (XS.iloadN X103.here hx rfl (hb hby at_36) rfl  (st110 _ (XS.astore X110.here hx rfl (hb hby at_40) rfl rfl (l' := #[.val (.int p_0), .val (.int p_1), .val (.int p_2), .val (.int p_3), .val (.ref b56), .val (.ref b67), .val (.ref b99), .val (.ref b103), .unset, .unset, .unset, .unset]) rfl (st209 _ (XS.dup X209.here hx rfl (hb hby at_45) rfl rfl (XS.aload X209.here hx rfl (hb hby at_46) rfl rfl k)))))))))))) ?_
    have S218 : Sta Z h209 "java/util/ImmutableCollections" "EMPTY" "Ljava/lang/Object;" (.ref w_EMPTY) := (Sta.ext E209 (own_kpSta K110c S158))
    obtain ⟨_, T216, L216, X216, ⟨b219, rfl, K216c, lo_b219, F220, F221, F222, F223, F224, F225, E226, F227, F228⟩, st216⟩ := own_ci X209 hx hZ hown (own_w208 hw) hml (g := (mkF m 51 #[.val (.int p_0), .val (.int p_1), .val (.int p_2), .val (.int p_3), .val (.ref b56), .val (.ref b67), .val (.ref b99), .val (.ref b103), .unset, .unset, .unset, .unset] [(.int p_1), (.ref b67), (.ref b99), (.ref b209), (.ref b209)])) (hb hby at_51) e209 (a := b209) [(.ref b99), (.ref b67), (.int p_1)] [(.ref b209)] (lenOf own_pd10 rfl) (own_rm111 l Z a0 hw h209 b209 b99 b67 p_1 w_EMPTY A209 F210 F211 F212 S218 F213 F214 F215)
    have z_K216c : h209.size ≤ T216.heap.size := K216c.1.1
    have sz_b219 : h0.size ≤ b219 := Nat.le_trans K209.1.1 lo_b219
    have K216 := own_kpTrans K209 K216c (allS (Or.inr sz_b209) all0)
    have E233 : Exa Z T216.heap b103 "com/example/libentail/libentail/Role" := (Exa.keep (Exa.ext E209 (Exa.keep A103 K110c.1)) K216c.1)
    have ne235 : b103 ≠ b209 := Nat.ne_of_lt (Nat.lt_of_lt_of_le A103.lt (Nat.le_trans z_K110c lo_b209))
    have F236 : Fld Z T216.heap b103 "com/example/libentail/libentail/Role" "inverse" "Lcom/example/libentail/libentail/Role;" .null := (Fld.keep (Fld.ext E209 F203) K216c.1 (ninS ne235 nin0))
    have E239 : Exa Z T216.heap b209 "com/example/libentail/libentail/Role" := (Exa.keep A209 K216c.1)
    have F250 : Fld Z T216.heap b103 "com/example/libentail/libentail/Role" "owner" "Ljava/lang/Object;" (.ref b99) := (Fld.keep (Fld.ext E209 F199) K216c.1 (ninS ne235 nin0))
    have F254 : Fld Z T216.heap b103 "com/example/libentail/libentail/Role" "name" "Ljava/lang/String;" (.ref b56) := (Fld.keep (Fld.ext E209 F200) K216c.1 (ninS ne235 nin0))
    have F258 : Fld Z T216.heap b103 "com/example/libentail/libentail/Role" "id" "I" (.int p_0) := (Fld.keep (Fld.ext E209 F201) K216c.1 (ninS ne235 nin0))
    have F262 : Fld Z T216.heap b103 "com/example/libentail/libentail/Role" "members" "Ljava/util/List;" (.ref b198) := (Fld.keep (Fld.ext E209 F202) K216c.1 (ninS ne235 nin0))
    have F267 : Fld Z T216.heap b103 "com/example/libentail/libentail/Role" "inverted" "Z" (.int (0 : Int32)) := (Fld.keep (Fld.ext E209 F204) K216c.1 (ninS ne235 nin0))
    obtain ⟨_, T229, L229, X229, ⟨rfl, K229c, F282, F283, F284, F285, F286, F287, F288, F289, F290, F291, F292, F293⟩, st229⟩ := own_cs X216 hx hZ hown (own_w294 hw) hml (g := (mkF m 60 #[.val (.int p_0), .val (.int p_1), .val (.int p_2), .val (.int p_3), .val (.ref b56), .val (.ref b67), .val (.ref b99), .val (.ref b103), .val (.ref b209), .unset, .unset, .unset] [(.ref b209), (.ref b103)])) (hb hby at_60) rfl [(.ref b103), (.ref b209)] [] (lenOf own_pd11 rfl) (own_rm230 l Z a0 hw T216.heap b103 b209 b99 b56 p_0 b198 b67 p_1 b219 E233 F236 E239 F224 (Ne.symm ne235) F225 F250 F254 F258 F262 F267 F220 F221 F222 F223)
    have z_K229c : T216.heap.size ≤ T229.heap.size := K229c.1.1
    have K229 := own_kpTrans K216 K229c (allS (Or.inr sz_b103) (allS (Or.inr sz_b209) all0))
    have E301 : Exa Z T229.heap b103 "com/example/libentail/libentail/Role" := (Exa.keep E233 K229c.1)
    obtain ⟨_, T295, L295, X295, ⟨rfl, rfl, e295⟩, st295⟩ := own_cv X229 hx hZ hown (own_w302 hw) hml (g := (mkF m 65 #[.val (.int p_0), .val (.int p_1), .val (.int p_2), .val (.int p_3), .val (.ref b56), .val (.ref b67), .val (.ref b99), .val (.ref b103), .val (.ref b209), .unset, .unset, .unset] [(.ref b103)])) (hb hby at_65) rfl E301 [] [] (lenOf own_pd12 rfl) (own_rm296 l Z a0 hw T229.heap b103 b209 F282)
    refine own_go (T2 := T295) (g2 := (mkF m 75 #[.val (.int p_0), .val (.int p_1), .val (.int p_2), .val (.int p_3), .val (.ref b56), .val (.ref b67), .val (.ref b99), .val (.ref b103), .val (.ref b209), .unset, .unset, .unset] [(.ref b209)])) (fun t k => XS.aload X209.here hx rfl (hb hby at_48) rfl rfl (XS.iloadN X209.here hx rfl (hb hby at_50) rfl  (st216 _ (XS.astore X216.here hx rfl (hb hby at_54) rfl rfl (l' := #[.val (.int p_0), .val (.int p_1), .val (.int p_2), .val (.int p_3), .val (.ref b56), .val (.ref b67), .val (.ref b99), .val (.ref b103), .val (.ref b209), .unset, .unset, .unset]) rfl (XS.aload X216.here hx rfl (hb hby at_56) rfl rfl (XS.aload X216.here hx rfl (hb hby at_58) rfl rfl (st229 _ (XS.aload X229.here hx rfl (hb hby at_63) rfl rfl (st295 _ (XS.aload X295.here hx rfl (hb hby at_68) rfl rfl (Jvm.RoadKit.acmp X295 hx rfl rfl rfl (pc0 := 70) (pc' := 73) (same := true) rfl (hb hby at_70) rfl (decide_eq_true (congrArg Value.ref rfl)) (by decide) (by decide) (XS.aload X295.here hx rfl (hb hby at_73) rfl rfl k)))))))))))) ?_
    have E304 : Exa Z T229.heap b209 "com/example/libentail/libentail/Role" := (Exa.keep E239 K229c.1)
    obtain ⟨_, T303, L303, X303, ⟨rfl, rfl, e303⟩, st303⟩ := own_cv X295 hx hZ hown (own_w302 hw) hml (g := (mkF m 75 #[.val (.int p_0), .val (.int p_1), .val (.int p_2), .val (.int p_3), .val (.ref b56), .val (.ref b67), .val (.ref b99), .val (.ref b103), .val (.ref b209), .unset, .unset, .unset] [(.ref b209)])) (hb hby at_75) e295 E304 [] [] (lenOf own_pd12 rfl) (own_rm296 l Z a0 hw T229.heap b209 b103 F288)
    obtain ⟨_, T305, L305, X305, ⟨rfl, rfl, e305⟩, st305⟩ := own_cv X303 hx hZ hown (own_w310 hw) hml (g := (mkF m 92 #[.val (.int p_0), .val (.int p_1), .val (.int p_2), .val (.int p_3), .val (.ref b56), .val (.ref b67), .val (.ref b99), .val (.ref b103), .val (.ref b209), .val (.int (1 : Int32)), .unset, .unset] [(.ref b209)])) (hb hby at_92) e303 E304 [] [] (lenOf own_pd13 rfl) (own_rm306 l Z a0 hw T229.heap b209 F289)
    obtain ⟨_, T311, L311, X311, ⟨rfl, rfl, e311⟩, st311⟩ := own_cv X305 hx hZ hown (own_w310 hw) hml (g := (mkF m 100 #[.val (.int p_0), .val (.int p_1), .val (.int p_2), .val (.int p_3), .val (.ref b56), .val (.ref b67), .val (.ref b99), .val (.ref b103), .val (.ref b209), .val (.int (1 : Int32)), .unset, .unset] [(.ref b103)])) (hb hby at_100) e305 E301 [] [] (lenOf own_pd13 rfl) (own_rm312 l Z a0 hw T229.heap b103 F287)
    refine own_go (T2 := T311) (g2 := (mkF m 106 #[.val (.int p_0), .val (.int p_1), .val (.int p_2), .val (.int p_3), .val (.ref b56), .val (.ref b67), .val (.ref b99), .val (.ref b103), .val (.ref b209), .val (.int (1 : Int32)), .unset, .unset] [])) (fun t k => st303 _ (XS.aload X303.here hx rfl (hb hby at_78) rfl rfl (Jvm.RoadKit.acmp X303 hx rfl rfl rfl (pc0 := 80) (pc' := 83) (same := true) rfl (hb hby at_80) rfl (decide_eq_true (congrArg Value.ref rfl)) (by decide) (by decide) (XS.iconst X303.here hx rfl (hb hby at_83) (XS.goto X303.here hx rfl (pc0 := 84) (pc' := 88) rfl (hb hby at_84) (by decide) (by decide) (XS.istore X303.here hx rfl (hb hby at_88) rfl (l' := #[.val (.int p_0), .val (.int p_1), .val (.int p_2), .val (.int p_3), .val (.ref b56), .val (.ref b67), .val (.ref b99), .val (.ref b103), .val (.ref b209), .val (.int (1 : Int32)), .unset, .unset]) rfl (XS.aload X303.here hx rfl (hb hby at_90) rfl rfl (st305 _ (XS.ifNo X305.here hx rfl (hb hby at_95) rfl ((if0 _ _).trans (feq (show ¬ ((1 : Int32) = (0 : Int32)) from (by decide))).1) (XS.aload X305.here hx rfl (hb hby at_98) rfl rfl (st311 _ (XS.ifNo X311.here hx rfl (hb hby at_103) rfl ((if0 _ _).trans (teq (show (0 : Int32) = (0 : Int32) from (by decide))).2) k)))))))))))) ?_
    obtain ⟨_, T316, L316, X316, ⟨rfl, rfl, e316⟩, st316⟩ := own_cv X311 hx hZ hown (own_w322 hw) hml (g := (mkF m 115 #[.val (.int p_0), .val (.int p_1), .val (.int p_2), .val (.int p_3), .val (.ref b56), .val (.ref b67), .val (.ref b99), .val (.ref b103), .val (.ref b209), .val (.int (1 : Int32)), .val (.int (1 : Int32)), .unset] [(.ref b103)])) (hb hby at_115) e311 E301 [] [] (lenOf own_pd14 rfl) (own_rm317 l Z a0 hw T229.heap b103 p_0 F285)
    obtain ⟨_, T323, L323, X323, ⟨rfl, rfl, e323⟩, st323⟩ := own_cv X316 hx hZ hown (own_w322 hw) hml (g := (mkF m 124 #[.val (.int p_0), .val (.int p_1), .val (.int p_2), .val (.int p_3), .val (.ref b56), .val (.ref b67), .val (.ref b99), .val (.ref b103), .val (.ref b209), .val (.int (1 : Int32)), .val (.int (1 : Int32)), .unset] [(.ref b209)])) (hb hby at_124) e316 E304 [] [] (lenOf own_pd14 rfl) (own_rm317 l Z a0 hw T229.heap b209 p_1 F292)
    refine own_go (T2 := T323) (g2 := (mkF m 133 #[.val (.int p_0), .val (.int p_1), .val (.int p_2), .val (.int p_3), .val (.ref b56), .val (.ref b67), .val (.ref b99), .val (.ref b103), .val (.ref b209), .val (.int (1 : Int32)), .val (.int (1 : Int32)), .unset] [(.ref b103)])) (fun t k => XS.iconst X311.here hx rfl (hb hby at_106) (XS.goto X311.here hx rfl (pc0 := 107) (pc' := 111) rfl (hb hby at_107) (by decide) (by decide) (XS.istore X311.here hx rfl (hb hby at_111) rfl (l' := #[.val (.int p_0), .val (.int p_1), .val (.int p_2), .val (.int p_3), .val (.ref b56), .val (.ref b67), .val (.ref b99), .val (.ref b103), .val (.ref b209), .val (.int (1 : Int32)), .val (.int (1 : Int32)), .unset]) rfl (XS.aload X311.here hx rfl (hb hby at_113) rfl rfl (st316 _ (XS.iloadN X316.here hx rfl (hb hby at_118) rfl  (XS.icmpNo X316.here hx rfl (hb hby at_119) rfl (teq (show p_0 = p_0 from rfl)).2 (XS.aload X316.here hx rfl (hb hby at_122) rfl rfl (st323 _ (XS.iloadN X323.here hx rfl (hb hby at_127) rfl  (XS.icmpNo X323.here hx rfl (hb hby at_128) rfl (teq (show p_1 = p_1 from rfl)).2 (XS.aload X323.here hx rfl (hb hby at_131) rfl rfl k)))))))))))) ?_
    obtain ⟨_, T324, L324, X324, ⟨rfl, rfl, e324⟩, st324⟩ := own_cv X323 hx hZ hown (own_w330 hw) hml (g := (mkF m 133 #[.val (.int p_0), .val (.int p_1), .val (.int p_2), .val (.int p_3), .val (.ref b56), .val (.ref b67), .val (.ref b99), .val (.ref b103), .val (.ref b209), .val (.int (1 : Int32)), .val (.int (1 : Int32)), .unset] [(.ref b103)])) (hb hby at_133) e323 E301 [] [] (lenOf own_pd15 rfl) (own_rm325 l Z a0 hw T229.heap b103 b56 F284)
    obtain ⟨_, T331, L331, X331, ⟨rfl, rfl, e331⟩, st331⟩ := own_cv X324 hx hZ hown (own_w330 hw) hml (g := (mkF m 143 #[.val (.int p_0), .val (.int p_1), .val (.int p_2), .val (.int p_3), .val (.ref b56), .val (.ref b67), .val (.ref b99), .val (.ref b103), .val (.ref b209), .val (.int (1 : Int32)), .val (.int (1 : Int32)), .unset] [(.ref b209)])) (hb hby at_143) e324 E304 [] [] (lenOf own_pd15 rfl) (own_rm325 l Z a0 hw T229.heap b209 b67 F291)
    refine own_go (T2 := T331) (g2 := (mkF m 163 #[.val (.int p_0), .val (.int p_1), .val (.int p_2), .val (.int p_3), .val (.ref b56), .val (.ref b67), .val (.ref b99), .val (.ref b103), .val (.ref b209), .val (.int (1 : Int32)), .val (.int (1 : Int32)), .val (.int (1 : Int32))] [])) (fun t k => st324 _ (XS.aload X324.here hx rfl (hb hby at_136) rfl rfl (Jvm.RoadKit.acmp X324 hx rfl rfl rfl (pc0 := 138) (pc' := 141) (same := true) rfl (hb hby at_138) rfl (decide_eq_true (congrArg Value.ref rfl)) (by decide) (by decide) (XS.aload X324.here hx rfl (hb hby at_141) rfl rfl (st331 _ (XS.aload X331.here hx rfl (hb hby at_146) rfl rfl (Jvm.RoadKit.acmp X331 hx rfl rfl rfl (pc0 := 148) (pc' := 151) (same := true) rfl (hb hby at_148) rfl (decide_eq_true (congrArg Value.ref rfl)) (by decide) (by decide) (XS.iconst X331.here hx rfl (hb hby at_151) (XS.goto X331.here hx rfl (pc0 := 152) (pc' := 156) rfl (hb hby at_152) (by decide) (by decide) (XS.istore X331.here hx rfl (hb hby at_156) rfl (l' := #[.val (.int p_0), .val (.int p_1), .val (.int p_2), .val (.int p_3), .val (.ref b56), .val (.ref b67), .val (.ref b99), .val (.ref b103), .val (.ref b209), .val (.int (1 : Int32)), .val (.int (1 : Int32)), .val (.int (1 : Int32))]) rfl (XS.iload X331.here hx rfl (hb hby at_158) rfl  (XS.ifNo X331.here hx rfl (hb hby at_160) rfl ((if0 _ _).trans (feq (show ¬ ((1 : Int32) = (0 : Int32)) from (by decide))).1) k)))))))))))) ?_
    refine own_go (T2 := T331) (g2 := (mkF m 178 #[.val (.int p_0), .val (.int p_1), .val (.int p_2), .val (.int p_3), .val (.ref b56), .val (.ref b67), .val (.ref b99), .val (.ref b103), .val (.ref b209), .val (.int (1 : Int32)), .val (.int (1 : Int32)), .val (.int (1 : Int32))] [(.int (1 : Int32))])) (fun t k => XS.iload X331.here hx rfl (hb hby at_163) rfl  (XS.ifNo X331.here hx rfl (hb hby at_165) rfl ((if0 _ _).trans (feq (show ¬ ((1 : Int32) = (0 : Int32)) from (by decide))).1) (XS.iload X331.here hx rfl (hb hby at_168) rfl  (XS.ifNo X331.here hx rfl (hb hby at_170) rfl ((if0 _ _).trans (feq (show ¬ ((1 : Int32) = (0 : Int32)) from (by decide))).1) (XS.iconst X331.here hx rfl (hb hby at_173) (XS.goto X331.here hx rfl (pc0 := 174) (pc' := 178) rfl (hb hby at_174) (by decide) (by decide) k)))))) ?_
    exact own_endN X331 hx Bd.notSynchronized (t := .boolean) Bd.returns (by simp) (hb hby at_178) (z' := (1 : Int32)) rfl (by decide) (by decide) ⟨rfl, by simpa only [List.append_nil] using own_kpFr K229⟩
  · skip
    by_cases hc339 : (127 : Int32) < p_0
    · skip
      have S344 : Sta Z T64.heap "java/lang/Integer$IntegerCache" "high" "I" (.int (127 : Int32)) := (own_kpSta K64c (own_kpSta K9c S_high_7))
      obtain ⟨_, T340, L340, X340, ⟨b353, rfl, K340c, lo_b353, E354, F355⟩, st340⟩ := own_cs X64 hx hZ hown (own_w102 hw) hml (g := (mkF m 23 #[.val (.int p_0), .val (.int p_1), .val (.int p_2), .val (.int p_3), .val (.ref b56), .val (.ref b67), .unset, .unset, .unset, .unset, .unset, .unset] [(.int p_0)])) (hb hby at_23) rfl [(.int p_0)] [] (lenOf own_pd6 rfl) (own_rm341 l Z a0 hw T64.heap p_0 hc77 S344 hc339)
      have z_K340c : T64.heap.size ≤ T340.heap.size := K340c.1.1
      have sz_b353 : h0.size ≤ b353 := Nat.le_trans K64.1.1 lo_b353
      have K340 := own_kpTrans K64 K340c all0
      obtain ⟨T356, h356, X356, e356, E356, A356, D356, -, st356⟩ := newO X340 hx hZ hown (own_wd hw 33 rfl) (own_wd hw 34 rfl) (own_wd hw 35 rfl) rfl (g := (mkF m 28 #[.val (.int p_0), .val (.int p_1), .val (.int p_2), .val (.int p_3), .val (.ref b56), .val (.ref b67), .val (.ref b353), .unset, .unset, .unset, .unset, .unset] [])) rfl (hb hby at_28) (by decide) (by decide)
      obtain ⟨b356, g356⟩ : ∃ z, z = T340.heap.size := ⟨_, rfl⟩
      rw [← g356] at A356 D356 st356
      have z_E356 : T340.heap.size ≤ h356.size := E356.1
      have lo_b356 : T340.heap.size ≤ b356 := Nat.le_of_eq g356.symm
      have sz_b356 : h0.size ≤ b356 := Nat.le_trans K340.1.1 lo_b356
      have K356 := own_kpExt K340 E356
      have F357 : Fld Z h356 b356 "com/example/libentail/libentail/Role" "owner" "Ljava/lang/Object;" .null := D356 (Or.inr (own_wd hw 41 rfl)) (ty := (.object "java/lang/Object")) (by decide)
      have F358 : Fld Z h356 b356 "com/example/libentail/libentail/Role" "name" "Ljava/lang/String;" .null := D356 (Or.inr (own_wd hw 43 rfl)) (ty := (.object "java/lang/String")) (by decide)
      have F359 : Fld Z h356 b356 "com/example/libentail/libentail/Role" "id" "I" (.int (0 : Int32)) := D356 (Or.inr (own_wd hw 45 rfl)) (ty := .int) (by decide)
      have F360 : Fld Z h356 b356 "com/example/libentail/libentail/Role" "members" "Ljava/util/List;" .null := D356 (Or.inr (own_wd hw 87 rfl)) (ty := (.object "java/util/List")) (by decide)
      have F361 : Fld Z h356 b356 "com/example/libentail/libentail/Role" "inverse" "Lcom/example/libentail/libentail/Role;" .null := D356 (Or.inl (own_wd hw 92 rfl)) (ty := (.object "com/example/libentail/libentail/Role")) (by decide)
      have F362 : Fld Z h356 b356 "com/example/libentail/libentail/Role" "inverted" "Z" (.int (0 : Int32)) := D356 (Or.inl (own_wd hw 94 rfl)) (ty := .boolean) (by decide)
      have S365 : Sta Z h356 "java/util/ImmutableCollections" "EMPTY" "Ljava/lang/Object;" (.ref w_EMPTY) := (Sta.ext E356 (own_kpSta K340c (own_kpSta K64c (own_kpSta K9c S_EMPTY_4))))
      obtain ⟨_, T363, L363, X363, ⟨b366, rfl, K363c, lo_b366, F367, F368, F369, F370, F371, F372, E373, F374, F375⟩, st363⟩ := own_ci X356 hx hZ hown (own_w208 hw) hml (g := (mkF m 37 #[.val (.int p_0), .val (.int p_1), .val (.int p_2), .val (.int p_3), .val (.ref b56), .val (.ref b67), .val (.ref b353), .unset, .unset, .unset, .unset, .unset] [(.int p_0), (.ref b56), (.ref b353), (.ref b356), (.ref b356)])) (hb hby at_37) e356 (a := b356) [(.ref b353), (.ref b56), (.int p_0)] [(.ref b356)] (lenOf own_pd10 rfl) (own_rm111 l Z a0 hw h356 b356 b353 b56 p_0 w_EMPTY A356 F357 F358 F359 S365 F360 F361 F362)
      have z_K363c : h356.size ≤ T363.heap.size := K363c.1.1
      have sz_b366 : h0.size ≤ b366 := Nat.le_trans K356.1.1 lo_b366
      have K363 := own_kpTrans K356 K363c (allS (Or.inr sz_b356) all0)
      obtain ⟨T376, h376, X376, e376, E376, A376, D376, -, st376⟩ := newO X363 hx hZ hown (own_wd hw 33 rfl) (own_wd hw 34 rfl) (own_wd hw 35 rfl) rfl (g := (mkF m 42 #[.val (.int p_0), .val (.int p_1), .val (.int p_2), .val (.int p_3), .val (.ref b56), .val (.ref b67), .val (.ref b353), .val (.ref b356), .unset, .unset, .unset, .unset] [])) rfl (hb hby at_42) (by decide) (by decide)
      obtain ⟨b376, g376⟩ : ∃ z, z = T363.heap.size := ⟨_, rfl⟩
      rw [← g376] at A376 D376 st376
      have z_E376 : T363.heap.size ≤ h376.size := E376.1
      have lo_b376 : T363.heap.size ≤ b376 := Nat.le_of_eq g376.symm
      have sz_b376 : h0.size ≤ b376 := Nat.le_trans K363.1.1 lo_b376
      have K376 := own_kpExt K363 E376
      have F377 : Fld Z h376 b376 "com/example/libentail/libentail/Role" "owner" "Ljava/lang/Object;" .null := D376 (Or.inr (own_wd hw 41 rfl)) (ty := (.object "java/lang/Object")) (by decide)
      have F378 : Fld Z h376 b376 "com/example/libentail/libentail/Role" "name" "Ljava/lang/String;" .null := D376 (Or.inr (own_wd hw 43 rfl)) (ty := (.object "java/lang/String")) (by decide)
      have F379 : Fld Z h376 b376 "com/example/libentail/libentail/Role" "id" "I" (.int (0 : Int32)) := D376 (Or.inr (own_wd hw 45 rfl)) (ty := .int) (by decide)
      have F380 : Fld Z h376 b376 "com/example/libentail/libentail/Role" "members" "Ljava/util/List;" .null := D376 (Or.inr (own_wd hw 87 rfl)) (ty := (.object "java/util/List")) (by decide)
      have F381 : Fld Z h376 b376 "com/example/libentail/libentail/Role" "inverse" "Lcom/example/libentail/libentail/Role;" .null := D376 (Or.inl (own_wd hw 92 rfl)) (ty := (.object "com/example/libentail/libentail/Role")) (by decide)
      have F382 : Fld Z h376 b376 "com/example/libentail/libentail/Role" "inverted" "Z" (.int (0 : Int32)) := D376 (Or.inl (own_wd hw 94 rfl)) (ty := .boolean) (by decide)
      refine own_go (T2 := T376) (g2 := (mkF m 48 #[.val (.int p_0), .val (.int p_1), .val (.int p_2), .val (.int p_3), .val (.ref b56), .val (.ref b67), .val (.ref b353), .val (.ref b356), .unset, .unset, .unset, .unset] [(.ref b353), (.ref b376), (.ref b376)])) (fun t k => st340 _ (XS.astore X340.here hx rfl (hb hby at_26) rfl rfl (l' := #[.val (.int p_0), .val (.int p_1), .val (.int p_2), .val (.int p_3), .val (.ref b56), .val (.ref b67), .val (.ref b353), .unset, .unset, .unset, .unset, .unset]) rfl (st356 _ (XS.dup X356.here hx rfl (hb hby at_31) rfl rfl (XS.aload X356.here hx rfl (hb hby at_32) rfl rfl (XS.aload X356.here hx rfl (hb hby at_34) rfl rfl (XS.iloadN X356.here hx rfl (hb hby at_36) rfl  (st363 _ (XS.astore X363.here hx rfl (hb hby at_40) rfl rfl (l' := #[.val (.int p_0), .val (.int p_1), .val (.int p_2), .val (.int p_3), .val (.ref b56), .val (.ref b67), .val (.ref b353), .val (.ref b356), .unset, .unset, .unset, .unset]) rfl (st376 _ (XS.dup X376.here hx rfl (hb hby at_45) rfl rfl (XS.aload X376.here hx rfl (hb hby at_46) rfl rfl k)))))))))))) ?_
      have S385 : Sta Z h376 "java/util/ImmutableCollections" "EMPTY" "Ljava/lang/Object;" (.ref w_EMPTY) := (Sta.ext E376 (own_kpSta K363c S365))
      obtain ⟨_, T383, L383, X383, ⟨b386, rfl, K383c, lo_b386, F387, F388, F389, F390, F391, F392, E393, F394, F395⟩, st383⟩ := own_ci X376 hx hZ hown (own_w208 hw) hml (g := (mkF m 51 #[.val (.int p_0), .val (.int p_1), .val (.int p_2), .val (.int p_3), .val (.ref b56), .val (.ref b67), .val (.ref b353), .val (.ref b356), .unset, .unset, .unset, .unset] [(.int p_1), (.ref b67), (.ref b353), (.ref b376), (.ref b376)])) (hb hby at_51) e376 (a := b376) [(.ref b353), (.ref b67), (.int p_1)] [(.ref b376)] (lenOf own_pd10 rfl) (own_rm111 l Z a0 hw h376 b376 b353 b67 p_1 w_EMPTY A376 F377 F378 F379 S385 F380 F381 F382)
      have z_K383c : h376.size ≤ T383.heap.size := K383c.1.1
      have sz_b386 : h0.size ≤ b386 := Nat.le_trans K376.1.1 lo_b386
      have K383 := own_kpTrans K376 K383c (allS (Or.inr sz_b376) all0)
      have E406 : Exa Z T383.heap b356 "com/example/libentail/libentail/Role" := (Exa.keep (Exa.ext E376 (Exa.keep A356 K363c.1)) K383c.1)
      have ne407 : b356 ≠ b376 := Nat.ne_of_lt (Nat.lt_of_lt_of_le A356.lt (Nat.le_trans z_K363c lo_b376))
      have F408 : Fld Z T383.heap b356 "com/example/libentail/libentail/Role" "inverse" "Lcom/example/libentail/libentail/Role;" .null := (Fld.keep (Fld.ext E376 F371) K383c.1 (ninS ne407 nin0))
      have E409 : Exa Z T383.heap b376 "com/example/libentail/libentail/Role" := (Exa.keep A376 K383c.1)
      have F410 : Fld Z T383.heap b356 "com/example/libentail/libentail/Role" "owner" "Ljava/lang/Object;" (.ref b353) := (Fld.keep (Fld.ext E376 F367) K383c.1 (ninS ne407 nin0))
      have F411 : Fld Z T383.heap b356 "com/example/libentail/libentail/Role" "name" "Ljava/lang/String;" (.ref b56) := (Fld.keep (Fld.ext E376 F368) K383c.1 (ninS ne407 nin0))
      have F412 : Fld Z T383.heap b356 "com/example/libentail/libentail/Role" "id" "I" (.int p_0) := (Fld.keep (Fld.ext E376 F369) K383c.1 (ninS ne407 nin0))
      have F413 : Fld Z T383.heap b356 "com/example/libentail/libentail/Role" "members" "Ljava/util/List;" (.ref b366) := (Fld.keep (Fld.ext E376 F370) K383c.1 (ninS ne407 nin0))
      have F414 : Fld Z T383.heap b356 "com/example/libentail/libentail/Role" "inverted" "Z" (.int (0 : Int32)) := (Fld.keep (Fld.ext E376 F372) K383c.1 (ninS ne407 nin0))
      obtain ⟨_, T396, L396, X396, ⟨rfl, K396c, F415, F416, F417, F418, F419, F420, F421, F422, F423, F424, F425, F426⟩, st396⟩ := own_cs X383 hx hZ hown (own_w294 hw) hml (g := (mkF m 60 #[.val (.int p_0), .val (.int p_1), .val (.int p_2), .val (.int p_3), .val (.ref b56), .val (.ref b67), .val (.ref b353), .val (.ref b356), .val (.ref b376), .unset, .unset, .unset] [(.ref b376), (.ref b356)])) (hb hby at_60) rfl [(.ref b356), (.ref b376)] [] (lenOf own_pd11 rfl) (own_rm230 l Z a0 hw T383.heap b356 b376 b353 b56 p_0 b366 b67 p_1 b386 E406 F408 E409 F391 (Ne.symm ne407) F392 F410 F411 F412 F413 F414 F387 F388 F389 F390)
      have z_K396c : T383.heap.size ≤ T396.heap.size := K396c.1.1
      have K396 := own_kpTrans K383 K396c (allS (Or.inr sz_b356) (allS (Or.inr sz_b376) all0))
      have E428 : Exa Z T396.heap b356 "com/example/libentail/libentail/Role" := (Exa.keep E406 K396c.1)
      obtain ⟨_, T427, L427, X427, ⟨rfl, rfl, e427⟩, st427⟩ := own_cv X396 hx hZ hown (own_w302 hw) hml (g := (mkF m 65 #[.val (.int p_0), .val (.int p_1), .val (.int p_2), .val (.int p_3), .val (.ref b56), .val (.ref b67), .val (.ref b353), .val (.ref b356), .val (.ref b376), .unset, .unset, .unset] [(.ref b356)])) (hb hby at_65) rfl E428 [] [] (lenOf own_pd12 rfl) (own_rm296 l Z a0 hw T396.heap b356 b376 F415)
      refine own_go (T2 := T427) (g2 := (mkF m 75 #[.val (.int p_0), .val (.int p_1), .val (.int p_2), .val (.int p_3), .val (.ref b56), .val (.ref b67), .val (.ref b353), .val (.ref b356), .val (.ref b376), .unset, .unset, .unset] [(.ref b376)])) (fun t k => XS.aload X376.here hx rfl (hb hby at_48) rfl rfl (XS.iloadN X376.here hx rfl (hb hby at_50) rfl  (st383 _ (XS.astore X383.here hx rfl (hb hby at_54) rfl rfl (l' := #[.val (.int p_0), .val (.int p_1), .val (.int p_2), .val (.int p_3), .val (.ref b56), .val (.ref b67), .val (.ref b353), .val (.ref b356), .val (.ref b376), .unset, .unset, .unset]) rfl (XS.aload X383.here hx rfl (hb hby at_56) rfl rfl (XS.aload X383.here hx rfl (hb hby at_58) rfl rfl (st396 _ (XS.aload X396.here hx rfl (hb hby at_63) rfl rfl (st427 _ (XS.aload X427.here hx rfl (hb hby at_68) rfl rfl (Jvm.RoadKit.acmp X427 hx rfl rfl rfl (pc0 := 70) (pc' := 73) (same := true) rfl (hb hby at_70) rfl (decide_eq_true (congrArg Value.ref rfl)) (by decide) (by decide) (XS.aload X427.here hx rfl (hb hby at_73) rfl rfl k)))))))))))) ?_
      have E430 : Exa Z T396.heap b376 "com/example/libentail/libentail/Role" := (Exa.keep E409 K396c.1)
      obtain ⟨_, T429, L429, X429, ⟨rfl, rfl, e429⟩, st429⟩ := own_cv X427 hx hZ hown (own_w302 hw) hml (g := (mkF m 75 #[.val (.int p_0), .val (.int p_1), .val (.int p_2), .val (.int p_3), .val (.ref b56), .val (.ref b67), .val (.ref b353), .val (.ref b356), .val (.ref b376), .unset, .unset, .unset] [(.ref b376)])) (hb hby at_75) e427 E430 [] [] (lenOf own_pd12 rfl) (own_rm296 l Z a0 hw T396.heap b376 b356 F421)
      obtain ⟨_, T431, L431, X431, ⟨rfl, rfl, e431⟩, st431⟩ := own_cv X429 hx hZ hown (own_w310 hw) hml (g := (mkF m 92 #[.val (.int p_0), .val (.int p_1), .val (.int p_2), .val (.int p_3), .val (.ref b56), .val (.ref b67), .val (.ref b353), .val (.ref b356), .val (.ref b376), .val (.int (1 : Int32)), .unset, .unset] [(.ref b376)])) (hb hby at_92) e429 E430 [] [] (lenOf own_pd13 rfl) (own_rm306 l Z a0 hw T396.heap b376 F422)
      obtain ⟨_, T432, L432, X432, ⟨rfl, rfl, e432⟩, st432⟩ := own_cv X431 hx hZ hown (own_w310 hw) hml (g := (mkF m 100 #[.val (.int p_0), .val (.int p_1), .val (.int p_2), .val (.int p_3), .val (.ref b56), .val (.ref b67), .val (.ref b353), .val (.ref b356), .val (.ref b376), .val (.int (1 : Int32)), .unset, .unset] [(.ref b356)])) (hb hby at_100) e431 E428 [] [] (lenOf own_pd13 rfl) (own_rm312 l Z a0 hw T396.heap b356 F420)
      refine own_go (T2 := T432) (g2 := (mkF m 106 #[.val (.int p_0), .val (.int p_1), .val (.int p_2), .val (.int p_3), .val (.ref b56), .val (.ref b67), .val (.ref b353), .val (.ref b356), .val (.ref b376), .val (.int (1 : Int32)), .unset, .unset] [])) (fun t k => st429 _ (XS.aload X429.here hx rfl (hb hby at_78) rfl rfl (Jvm.RoadKit.acmp X429 hx rfl rfl rfl (pc0 := 80) (pc' := 83) (same := true) rfl (hb hby at_80) rfl (decide_eq_true (congrArg Value.ref rfl)) (by decide) (by decide) (XS.iconst X429.here hx rfl (hb hby at_83) (XS.goto X429.here hx rfl (pc0 := 84) (pc' := 88) rfl (hb hby at_84) (by decide) (by decide) (XS.istore X429.here hx rfl (hb hby at_88) rfl (l' := #[.val (.int p_0), .val (.int p_1), .val (.int p_2), .val (.int p_3), .val (.ref b56), .val (.ref b67), .val (.ref b353), .val (.ref b356), .val (.ref b376), .val (.int (1 : Int32)), .unset, .unset]) rfl (XS.aload X429.here hx rfl (hb hby at_90) rfl rfl (st431 _ (XS.ifNo X431.here hx rfl (hb hby at_95) rfl ((if0 _ _).trans (feq (show ¬ ((1 : Int32) = (0 : Int32)) from (by decide))).1) (XS.aload X431.here hx rfl (hb hby at_98) rfl rfl (st432 _ (XS.ifNo X432.here hx rfl (hb hby at_103) rfl ((if0 _ _).trans (teq (show (0 : Int32) = (0 : Int32) from (by decide))).2) k)))))))))))) ?_
      obtain ⟨_, T433, L433, X433, ⟨rfl, rfl, e433⟩, st433⟩ := own_cv X432 hx hZ hown (own_w322 hw) hml (g := (mkF m 115 #[.val (.int p_0), .val (.int p_1), .val (.int p_2), .val (.int p_3), .val (.ref b56), .val (.ref b67), .val (.ref b353), .val (.ref b356), .val (.ref b376), .val (.int (1 : Int32)), .val (.int (1 : Int32)), .unset] [(.ref b356)])) (hb hby at_115) e432 E428 [] [] (lenOf own_pd14 rfl) (own_rm317 l Z a0 hw T396.heap b356 p_0 F418)
      obtain ⟨_, T434, L434, X434, ⟨rfl, rfl, e434⟩, st434⟩ := own_cv X433 hx hZ hown (own_w322 hw) hml (g := (mkF m 124 #[.val (.int p_0), .val (.int p_1), .val (.int p_2), .val (.int p_3), .val (.ref b56), .val (.ref b67), .val (.ref b353), .val (.ref b356), .val (.ref b376), .val (.int (1 : Int32)), .val (.int (1 : Int32)), .unset] [(.ref b376)])) (hb hby at_124) e433 E430 [] [] (lenOf own_pd14 rfl) (own_rm317 l Z a0 hw T396.heap b376 p_1 F425)
      refine own_go (T2 := T434) (g2 := (mkF m 133 #[.val (.int p_0), .val (.int p_1), .val (.int p_2), .val (.int p_3), .val (.ref b56), .val (.ref b67), .val (.ref b353), .val (.ref b356), .val (.ref b376), .val (.int (1 : Int32)), .val (.int (1 : Int32)), .unset] [(.ref b356)])) (fun t k => XS.iconst X432.here hx rfl (hb hby at_106) (XS.goto X432.here hx rfl (pc0 := 107) (pc' := 111) rfl (hb hby at_107) (by decide) (by decide) (XS.istore X432.here hx rfl (hb hby at_111) rfl (l' := #[.val (.int p_0), .val (.int p_1), .val (.int p_2), .val (.int p_3), .val (.ref b56), .val (.ref b67), .val (.ref b353), .val (.ref b356), .val (.ref b376), .val (.int (1 : Int32)), .val (.int (1 : Int32)), .unset]) rfl (XS.aload X432.here hx rfl (hb hby at_113) rfl rfl (st433 _ (XS.iloadN X433.here hx rfl (hb hby at_118) rfl  (XS.icmpNo X433.here hx rfl (hb hby at_119) rfl (teq (show p_0 = p_0 from rfl)).2 (XS.aload X433.here hx rfl (hb hby at_122) rfl rfl (st434 _ (XS.iloadN X434.here hx rfl (hb hby at_127) rfl  (XS.icmpNo X434.here hx rfl (hb hby at_128) rfl (teq (show p_1 = p_1 from rfl)).2 (XS.aload X434.here hx rfl (hb hby at_131) rfl rfl k)))))))))))) ?_
      obtain ⟨_, T435, L435, X435, ⟨rfl, rfl, e435⟩, st435⟩ := own_cv X434 hx hZ hown (own_w330 hw) hml (g := (mkF m 133 #[.val (.int p_0), .val (.int p_1), .val (.int p_2), .val (.int p_3), .val (.ref b56), .val (.ref b67), .val (.ref b353), .val (.ref b356), .val (.ref b376), .val (.int (1 : Int32)), .val (.int (1 : Int32)), .unset] [(.ref b356)])) (hb hby at_133) e434 E428 [] [] (lenOf own_pd15 rfl) (own_rm325 l Z a0 hw T396.heap b356 b56 F417)
      obtain ⟨_, T436, L436, X436, ⟨rfl, rfl, e436⟩, st436⟩ := own_cv X435 hx hZ hown (own_w330 hw) hml (g := (mkF m 143 #[.val (.int p_0), .val (.int p_1), .val (.int p_2), .val (.int p_3), .val (.ref b56), .val (.ref b67), .val (.ref b353), .val (.ref b356), .val (.ref b376), .val (.int (1 : Int32)), .val (.int (1 : Int32)), .unset] [(.ref b376)])) (hb hby at_143) e435 E430 [] [] (lenOf own_pd15 rfl) (own_rm325 l Z a0 hw T396.heap b376 b67 F424)
      refine own_go (T2 := T436) (g2 := (mkF m 163 #[.val (.int p_0), .val (.int p_1), .val (.int p_2), .val (.int p_3), .val (.ref b56), .val (.ref b67), .val (.ref b353), .val (.ref b356), .val (.ref b376), .val (.int (1 : Int32)), .val (.int (1 : Int32)), .val (.int (1 : Int32))] [])) (fun t k => st435 _ (XS.aload X435.here hx rfl (hb hby at_136) rfl rfl (Jvm.RoadKit.acmp X435 hx rfl rfl rfl (pc0 := 138) (pc' := 141) (same := true) rfl (hb hby at_138) rfl (decide_eq_true (congrArg Value.ref rfl)) (by decide) (by decide) (XS.aload X435.here hx rfl (hb hby at_141) rfl rfl (st436 _ (XS.aload X436.here hx rfl (hb hby at_146) rfl rfl (Jvm.RoadKit.acmp X436 hx rfl rfl rfl (pc0 := 148) (pc' := 151) (same := true) rfl (hb hby at_148) rfl (decide_eq_true (congrArg Value.ref rfl)) (by decide) (by decide) (XS.iconst X436.here hx rfl (hb hby at_151) (XS.goto X436.here hx rfl (pc0 := 152) (pc' := 156) rfl (hb hby at_152) (by decide) (by decide) (XS.istore X436.here hx rfl (hb hby at_156) rfl (l' := #[.val (.int p_0), .val (.int p_1), .val (.int p_2), .val (.int p_3), .val (.ref b56), .val (.ref b67), .val (.ref b353), .val (.ref b356), .val (.ref b376), .val (.int (1 : Int32)), .val (.int (1 : Int32)), .val (.int (1 : Int32))]) rfl (XS.iload X436.here hx rfl (hb hby at_158) rfl  (XS.ifNo X436.here hx rfl (hb hby at_160) rfl ((if0 _ _).trans (feq (show ¬ ((1 : Int32) = (0 : Int32)) from (by decide))).1) k)))))))))))) ?_
      refine own_go (T2 := T436) (g2 := (mkF m 178 #[.val (.int p_0), .val (.int p_1), .val (.int p_2), .val (.int p_3), .val (.ref b56), .val (.ref b67), .val (.ref b353), .val (.ref b356), .val (.ref b376), .val (.int (1 : Int32)), .val (.int (1 : Int32)), .val (.int (1 : Int32))] [(.int (1 : Int32))])) (fun t k => XS.iload X436.here hx rfl (hb hby at_163) rfl  (XS.ifNo X436.here hx rfl (hb hby at_165) rfl ((if0 _ _).trans (feq (show ¬ ((1 : Int32) = (0 : Int32)) from (by decide))).1) (XS.iload X436.here hx rfl (hb hby at_168) rfl  (XS.ifNo X436.here hx rfl (hb hby at_170) rfl ((if0 _ _).trans (feq (show ¬ ((1 : Int32) = (0 : Int32)) from (by decide))).1) (XS.iconst X436.here hx rfl (hb hby at_173) (XS.goto X436.here hx rfl (pc0 := 174) (pc' := 178) rfl (hb hby at_174) (by decide) (by decide) k)))))) ?_
      exact own_endN X436 hx Bd.notSynchronized (t := .boolean) Bd.returns (by simp) (hb hby at_178) (z' := (1 : Int32)) rfl (by decide) (by decide) ⟨rfl, by simpa only [List.append_nil] using own_kpFr K396⟩
    · skip
      have S442 : Sta Z T64.heap "java/lang/Integer$IntegerCache" "high" "I" (.int (127 : Int32)) := (own_kpSta K64c (own_kpSta K9c S_high_7))
      have S446 : Sta Z T64.heap "java/lang/Integer$IntegerCache" "cache" "[Ljava/lang/Integer;" (.ref w_cache) := (own_kpSta K64c (own_kpSta K9c S_cache_3))
      have X452 : Ext Z.heap T64.heap := (own_oxK (own_oxK OX0 K9c.1 all0) K64c.1 all0)
      obtain ⟨_, T437, L437, X437, ⟨b456, rfl, K437c, E457, F458⟩, st437⟩ := own_cs X64 hx hZ hown (own_w102 hw) hml (g := (mkF m 23 #[.val (.int p_0), .val (.int p_1), .val (.int p_2), .val (.int p_3), .val (.ref b56), .val (.ref b67), .unset, .unset, .unset, .unset, .unset, .unset] [(.int p_0)])) (hb hby at_23) rfl [(.int p_0)] [] (lenOf own_pd6 rfl) (own_rm439 l Z a0 hw T64.heap p_0 w_cache cl_w_cache hc77 S442 hc339 S446 B_w_cache X452 (own_ix1 hc77 hc339) (own_ix2 hc77 hc339))
      have z_K437c : T64.heap.size ≤ T437.heap.size := K437c.1.1
      have K437 := own_kpTrans K64 K437c all0
      obtain ⟨T459, h459, X459, e459, E459, A459, D459, -, st459⟩ := newO X437 hx hZ hown (own_wd hw 33 rfl) (own_wd hw 34 rfl) (own_wd hw 35 rfl) rfl (g := (mkF m 28 #[.val (.int p_0), .val (.int p_1), .val (.int p_2), .val (.int p_3), .val (.ref b56), .val (.ref b67), .val (.ref b456), .unset, .unset, .unset, .unset, .unset] [])) rfl (hb hby at_28) (by decide) (by decide)
      obtain ⟨b459, g459⟩ : ∃ z, z = T437.heap.size := ⟨_, rfl⟩
      rw [← g459] at A459 D459 st459
      have z_E459 : T437.heap.size ≤ h459.size := E459.1
      have lo_b459 : T437.heap.size ≤ b459 := Nat.le_of_eq g459.symm
      have sz_b459 : h0.size ≤ b459 := Nat.le_trans K437.1.1 lo_b459
      have K459 := own_kpExt K437 E459
      have F460 : Fld Z h459 b459 "com/example/libentail/libentail/Role" "owner" "Ljava/lang/Object;" .null := D459 (Or.inr (own_wd hw 41 rfl)) (ty := (.object "java/lang/Object")) (by decide)
      have F461 : Fld Z h459 b459 "com/example/libentail/libentail/Role" "name" "Ljava/lang/String;" .null := D459 (Or.inr (own_wd hw 43 rfl)) (ty := (.object "java/lang/String")) (by decide)
      have F462 : Fld Z h459 b459 "com/example/libentail/libentail/Role" "id" "I" (.int (0 : Int32)) := D459 (Or.inr (own_wd hw 45 rfl)) (ty := .int) (by decide)
      have F463 : Fld Z h459 b459 "com/example/libentail/libentail/Role" "members" "Ljava/util/List;" .null := D459 (Or.inr (own_wd hw 87 rfl)) (ty := (.object "java/util/List")) (by decide)
      have F464 : Fld Z h459 b459 "com/example/libentail/libentail/Role" "inverse" "Lcom/example/libentail/libentail/Role;" .null := D459 (Or.inl (own_wd hw 92 rfl)) (ty := (.object "com/example/libentail/libentail/Role")) (by decide)
      have F465 : Fld Z h459 b459 "com/example/libentail/libentail/Role" "inverted" "Z" (.int (0 : Int32)) := D459 (Or.inl (own_wd hw 94 rfl)) (ty := .boolean) (by decide)
      have S468 : Sta Z h459 "java/util/ImmutableCollections" "EMPTY" "Ljava/lang/Object;" (.ref w_EMPTY) := (Sta.ext E459 (own_kpSta K437c (own_kpSta K64c (own_kpSta K9c S_EMPTY_4))))
      obtain ⟨_, T466, L466, X466, ⟨b469, rfl, K466c, lo_b469, F470, F471, F472, F473, F474, F475, E476, F477, F478⟩, st466⟩ := own_ci X459 hx hZ hown (own_w208 hw) hml (g := (mkF m 37 #[.val (.int p_0), .val (.int p_1), .val (.int p_2), .val (.int p_3), .val (.ref b56), .val (.ref b67), .val (.ref b456), .unset, .unset, .unset, .unset, .unset] [(.int p_0), (.ref b56), (.ref b456), (.ref b459), (.ref b459)])) (hb hby at_37) e459 (a := b459) [(.ref b456), (.ref b56), (.int p_0)] [(.ref b459)] (lenOf own_pd10 rfl) (own_rm111 l Z a0 hw h459 b459 b456 b56 p_0 w_EMPTY A459 F460 F461 F462 S468 F463 F464 F465)
      have z_K466c : h459.size ≤ T466.heap.size := K466c.1.1
      have sz_b469 : h0.size ≤ b469 := Nat.le_trans K459.1.1 lo_b469
      have K466 := own_kpTrans K459 K466c (allS (Or.inr sz_b459) all0)
      obtain ⟨T479, h479, X479, e479, E479, A479, D479, -, st479⟩ := newO X466 hx hZ hown (own_wd hw 33 rfl) (own_wd hw 34 rfl) (own_wd hw 35 rfl) rfl (g := (mkF m 42 #[.val (.int p_0), .val (.int p_1), .val (.int p_2), .val (.int p_3), .val (.ref b56), .val (.ref b67), .val (.ref b456), .val (.ref b459), .unset, .unset, .unset, .unset] [])) rfl (hb hby at_42) (by decide) (by decide)
      obtain ⟨b479, g479⟩ : ∃ z, z = T466.heap.size := ⟨_, rfl⟩
      rw [← g479] at A479 D479 st479
      have z_E479 : T466.heap.size ≤ h479.size := E479.1
      have lo_b479 : T466.heap.size ≤ b479 := Nat.le_of_eq g479.symm
      have sz_b479 : h0.size ≤ b479 := Nat.le_trans K466.1.1 lo_b479
      have K479 := own_kpExt K466 E479
      have F480 : Fld Z h479 b479 "com/example/libentail/libentail/Role" "owner" "Ljava/lang/Object;" .null := D479 (Or.inr (own_wd hw 41 rfl)) (ty := (.object "java/lang/Object")) (by decide)
      have F481 : Fld Z h479 b479 "com/example/libentail/libentail/Role" "name" "Ljava/lang/String;" .null := D479 (Or.inr (own_wd hw 43 rfl)) (ty := (.object "java/lang/String")) (by decide)
      have F482 : Fld Z h479 b479 "com/example/libentail/libentail/Role" "id" "I" (.int (0 : Int32)) := D479 (Or.inr (own_wd hw 45 rfl)) (ty := .int) (by decide)
      have F483 : Fld Z h479 b479 "com/example/libentail/libentail/Role" "members" "Ljava/util/List;" .null := D479 (Or.inr (own_wd hw 87 rfl)) (ty := (.object "java/util/List")) (by decide)
      have F484 : Fld Z h479 b479 "com/example/libentail/libentail/Role" "inverse" "Lcom/example/libentail/libentail/Role;" .null := D479 (Or.inl (own_wd hw 92 rfl)) (ty := (.object "com/example/libentail/libentail/Role")) (by decide)
      have F485 : Fld Z h479 b479 "com/example/libentail/libentail/Role" "inverted" "Z" (.int (0 : Int32)) := D479 (Or.inl (own_wd hw 94 rfl)) (ty := .boolean) (by decide)
      refine own_go (T2 := T479) (g2 := (mkF m 48 #[.val (.int p_0), .val (.int p_1), .val (.int p_2), .val (.int p_3), .val (.ref b56), .val (.ref b67), .val (.ref b456), .val (.ref b459), .unset, .unset, .unset, .unset] [(.ref b456), (.ref b479), (.ref b479)])) (fun t k => st437 _ (XS.astore X437.here hx rfl (hb hby at_26) rfl rfl (l' := #[.val (.int p_0), .val (.int p_1), .val (.int p_2), .val (.int p_3), .val (.ref b56), .val (.ref b67), .val (.ref b456), .unset, .unset, .unset, .unset, .unset]) rfl (st459 _ (XS.dup X459.here hx rfl (hb hby at_31) rfl rfl (XS.aload X459.here hx rfl (hb hby at_32) rfl rfl (XS.aload X459.here hx rfl (hb hby at_34) rfl rfl (XS.iloadN X459.here hx rfl (hb hby at_36) rfl  (st466 _ (XS.astore X466.here hx rfl (hb hby at_40) rfl rfl (l' := #[.val (.int p_0), .val (.int p_1), .val (.int p_2), .val (.int p_3), .val (.ref b56), .val (.ref b67), .val (.ref b456), .val (.ref b459), .unset, .unset, .unset, .unset]) rfl (st479 _ (XS.dup X479.here hx rfl (hb hby at_45) rfl rfl (XS.aload X479.here hx rfl (hb hby at_46) rfl rfl k)))))))))))) ?_
      have S488 : Sta Z h479 "java/util/ImmutableCollections" "EMPTY" "Ljava/lang/Object;" (.ref w_EMPTY) := (Sta.ext E479 (own_kpSta K466c S468))
      obtain ⟨_, T486, L486, X486, ⟨b489, rfl, K486c, lo_b489, F490, F491, F492, F493, F494, F495, E496, F497, F498⟩, st486⟩ := own_ci X479 hx hZ hown (own_w208 hw) hml (g := (mkF m 51 #[.val (.int p_0), .val (.int p_1), .val (.int p_2), .val (.int p_3), .val (.ref b56), .val (.ref b67), .val (.ref b456), .val (.ref b459), .unset, .unset, .unset, .unset] [(.int p_1), (.ref b67), (.ref b456), (.ref b479), (.ref b479)])) (hb hby at_51) e479 (a := b479) [(.ref b456), (.ref b67), (.int p_1)] [(.ref b479)] (lenOf own_pd10 rfl) (own_rm111 l Z a0 hw h479 b479 b456 b67 p_1 w_EMPTY A479 F480 F481 F482 S488 F483 F484 F485)
      have z_K486c : h479.size ≤ T486.heap.size := K486c.1.1
      have sz_b489 : h0.size ≤ b489 := Nat.le_trans K479.1.1 lo_b489
      have K486 := own_kpTrans K479 K486c (allS (Or.inr sz_b479) all0)
      have E509 : Exa Z T486.heap b459 "com/example/libentail/libentail/Role" := (Exa.keep (Exa.ext E479 (Exa.keep A459 K466c.1)) K486c.1)
      have ne510 : b459 ≠ b479 := Nat.ne_of_lt (Nat.lt_of_lt_of_le A459.lt (Nat.le_trans z_K466c lo_b479))
      have F511 : Fld Z T486.heap b459 "com/example/libentail/libentail/Role" "inverse" "Lcom/example/libentail/libentail/Role;" .null := (Fld.keep (Fld.ext E479 F474) K486c.1 (ninS ne510 nin0))
      have E512 : Exa Z T486.heap b479 "com/example/libentail/libentail/Role" := (Exa.keep A479 K486c.1)
      have F513 : Fld Z T486.heap b459 "com/example/libentail/libentail/Role" "owner" "Ljava/lang/Object;" (.ref b456) := (Fld.keep (Fld.ext E479 F470) K486c.1 (ninS ne510 nin0))
      have F514 : Fld Z T486.heap b459 "com/example/libentail/libentail/Role" "name" "Ljava/lang/String;" (.ref b56) := (Fld.keep (Fld.ext E479 F471) K486c.1 (ninS ne510 nin0))
      have F515 : Fld Z T486.heap b459 "com/example/libentail/libentail/Role" "id" "I" (.int p_0) := (Fld.keep (Fld.ext E479 F472) K486c.1 (ninS ne510 nin0))
      have F516 : Fld Z T486.heap b459 "com/example/libentail/libentail/Role" "members" "Ljava/util/List;" (.ref b469) := (Fld.keep (Fld.ext E479 F473) K486c.1 (ninS ne510 nin0))
      have F517 : Fld Z T486.heap b459 "com/example/libentail/libentail/Role" "inverted" "Z" (.int (0 : Int32)) := (Fld.keep (Fld.ext E479 F475) K486c.1 (ninS ne510 nin0))
      obtain ⟨_, T499, L499, X499, ⟨rfl, K499c, F518, F519, F520, F521, F522, F523, F524, F525, F526, F527, F528, F529⟩, st499⟩ := own_cs X486 hx hZ hown (own_w294 hw) hml (g := (mkF m 60 #[.val (.int p_0), .val (.int p_1), .val (.int p_2), .val (.int p_3), .val (.ref b56), .val (.ref b67), .val (.ref b456), .val (.ref b459), .val (.ref b479), .unset, .unset, .unset] [(.ref b479), (.ref b459)])) (hb hby at_60) rfl [(.ref b459), (.ref b479)] [] (lenOf own_pd11 rfl) (own_rm230 l Z a0 hw T486.heap b459 b479 b456 b56 p_0 b469 b67 p_1 b489 E509 F511 E512 F494 (Ne.symm ne510) F495 F513 F514 F515 F516 F517 F490 F491 F492 F493)
      have z_K499c : T486.heap.size ≤ T499.heap.size := K499c.1.1
      have K499 := own_kpTrans K486 K499c (allS (Or.inr sz_b459) (allS (Or.inr sz_b479) all0))
      have E531 : Exa Z T499.heap b459 "com/example/libentail/libentail/Role" := (Exa.keep E509 K499c.1)
      obtain ⟨_, T530, L530, X530, ⟨rfl, rfl, e530⟩, st530⟩ := own_cv X499 hx hZ hown (own_w302 hw) hml (g := (mkF m 65 #[.val (.int p_0), .val (.int p_1), .val (.int p_2), .val (.int p_3), .val (.ref b56), .val (.ref b67), .val (.ref b456), .val (.ref b459), .val (.ref b479), .unset, .unset, .unset] [(.ref b459)])) (hb hby at_65) rfl E531 [] [] (lenOf own_pd12 rfl) (own_rm296 l Z a0 hw T499.heap b459 b479 F518)
      refine own_go (T2 := T530) (g2 := (mkF m 75 #[.val (.int p_0), .val (.int p_1), .val (.int p_2), .val (.int p_3), .val (.ref b56), .val (.ref b67), .val (.ref b456), .val (.ref b459), .val (.ref b479), .unset, .unset, .unset] [(.ref b479)])) (fun t k => XS.aload X479.here hx rfl (hb hby at_48) rfl rfl (XS.iloadN X479.here hx rfl (hb hby at_50) rfl  (st486 _ (XS.astore X486.here hx rfl (hb hby at_54) rfl rfl (l' := #[.val (.int p_0), .val (.int p_1), .val (.int p_2), .val (.int p_3), .val (.ref b56), .val (.ref b67), .val (.ref b456), .val (.ref b459), .val (.ref b479), .unset, .unset, .unset]) rfl (XS.aload X486.here hx rfl (hb hby at_56) rfl rfl (XS.aload X486.here hx rfl (hb hby at_58) rfl rfl (st499 _ (XS.aload X499.here hx rfl (hb hby at_63) rfl rfl (st530 _ (XS.aload X530.here hx rfl (hb hby at_68) rfl rfl (Jvm.RoadKit.acmp X530 hx rfl rfl rfl (pc0 := 70) (pc' := 73) (same := true) rfl (hb hby at_70) rfl (decide_eq_true (congrArg Value.ref rfl)) (by decide) (by decide) (XS.aload X530.here hx rfl (hb hby at_73) rfl rfl k)))))))))))) ?_
      have E533 : Exa Z T499.heap b479 "com/example/libentail/libentail/Role" := (Exa.keep E512 K499c.1)
      obtain ⟨_, T532, L532, X532, ⟨rfl, rfl, e532⟩, st532⟩ := own_cv X530 hx hZ hown (own_w302 hw) hml (g := (mkF m 75 #[.val (.int p_0), .val (.int p_1), .val (.int p_2), .val (.int p_3), .val (.ref b56), .val (.ref b67), .val (.ref b456), .val (.ref b459), .val (.ref b479), .unset, .unset, .unset] [(.ref b479)])) (hb hby at_75) e530 E533 [] [] (lenOf own_pd12 rfl) (own_rm296 l Z a0 hw T499.heap b479 b459 F524)
      obtain ⟨_, T534, L534, X534, ⟨rfl, rfl, e534⟩, st534⟩ := own_cv X532 hx hZ hown (own_w310 hw) hml (g := (mkF m 92 #[.val (.int p_0), .val (.int p_1), .val (.int p_2), .val (.int p_3), .val (.ref b56), .val (.ref b67), .val (.ref b456), .val (.ref b459), .val (.ref b479), .val (.int (1 : Int32)), .unset, .unset] [(.ref b479)])) (hb hby at_92) e532 E533 [] [] (lenOf own_pd13 rfl) (own_rm306 l Z a0 hw T499.heap b479 F525)
      obtain ⟨_, T535, L535, X535, ⟨rfl, rfl, e535⟩, st535⟩ := own_cv X534 hx hZ hown (own_w310 hw) hml (g := (mkF m 100 #[.val (.int p_0), .val (.int p_1), .val (.int p_2), .val (.int p_3), .val (.ref b56), .val (.ref b67), .val (.ref b456), .val (.ref b459), .val (.ref b479), .val (.int (1 : Int32)), .unset, .unset] [(.ref b459)])) (hb hby at_100) e534 E531 [] [] (lenOf own_pd13 rfl) (own_rm312 l Z a0 hw T499.heap b459 F523)
      refine own_go (T2 := T535) (g2 := (mkF m 106 #[.val (.int p_0), .val (.int p_1), .val (.int p_2), .val (.int p_3), .val (.ref b56), .val (.ref b67), .val (.ref b456), .val (.ref b459), .val (.ref b479), .val (.int (1 : Int32)), .unset, .unset] [])) (fun t k => st532 _ (XS.aload X532.here hx rfl (hb hby at_78) rfl rfl (Jvm.RoadKit.acmp X532 hx rfl rfl rfl (pc0 := 80) (pc' := 83) (same := true) rfl (hb hby at_80) rfl (decide_eq_true (congrArg Value.ref rfl)) (by decide) (by decide) (XS.iconst X532.here hx rfl (hb hby at_83) (XS.goto X532.here hx rfl (pc0 := 84) (pc' := 88) rfl (hb hby at_84) (by decide) (by decide) (XS.istore X532.here hx rfl (hb hby at_88) rfl (l' := #[.val (.int p_0), .val (.int p_1), .val (.int p_2), .val (.int p_3), .val (.ref b56), .val (.ref b67), .val (.ref b456), .val (.ref b459), .val (.ref b479), .val (.int (1 : Int32)), .unset, .unset]) rfl (XS.aload X532.here hx rfl (hb hby at_90) rfl rfl (st534 _ (XS.ifNo X534.here hx rfl (hb hby at_95) rfl ((if0 _ _).trans (feq (show ¬ ((1 : Int32) = (0 : Int32)) from (by decide))).1) (XS.aload X534.here hx rfl (hb hby at_98) rfl rfl (st535 _ (XS.ifNo X535.here hx rfl (hb hby at_103) rfl ((if0 _ _).trans (teq (show (0 : Int32) = (0 : Int32) from (by decide))).2) k)))))))))))) ?_
      obtain ⟨_, T536, L536, X536, ⟨rfl, rfl, e536⟩, st536⟩ := own_cv X535 hx hZ hown (own_w322 hw) hml (g := (mkF m 115 #[.val (.int p_0), .val (.int p_1), .val (.int p_2), .val (.int p_3), .val (.ref b56), .val (.ref b67), .val (.ref b456), .val (.ref b459), .val (.ref b479), .val (.int (1 : Int32)), .val (.int (1 : Int32)), .unset] [(.ref b459)])) (hb hby at_115) e535 E531 [] [] (lenOf own_pd14 rfl) (own_rm317 l Z a0 hw T499.heap b459 p_0 F521)
      obtain ⟨_, T537, L537, X537, ⟨rfl, rfl, e537⟩, st537⟩ := own_cv X536 hx hZ hown (own_w322 hw) hml (g := (mkF m 124 #[.val (.int p_0), .val (.int p_1), .val (.int p_2), .val (.int p_3), .val (.ref b56), .val (.ref b67), .val (.ref b456), .val (.ref b459), .val (.ref b479), .val (.int (1 : Int32)), .val (.int (1 : Int32)), .unset] [(.ref b479)])) (hb hby at_124) e536 E533 [] [] (lenOf own_pd14 rfl) (own_rm317 l Z a0 hw T499.heap b479 p_1 F528)
      refine own_go (T2 := T537) (g2 := (mkF m 133 #[.val (.int p_0), .val (.int p_1), .val (.int p_2), .val (.int p_3), .val (.ref b56), .val (.ref b67), .val (.ref b456), .val (.ref b459), .val (.ref b479), .val (.int (1 : Int32)), .val (.int (1 : Int32)), .unset] [(.ref b459)])) (fun t k => XS.iconst X535.here hx rfl (hb hby at_106) (XS.goto X535.here hx rfl (pc0 := 107) (pc' := 111) rfl (hb hby at_107) (by decide) (by decide) (XS.istore X535.here hx rfl (hb hby at_111) rfl (l' := #[.val (.int p_0), .val (.int p_1), .val (.int p_2), .val (.int p_3), .val (.ref b56), .val (.ref b67), .val (.ref b456), .val (.ref b459), .val (.ref b479), .val (.int (1 : Int32)), .val (.int (1 : Int32)), .unset]) rfl (XS.aload X535.here hx rfl (hb hby at_113) rfl rfl (st536 _ (XS.iloadN X536.here hx rfl (hb hby at_118) rfl  (XS.icmpNo X536.here hx rfl (hb hby at_119) rfl (teq (show p_0 = p_0 from rfl)).2 (XS.aload X536.here hx rfl (hb hby at_122) rfl rfl (st537 _ (XS.iloadN X537.here hx rfl (hb hby at_127) rfl  (XS.icmpNo X537.here hx rfl (hb hby at_128) rfl (teq (show p_1 = p_1 from rfl)).2 (XS.aload X537.here hx rfl (hb hby at_131) rfl rfl k)))))))))))) ?_
      obtain ⟨_, T538, L538, X538, ⟨rfl, rfl, e538⟩, st538⟩ := own_cv X537 hx hZ hown (own_w330 hw) hml (g := (mkF m 133 #[.val (.int p_0), .val (.int p_1), .val (.int p_2), .val (.int p_3), .val (.ref b56), .val (.ref b67), .val (.ref b456), .val (.ref b459), .val (.ref b479), .val (.int (1 : Int32)), .val (.int (1 : Int32)), .unset] [(.ref b459)])) (hb hby at_133) e537 E531 [] [] (lenOf own_pd15 rfl) (own_rm325 l Z a0 hw T499.heap b459 b56 F520)
      obtain ⟨_, T539, L539, X539, ⟨rfl, rfl, e539⟩, st539⟩ := own_cv X538 hx hZ hown (own_w330 hw) hml (g := (mkF m 143 #[.val (.int p_0), .val (.int p_1), .val (.int p_2), .val (.int p_3), .val (.ref b56), .val (.ref b67), .val (.ref b456), .val (.ref b459), .val (.ref b479), .val (.int (1 : Int32)), .val (.int (1 : Int32)), .unset] [(.ref b479)])) (hb hby at_143) e538 E533 [] [] (lenOf own_pd15 rfl) (own_rm325 l Z a0 hw T499.heap b479 b67 F527)
      refine own_go (T2 := T539) (g2 := (mkF m 163 #[.val (.int p_0), .val (.int p_1), .val (.int p_2), .val (.int p_3), .val (.ref b56), .val (.ref b67), .val (.ref b456), .val (.ref b459), .val (.ref b479), .val (.int (1 : Int32)), .val (.int (1 : Int32)), .val (.int (1 : Int32))] [])) (fun t k => st538 _ (XS.aload X538.here hx rfl (hb hby at_136) rfl rfl (Jvm.RoadKit.acmp X538 hx rfl rfl rfl (pc0 := 138) (pc' := 141) (same := true) rfl (hb hby at_138) rfl (decide_eq_true (congrArg Value.ref rfl)) (by decide) (by decide) (XS.aload X538.here hx rfl (hb hby at_141) rfl rfl (st539 _ (XS.aload X539.here hx rfl (hb hby at_146) rfl rfl (Jvm.RoadKit.acmp X539 hx rfl rfl rfl (pc0 := 148) (pc' := 151) (same := true) rfl (hb hby at_148) rfl (decide_eq_true (congrArg Value.ref rfl)) (by decide) (by decide) (XS.iconst X539.here hx rfl (hb hby at_151) (XS.goto X539.here hx rfl (pc0 := 152) (pc' := 156) rfl (hb hby at_152) (by decide) (by decide) (XS.istore X539.here hx rfl (hb hby at_156) rfl (l' := #[.val (.int p_0), .val (.int p_1), .val (.int p_2), .val (.int p_3), .val (.ref b56), .val (.ref b67), .val (.ref b456), .val (.ref b459), .val (.ref b479), .val (.int (1 : Int32)), .val (.int (1 : Int32)), .val (.int (1 : Int32))]) rfl (XS.iload X539.here hx rfl (hb hby at_158) rfl  (XS.ifNo X539.here hx rfl (hb hby at_160) rfl ((if0 _ _).trans (feq (show ¬ ((1 : Int32) = (0 : Int32)) from (by decide))).1) k)))))))))))) ?_
      refine own_go (T2 := T539) (g2 := (mkF m 178 #[.val (.int p_0), .val (.int p_1), .val (.int p_2), .val (.int p_3), .val (.ref b56), .val (.ref b67), .val (.ref b456), .val (.ref b459), .val (.ref b479), .val (.int (1 : Int32)), .val (.int (1 : Int32)), .val (.int (1 : Int32))] [(.int (1 : Int32))])) (fun t k => XS.iload X539.here hx rfl (hb hby at_163) rfl  (XS.ifNo X539.here hx rfl (hb hby at_165) rfl ((if0 _ _).trans (feq (show ¬ ((1 : Int32) = (0 : Int32)) from (by decide))).1) (XS.iload X539.here hx rfl (hb hby at_168) rfl  (XS.ifNo X539.here hx rfl (hb hby at_170) rfl ((if0 _ _).trans (feq (show ¬ ((1 : Int32) = (0 : Int32)) from (by decide))).1) (XS.iconst X539.here hx rfl (hb hby at_173) (XS.goto X539.here hx rfl (pc0 := 174) (pc' := 178) rfl (hb hby at_174) (by decide) (by decide) k)))))) ?_
      exact own_endN X539 hx Bd.notSynchronized (t := .boolean) Bd.returns (by simp) (hb hby at_178) (z' := (1 : Int32)) rfl (by decide) (by decide) ⟨rfl, by simpa only [List.append_nil] using own_kpFr K499⟩
set_option maxRecDepth 65536 in
set_option maxHeartbeats 40000000 in
theorem comes_1 {Post : Tables → Env → Array Value → State → Outcome → State → Prop} (hpost : ∀ tb e args s v u, (limb_1_1.after args s (.returned v) u = true ∧ limb_1_2.after args s (.returned v) u = true ∧ True) → FrameEnd s (.returned v) u (Jvm.fieldLocs frame_1_writes args s ++ Jvm.arrayLocs frame_1_arrays args s ++ Jvm.staticLocs frame_1_statics s) 32 128 → Post tb e args s (.returned v) u) :
    ArmFor flags0 classFile x code maxLocals ret World_1 tables_1 room_1 Calls_1 rest_1 Pre_1 Post := by
  intro l hfl _ _ p e ha hc hk s m args below hf hA hF happ hP
  obtain ⟨hcalls, hrest, hpre⟩ := hP
  obtain ⟨-, -, -, hnamed, -, -, -, hat⟩ := (Spec.applies_iff hf).mp happ
  obtain ⟨hg, hn⟩ := and_e (Cond.before_iff.mp (show (Jvm.Cond.and given_1 narrow_1).before args s = true from hpre))
  obtain ⟨g540, g541⟩ := and_e hg
  obtain ⟨g542, g543⟩ := and_e g541
  obtain ⟨g544, g545⟩ := and_e g543
  obtain ⟨g546, g547⟩ := and_e g545
  obtain ⟨w0, w1, w2, w3, rfl⟩ : ∃ w0 w1 w2 w3 : Value, args = #[w0, w1, w2, w3] := by
    have hs : args.size = 4 := by simpa [Cond.value, given_1] using g540
    obtain ⟨L⟩ := args
    match L, hs with
    | [w0, w1, w2, w3], _ => exact ⟨w0, w1, w2, w3, rfl⟩
  have hw := fun d (hd : d ∈ tables_1) => atoms_spec (ws := Jvm.Cond.code x code maxLocals ret :: tables_1) hat d (List.mem_cons_of_mem _ hd)
  have hfit : Fit s := fun {y c} hc i hi => by
    obtain ⟨ha, rfl⟩ := Array.getElem?_eq_some_iff.mp hc
    have q := List.all_eq_true.mp ((Array.all_eq_true_iff_forall_mem.mp hF) _ (Array.getElem_mem ha)) i (List.mem_range.mpr hi)
    simpa [Array.getElem?_eq_getElem hi] using q
  obtain ⟨hsets, hown0⟩ := atoms_of _ (rest_1_c_eq ▸ (show rest_1_c.before _ s = true from hrest))
  obtain ⟨i0, ei0⟩ := is_v g542
  obtain rfl : w0 = (.int i0) := Option.some.inj ei0
  obtain ⟨i1, ei1⟩ := is_v g544
  obtain rfl : w1 = (.int i1) := Option.some.inj ei1
  obtain ⟨i2, ei2⟩ := is_v g546
  obtain rfl : w2 = (.int i2) := Option.some.inj ei2
  obtain ⟨i3, ei3⟩ := is_v g547
  obtain rfl : w3 = (.int i3) := Option.some.inj ei3
  obtain ⟨i_COMPACT_STRINGS, ev_i_COMPACT_STRINGS⟩ := is_v (Cond.before_iff.mp (hsets _ (List.mem_of_getElem? (i := 1) rfl)))
  obtain ⟨w_cache, ev_w_cache⟩ := arr_v (Cond.before_iff.mp (hsets _ (List.mem_of_getElem? (i := 13) rfl)))
  obtain ⟨cl_w_cache, A_w_cache⟩ := own_arr ev_w_cache (Cond.before_iff.mp (hsets _ (List.mem_of_getElem? (i := 13) rfl)))
  obtain ⟨w_EMPTY, ev_w_EMPTY⟩ := exa_v (Cond.before_iff.mp (hsets _ (List.mem_of_getElem? (i := 19) rfl)))
  obtain ⟨w_EMPTY_LIST, ev_w_EMPTY_LIST⟩ := exa_v (Cond.before_iff.mp (hsets _ (List.mem_of_getElem? (i := 25) rfl)))
  have L_w_cache := own_len ev_w_cache A_w_cache (Cond.before_iff.mp (hsets _ (List.mem_of_getElem? (i := 15) rfl)))
  obtain ⟨n, o, h1, h2, h3, _, L, rfl, ⟨rfl, N⟩, hq⟩ := own_rm0 l s _ hw tables_1 s.heap i0 i1 i2 i3 i_COMPACT_STRINGS w_cache w_EMPTY w_EMPTY_LIST cl_w_cache
    ⟨Nat.le_refl _, fun _ _ q => q⟩
    (Sta.start ev_i_COMPACT_STRINGS (Or.inl (hsets _ (List.mem_of_getElem? (i := 0) rfl))))
    (Sta.start ev_w_cache (Or.inr ⟨(own_wd hw 31 rfl), (hsets _ (List.mem_of_getElem? (i := 11) rfl))⟩))
    (Exa.start ev_w_cache (Cond.before_iff.mp (hsets _ (List.mem_of_getElem? (i := 14) rfl))))
    (Sta.start ev_w_EMPTY (Or.inl (hsets _ (List.mem_of_getElem? (i := 18) rfl))))
    (Exa.start ev_w_EMPTY (Cond.before_iff.mp (hsets _ (List.mem_of_getElem? (i := 19) rfl))))
    (Sta.start ev_w_EMPTY_LIST (Or.inl (hsets _ (List.mem_of_getElem? (i := 24) rfl))))
    (Exa.start ev_w_EMPTY_LIST (Cond.before_iff.mp (hsets _ (List.mem_of_getElem? (i := 25) rfl))))
    (own_neI ev_i_COMPACT_STRINGS (Cond.before_iff.mp (hsets _ (List.mem_of_getElem? (i := 2) rfl))))
    (Sta.start (own_evI (Cond.before_iff.mp (hsets _ (List.mem_of_getElem? (i := 12) rfl)))) (Or.inl (hsets _ (List.mem_of_getElem? (i := 10) rfl))))
    (Sta.start (own_evI (Cond.before_iff.mp (hsets _ (List.mem_of_getElem? (i := 22) rfl)))) (Or.inl (hsets _ (List.mem_of_getElem? (i := 21) rfl))))
    (Bxs.start (fun _ => ev_w_cache) A_w_cache L_w_cache.1 L_w_cache.2 (by decide) (Cond.before_iff.mp (hsets _ (List.mem_of_getElem? (i := 16) rfl))) (fun X j nn q => eqv_i (own_subix nn) q))
    p e ha hc hk s m _ below hf ((Spec.applies_iff_loose hf).mp happ).1 ⟨rfl, State.Warmed39.refl s, rfl⟩ trivial
  refine ⟨n, _, h1, h2, h3, hpost _ _ _ _ _ _ ⟨Cond.after_iff.mpr rfl, Cond.after_iff.mpr (eq_i res_at (Term.int_eval (1)) rfl), trivial⟩ ⟨hq.1, hq.2.1, (hq.2.2.sift fun y hy => Or.inr (N y hy)).mono (by decide) (by decide)⟩⟩
theorem main_1_1 : Claimed_1_1 := comes_1 fun _ _ _ _ _ _ h hF => ⟨h.1, hF⟩
theorem main_1_2 : Claimed_1_2 := comes_1 fun _ _ _ _ _ _ h hF => ⟨h.2.1, hF⟩
end Jvm.Pilot.@@N@@
namespace Jvm.Pilot.@@N@@
open Jvm Jvm.ClassFile Sem Op Lib Jvm.Free Jvm.Stand Jvm.Pilot.@@N@@.Jvm.D
/-! MADE BY PROGRAM (witnessworld.py) out of the Statement's table words and the real class files: 33 classes; the members and pool entries that the words name. The judged class is class 1, her method 1. -/
namespace start1
open Jvm.ClassFile
def u (s : String) : CpInfo := .utf8 (stringToUtf16 s)
/-- a pool by its gaps: so many unusable entries, then the entry; so many at the end -/
def gap : Nat → List CpInfo → List CpInfo
  | 0, r => r
  | n + 1, r => .unusable :: gap n r
def poolList (es : List (Nat × CpInfo)) (last : Nat) : List CpInfo := es.foldr (fun e r => gap e.1 (e.2 :: r)) (gap last [])
def pool (es : List (Nat × CpInfo)) (last : Nat) : Array CpInfo := ⟨poolList es last⟩
def fileOf (pool : Array CpInfo) (this : Nat) (attrs : Array Attribute := #[]) (ms : Array MethodInfo := #[]) (fl : Nat := 33) (sup : Nat := 0) (ifs : Array Nat := #[]) (fds : Array FieldInfo := #[]) : ClassFile where
  minorVersion := 0
  majorVersion := 65
  constantPool := pool
  accessFlags := fl
  thisClass := this
  superClass := sup
  interfaces := ifs
  fields := fds
  methods := ms
  attributes := attrs
def plain (name : String) (sup : Option ClassId) : Class where
  name := name
  kind := .ordinary
  loader := none
  accessFlags := 33
  super := sup
  interfaces := #[]
  cf := none
  fields := #[]
  methods := #[]
  instanceTypes := #[]
  staticTypes := #[]
  resolved := #[]
  callSites := []
  init := .initialized
  statics := none
  mirror := none

def pool0 : Array CpInfo := pool [(5, u "<init>"), (0, u "()V"), (1, .class_ 10), (1, u "java/lang/Object")] 113

def k0c0 : Code := { maxStack := 0, maxLocals := 1, code := object_method_1_code, exceptionTable := #[], attributes := #[] }
def k0m0 : Method := { name := "<init>", desc := "()V", sig := { parameters := [], returnType := none }, accessFlags := 1, code := some k0c0 }
/-- java/lang/Object -/
def k0 : Class := { plain "java/lang/Object" none with
  accessFlags := 33
  interfaces := #[]
  cf := some (fileOf pool0 8 #[] #[{ accessFlags := 1, nameIndex := 5, descriptorIndex := 6, attributes := #[] }] 33 0 #[] #[])
  fields := #[]
  methods := #[k0m0]
  instanceTypes := #[]
  staticTypes := #[]
  resolved := Array.replicate 124 none
  statics := none }

def pool1 : Array CpInfo := pool [(2, .class_ 4), (1, u "java/lang/Object"), (0, u "<init>"), (0, u "()V"), (0, .methodref 8 9), (0, .class_ 10), (0, .nameAndType 11 12), (0, u "java/lang/String"), (0, u "valueOf"), (0, u "(C)Ljava/lang/String;"), (0, .methodref 14 15), (0, .class_ 16), (0, .nameAndType 11 17), (0, u "java/lang/Integer"), (0, u "(I)Ljava/lang/Integer;"), (0, .class_ 19), (0, u "com/example/libentail/libentail/Role"), (0, .methodref 18 21), (0, .nameAndType 5 22), (0, u "(Ljava/lang/Object;Ljava/lang/String;I)V"), (0, .methodref 18 24), (0, .nameAndType 25 26), (0, u "pair"), (0, u "(Lcom/example/libentail/libentail/Role;Lcom/example/libentail/libentail/Role;)V"), (0, .methodref 18 28), (0, .nameAndType 29 30), (0, u "inverse"), (0, u "()Lcom/example/libentail/libentail/Role;"), (0, .methodref 18 32), (0, .nameAndType 33 34), (0, u "isInverse"), (0, u "()Z"), (0, .methodref 18 36), (0, .nameAndType 37 38), (0, u "id"), (0, u "()I"), (0, .methodref 18 40), (0, .nameAndType 41 42), (0, u "getName"), (0, u "()Ljava/lang/String;"), (0, .class_ 44), (0, u "com/example/libentail/libentail/RolePairPinLaw"), (2, u "law"), (0, u "(IIII)Z")] 3

def k1m0 : Method := { name := "<init>", desc := "()V", sig := { parameters := [], returnType := none }, accessFlags := 1, code := none }
def k1c1 : Code := { maxStack := 5, maxLocals := 12, code := code, exceptionTable := #[], attributes := #[] }
def k1m1 : Method := { name := "law", desc := "(IIII)Z", sig := { parameters := [.int, .int, .int, .int], returnType := some .boolean }, accessFlags := 9, code := some k1c1 }
/-- com/example/libentail/libentail/RolePairPinLaw -/
def k1 : Class := { plain "com/example/libentail/libentail/RolePairPinLaw" (some 0) with
  accessFlags := 49
  interfaces := #[]
  cf := some (fileOf pool1 43 #[] #[{ accessFlags := 1, nameIndex := 5, descriptorIndex := 6, attributes := #[] }, { accessFlags := 9, nameIndex := 47, descriptorIndex := 48, attributes := #[] }] 49 2 #[] #[])
  fields := #[]
  methods := #[k1m0, k1m1]
  instanceTypes := #[]
  staticTypes := #[]
  resolved := Array.replicate 52 none
  statics := none }

def pool2 : Array CpInfo := pool [(1, .class_ 2), (0, u "java/io/Serializable"), (0, .class_ 4), (0, u "java/lang/Object")] 2

/-- java/io/Serializable -/
def k2 : Class := { plain "java/io/Serializable" (some 0) with
  accessFlags := 1537
  interfaces := #[]
  cf := some (fileOf pool2 1 #[] #[] 1537 3 #[] #[])
  fields := #[]
  methods := #[]
  instanceTypes := #[]
  staticTypes := #[]
  resolved := Array.replicate 7 none
  statics := none }

def pool3 : Array CpInfo := pool [(1, .class_ 2), (0, u "java/lang/Comparable"), (0, .class_ 4), (0, u "java/lang/Object")] 7

/-- java/lang/Comparable -/
def k3 : Class := { plain "java/lang/Comparable" (some 0) with
  accessFlags := 1537
  interfaces := #[]
  cf := some (fileOf pool3 1 #[] #[] 1537 3 #[] #[])
  fields := #[]
  methods := #[]
  instanceTypes := #[]
  staticTypes := #[]
  resolved := Array.replicate 12 none
  statics := none }

def pool4 : Array CpInfo := pool [(2, .class_ 4), (1, u "java/lang/CharSequence"), (42, .class_ 48), (0, u "java/lang/CharSequence$1CodePointIterator"), (10, .class_ 60), (0, u "java/lang/CharSequence$1CharIterator"), (5, .class_ 67), (0, u "java/lang/Object")] 63

/-- java/lang/CharSequence -/
def k4 : Class := { plain "java/lang/CharSequence" (some 0) with
  accessFlags := 1537
  interfaces := #[]
  cf := some (fileOf pool4 2 #[.nestMembers #[47, 59]] #[] 1537 66 #[] #[])
  fields := #[]
  methods := #[]
  instanceTypes := #[]
  staticTypes := #[]
  resolved := Array.replicate 131 none
  statics := none }

def pool5 : Array CpInfo := pool [(1, .class_ 2), (0, u "java/lang/constant/Constable"), (0, .class_ 4), (0, u "java/lang/Object")] 6

/-- java/lang/constant/Constable -/
def k5 : Class := { plain "java/lang/constant/Constable" (some 0) with
  accessFlags := 1537
  interfaces := #[]
  cf := some (fileOf pool5 1 #[] #[] 1537 3 #[] #[])
  fields := #[]
  methods := #[]
  instanceTypes := #[]
  staticTypes := #[]
  resolved := Array.replicate 11 none
  statics := none }

def pool6 : Array CpInfo := pool [(1, .class_ 2), (0, u "java/lang/constant/ConstantDesc"), (0, .class_ 4), (0, u "java/lang/Object")] 32

/-- java/lang/constant/ConstantDesc -/
def k6 : Class := { plain "java/lang/constant/ConstantDesc" (some 0) with
  accessFlags := 1537
  interfaces := #[]
  cf := some (fileOf pool6 1 #[] #[] 1537 3 #[] #[])
  fields := #[]
  methods := #[]
  instanceTypes := #[]
  staticTypes := #[]
  resolved := Array.replicate 37 none
  statics := none }

def pool7 : Array CpInfo := pool [(1, .methodref 2 3), (0, .class_ 4), (0, .nameAndType 5 6), (0, u "java/lang/Object"), (0, u "<init>"), (0, u "()V"), (2, .fieldref 10 11), (0, .class_ 12), (0, .nameAndType 13 14), (0, u "java/lang/String"), (0, u "value"), (0, u "[B"), (0, .fieldref 10 16), (0, .nameAndType 17 18), (0, u "coder"), (0, u "B"), (2, u "hash"), (0, u "I"), (2, u "hashIsZero"), (0, u "Z"), (11, .fieldref 10 39), (0, .nameAndType 40 26), (0, u "COMPACT_STRINGS"), (12, u "toBytes"), (53, .class_ 109), (1, u "java/lang/StringLatin1"), (99, .methodref 10 210), (0, .nameAndType 5 211), (0, u "([BB)V"), (157, u "(C)Z"), (205, .class_ 576), (0, u "java/lang/CharSequence"), (22, u "CASE_INSENSITIVE_ORDER"), (0, u "Ljava/util/Comparator;"), (181, u "valueOf"), (0, u "(C)Ljava/lang/String;"), (231, .methodref 107 1016), (0, .nameAndType 1017 369), (0, u "canEncode"), (0, .methodref 107 1019), (0, .nameAndType 53 1020), (0, u "(C)[B"), (80, u "serialPersistentFields"), (0, u "[Ljava/io/ObjectStreamField;"), (0, .class_ 1104), (0, u "java/lang/String$CaseInsensitiveComparator"), (1, .class_ 1107), (0, u "java/io/Serializable"), (0, .class_ 1109), (0, u "java/lang/Comparable"), (0, .class_ 1111), (0, u "java/lang/constant/Constable"), (0, .class_ 1113), (0, u "java/lang/constant/ConstantDesc"), (2, u "serialVersionUID"), (0, u "J"), (3, u "REPL"), (0, u "C"), (2, u "LATIN1"), (1, u "UTF16")] 323

def k7m0 : Method := { name := "<init>", desc := "()V", sig := { parameters := [], returnType := none }, accessFlags := 1, code := none }
def k7c1 : Code := { maxStack := 4, maxLocals := 1, code := jdk_42_method_139_code, exceptionTable := #[], attributes := #[] }
def k7m1 : Method := { name := "valueOf", desc := "(C)Ljava/lang/String;", sig := { parameters := [.char], returnType := some (.object "java/lang/String") }, accessFlags := 9, code := some k7c1 }
def k7c2 : Code := { maxStack := 2, maxLocals := 3, code := jdk_42_method_151_code, exceptionTable := #[], attributes := #[] }
def k7m2 : Method := { name := "<init>", desc := "([BB)V", sig := { parameters := [(.array .byte), .byte], returnType := none }, accessFlags := 0, code := some k7c2 }
/-- java/lang/String -/
def k7 : Class := { plain "java/lang/String" (some 0) with
  accessFlags := 49
  interfaces := #[2, 3, 4, 5, 6]
  cf := some (fileOf pool7 10 #[.nestMembers #[1103]] #[{ accessFlags := 1, nameIndex := 5, descriptorIndex := 6, attributes := #[] }, { accessFlags := 9, nameIndex := 782, descriptorIndex := 783, attributes := #[] }, { accessFlags := 0, nameIndex := 5, descriptorIndex := 211, attributes := #[] }] 49 2 #[1106, 1108, 575, 1110, 1112] #[{ accessFlags := 18, nameIndex := 13, descriptorIndex := 14, attributes := #[] }, { accessFlags := 18, nameIndex := 17, descriptorIndex := 18, attributes := #[] }, { accessFlags := 2, nameIndex := 21, descriptorIndex := 22, attributes := #[] }, { accessFlags := 2, nameIndex := 25, descriptorIndex := 26, attributes := #[] }, { accessFlags := 26, nameIndex := 1116, descriptorIndex := 1117, attributes := #[] }, { accessFlags := 24, nameIndex := 40, descriptorIndex := 26, attributes := #[] }, { accessFlags := 26, nameIndex := 1101, descriptorIndex := 1102, attributes := #[] }, { accessFlags := 26, nameIndex := 1121, descriptorIndex := 1122, attributes := #[] }, { accessFlags := 25, nameIndex := 599, descriptorIndex := 600, attributes := #[] }, { accessFlags := 24, nameIndex := 1125, descriptorIndex := 18, attributes := #[] }, { accessFlags := 24, nameIndex := 1127, descriptorIndex := 18, attributes := #[] }])
  fields := #[{ name := "value", type := (.array .byte), accessFlags := 18, slot := 0, constantValue := 0 }, { name := "coder", type := .byte, accessFlags := 18, slot := 1, constantValue := 0 }, { name := "hash", type := .int, accessFlags := 2, slot := 2, constantValue := 0 }, { name := "hashIsZero", type := .boolean, accessFlags := 2, slot := 3, constantValue := 0 }, { name := "serialVersionUID", type := .long, accessFlags := 26, slot := 0, constantValue := 0 }, { name := "COMPACT_STRINGS", type := .boolean, accessFlags := 24, slot := 1, constantValue := 0 }, { name := "serialPersistentFields", type := (.array (.object "java/io/ObjectStreamField")), accessFlags := 26, slot := 2, constantValue := 0 }, { name := "REPL", type := .char, accessFlags := 26, slot := 3, constantValue := 0 }, { name := "CASE_INSENSITIVE_ORDER", type := (.object "java/util/Comparator"), accessFlags := 25, slot := 4, constantValue := 0 }, { name := "LATIN1", type := .byte, accessFlags := 24, slot := 5, constantValue := 0 }, { name := "UTF16", type := .byte, accessFlags := 24, slot := 6, constantValue := 0 }]
  methods := #[k7m0, k7m1, k7m2]
  instanceTypes := #[(.array .byte), .byte, .int, .boolean]
  staticTypes := #[.long, .boolean, (.array (.object "java/io/ObjectStreamField")), .char, (.object "java/util/Comparator"), .byte, .byte]
  resolved := Array.replicate 1451 none
  statics := some 0 }

def pool8 : Array CpInfo := pool [(4, .class_ 6), (1, u "java/lang/Object"), (0, u "<init>"), (0, u "()V"), (5, .class_ 16), (1, u "java/lang/StringLatin1"), (73, u "canEncode"), (14, u "(C)Z"), (15, u "$assertionsDisabled"), (0, u "Z"), (98, .class_ 223), (1, u "java/lang/StringLatin1$LinesSpliterator"), (156, u "toBytes"), (1, u "(C)[B"), (7, .class_ 391), (0, u "java/lang/StringLatin1$CharsSpliterator")] 3

def k8m0 : Method := { name := "<init>", desc := "()V", sig := { parameters := [], returnType := none }, accessFlags := 0, code := none }
def k8c1 : Code := { maxStack := 2, maxLocals := 1, code := jdk_43_method_3_code, exceptionTable := #[], attributes := #[] }
def k8m1 : Method := { name := "canEncode", desc := "(C)Z", sig := { parameters := [.char], returnType := some .boolean }, accessFlags := 9, code := some k8c1 }
def k8c2 : Code := { maxStack := 4, maxLocals := 1, code := jdk_43_method_46_code, exceptionTable := #[], attributes := #[] }
def k8m2 : Method := { name := "toBytes", desc := "(C)[B", sig := { parameters := [.char], returnType := some (.array .byte) }, accessFlags := 9, code := some k8c2 }
/-- java/lang/StringLatin1 -/
def k8 : Class := { plain "java/lang/StringLatin1" (some 0) with
  accessFlags := 48
  interfaces := #[]
  cf := some (fileOf pool8 14 #[.nestMembers #[390, 221]] #[{ accessFlags := 0, nameIndex := 7, descriptorIndex := 8, attributes := #[] }, { accessFlags := 9, nameIndex := 90, descriptorIndex := 105, attributes := #[] }, { accessFlags := 9, nameIndex := 380, descriptorIndex := 382, attributes := #[] }] 48 4 #[] #[{ accessFlags := 4120, nameIndex := 121, descriptorIndex := 122, attributes := #[] }])
  fields := #[{ name := "$assertionsDisabled", type := .boolean, accessFlags := 4120, slot := 0, constantValue := 0 }]
  methods := #[k8m0, k8m1, k8m2]
  instanceTypes := #[]
  staticTypes := #[.boolean]
  resolved := Array.replicate 395 none
  statics := none }

def pool9 : Array CpInfo := pool [(1, .methodref 2 3), (0, .class_ 4), (0, .nameAndType 5 6), (0, u "java/lang/Object"), (0, u "<init>"), (0, u "()V"), (1, .class_ 10), (1, u "java/lang/Number"), (2, .class_ 14), (0, u "java/io/Serializable"), (0, u "serialVersionUID"), (0, u "J")] 20

def k9c0 : Code := { maxStack := 1, maxLocals := 1, code := jdk_18_method_1_code, exceptionTable := #[], attributes := #[] }
def k9m0 : Method := { name := "<init>", desc := "()V", sig := { parameters := [], returnType := none }, accessFlags := 1, code := some k9c0 }
/-- java/lang/Number -/
def k9 : Class := { plain "java/lang/Number" (some 0) with
  accessFlags := 1057
  interfaces := #[2]
  cf := some (fileOf pool9 8 #[] #[{ accessFlags := 1, nameIndex := 5, descriptorIndex := 6, attributes := #[] }] 1057 2 #[13] #[{ accessFlags := 26, nameIndex := 15, descriptorIndex := 16, attributes := #[] }])
  fields := #[{ name := "serialVersionUID", type := .long, accessFlags := 26, slot := 0, constantValue := 0 }]
  methods := #[k9m0]
  instanceTypes := #[]
  staticTypes := #[.long]
  resolved := Array.replicate 37 none
  statics := none }

def pool10 : Array CpInfo := pool [(1, .class_ 2), (0, u "java/lang/Integer"), (16, u "digits"), (0, u "[C"), (46, u "<init>"), (17, u "DigitOnes"), (0, u "[B"), (2, u "DigitTens"), (10, .nameAndType 67 101), (0, u "()V"), (85, u "valueOf"), (0, u "(I)Ljava/lang/Integer;"), (0, .class_ 190), (0, u "java/lang/Integer$IntegerCache"), (0, .fieldref 189 192), (0, .nameAndType 193 194), (0, u "high"), (0, u "I"), (0, .fieldref 189 196), (0, .nameAndType 197 198), (0, u "cache"), (0, u "[Ljava/lang/Integer;"), (0, .methodref 1 200), (0, .nameAndType 67 201), (0, u "(I)V"), (0, .methodref 203 100), (0, .class_ 204), (0, u "java/lang/Number"), (0, .fieldref 1 206), (0, .nameAndType 207 194), (0, u "value"), (94, u "TYPE"), (0, u "Ljava/lang/Class;"), (0, .class_ 305), (0, u "java/lang/Comparable"), (0, .class_ 307), (0, u "java/lang/constant/Constable"), (0, .class_ 309), (0, u "java/lang/constant/ConstantDesc"), (0, u "MIN_VALUE"), (1, u "MAX_VALUE"), (3, u "SIZE"), (1, u "BYTES"), (1, u "serialVersionUID"), (0, u "J")] 131

def k10c0 : Code := { maxStack := 3, maxLocals := 1, code := jdk_33_method_22_code, exceptionTable := #[], attributes := #[] }
def k10m0 : Method := { name := "valueOf", desc := "(I)Ljava/lang/Integer;", sig := { parameters := [.int], returnType := some (.object "java/lang/Integer") }, accessFlags := 9, code := some k10c0 }
def k10c1 : Code := { maxStack := 2, maxLocals := 2, code := jdk_33_method_23_code, exceptionTable := #[], attributes := #[] }
def k10m1 : Method := { name := "<init>", desc := "(I)V", sig := { parameters := [.int], returnType := none }, accessFlags := 1, code := some k10c1 }
/-- java/lang/Integer -/
def k10 : Class := { plain "java/lang/Integer" (some 9) with
  accessFlags := 49
  interfaces := #[3, 5, 6]
  cf := some (fileOf pool10 1 #[.nestMembers #[189]] #[{ accessFlags := 9, nameIndex := 187, descriptorIndex := 188, attributes := #[] }, { accessFlags := 1, nameIndex := 67, descriptorIndex := 201, attributes := #[] }] 49 203 #[304, 306, 308] #[{ accessFlags := 25, nameIndex := 310, descriptorIndex := 194, attributes := #[] }, { accessFlags := 25, nameIndex := 312, descriptorIndex := 194, attributes := #[] }, { accessFlags := 25, nameIndex := 302, descriptorIndex := 303, attributes := #[] }, { accessFlags := 24, nameIndex := 19, descriptorIndex := 20, attributes := #[] }, { accessFlags := 24, nameIndex := 89, descriptorIndex := 86, attributes := #[] }, { accessFlags := 24, nameIndex := 85, descriptorIndex := 86, attributes := #[] }, { accessFlags := 18, nameIndex := 207, descriptorIndex := 194, attributes := #[] }, { accessFlags := 25, nameIndex := 316, descriptorIndex := 194, attributes := #[] }, { accessFlags := 25, nameIndex := 318, descriptorIndex := 194, attributes := #[] }, { accessFlags := 26, nameIndex := 320, descriptorIndex := 321, attributes := #[] }])
  fields := #[{ name := "MIN_VALUE", type := .int, accessFlags := 25, slot := 0, constantValue := 0 }, { name := "MAX_VALUE", type := .int, accessFlags := 25, slot := 1, constantValue := 0 }, { name := "TYPE", type := (.object "java/lang/Class"), accessFlags := 25, slot := 2, constantValue := 0 }, { name := "digits", type := (.array .char), accessFlags := 24, slot := 3, constantValue := 0 }, { name := "DigitTens", type := (.array .byte), accessFlags := 24, slot := 4, constantValue := 0 }, { name := "DigitOnes", type := (.array .byte), accessFlags := 24, slot := 5, constantValue := 0 }, { name := "value", type := .int, accessFlags := 18, slot := 0, constantValue := 0 }, { name := "SIZE", type := .int, accessFlags := 25, slot := 6, constantValue := 0 }, { name := "BYTES", type := .int, accessFlags := 25, slot := 7, constantValue := 0 }, { name := "serialVersionUID", type := .long, accessFlags := 26, slot := 8, constantValue := 0 }]
  methods := #[k10m0, k10m1]
  instanceTypes := #[.int]
  staticTypes := #[.int, .int, (.object "java/lang/Class"), (.array .char), (.array .byte), (.array .byte), .int, .int, .long]
  resolved := Array.replicate 453 none
  statics := none }

def pool11 : Array CpInfo := pool [(2, .class_ 4), (1, u "java/lang/Object"), (0, u "<init>"), (0, u "()V"), (0, .class_ 8), (0, u "java/lang/Integer"), (7, .class_ 18), (1, u "java/lang/Integer$IntegerCache"), (0, u "$assertionsDisabled"), (0, u "Z"), (26, u "high"), (0, u "I"), (8, u "archivedCache"), (0, u "[Ljava/lang/Integer;"), (12, u "cache"), (0, u "low")] 27

def k11m0 : Method := { name := "<init>", desc := "()V", sig := { parameters := [], returnType := none }, accessFlags := 2, code := none }
/-- java/lang/Integer$IntegerCache -/
def k11 : Class := { plain "java/lang/Integer$IntegerCache" (some 0) with
  accessFlags := 48
  interfaces := #[]
  cf := some (fileOf pool11 16 #[.nestHost 7] #[{ accessFlags := 2, nameIndex := 5, descriptorIndex := 6, attributes := #[] }] 48 2 #[] #[{ accessFlags := 24, nameIndex := 72, descriptorIndex := 48, attributes := #[] }, { accessFlags := 24, nameIndex := 47, descriptorIndex := 48, attributes := #[] }, { accessFlags := 24, nameIndex := 71, descriptorIndex := 58, attributes := #[] }, { accessFlags := 8, nameIndex := 57, descriptorIndex := 58, attributes := #[] }, { accessFlags := 4120, nameIndex := 19, descriptorIndex := 20, attributes := #[] }])
  fields := #[{ name := "low", type := .int, accessFlags := 24, slot := 0, constantValue := 0 }, { name := "high", type := .int, accessFlags := 24, slot := 1, constantValue := 0 }, { name := "cache", type := (.array (.object "java/lang/Integer")), accessFlags := 24, slot := 2, constantValue := 0 }, { name := "archivedCache", type := (.array (.object "java/lang/Integer")), accessFlags := 8, slot := 3, constantValue := 0 }, { name := "$assertionsDisabled", type := .boolean, accessFlags := 4120, slot := 4, constantValue := 0 }]
  methods := #[k11m0]
  instanceTypes := #[]
  staticTypes := #[.int, .int, (.array (.object "java/lang/Integer")), (.array (.object "java/lang/Integer")), .boolean]
  resolved := Array.replicate 100 none
  statics := some 1 }

def pool12 : Array CpInfo := pool [(1, .methodref 2 3), (0, .class_ 4), (0, .nameAndType 5 6), (0, u "java/lang/Object"), (0, u "<init>"), (0, u "()V"), (0, .fieldref 8 9), (0, .class_ 10), (0, .nameAndType 11 12), (0, u "com/example/libentail/libentail/Role"), (0, u "owner"), (0, u "Ljava/lang/Object;"), (0, .fieldref 8 14), (0, .nameAndType 15 16), (0, u "name"), (0, u "Ljava/lang/String;"), (0, .fieldref 8 18), (0, .nameAndType 19 20), (0, u "id"), (0, u "I"), (0, .interfaceMethodref 22 23), (0, .class_ 24), (0, .nameAndType 25 26), (0, u "java/util/List"), (0, u "of"), (0, u "(Ljava/lang/Object;)Ljava/util/List;"), (0, .fieldref 8 28), (0, .nameAndType 29 30), (0, u "members"), (0, u "Ljava/util/List;"), (20, u "()Z"), (14, u "()Ljava/lang/String;"), (0, .fieldref 8 68), (0, .nameAndType 69 70), (0, u "inverse"), (0, u "Lcom/example/libentail/libentail/Role;"), (0, .fieldref 8 72), (0, .nameAndType 73 74), (0, u "inverted"), (0, u "Z"), (2, u "(Ljava/lang/Object;Ljava/lang/String;I)V"), (5, u "getName"), (0, u "()I"), (2, u "()Lcom/example/libentail/libentail/Role;"), (0, u "isInverse"), (0, u "pair"), (0, u "(Lcom/example/libentail/libentail/Role;Lcom/example/libentail/libentail/Role;)V")] 2

def k12c0 : Code := { maxStack := 2, maxLocals := 4, code := prog_13_method_1_code, exceptionTable := #[], attributes := #[] }
def k12m0 : Method := { name := "<init>", desc := "(Ljava/lang/Object;Ljava/lang/String;I)V", sig := { parameters := [(.object "java/lang/Object"), (.object "java/lang/String"), .int], returnType := none }, accessFlags := 0, code := some k12c0 }
def k12c1 : Code := { maxStack := 1, maxLocals := 1, code := prog_13_method_4_code, exceptionTable := #[], attributes := #[] }
def k12m1 : Method := { name := "getName", desc := "()Ljava/lang/String;", sig := { parameters := [], returnType := some (.object "java/lang/String") }, accessFlags := 1, code := some k12c1 }
def k12c2 : Code := { maxStack := 1, maxLocals := 1, code := prog_13_method_5_code, exceptionTable := #[], attributes := #[] }
def k12m2 : Method := { name := "id", desc := "()I", sig := { parameters := [], returnType := some .int }, accessFlags := 0, code := some k12c2 }
def k12c3 : Code := { maxStack := 1, maxLocals := 1, code := prog_13_method_7_code, exceptionTable := #[], attributes := #[] }
def k12m3 : Method := { name := "inverse", desc := "()Lcom/example/libentail/libentail/Role;", sig := { parameters := [], returnType := some (.object "com/example/libentail/libentail/Role") }, accessFlags := 0, code := some k12c3 }
def k12c4 : Code := { maxStack := 1, maxLocals := 1, code := prog_13_method_8_code, exceptionTable := #[], attributes := #[] }
def k12m4 : Method := { name := "isInverse", desc := "()Z", sig := { parameters := [], returnType := some .boolean }, accessFlags := 0, code := some k12c4 }
def k12c5 : Code := { maxStack := 2, maxLocals := 2, code := prog_13_method_9_code, exceptionTable := #[], attributes := #[] }
def k12m5 : Method := { name := "pair", desc := "(Lcom/example/libentail/libentail/Role;Lcom/example/libentail/libentail/Role;)V", sig := { parameters := [(.object "com/example/libentail/libentail/Role"), (.object "com/example/libentail/libentail/Role")], returnType := none }, accessFlags := 8, code := some k12c5 }
/-- com/example/libentail/libentail/Role -/
def k12 : Class := { plain "com/example/libentail/libentail/Role" (some 0) with
  accessFlags := 49
  interfaces := #[]
  cf := some (fileOf pool12 8 #[] #[{ accessFlags := 0, nameIndex := 5, descriptorIndex := 77, attributes := #[] }, { accessFlags := 1, nameIndex := 83, descriptorIndex := 66, attributes := #[] }, { accessFlags := 0, nameIndex := 19, descriptorIndex := 84, attributes := #[] }, { accessFlags := 0, nameIndex := 69, descriptorIndex := 87, attributes := #[] }, { accessFlags := 0, nameIndex := 88, descriptorIndex := 51, attributes := #[] }, { accessFlags := 8, nameIndex := 89, descriptorIndex := 90, attributes := #[] }] 49 2 #[] #[{ accessFlags := 18, nameIndex := 11, descriptorIndex := 12, attributes := #[] }, { accessFlags := 18, nameIndex := 15, descriptorIndex := 16, attributes := #[] }, { accessFlags := 18, nameIndex := 19, descriptorIndex := 20, attributes := #[] }, { accessFlags := 18, nameIndex := 29, descriptorIndex := 30, attributes := #[] }, { accessFlags := 2, nameIndex := 69, descriptorIndex := 70, attributes := #[] }, { accessFlags := 2, nameIndex := 73, descriptorIndex := 74, attributes := #[] }])
  fields := #[{ name := "owner", type := (.object "java/lang/Object"), accessFlags := 18, slot := 0, constantValue := 0 }, { name := "name", type := (.object "java/lang/String"), accessFlags := 18, slot := 1, constantValue := 0 }, { name := "id", type := .int, accessFlags := 18, slot := 2, constantValue := 0 }, { name := "members", type := (.object "java/util/List"), accessFlags := 18, slot := 3, constantValue := 0 }, { name := "inverse", type := (.object "com/example/libentail/libentail/Role"), accessFlags := 2, slot := 4, constantValue := 0 }, { name := "inverted", type := .boolean, accessFlags := 2, slot := 5, constantValue := 0 }]
  methods := #[k12m0, k12m1, k12m2, k12m3, k12m4, k12m5]
  instanceTypes := #[(.object "java/lang/Object"), (.object "java/lang/String"), .int, (.object "java/util/List"), (.object "com/example/libentail/libentail/Role"), .boolean]
  staticTypes := #[]
  resolved := Array.replicate 93 none
  statics := none }

def pool13 : Array CpInfo := pool [(8, .class_ 10), (1, u "java/lang/Iterable"), (24, .class_ 36), (0, u "java/lang/Object")] 25

/-- java/lang/Iterable -/
def k13 : Class := { plain "java/lang/Iterable" (some 0) with
  accessFlags := 1537
  interfaces := #[]
  cf := some (fileOf pool13 8 #[] #[] 1537 35 #[] #[])
  fields := #[]
  methods := #[]
  instanceTypes := #[]
  staticTypes := #[]
  resolved := Array.replicate 62 none
  statics := none }

def pool14 : Array CpInfo := pool [(10, .class_ 12), (1, u "java/util/Collection"), (47, .class_ 61), (0, u "java/lang/Object"), (0, .class_ 63), (0, u "java/lang/Iterable")] 51

/-- java/util/Collection -/
def k14 : Class := { plain "java/util/Collection" (some 0) with
  accessFlags := 1537
  interfaces := #[13]
  cf := some (fileOf pool14 10 #[] #[] 1537 60 #[62] #[])
  fields := #[]
  methods := #[]
  instanceTypes := #[]
  staticTypes := #[]
  resolved := Array.replicate 115 none
  statics := none }

def pool15 : Array CpInfo := pool [(8, .class_ 10), (1, u "java/util/SequencedCollection"), (15, .class_ 27), (0, u "java/lang/Object"), (0, .class_ 29), (0, u "java/util/Collection")] 27

/-- java/util/SequencedCollection -/
def k15 : Class := { plain "java/util/SequencedCollection" (some 0) with
  accessFlags := 1537
  interfaces := #[14]
  cf := some (fileOf pool15 8 #[] #[] 1537 26 #[28] #[])
  fields := #[]
  methods := #[]
  instanceTypes := #[]
  staticTypes := #[]
  resolved := Array.replicate 57 none
  statics := none }

def pool16 : Array CpInfo := pool [(8, .class_ 10), (1, u "java/util/List"), (20, u "(Ljava/lang/Object;)V"), (16, u "<init>"), (39, u "of"), (7, .class_ 97), (0, u "java/util/ImmutableCollections$List12"), (0, .methodref 96 99), (0, .nameAndType 48 31), (3, .class_ 104), (0, u "java/lang/Object"), (15, .class_ 121), (0, u "java/util/SequencedCollection"), (76, u "(Ljava/lang/Object;)Ljava/util/List;")] 52

def k16c0 : Code := { maxStack := 3, maxLocals := 1, code := jdk_40_method_37_code, exceptionTable := #[], attributes := #[] }
def k16m0 : Method := { name := "of", desc := "(Ljava/lang/Object;)Ljava/util/List;", sig := { parameters := [(.object "java/lang/Object")], returnType := some (.object "java/util/List") }, accessFlags := 9, code := some k16c0 }
/-- java/util/List -/
def k16 : Class := { plain "java/util/List" (some 0) with
  accessFlags := 1537
  interfaces := #[15]
  cf := some (fileOf pool16 8 #[] #[{ accessFlags := 9, nameIndex := 88, descriptorIndex := 198, attributes := #[] }] 1537 103 #[120] #[])
  fields := #[]
  methods := #[k16m0]
  instanceTypes := #[]
  staticTypes := #[]
  resolved := Array.replicate 251 none
  statics := none }

def pool17 : Array CpInfo := pool [(1, .methodref 2 3), (0, .class_ 4), (0, .nameAndType 5 6), (0, u "java/lang/Object"), (0, u "<init>"), (0, u "()V"), (1, .class_ 10), (1, u "java/util/AbstractCollection"), (66, .class_ 78), (0, u "java/util/Collection")] 81

def k17c0 : Code := { maxStack := 1, maxLocals := 1, code := jdk_22_method_1_code, exceptionTable := #[], attributes := #[] }
def k17m0 : Method := { name := "<init>", desc := "()V", sig := { parameters := [], returnType := none }, accessFlags := 4, code := some k17c0 }
/-- java/util/AbstractCollection -/
def k17 : Class := { plain "java/util/AbstractCollection" (some 0) with
  accessFlags := 1057
  interfaces := #[14]
  cf := some (fileOf pool17 8 #[] #[{ accessFlags := 4, nameIndex := 5, descriptorIndex := 6, attributes := #[] }] 1057 2 #[77] #[])
  fields := #[]
  methods := #[k17m0]
  instanceTypes := #[]
  staticTypes := #[]
  resolved := Array.replicate 160 none
  statics := none }

def pool18 : Array CpInfo := pool [(1, .methodref 2 3), (0, .class_ 4), (0, .nameAndType 5 6), (0, u "java/util/AbstractCollection"), (0, u "<init>"), (0, u "()V"), (1, .class_ 10), (1, u "java/util/ImmutableCollections"), (2, .class_ 14), (0, u "java/util/ImmutableCollections$AbstractImmutableCollection")] 41

def k18c0 : Code := { maxStack := 1, maxLocals := 1, code := jdk_47_method_1_code, exceptionTable := #[], attributes := #[] }
def k18m0 : Method := { name := "<init>", desc := "()V", sig := { parameters := [], returnType := none }, accessFlags := 0, code := some k18c0 }
/-- java/util/ImmutableCollections$AbstractImmutableCollection -/
def k18 : Class := { plain "java/util/ImmutableCollections$AbstractImmutableCollection" (some 17) with
  accessFlags := 1056
  interfaces := #[]
  cf := some (fileOf pool18 13 #[.nestHost 8] #[{ accessFlags := 0, nameIndex := 5, descriptorIndex := 6, attributes := #[] }] 1056 2 #[] #[])
  fields := #[]
  methods := #[k18m0]
  instanceTypes := #[]
  staticTypes := #[]
  resolved := Array.replicate 56 none
  statics := none }

def pool19 : Array CpInfo := pool [(1, .class_ 2), (0, u "java/util/RandomAccess"), (0, .class_ 4), (0, u "java/lang/Object")] 2

/-- java/util/RandomAccess -/
def k19 : Class := { plain "java/util/RandomAccess" (some 0) with
  accessFlags := 1537
  interfaces := #[]
  cf := some (fileOf pool19 1 #[] #[] 1537 3 #[] #[])
  fields := #[]
  methods := #[]
  instanceTypes := #[]
  staticTypes := #[]
  resolved := Array.replicate 7 none
  statics := none }

def pool20 : Array CpInfo := pool [(1, .methodref 2 3), (0, .class_ 4), (0, .nameAndType 5 6), (0, u "java/util/ImmutableCollections$AbstractImmutableCollection"), (0, u "<init>"), (0, u "()V"), (1, .class_ 10), (1, u "java/util/ImmutableCollections"), (3, .class_ 16), (1, u "java/util/ImmutableCollections$AbstractImmutableList"), (60, .class_ 78), (0, u "java/util/List"), (45, .class_ 125), (0, u "java/util/RandomAccess")] 70

def k20c0 : Code := { maxStack := 1, maxLocals := 1, code := jdk_46_method_1_code, exceptionTable := #[], attributes := #[] }
def k20m0 : Method := { name := "<init>", desc := "()V", sig := { parameters := [], returnType := none }, accessFlags := 0, code := some k20c0 }
/-- java/util/ImmutableCollections$AbstractImmutableList -/
def k20 : Class := { plain "java/util/ImmutableCollections$AbstractImmutableList" (some 18) with
  accessFlags := 1056
  interfaces := #[16, 19]
  cf := some (fileOf pool20 14 #[.nestHost 8] #[{ accessFlags := 0, nameIndex := 5, descriptorIndex := 6, attributes := #[] }] 1056 2 #[77, 124] #[])
  fields := #[]
  methods := #[k20m0]
  instanceTypes := #[]
  staticTypes := #[]
  resolved := Array.replicate 196 none
  statics := none }

def pool21 : Array CpInfo := pool [(1, .methodref 2 3), (0, .class_ 4), (0, .nameAndType 5 6), (0, u "java/util/ImmutableCollections$AbstractImmutableList"), (0, u "<init>"), (0, u "()V"), (0, .methodref 8 9), (0, .class_ 10), (0, .nameAndType 11 12), (0, u "java/util/Objects"), (0, u "requireNonNull"), (0, u "(Ljava/lang/Object;)Ljava/lang/Object;"), (0, .fieldref 14 15), (0, .class_ 16), (0, .nameAndType 17 18), (0, u "java/util/ImmutableCollections$List12"), (0, u "e0"), (0, u "Ljava/lang/Object;"), (0, .fieldref 20 21), (0, .class_ 22), (0, .nameAndType 23 18), (0, u "java/util/ImmutableCollections"), (0, u "EMPTY"), (0, .fieldref 14 25), (0, .nameAndType 26 18), (0, u "e1"), (43, .class_ 71), (0, u "java/io/Serializable"), (4, u "(Ljava/lang/Object;)V")] 48

def k21c0 : Code := { maxStack := 2, maxLocals := 2, code := jdk_44_method_1_code, exceptionTable := #[], attributes := #[] }
def k21m0 : Method := { name := "<init>", desc := "(Ljava/lang/Object;)V", sig := { parameters := [(.object "java/lang/Object")], returnType := none }, accessFlags := 0, code := some k21c0 }
/-- java/util/ImmutableCollections$List12 -/
def k21 : Class := { plain "java/util/ImmutableCollections$List12" (some 20) with
  accessFlags := 48
  interfaces := #[2]
  cf := some (fileOf pool21 14 #[.nestHost 20] #[{ accessFlags := 0, nameIndex := 5, descriptorIndex := 76, attributes := #[] }] 48 2 #[70] #[{ accessFlags := 18, nameIndex := 17, descriptorIndex := 18, attributes := #[] }, { accessFlags := 18, nameIndex := 26, descriptorIndex := 18, attributes := #[] }])
  fields := #[{ name := "e0", type := (.object "java/lang/Object"), accessFlags := 18, slot := 0, constantValue := 0 }, { name := "e1", type := (.object "java/lang/Object"), accessFlags := 18, slot := 1, constantValue := 0 }]
  methods := #[k21m0]
  instanceTypes := #[(.object "java/lang/Object"), (.object "java/lang/Object")]
  staticTypes := #[]
  resolved := Array.replicate 125 none
  statics := none }

def pool22 : Array CpInfo := pool [(2, .class_ 4), (1, u "java/lang/Object"), (0, u "<init>"), (0, u "()V"), (35, .class_ 44), (1, u "java/util/Objects"), (0, u "requireNonNull"), (0, u "(Ljava/lang/Object;)Ljava/lang/Object;")] 137

def k22m0 : Method := { name := "<init>", desc := "()V", sig := { parameters := [], returnType := none }, accessFlags := 2, code := none }
def k22c1 : Code := { maxStack := 2, maxLocals := 1, code := jdk_31_method_10_code, exceptionTable := #[], attributes := #[] }
def k22m1 : Method := { name := "requireNonNull", desc := "(Ljava/lang/Object;)Ljava/lang/Object;", sig := { parameters := [(.object "java/lang/Object")], returnType := some (.object "java/lang/Object") }, accessFlags := 9, code := some k22c1 }
/-- java/util/Objects -/
def k22 : Class := { plain "java/util/Objects" (some 0) with
  accessFlags := 49
  interfaces := #[]
  cf := some (fileOf pool22 42 #[] #[{ accessFlags := 2, nameIndex := 5, descriptorIndex := 6, attributes := #[] }, { accessFlags := 9, nameIndex := 45, descriptorIndex := 46, attributes := #[] }] 49 2 #[] #[])
  fields := #[]
  methods := #[k22m0, k22m1]
  instanceTypes := #[]
  staticTypes := #[]
  resolved := Array.replicate 184 none
  statics := none }

def pool23 : Array CpInfo := pool [(2, .class_ 4), (1, u "java/lang/Object"), (0, u "<init>"), (0, u "()V"), (3, .class_ 11), (0, u "java/util/ImmutableCollections$List12"), (0, .class_ 13), (0, u "java/util/ImmutableCollections$ListN"), (3, u "Z"), (29, .class_ 49), (1, u "java/util/ImmutableCollections"), (0, u "$assertionsDisabled"), (5, u "[Ljava/lang/Object;"), (5, u "EMPTY_LIST"), (0, u "Ljava/util/ImmutableCollections$ListN;"), (8, u "EMPTY_LIST_NULLS"), (22, u "SALT32L"), (0, u "J"), (2, u "REVERSE"), (6, u "archivedObjects"), (2, u "EMPTY"), (0, u "Ljava/lang/Object;"), (0, .class_ 112), (0, u "java/util/ImmutableCollections$SetN"), (5, u "EMPTY_SET"), (0, u "Ljava/util/ImmutableCollections$SetN;"), (0, .class_ 121), (0, u "java/util/ImmutableCollections$MapN"), (3, u "EMPTY_MAP"), (0, u "Ljava/util/ImmutableCollections$MapN;"), (4, u "EXPAND_FACTOR"), (0, u "I"), (36, .class_ 170), (0, u "java/util/ImmutableCollections$MapN$MapNIterator"), (0, .class_ 172), (0, u "java/util/ImmutableCollections$MapN$1"), (0, .class_ 174), (0, u "java/util/ImmutableCollections$Map1"), (0, .class_ 176), (0, u "java/util/ImmutableCollections$AbstractImmutableMap"), (0, .class_ 178), (0, u "java/util/ImmutableCollections$SetN$SetNIterator"), (0, .class_ 180), (0, u "java/util/ImmutableCollections$Set12"), (0, .class_ 182), (0, u "java/util/ImmutableCollections$Set12$1"), (0, .class_ 184), (0, u "java/util/ImmutableCollections$AbstractImmutableSet"), (0, .class_ 186), (0, u "java/util/ImmutableCollections$SubList"), (0, .class_ 188), (0, u "java/util/ImmutableCollections$ListItr"), (0, .class_ 190), (0, u "java/util/ImmutableCollections$AbstractImmutableList"), (0, .class_ 192), (0, u "java/util/ImmutableCollections$AbstractImmutableCollection"), (0, .class_ 194), (0, u "java/util/ImmutableCollections$Access"), (0, .class_ 196), (0, u "java/util/ImmutableCollections$Access$1")] 16

def k23m0 : Method := { name := "<init>", desc := "()V", sig := { parameters := [], returnType := none }, accessFlags := 2, code := none }
/-- java/util/ImmutableCollections -/
def k23 : Class := { plain "java/util/ImmutableCollections" (some 0) with
  accessFlags := 32
  interfaces := #[]
  cf := some (fileOf pool23 47 #[.nestMembers #[120, 169, 171, 173, 175, 111, 177, 179, 181, 183, 12, 10, 185, 187, 189, 191, 193, 195]] #[{ accessFlags := 2, nameIndex := 5, descriptorIndex := 6, attributes := #[] }] 32 2 #[] #[{ accessFlags := 26, nameIndex := 95, descriptorIndex := 96, attributes := #[] }, { accessFlags := 26, nameIndex := 99, descriptorIndex := 17, attributes := #[] }, { accessFlags := 10, nameIndex := 106, descriptorIndex := 56, attributes := #[] }, { accessFlags := 26, nameIndex := 109, descriptorIndex := 110, attributes := #[] }, { accessFlags := 24, nameIndex := 62, descriptorIndex := 63, attributes := #[] }, { accessFlags := 24, nameIndex := 72, descriptorIndex := 63, attributes := #[] }, { accessFlags := 24, nameIndex := 118, descriptorIndex := 119, attributes := #[] }, { accessFlags := 24, nameIndex := 125, descriptorIndex := 126, attributes := #[] }, { accessFlags := 24, nameIndex := 131, descriptorIndex := 132, attributes := #[] }, { accessFlags := 4120, nameIndex := 50, descriptorIndex := 17, attributes := #[] }])
  fields := #[{ name := "SALT32L", type := .long, accessFlags := 26, slot := 0, constantValue := 0 }, { name := "REVERSE", type := .boolean, accessFlags := 26, slot := 1, constantValue := 0 }, { name := "archivedObjects", type := (.array (.object "java/lang/Object")), accessFlags := 10, slot := 2, constantValue := 0 }, { name := "EMPTY", type := (.object "java/lang/Object"), accessFlags := 26, slot := 3, constantValue := 0 }, { name := "EMPTY_LIST", type := (.object "java/util/ImmutableCollections$ListN"), accessFlags := 24, slot := 4, constantValue := 0 }, { name := "EMPTY_LIST_NULLS", type := (.object "java/util/ImmutableCollections$ListN"), accessFlags := 24, slot := 5, constantValue := 0 }, { name := "EMPTY_SET", type := (.object "java/util/ImmutableCollections$SetN"), accessFlags := 24, slot := 6, constantValue := 0 }, { name := "EMPTY_MAP", type := (.object "java/util/ImmutableCollections$MapN"), accessFlags := 24, slot := 7, constantValue := 0 }, { name := "EXPAND_FACTOR", type := .int, accessFlags := 24, slot := 8, constantValue := 0 }, { name := "$assertionsDisabled", type := .boolean, accessFlags := 4120, slot := 9, constantValue := 0 }]
  methods := #[k23m0]
  instanceTypes := #[]
  staticTypes := #[.long, .boolean, (.array (.object "java/lang/Object")), (.object "java/lang/Object"), (.object "java/util/ImmutableCollections$ListN"), (.object "java/util/ImmutableCollections$ListN"), (.object "java/util/ImmutableCollections$SetN"), (.object "java/util/ImmutableCollections$MapN"), .int, .boolean]
  resolved := Array.replicate 213 none
  statics := some 2 }

def pool24 : Array CpInfo := pool [(2, .class_ 4), (1, u "java/lang/Object"), (0, u "<init>"), (0, u "()V"), (17, .class_ 26), (1, u "jdk/internal/util/Preconditions"), (28, .class_ 56), (0, u "jdk/internal/util/Preconditions$4"), (57, .class_ 115), (0, u "jdk/internal/util/Preconditions$1"), (7, u "SIOOBE_FORMATTER"), (0, u "Ljava/util/function/BiFunction;"), (0, .class_ 126), (0, u "jdk/internal/util/Preconditions$2"), (3, u "AIOOBE_FORMATTER"), (0, .class_ 132), (0, u "jdk/internal/util/Preconditions$3"), (3, u "IOOBE_FORMATTER")] 57

def k24m0 : Method := { name := "<init>", desc := "()V", sig := { parameters := [], returnType := none }, accessFlags := 1, code := none }
/-- jdk/internal/util/Preconditions -/
def k24 : Class := { plain "jdk/internal/util/Preconditions" (some 0) with
  accessFlags := 33
  interfaces := #[]
  cf := some (fileOf pool24 24 #[.nestMembers #[55, 131, 125, 114]] #[{ accessFlags := 1, nameIndex := 5, descriptorIndex := 6, attributes := #[] }] 33 2 #[] #[{ accessFlags := 25, nameIndex := 123, descriptorIndex := 124, attributes := #[] }, { accessFlags := 25, nameIndex := 130, descriptorIndex := 124, attributes := #[] }, { accessFlags := 25, nameIndex := 136, descriptorIndex := 124, attributes := #[] }])
  fields := #[{ name := "SIOOBE_FORMATTER", type := (.object "java/util/function/BiFunction"), accessFlags := 25, slot := 0, constantValue := 0 }, { name := "AIOOBE_FORMATTER", type := (.object "java/util/function/BiFunction"), accessFlags := 25, slot := 1, constantValue := 0 }, { name := "IOOBE_FORMATTER", type := (.object "java/util/function/BiFunction"), accessFlags := 25, slot := 2, constantValue := 0 }]
  methods := #[k24m0]
  instanceTypes := #[]
  staticTypes := #[(.object "java/util/function/BiFunction"), (.object "java/util/function/BiFunction"), (.object "java/util/function/BiFunction")]
  resolved := Array.replicate 194 none
  statics := some 3 }

def pool25 : Array CpInfo := pool [(9, u "<init>"), (6, .class_ 18), (1, u "java/lang/Object"), (0, u "()V"), (1, .class_ 23), (1, u "jdk/internal/util/ArraysSupport"), (0, u "LOG2_ARRAY_LONG_INDEX_SCALE"), (0, u "I"), (2, u "U"), (0, u "Ljdk/internal/misc/Unsafe;"), (8, u "BIG_ENDIAN"), (0, u "Z"), (8, u "LOG2_BYTE_BIT_SIZE"), (4, u "LOG2_ARRAY_INT_INDEX_SCALE"), (54, u "JLA"), (0, u "Ljdk/internal/access/JavaLangAccess;"), (11, u "LOG2_ARRAY_BOOLEAN_INDEX_SCALE"), (9, u "LOG2_ARRAY_BYTE_INDEX_SCALE"), (5, u "LOG2_ARRAY_CHAR_INDEX_SCALE"), (5, u "LOG2_ARRAY_SHORT_INDEX_SCALE"), (18, u "LOG2_ARRAY_FLOAT_INDEX_SCALE"), (24, u "LOG2_ARRAY_DOUBLE_INDEX_SCALE"), (89, u "T_BOOLEAN"), (2, u "T_CHAR"), (1, u "T_FLOAT"), (1, u "T_DOUBLE"), (1, u "T_BYTE"), (1, u "T_SHORT"), (1, u "T_INT"), (1, u "T_LONG"), (1, u "SOFT_MAX_ARRAY_LENGTH")] 83

def k25m0 : Method := { name := "<init>", desc := "()V", sig := { parameters := [], returnType := none }, accessFlags := 2, code := none }
/-- jdk/internal/util/ArraysSupport -/
def k25 : Class := { plain "jdk/internal/util/ArraysSupport" (some 0) with
  accessFlags := 33
  interfaces := #[]
  cf := some (fileOf pool25 21 #[] #[{ accessFlags := 2, nameIndex := 9, descriptorIndex := 19, attributes := #[] }] 33 16 #[] #[{ accessFlags := 24, nameIndex := 28, descriptorIndex := 29, attributes := #[] }, { accessFlags := 26, nameIndex := 38, descriptorIndex := 39, attributes := #[] }, { accessFlags := 25, nameIndex := 121, descriptorIndex := 25, attributes := #[] }, { accessFlags := 25, nameIndex := 131, descriptorIndex := 25, attributes := #[] }, { accessFlags := 25, nameIndex := 137, descriptorIndex := 25, attributes := #[] }, { accessFlags := 25, nameIndex := 143, descriptorIndex := 25, attributes := #[] }, { accessFlags := 25, nameIndex := 53, descriptorIndex := 25, attributes := #[] }, { accessFlags := 25, nameIndex := 24, descriptorIndex := 25, attributes := #[] }, { accessFlags := 25, nameIndex := 162, descriptorIndex := 25, attributes := #[] }, { accessFlags := 25, nameIndex := 187, descriptorIndex := 25, attributes := #[] }, { accessFlags := 26, nameIndex := 48, descriptorIndex := 25, attributes := #[] }, { accessFlags := 25, nameIndex := 277, descriptorIndex := 25, attributes := #[] }, { accessFlags := 25, nameIndex := 280, descriptorIndex := 25, attributes := #[] }, { accessFlags := 25, nameIndex := 282, descriptorIndex := 25, attributes := #[] }, { accessFlags := 25, nameIndex := 284, descriptorIndex := 25, attributes := #[] }, { accessFlags := 25, nameIndex := 286, descriptorIndex := 25, attributes := #[] }, { accessFlags := 25, nameIndex := 288, descriptorIndex := 25, attributes := #[] }, { accessFlags := 25, nameIndex := 290, descriptorIndex := 25, attributes := #[] }, { accessFlags := 25, nameIndex := 292, descriptorIndex := 25, attributes := #[] }, { accessFlags := 26, nameIndex := 108, descriptorIndex := 109, attributes := #[] }, { accessFlags := 25, nameIndex := 294, descriptorIndex := 25, attributes := #[] }])
  fields := #[{ name := "U", type := (.object "jdk/internal/misc/Unsafe"), accessFlags := 24, slot := 0, constantValue := 0 }, { name := "BIG_ENDIAN", type := .boolean, accessFlags := 26, slot := 1, constantValue := 0 }, { name := "LOG2_ARRAY_BOOLEAN_INDEX_SCALE", type := .int, accessFlags := 25, slot := 2, constantValue := 0 }, { name := "LOG2_ARRAY_BYTE_INDEX_SCALE", type := .int, accessFlags := 25, slot := 3, constantValue := 0 }, { name := "LOG2_ARRAY_CHAR_INDEX_SCALE", type := .int, accessFlags := 25, slot := 4, constantValue := 0 }, { name := "LOG2_ARRAY_SHORT_INDEX_SCALE", type := .int, accessFlags := 25, slot := 5, constantValue := 0 }, { name := "LOG2_ARRAY_INT_INDEX_SCALE", type := .int, accessFlags := 25, slot := 6, constantValue := 0 }, { name := "LOG2_ARRAY_LONG_INDEX_SCALE", type := .int, accessFlags := 25, slot := 7, constantValue := 0 }, { name := "LOG2_ARRAY_FLOAT_INDEX_SCALE", type := .int, accessFlags := 25, slot := 8, constantValue := 0 }, { name := "LOG2_ARRAY_DOUBLE_INDEX_SCALE", type := .int, accessFlags := 25, slot := 9, constantValue := 0 }, { name := "LOG2_BYTE_BIT_SIZE", type := .int, accessFlags := 26, slot := 10, constantValue := 0 }, { name := "T_BOOLEAN", type := .int, accessFlags := 25, slot := 11, constantValue := 0 }, { name := "T_CHAR", type := .int, accessFlags := 25, slot := 12, constantValue := 0 }, { name := "T_FLOAT", type := .int, accessFlags := 25, slot := 13, constantValue := 0 }, { name := "T_DOUBLE", type := .int, accessFlags := 25, slot := 14, constantValue := 0 }, { name := "T_BYTE", type := .int, accessFlags := 25, slot := 15, constantValue := 0 }, { name := "T_SHORT", type := .int, accessFlags := 25, slot := 16, constantValue := 0 }, { name := "T_INT", type := .int, accessFlags := 25, slot := 17, constantValue := 0 }, { name := "T_LONG", type := .int, accessFlags := 25, slot := 18, constantValue := 0 }, { name := "JLA", type := (.object "jdk/internal/access/JavaLangAccess"), accessFlags := 26, slot := 19, constantValue := 0 }, { name := "SOFT_MAX_ARRAY_LENGTH", type := .int, accessFlags := 25, slot := 20, constantValue := 0 }]
  methods := #[k25m0]
  instanceTypes := #[]
  staticTypes := #[(.object "jdk/internal/misc/Unsafe"), .boolean, .int, .int, .int, .int, .int, .int, .int, .int, .int, .int, .int, .int, .int, .int, .int, .int, .int, (.object "jdk/internal/access/JavaLangAccess"), .int]
  resolved := Array.replicate 378 none
  statics := none }

def pool26 : Array CpInfo := pool [(2, .class_ 4), (1, u "java/util/ImmutableCollections$AbstractImmutableList"), (3, .class_ 10), (1, u "java/util/ImmutableCollections$ListN"), (0, u "elements"), (0, u "[Ljava/lang/Object;"), (2, u "allowNulls"), (0, u "Z"), (42, .class_ 60), (0, u "java/io/Serializable"), (53, .class_ 115), (0, u "java/util/ImmutableCollections")] 3

/-- java/util/ImmutableCollections$ListN -/
def k26 : Class := { plain "java/util/ImmutableCollections$ListN" (some 20) with
  accessFlags := 48
  interfaces := #[2]
  cf := some (fileOf pool26 8 #[.nestHost 114] #[] 48 2 #[59] #[{ accessFlags := 18, nameIndex := 11, descriptorIndex := 12, attributes := #[] }, { accessFlags := 18, nameIndex := 15, descriptorIndex := 16, attributes := #[] }])
  fields := #[{ name := "elements", type := (.array (.object "java/lang/Object")), accessFlags := 18, slot := 0, constantValue := 0 }, { name := "allowNulls", type := .boolean, accessFlags := 18, slot := 1, constantValue := 0 }]
  methods := #[]
  instanceTypes := #[(.array (.object "java/lang/Object")), .boolean]
  staticTypes := #[]
  resolved := Array.replicate 119 none
  statics := none }

def pool27 : Array CpInfo := pool [(1, u "java/lang/Cloneable"), (0, .class_ 1), (0, u "java/lang/Object"), (0, .class_ 3)] 3

/-- java/lang/Cloneable -/
def k27 : Class := { plain "java/lang/Cloneable" (some 0) with
  accessFlags := 1537
  interfaces := #[]
  cf := some (fileOf pool27 2 #[] #[] 1537 4 #[] #[])
  fields := #[]
  methods := #[]
  instanceTypes := #[]
  staticTypes := #[]
  resolved := Array.replicate 8 none
  statics := none }

/-- the primitive byte -/
def k28 : Class := { plain "byte" none with kind := .primitive 'B', accessFlags := 0x411 }
/-- [B -/
def k29 : Class := { plain "[B" (some 0) with kind := .array 28 .byte, interfaces := #[27, 2], accessFlags := 1041 }

/-- the primitive int -/
def k30 : Class := { plain "int" none with kind := .primitive 'I', accessFlags := 0x411 }
/-- [I -/
def k31 : Class := { plain "[I" (some 0) with kind := .array 30 .int, interfaces := #[27, 2], accessFlags := 1041 }

/-- [Ljava/lang/Integer; -/
def k32 : Class := { plain "[Ljava/lang/Integer;" (some 0) with kind := .array 10 (.object "java/lang/Integer"), interfaces := #[27, 2], accessFlags := 1041 }

def heap : Heap := #[{ cls := 7, slots := #[.long 0, .int 1, .null, .int 0, .null, .int 0, .int 0], vm := .statics 7 },
  { cls := 11, slots := #[.int 0, .int 127, .ref 4, .null, .int 0], vm := .statics 11 },
  { cls := 23, slots := #[.long 0, .int 0, .null, .ref 261, .ref 262, .null, .null, .null, .int 0, .int 1], vm := .statics 23 },
  { cls := 24, slots := #[.null, .null, .null], vm := .statics 24 },
  { cls := 32, slots := #[.ref 5, .ref 6, .ref 7, .ref 8, .ref 9, .ref 10, .ref 11, .ref 12, .ref 13, .ref 14, .ref 15, .ref 16, .ref 17, .ref 18, .ref 19, .ref 20, .ref 21, .ref 22, .ref 23, .ref 24, .ref 25, .ref 26, .ref 27, .ref 28, .ref 29, .ref 30, .ref 31, .ref 32, .ref 33, .ref 34, .ref 35, .ref 36, .ref 37, .ref 38, .ref 39, .ref 40, .ref 41, .ref 42, .ref 43, .ref 44, .ref 45, .ref 46, .ref 47, .ref 48, .ref 49, .ref 50, .ref 51, .ref 52, .ref 53, .ref 54, .ref 55, .ref 56, .ref 57, .ref 58, .ref 59, .ref 60, .ref 61, .ref 62, .ref 63, .ref 64, .ref 65, .ref 66, .ref 67, .ref 68, .ref 69, .ref 70, .ref 71, .ref 72, .ref 73, .ref 74, .ref 75, .ref 76, .ref 77, .ref 78, .ref 79, .ref 80, .ref 81, .ref 82, .ref 83, .ref 84, .ref 85, .ref 86, .ref 87, .ref 88, .ref 89, .ref 90, .ref 91, .ref 92, .ref 93, .ref 94, .ref 95, .ref 96, .ref 97, .ref 98, .ref 99, .ref 100, .ref 101, .ref 102, .ref 103, .ref 104, .ref 105, .ref 106, .ref 107, .ref 108, .ref 109, .ref 110, .ref 111, .ref 112, .ref 113, .ref 114, .ref 115, .ref 116, .ref 117, .ref 118, .ref 119, .ref 120, .ref 121, .ref 122, .ref 123, .ref 124, .ref 125, .ref 126, .ref 127, .ref 128, .ref 129, .ref 130, .ref 131, .ref 132, .ref 133, .ref 134, .ref 135, .ref 136, .ref 137, .ref 138, .ref 139, .ref 140, .ref 141, .ref 142, .ref 143, .ref 144, .ref 145, .ref 146, .ref 147, .ref 148, .ref 149, .ref 150, .ref 151, .ref 152, .ref 153, .ref 154, .ref 155, .ref 156, .ref 157, .ref 158, .ref 159, .ref 160, .ref 161, .ref 162, .ref 163, .ref 164, .ref 165, .ref 166, .ref 167, .ref 168, .ref 169, .ref 170, .ref 171, .ref 172, .ref 173, .ref 174, .ref 175, .ref 176, .ref 177, .ref 178, .ref 179, .ref 180, .ref 181, .ref 182, .ref 183, .ref 184, .ref 185, .ref 186, .ref 187, .ref 188, .ref 189, .ref 190, .ref 191, .ref 192, .ref 193, .ref 194, .ref 195, .ref 196, .ref 197, .ref 198, .ref 199, .ref 200, .ref 201, .ref 202, .ref 203, .ref 204, .ref 205, .ref 206, .ref 207, .ref 208, .ref 209, .ref 210, .ref 211, .ref 212, .ref 213, .ref 214, .ref 215, .ref 216, .ref 217, .ref 218, .ref 219, .ref 220, .ref 221, .ref 222, .ref 223, .ref 224, .ref 225, .ref 226, .ref 227, .ref 228, .ref 229, .ref 230, .ref 231, .ref 232, .ref 233, .ref 234, .ref 235, .ref 236, .ref 237, .ref 238, .ref 239, .ref 240, .ref 241, .ref 242, .ref 243, .ref 244, .ref 245, .ref 246, .ref 247, .ref 248, .ref 249, .ref 250, .ref 251, .ref 252, .ref 253, .ref 254, .ref 255, .ref 256, .ref 257, .ref 258, .ref 259, .ref 260], vm := .none },
  { cls := 10, slots := #[.int (-128)], vm := .none },
  { cls := 10, slots := #[.int (-127)], vm := .none },
  { cls := 10, slots := #[.int (-126)], vm := .none },
  { cls := 10, slots := #[.int (-125)], vm := .none },
  { cls := 10, slots := #[.int (-124)], vm := .none },
  { cls := 10, slots := #[.int (-123)], vm := .none },
  { cls := 10, slots := #[.int (-122)], vm := .none },
  { cls := 10, slots := #[.int (-121)], vm := .none },
  { cls := 10, slots := #[.int (-120)], vm := .none },
  { cls := 10, slots := #[.int (-119)], vm := .none },
  { cls := 10, slots := #[.int (-118)], vm := .none },
  { cls := 10, slots := #[.int (-117)], vm := .none },
  { cls := 10, slots := #[.int (-116)], vm := .none },
  { cls := 10, slots := #[.int (-115)], vm := .none },
  { cls := 10, slots := #[.int (-114)], vm := .none },
  { cls := 10, slots := #[.int (-113)], vm := .none },
  { cls := 10, slots := #[.int (-112)], vm := .none },
  { cls := 10, slots := #[.int (-111)], vm := .none },
  { cls := 10, slots := #[.int (-110)], vm := .none },
  { cls := 10, slots := #[.int (-109)], vm := .none },
  { cls := 10, slots := #[.int (-108)], vm := .none },
  { cls := 10, slots := #[.int (-107)], vm := .none },
  { cls := 10, slots := #[.int (-106)], vm := .none },
  { cls := 10, slots := #[.int (-105)], vm := .none },
  { cls := 10, slots := #[.int (-104)], vm := .none },
  { cls := 10, slots := #[.int (-103)], vm := .none },
  { cls := 10, slots := #[.int (-102)], vm := .none },
  { cls := 10, slots := #[.int (-101)], vm := .none },
  { cls := 10, slots := #[.int (-100)], vm := .none },
  { cls := 10, slots := #[.int (-99)], vm := .none },
  { cls := 10, slots := #[.int (-98)], vm := .none },
  { cls := 10, slots := #[.int (-97)], vm := .none },
  { cls := 10, slots := #[.int (-96)], vm := .none },
  { cls := 10, slots := #[.int (-95)], vm := .none },
  { cls := 10, slots := #[.int (-94)], vm := .none },
  { cls := 10, slots := #[.int (-93)], vm := .none },
  { cls := 10, slots := #[.int (-92)], vm := .none },
  { cls := 10, slots := #[.int (-91)], vm := .none },
  { cls := 10, slots := #[.int (-90)], vm := .none },
  { cls := 10, slots := #[.int (-89)], vm := .none },
  { cls := 10, slots := #[.int (-88)], vm := .none },
  { cls := 10, slots := #[.int (-87)], vm := .none },
  { cls := 10, slots := #[.int (-86)], vm := .none },
  { cls := 10, slots := #[.int (-85)], vm := .none },
  { cls := 10, slots := #[.int (-84)], vm := .none },
  { cls := 10, slots := #[.int (-83)], vm := .none },
  { cls := 10, slots := #[.int (-82)], vm := .none },
  { cls := 10, slots := #[.int (-81)], vm := .none },
  { cls := 10, slots := #[.int (-80)], vm := .none },
  { cls := 10, slots := #[.int (-79)], vm := .none },
  { cls := 10, slots := #[.int (-78)], vm := .none },
  { cls := 10, slots := #[.int (-77)], vm := .none },
  { cls := 10, slots := #[.int (-76)], vm := .none },
  { cls := 10, slots := #[.int (-75)], vm := .none },
  { cls := 10, slots := #[.int (-74)], vm := .none },
  { cls := 10, slots := #[.int (-73)], vm := .none },
  { cls := 10, slots := #[.int (-72)], vm := .none },
  { cls := 10, slots := #[.int (-71)], vm := .none },
  { cls := 10, slots := #[.int (-70)], vm := .none },
  { cls := 10, slots := #[.int (-69)], vm := .none },
  { cls := 10, slots := #[.int (-68)], vm := .none },
  { cls := 10, slots := #[.int (-67)], vm := .none },
  { cls := 10, slots := #[.int (-66)], vm := .none },
  { cls := 10, slots := #[.int (-65)], vm := .none },
  { cls := 10, slots := #[.int (-64)], vm := .none },
  { cls := 10, slots := #[.int (-63)], vm := .none },
  { cls := 10, slots := #[.int (-62)], vm := .none },
  { cls := 10, slots := #[.int (-61)], vm := .none },
  { cls := 10, slots := #[.int (-60)], vm := .none },
  { cls := 10, slots := #[.int (-59)], vm := .none },
  { cls := 10, slots := #[.int (-58)], vm := .none },
  { cls := 10, slots := #[.int (-57)], vm := .none },
  { cls := 10, slots := #[.int (-56)], vm := .none },
  { cls := 10, slots := #[.int (-55)], vm := .none },
  { cls := 10, slots := #[.int (-54)], vm := .none },
  { cls := 10, slots := #[.int (-53)], vm := .none },
  { cls := 10, slots := #[.int (-52)], vm := .none },
  { cls := 10, slots := #[.int (-51)], vm := .none },
  { cls := 10, slots := #[.int (-50)], vm := .none },
  { cls := 10, slots := #[.int (-49)], vm := .none },
  { cls := 10, slots := #[.int (-48)], vm := .none },
  { cls := 10, slots := #[.int (-47)], vm := .none },
  { cls := 10, slots := #[.int (-46)], vm := .none },
  { cls := 10, slots := #[.int (-45)], vm := .none },
  { cls := 10, slots := #[.int (-44)], vm := .none },
  { cls := 10, slots := #[.int (-43)], vm := .none },
  { cls := 10, slots := #[.int (-42)], vm := .none },
  { cls := 10, slots := #[.int (-41)], vm := .none },
  { cls := 10, slots := #[.int (-40)], vm := .none },
  { cls := 10, slots := #[.int (-39)], vm := .none },
  { cls := 10, slots := #[.int (-38)], vm := .none },
  { cls := 10, slots := #[.int (-37)], vm := .none },
  { cls := 10, slots := #[.int (-36)], vm := .none },
  { cls := 10, slots := #[.int (-35)], vm := .none },
  { cls := 10, slots := #[.int (-34)], vm := .none },
  { cls := 10, slots := #[.int (-33)], vm := .none },
  { cls := 10, slots := #[.int (-32)], vm := .none },
  { cls := 10, slots := #[.int (-31)], vm := .none },
  { cls := 10, slots := #[.int (-30)], vm := .none },
  { cls := 10, slots := #[.int (-29)], vm := .none },
  { cls := 10, slots := #[.int (-28)], vm := .none },
  { cls := 10, slots := #[.int (-27)], vm := .none },
  { cls := 10, slots := #[.int (-26)], vm := .none },
  { cls := 10, slots := #[.int (-25)], vm := .none },
  { cls := 10, slots := #[.int (-24)], vm := .none },
  { cls := 10, slots := #[.int (-23)], vm := .none },
  { cls := 10, slots := #[.int (-22)], vm := .none },
  { cls := 10, slots := #[.int (-21)], vm := .none },
  { cls := 10, slots := #[.int (-20)], vm := .none },
  { cls := 10, slots := #[.int (-19)], vm := .none },
  { cls := 10, slots := #[.int (-18)], vm := .none },
  { cls := 10, slots := #[.int (-17)], vm := .none },
  { cls := 10, slots := #[.int (-16)], vm := .none },
  { cls := 10, slots := #[.int (-15)], vm := .none },
  { cls := 10, slots := #[.int (-14)], vm := .none },
  { cls := 10, slots := #[.int (-13)], vm := .none },
  { cls := 10, slots := #[.int (-12)], vm := .none },
  { cls := 10, slots := #[.int (-11)], vm := .none },
  { cls := 10, slots := #[.int (-10)], vm := .none },
  { cls := 10, slots := #[.int (-9)], vm := .none },
  { cls := 10, slots := #[.int (-8)], vm := .none },
  { cls := 10, slots := #[.int (-7)], vm := .none },
  { cls := 10, slots := #[.int (-6)], vm := .none },
  { cls := 10, slots := #[.int (-5)], vm := .none },
  { cls := 10, slots := #[.int (-4)], vm := .none },
  { cls := 10, slots := #[.int (-3)], vm := .none },
  { cls := 10, slots := #[.int (-2)], vm := .none },
  { cls := 10, slots := #[.int (-1)], vm := .none },
  { cls := 10, slots := #[.int (0)], vm := .none },
  { cls := 10, slots := #[.int (1)], vm := .none },
  { cls := 10, slots := #[.int (2)], vm := .none },
  { cls := 10, slots := #[.int (3)], vm := .none },
  { cls := 10, slots := #[.int (4)], vm := .none },
  { cls := 10, slots := #[.int (5)], vm := .none },
  { cls := 10, slots := #[.int (6)], vm := .none },
  { cls := 10, slots := #[.int (7)], vm := .none },
  { cls := 10, slots := #[.int (8)], vm := .none },
  { cls := 10, slots := #[.int (9)], vm := .none },
  { cls := 10, slots := #[.int (10)], vm := .none },
  { cls := 10, slots := #[.int (11)], vm := .none },
  { cls := 10, slots := #[.int (12)], vm := .none },
  { cls := 10, slots := #[.int (13)], vm := .none },
  { cls := 10, slots := #[.int (14)], vm := .none },
  { cls := 10, slots := #[.int (15)], vm := .none },
  { cls := 10, slots := #[.int (16)], vm := .none },
  { cls := 10, slots := #[.int (17)], vm := .none },
  { cls := 10, slots := #[.int (18)], vm := .none },
  { cls := 10, slots := #[.int (19)], vm := .none },
  { cls := 10, slots := #[.int (20)], vm := .none },
  { cls := 10, slots := #[.int (21)], vm := .none },
  { cls := 10, slots := #[.int (22)], vm := .none },
  { cls := 10, slots := #[.int (23)], vm := .none },
  { cls := 10, slots := #[.int (24)], vm := .none },
  { cls := 10, slots := #[.int (25)], vm := .none },
  { cls := 10, slots := #[.int (26)], vm := .none },
  { cls := 10, slots := #[.int (27)], vm := .none },
  { cls := 10, slots := #[.int (28)], vm := .none },
  { cls := 10, slots := #[.int (29)], vm := .none },
  { cls := 10, slots := #[.int (30)], vm := .none },
  { cls := 10, slots := #[.int (31)], vm := .none },
  { cls := 10, slots := #[.int (32)], vm := .none },
  { cls := 10, slots := #[.int (33)], vm := .none },
  { cls := 10, slots := #[.int (34)], vm := .none },
  { cls := 10, slots := #[.int (35)], vm := .none },
  { cls := 10, slots := #[.int (36)], vm := .none },
  { cls := 10, slots := #[.int (37)], vm := .none },
  { cls := 10, slots := #[.int (38)], vm := .none },
  { cls := 10, slots := #[.int (39)], vm := .none },
  { cls := 10, slots := #[.int (40)], vm := .none },
  { cls := 10, slots := #[.int (41)], vm := .none },
  { cls := 10, slots := #[.int (42)], vm := .none },
  { cls := 10, slots := #[.int (43)], vm := .none },
  { cls := 10, slots := #[.int (44)], vm := .none },
  { cls := 10, slots := #[.int (45)], vm := .none },
  { cls := 10, slots := #[.int (46)], vm := .none },
  { cls := 10, slots := #[.int (47)], vm := .none },
  { cls := 10, slots := #[.int (48)], vm := .none },
  { cls := 10, slots := #[.int (49)], vm := .none },
  { cls := 10, slots := #[.int (50)], vm := .none },
  { cls := 10, slots := #[.int (51)], vm := .none },
  { cls := 10, slots := #[.int (52)], vm := .none },
  { cls := 10, slots := #[.int (53)], vm := .none },
  { cls := 10, slots := #[.int (54)], vm := .none },
  { cls := 10, slots := #[.int (55)], vm := .none },
  { cls := 10, slots := #[.int (56)], vm := .none },
  { cls := 10, slots := #[.int (57)], vm := .none },
  { cls := 10, slots := #[.int (58)], vm := .none },
  { cls := 10, slots := #[.int (59)], vm := .none },
  { cls := 10, slots := #[.int (60)], vm := .none },
  { cls := 10, slots := #[.int (61)], vm := .none },
  { cls := 10, slots := #[.int (62)], vm := .none },
  { cls := 10, slots := #[.int (63)], vm := .none },
  { cls := 10, slots := #[.int (64)], vm := .none },
  { cls := 10, slots := #[.int (65)], vm := .none },
  { cls := 10, slots := #[.int (66)], vm := .none },
  { cls := 10, slots := #[.int (67)], vm := .none },
  { cls := 10, slots := #[.int (68)], vm := .none },
  { cls := 10, slots := #[.int (69)], vm := .none },
  { cls := 10, slots := #[.int (70)], vm := .none },
  { cls := 10, slots := #[.int (71)], vm := .none },
  { cls := 10, slots := #[.int (72)], vm := .none },
  { cls := 10, slots := #[.int (73)], vm := .none },
  { cls := 10, slots := #[.int (74)], vm := .none },
  { cls := 10, slots := #[.int (75)], vm := .none },
  { cls := 10, slots := #[.int (76)], vm := .none },
  { cls := 10, slots := #[.int (77)], vm := .none },
  { cls := 10, slots := #[.int (78)], vm := .none },
  { cls := 10, slots := #[.int (79)], vm := .none },
  { cls := 10, slots := #[.int (80)], vm := .none },
  { cls := 10, slots := #[.int (81)], vm := .none },
  { cls := 10, slots := #[.int (82)], vm := .none },
  { cls := 10, slots := #[.int (83)], vm := .none },
  { cls := 10, slots := #[.int (84)], vm := .none },
  { cls := 10, slots := #[.int (85)], vm := .none },
  { cls := 10, slots := #[.int (86)], vm := .none },
  { cls := 10, slots := #[.int (87)], vm := .none },
  { cls := 10, slots := #[.int (88)], vm := .none },
  { cls := 10, slots := #[.int (89)], vm := .none },
  { cls := 10, slots := #[.int (90)], vm := .none },
  { cls := 10, slots := #[.int (91)], vm := .none },
  { cls := 10, slots := #[.int (92)], vm := .none },
  { cls := 10, slots := #[.int (93)], vm := .none },
  { cls := 10, slots := #[.int (94)], vm := .none },
  { cls := 10, slots := #[.int (95)], vm := .none },
  { cls := 10, slots := #[.int (96)], vm := .none },
  { cls := 10, slots := #[.int (97)], vm := .none },
  { cls := 10, slots := #[.int (98)], vm := .none },
  { cls := 10, slots := #[.int (99)], vm := .none },
  { cls := 10, slots := #[.int (100)], vm := .none },
  { cls := 10, slots := #[.int (101)], vm := .none },
  { cls := 10, slots := #[.int (102)], vm := .none },
  { cls := 10, slots := #[.int (103)], vm := .none },
  { cls := 10, slots := #[.int (104)], vm := .none },
  { cls := 10, slots := #[.int (105)], vm := .none },
  { cls := 10, slots := #[.int (106)], vm := .none },
  { cls := 10, slots := #[.int (107)], vm := .none },
  { cls := 10, slots := #[.int (108)], vm := .none },
  { cls := 10, slots := #[.int (109)], vm := .none },
  { cls := 10, slots := #[.int (110)], vm := .none },
  { cls := 10, slots := #[.int (111)], vm := .none },
  { cls := 10, slots := #[.int (112)], vm := .none },
  { cls := 10, slots := #[.int (113)], vm := .none },
  { cls := 10, slots := #[.int (114)], vm := .none },
  { cls := 10, slots := #[.int (115)], vm := .none },
  { cls := 10, slots := #[.int (116)], vm := .none },
  { cls := 10, slots := #[.int (117)], vm := .none },
  { cls := 10, slots := #[.int (118)], vm := .none },
  { cls := 10, slots := #[.int (119)], vm := .none },
  { cls := 10, slots := #[.int (120)], vm := .none },
  { cls := 10, slots := #[.int (121)], vm := .none },
  { cls := 10, slots := #[.int (122)], vm := .none },
  { cls := 10, slots := #[.int (123)], vm := .none },
  { cls := 10, slots := #[.int (124)], vm := .none },
  { cls := 10, slots := #[.int (125)], vm := .none },
  { cls := 10, slots := #[.int (126)], vm := .none },
  { cls := 10, slots := #[.int (127)], vm := .none },
  { cls := 0, slots := #[], vm := .none },
  { cls := 26, slots := #[.null, .int 0], vm := .none }]
def classes : Array Class := #[k0, k1, k2, k3, k4, k5, k6, k7, k8, k9, k10, k11, k12, k13, k14, k15, k16, k17, k18, k19, k20, k21, k22, k23, k24, k25, k26, k27, k28, k29, k30, k31, k32]
def interned : List (Array UInt16 × Addr) := []
def slotsUsed : Nat := 539
def theMethod : MethodId := ⟨1, 1⟩
def args0 : Array Value := #[.int 5, .int 5, .int 5, .int 5]
def aboutOver (below : List Frame) : State where
  vm := { classes := classes, interned := interned.toArray }
  heap := heap
  slotsUsed := slotsUsed
  threads := #[{ frames := .invoking theMethod args0 :: below }]
def below0 : List Frame := [.native { method := ⟨0, 0⟩, args := #[] }]
def about1 : State := aboutOver below0
def p0 : Program := .bare "" "" ""
def e0 : Env := launch0.env 0 0 0
theorem w_frames : about1.frames = Frame.invoking theMethod args0 :: below0 := rfl
set_option maxRecDepth 65536 in
theorem w_args : argsFit about1.vm theMethod args0 = true := by decide +kernel
set_option maxRecDepth 65536 in
theorem w_heap : heapFits about1 = true := by decide +kernel
set_option maxRecDepth 65536 in
theorem w_runnable : about1.curStatus? = some .runnable := by decide +kernel
set_option maxRecDepth 65536 in
theorem w_alone : about1.alone = true := by decide +kernel
set_option maxRecDepth 65536 in
theorem w_named : about1.methodNamed? x = some theMethod := by decide +kernel
set_option maxRecDepth 65536 in
theorem w_hears : about1.hears theMethod below0 = true := by decide +kernel
set_option maxRecDepth 65536 in
theorem w_ripe : about1.ripe theMethod args0 below0 = true := by decide +kernel
theorem w_running : about1.status = .running := rfl
set_option maxRecDepth 65536 in
theorem w_room : about1.hasRoom e0.platform room_1 = true :=
  launch0.hasRoom_least _ room_1 (by decide +kernel) (by decide +kernel) (by decide +kernel) (by decide +kernel) (by decide +kernel) (by decide +kernel)
theorem allAtoms_all (ts : List Jvm.Cond) (a : Array Jvm.Value) (st : Jvm.State) : (allAtoms ts).before a st = ts.all (fun c => c.before a st) := by
  induction ts with
  | nil => rfl
  | cons c t ih =>
    show (Jvm.Cond.and c (allAtoms t)).before a st = _
    rw [Jvm.Cond.before_and, ih, List.all_cons]
def words1 : List Jvm.Cond := Jvm.Cond.code x code maxLocals ret :: tables_1
/-- a 'code' word, met by the world's own term for the bytes: nothing is compared byte by byte -/
theorem code_word {y : MethodName} {bytes : ByteArray} {mx : Nat} {rt : Option FieldType} {a : Array Value} {s : State} {m : MethodId} {meth : Method} {c : Code} (h1 : s.methodNamed? y = some m) (h2 : s.vm.method? m = some meth) (h3 : meth.code = some c) (h4 : c.code = bytes)
    (h5 : (c.maxLocals == mx && c.exceptionTable.isEmpty && decide (c.maxStack ≤ mostOperands) && decide (meth.sig.returnType = rt) && !meth.locks && decide (parseMethodDescriptor y.desc = some meth.sig)) = true) : (Jvm.Cond.code y bytes mx rt).before a s = true := by
  simp only [Bool.and_eq_true, beq_iff_eq, Bool.not_eq_true', decide_eq_true_eq] at h5
  obtain ⟨⟨⟨⟨⟨g1, g2⟩, g3⟩, g4⟩, g5⟩, g6⟩ := h5
  simp [Cond.before, Cond.holds, Cond.value, h1, h2, h3, h4, g1, g2, g3, g4, g5, g6]
def isCode : Jvm.Cond → Bool
  | .code _ _ _ _ => true
  | _ => false
theorem all_split {L : List Jvm.Cond} {P : Jvm.Cond → Bool} (h1 : L.all (fun c => isCode c || P c) = true) (h2 : ∀ c ∈ L.filter isCode, P c = true) : L.all P = true := by
  refine List.all_eq_true.mpr fun c hc => ?_
  have h := List.all_eq_true.mp h1 c hc
  rcases Bool.eq_false_or_eq_true (isCode c) with hi | hi
  · exact h2 c (List.mem_filter.mpr ⟨hc, hi⟩)
  · simpa [hi] using h
set_option maxRecDepth 65536 in
theorem w_c0 : (Jvm.Cond.code x code maxLocals ret).before args0 about1 = true := code_word (m := ⟨1, 1⟩) (meth := k1m1) (c := k1c1) (by decide +kernel) rfl rfl rfl (by decide +kernel)
set_option maxRecDepth 65536 in
theorem w_c1 : (Jvm.Cond.code ({ cls := "java/lang/String", name := "valueOf", desc := "(C)Ljava/lang/String;" } : Jvm.MethodName) jdk_42_method_139_code (1 : Nat) (Option.some (Jvm.ClassFile.FieldType.object "java/lang/String"))).before args0 about1 = true := code_word (m := ⟨7, 1⟩) (meth := k7m1) (c := k7c1) (by decide +kernel) rfl rfl rfl (by decide +kernel)
set_option maxRecDepth 65536 in
theorem w_c2 : (Jvm.Cond.code ({ cls := "java/lang/StringLatin1", name := "canEncode", desc := "(C)Z" } : Jvm.MethodName) jdk_43_method_3_code (1 : Nat) (Option.some Jvm.ClassFile.FieldType.boolean)).before args0 about1 = true := code_word (m := ⟨8, 1⟩) (meth := k8m1) (c := k8c1) (by decide +kernel) rfl rfl rfl (by decide +kernel)
set_option maxRecDepth 65536 in
theorem w_c3 : (Jvm.Cond.code ({ cls := "java/lang/StringLatin1", name := "toBytes", desc := "(C)[B" } : Jvm.MethodName) jdk_43_method_46_code (1 : Nat) (Option.some (Jvm.ClassFile.FieldType.array Jvm.ClassFile.FieldType.byte))).before args0 about1 = true := code_word (m := ⟨8, 2⟩) (meth := k8m2) (c := k8c2) (by decide +kernel) rfl rfl rfl (by decide +kernel)
set_option maxRecDepth 65536 in
theorem w_c4 : (Jvm.Cond.code ({ cls := "java/lang/String", name := "<init>", desc := "([BB)V" } : Jvm.MethodName) jdk_42_method_151_code (3 : Nat) (Option.none : Option Jvm.ClassFile.FieldType)).before args0 about1 = true := code_word (m := ⟨7, 2⟩) (meth := k7m2) (c := k7c2) (by decide +kernel) rfl rfl rfl (by decide +kernel)
set_option maxRecDepth 65536 in
theorem w_c5 : (Jvm.Cond.code ({ cls := "java/lang/Object", name := "<init>", desc := "()V" } : Jvm.MethodName) object_method_1_code (1 : Nat) (Option.none : Option Jvm.ClassFile.FieldType)).before args0 about1 = true := code_word (m := ⟨0, 0⟩) (meth := k0m0) (c := k0c0) (by decide +kernel) rfl rfl rfl (by decide +kernel)
set_option maxRecDepth 65536 in
theorem w_c6 : (Jvm.Cond.code ({ cls := "java/lang/Integer", name := "valueOf", desc := "(I)Ljava/lang/Integer;" } : Jvm.MethodName) jdk_33_method_22_code (1 : Nat) (Option.some (Jvm.ClassFile.FieldType.object "java/lang/Integer"))).before args0 about1 = true := code_word (m := ⟨10, 0⟩) (meth := k10m0) (c := k10c0) (by decide +kernel) rfl rfl rfl (by decide +kernel)
set_option maxRecDepth 65536 in
theorem w_c7 : (Jvm.Cond.code ({ cls := "com/example/libentail/libentail/Role", name := "<init>", desc := "(Ljava/lang/Object;Ljava/lang/String;I)V" } : Jvm.MethodName) prog_13_method_1_code (4 : Nat) (Option.none : Option Jvm.ClassFile.FieldType)).before args0 about1 = true := code_word (m := ⟨12, 0⟩) (meth := k12m0) (c := k12c0) (by decide +kernel) rfl rfl rfl (by decide +kernel)
set_option maxRecDepth 65536 in
theorem w_c8 : (Jvm.Cond.code ({ cls := "java/util/List", name := "of", desc := "(Ljava/lang/Object;)Ljava/util/List;" } : Jvm.MethodName) jdk_40_method_37_code (1 : Nat) (Option.some (Jvm.ClassFile.FieldType.object "java/util/List"))).before args0 about1 = true := code_word (m := ⟨16, 0⟩) (meth := k16m0) (c := k16c0) (by decide +kernel) rfl rfl rfl (by decide +kernel)
set_option maxRecDepth 65536 in
theorem w_c9 : (Jvm.Cond.code ({ cls := "java/util/ImmutableCollections$List12", name := "<init>", desc := "(Ljava/lang/Object;)V" } : Jvm.MethodName) jdk_44_method_1_code (2 : Nat) (Option.none : Option Jvm.ClassFile.FieldType)).before args0 about1 = true := code_word (m := ⟨21, 0⟩) (meth := k21m0) (c := k21c0) (by decide +kernel) rfl rfl rfl (by decide +kernel)
set_option maxRecDepth 65536 in
theorem w_c10 : (Jvm.Cond.code ({ cls := "java/util/ImmutableCollections$AbstractImmutableList", name := "<init>", desc := "()V" } : Jvm.MethodName) jdk_46_method_1_code (1 : Nat) (Option.none : Option Jvm.ClassFile.FieldType)).before args0 about1 = true := code_word (m := ⟨20, 0⟩) (meth := k20m0) (c := k20c0) (by decide +kernel) rfl rfl rfl (by decide +kernel)
set_option maxRecDepth 65536 in
theorem w_c11 : (Jvm.Cond.code ({ cls := "java/util/ImmutableCollections$AbstractImmutableCollection", name := "<init>", desc := "()V" } : Jvm.MethodName) jdk_47_method_1_code (1 : Nat) (Option.none : Option Jvm.ClassFile.FieldType)).before args0 about1 = true := code_word (m := ⟨18, 0⟩) (meth := k18m0) (c := k18c0) (by decide +kernel) rfl rfl rfl (by decide +kernel)
set_option maxRecDepth 65536 in
theorem w_c12 : (Jvm.Cond.code ({ cls := "java/util/AbstractCollection", name := "<init>", desc := "()V" } : Jvm.MethodName) jdk_22_method_1_code (1 : Nat) (Option.none : Option Jvm.ClassFile.FieldType)).before args0 about1 = true := code_word (m := ⟨17, 0⟩) (meth := k17m0) (c := k17c0) (by decide +kernel) rfl rfl rfl (by decide +kernel)
set_option maxRecDepth 65536 in
theorem w_c13 : (Jvm.Cond.code ({ cls := "java/util/Objects", name := "requireNonNull", desc := "(Ljava/lang/Object;)Ljava/lang/Object;" } : Jvm.MethodName) jdk_31_method_10_code (1 : Nat) (Option.some (Jvm.ClassFile.FieldType.object "java/lang/Object"))).before args0 about1 = true := code_word (m := ⟨22, 1⟩) (meth := k22m1) (c := k22c1) (by decide +kernel) rfl rfl rfl (by decide +kernel)
set_option maxRecDepth 65536 in
theorem w_c14 : (Jvm.Cond.code ({ cls := "com/example/libentail/libentail/Role", name := "pair", desc := "(Lcom/example/libentail/libentail/Role;Lcom/example/libentail/libentail/Role;)V" } : Jvm.MethodName) prog_13_method_9_code (2 : Nat) (Option.none : Option Jvm.ClassFile.FieldType)).before args0 about1 = true := code_word (m := ⟨12, 5⟩) (meth := k12m5) (c := k12c5) (by decide +kernel) rfl rfl rfl (by decide +kernel)
set_option maxRecDepth 65536 in
theorem w_c15 : (Jvm.Cond.code ({ cls := "com/example/libentail/libentail/Role", name := "inverse", desc := "()Lcom/example/libentail/libentail/Role;" } : Jvm.MethodName) prog_13_method_7_code (1 : Nat) (Option.some (Jvm.ClassFile.FieldType.object "com/example/libentail/libentail/Role"))).before args0 about1 = true := code_word (m := ⟨12, 3⟩) (meth := k12m3) (c := k12c3) (by decide +kernel) rfl rfl rfl (by decide +kernel)
set_option maxRecDepth 65536 in
theorem w_c16 : (Jvm.Cond.code ({ cls := "com/example/libentail/libentail/Role", name := "isInverse", desc := "()Z" } : Jvm.MethodName) prog_13_method_8_code (1 : Nat) (Option.some Jvm.ClassFile.FieldType.boolean)).before args0 about1 = true := code_word (m := ⟨12, 4⟩) (meth := k12m4) (c := k12c4) (by decide +kernel) rfl rfl rfl (by decide +kernel)
set_option maxRecDepth 65536 in
theorem w_c17 : (Jvm.Cond.code ({ cls := "com/example/libentail/libentail/Role", name := "id", desc := "()I" } : Jvm.MethodName) prog_13_method_5_code (1 : Nat) (Option.some Jvm.ClassFile.FieldType.int)).before args0 about1 = true := code_word (m := ⟨12, 2⟩) (meth := k12m2) (c := k12c2) (by decide +kernel) rfl rfl rfl (by decide +kernel)
set_option maxRecDepth 65536 in
theorem w_c18 : (Jvm.Cond.code ({ cls := "com/example/libentail/libentail/Role", name := "getName", desc := "()Ljava/lang/String;" } : Jvm.MethodName) prog_13_method_4_code (1 : Nat) (Option.some (Jvm.ClassFile.FieldType.object "java/lang/String"))).before args0 about1 = true := code_word (m := ⟨12, 1⟩) (meth := k12m1) (c := k12c1) (by decide +kernel) rfl rfl rfl (by decide +kernel)
set_option maxRecDepth 65536 in
theorem w_c19 : (Jvm.Cond.code ({ cls := "java/lang/Integer", name := "<init>", desc := "(I)V" } : Jvm.MethodName) jdk_33_method_23_code (2 : Nat) (Option.none : Option Jvm.ClassFile.FieldType)).before args0 about1 = true := code_word (m := ⟨10, 1⟩) (meth := k10m1) (c := k10c1) (by decide +kernel) rfl rfl rfl (by decide +kernel)
set_option maxRecDepth 65536 in
theorem w_c20 : (Jvm.Cond.code ({ cls := "java/lang/Number", name := "<init>", desc := "()V" } : Jvm.MethodName) jdk_18_method_1_code (1 : Nat) (Option.none : Option Jvm.ClassFile.FieldType)).before args0 about1 = true := code_word (m := ⟨9, 0⟩) (meth := k9m0) (c := k9c0) (by decide +kernel) rfl rfl rfl (by decide +kernel)
def codes1 : List Jvm.Cond := [Jvm.Cond.code x code maxLocals ret, Jvm.Cond.code ({ cls := "java/lang/String", name := "valueOf", desc := "(C)Ljava/lang/String;" } : Jvm.MethodName) jdk_42_method_139_code (1 : Nat) (Option.some (Jvm.ClassFile.FieldType.object "java/lang/String")), Jvm.Cond.code ({ cls := "java/lang/StringLatin1", name := "canEncode", desc := "(C)Z" } : Jvm.MethodName) jdk_43_method_3_code (1 : Nat) (Option.some Jvm.ClassFile.FieldType.boolean), Jvm.Cond.code ({ cls := "java/lang/StringLatin1", name := "toBytes", desc := "(C)[B" } : Jvm.MethodName) jdk_43_method_46_code (1 : Nat) (Option.some (Jvm.ClassFile.FieldType.array Jvm.ClassFile.FieldType.byte)), Jvm.Cond.code ({ cls := "java/lang/String", name := "<init>", desc := "([BB)V" } : Jvm.MethodName) jdk_42_method_151_code (3 : Nat) (Option.none : Option Jvm.ClassFile.FieldType), Jvm.Cond.code ({ cls := "java/lang/Object", name := "<init>", desc := "()V" } : Jvm.MethodName) object_method_1_code (1 : Nat) (Option.none : Option Jvm.ClassFile.FieldType), Jvm.Cond.code ({ cls := "java/lang/Integer", name := "valueOf", desc := "(I)Ljava/lang/Integer;" } : Jvm.MethodName) jdk_33_method_22_code (1 : Nat) (Option.some (Jvm.ClassFile.FieldType.object "java/lang/Integer")), Jvm.Cond.code ({ cls := "com/example/libentail/libentail/Role", name := "<init>", desc := "(Ljava/lang/Object;Ljava/lang/String;I)V" } : Jvm.MethodName) prog_13_method_1_code (4 : Nat) (Option.none : Option Jvm.ClassFile.FieldType), Jvm.Cond.code ({ cls := "java/util/List", name := "of", desc := "(Ljava/lang/Object;)Ljava/util/List;" } : Jvm.MethodName) jdk_40_method_37_code (1 : Nat) (Option.some (Jvm.ClassFile.FieldType.object "java/util/List")), Jvm.Cond.code ({ cls := "java/util/ImmutableCollections$List12", name := "<init>", desc := "(Ljava/lang/Object;)V" } : Jvm.MethodName) jdk_44_method_1_code (2 : Nat) (Option.none : Option Jvm.ClassFile.FieldType), Jvm.Cond.code ({ cls := "java/util/ImmutableCollections$AbstractImmutableList", name := "<init>", desc := "()V" } : Jvm.MethodName) jdk_46_method_1_code (1 : Nat) (Option.none : Option Jvm.ClassFile.FieldType), Jvm.Cond.code ({ cls := "java/util/ImmutableCollections$AbstractImmutableCollection", name := "<init>", desc := "()V" } : Jvm.MethodName) jdk_47_method_1_code (1 : Nat) (Option.none : Option Jvm.ClassFile.FieldType), Jvm.Cond.code ({ cls := "java/util/AbstractCollection", name := "<init>", desc := "()V" } : Jvm.MethodName) jdk_22_method_1_code (1 : Nat) (Option.none : Option Jvm.ClassFile.FieldType), Jvm.Cond.code ({ cls := "java/util/Objects", name := "requireNonNull", desc := "(Ljava/lang/Object;)Ljava/lang/Object;" } : Jvm.MethodName) jdk_31_method_10_code (1 : Nat) (Option.some (Jvm.ClassFile.FieldType.object "java/lang/Object")), Jvm.Cond.code ({ cls := "com/example/libentail/libentail/Role", name := "pair", desc := "(Lcom/example/libentail/libentail/Role;Lcom/example/libentail/libentail/Role;)V" } : Jvm.MethodName) prog_13_method_9_code (2 : Nat) (Option.none : Option Jvm.ClassFile.FieldType), Jvm.Cond.code ({ cls := "com/example/libentail/libentail/Role", name := "inverse", desc := "()Lcom/example/libentail/libentail/Role;" } : Jvm.MethodName) prog_13_method_7_code (1 : Nat) (Option.some (Jvm.ClassFile.FieldType.object "com/example/libentail/libentail/Role")), Jvm.Cond.code ({ cls := "com/example/libentail/libentail/Role", name := "isInverse", desc := "()Z" } : Jvm.MethodName) prog_13_method_8_code (1 : Nat) (Option.some Jvm.ClassFile.FieldType.boolean), Jvm.Cond.code ({ cls := "com/example/libentail/libentail/Role", name := "id", desc := "()I" } : Jvm.MethodName) prog_13_method_5_code (1 : Nat) (Option.some Jvm.ClassFile.FieldType.int), Jvm.Cond.code ({ cls := "com/example/libentail/libentail/Role", name := "getName", desc := "()Ljava/lang/String;" } : Jvm.MethodName) prog_13_method_4_code (1 : Nat) (Option.some (Jvm.ClassFile.FieldType.object "java/lang/String")), Jvm.Cond.code ({ cls := "java/lang/Integer", name := "<init>", desc := "(I)V" } : Jvm.MethodName) jdk_33_method_23_code (2 : Nat) (Option.none : Option Jvm.ClassFile.FieldType), Jvm.Cond.code ({ cls := "java/lang/Number", name := "<init>", desc := "()V" } : Jvm.MethodName) jdk_18_method_1_code (1 : Nat) (Option.none : Option Jvm.ClassFile.FieldType)]
set_option maxRecDepth 65536 in
theorem codes_eq : words1.filter isCode = codes1 := rfl
theorem w_codes : ∀ c ∈ words1.filter isCode, c.before args0 about1 = true := by
  rw [codes_eq]
  intro c hc
  simp only [codes1, List.mem_cons, List.not_mem_nil, or_false] at hc
  rcases hc with rfl | rfl | rfl | rfl | rfl | rfl | rfl | rfl | rfl | rfl | rfl | rfl | rfl | rfl | rfl | rfl | rfl | rfl | rfl | rfl | rfl
  · exact w_c0
  · exact w_c1
  · exact w_c2
  · exact w_c3
  · exact w_c4
  · exact w_c5
  · exact w_c6
  · exact w_c7
  · exact w_c8
  · exact w_c9
  · exact w_c10
  · exact w_c11
  · exact w_c12
  · exact w_c13
  · exact w_c14
  · exact w_c15
  · exact w_c16
  · exact w_c17
  · exact w_c18
  · exact w_c19
  · exact w_c20
set_option maxRecDepth 65536 in
theorem w_t1 : (words1.take 24).all (fun c => isCode c || c.before args0 about1) = true := by decide +kernel
set_option maxRecDepth 65536 in
theorem w_t2 : ((words1.drop 24).take 24).all (fun c => isCode c || c.before args0 about1) = true := by decide +kernel
set_option maxRecDepth 65536 in
theorem w_t3 : (((words1.drop 24).drop 24).take 24).all (fun c => isCode c || c.before args0 about1) = true := by decide +kernel
set_option maxRecDepth 65536 in
theorem w_t4 : ((((words1.drop 24).drop 24).drop 24).take 24).all (fun c => isCode c || c.before args0 about1) = true := by decide +kernel
set_option maxRecDepth 65536 in
theorem w_t5 : (((((words1.drop 24).drop 24).drop 24).drop 24).take 24).all (fun c => isCode c || c.before args0 about1) = true := by decide +kernel
set_option maxRecDepth 65536 in
theorem w_t6 : (((((words1.drop 24).drop 24).drop 24).drop 24).drop 24).all (fun c => isCode c || c.before args0 about1) = true := by decide +kernel
theorem w_tables : (allAtoms (Jvm.Cond.code x code maxLocals ret :: tables_1)).before args0 about1 = true := by
  rw [allAtoms_all]
  show words1.all (fun c => c.before args0 about1) = true
  refine all_split ?_ w_codes
  rw [← List.take_append_drop 24 words1, List.all_append, w_t1, ← List.take_append_drop 24 (words1.drop 24), List.all_append, w_t2, ← List.take_append_drop 24 ((words1.drop 24).drop 24), List.all_append, w_t3, ← List.take_append_drop 24 (((words1.drop 24).drop 24).drop 24), List.all_append, w_t4, ← List.take_append_drop 24 ((((words1.drop 24).drop 24).drop 24).drop 24), List.all_append, w_t5, w_t6]
  rfl
set_option maxRecDepth 65536 in
theorem w_rest : rest_1_c.before args0 about1 = true := by decide +kernel
set_option maxRecDepth 65536 in
theorem w_case : (Jvm.Cond.and given_1 narrow_1).before args0 about1 = true := by decide +kernel
theorem w_applies : (headSpec (Jvm.Cond.code x code maxLocals ret :: tables_1) room_1).applies x e0.platform about1 = true :=
  (Spec.applies_iff w_frames).mpr ⟨w_running, w_runnable, w_alone, w_named, w_hears, w_ripe, w_room, w_tables⟩
theorem atStart : AtStart classFile x code maxLocals ret World_1 tables_1 room_1 Calls_1 rest_1 Pre_1 launch0 p0 e0 about1 theMethod args0 below0 :=
  ⟨lists_1, trivial, launch0.admits_env _ _ _, launch0.least_env, fairChoices_fair.cas, fairChoices_fair.clock, w_frames, w_args, w_heap, w_applies, trivial, w_rest, w_case⟩
end start1
theorem witness_1 : WitnessClaimed_1 := ⟨start1.p0, start1.e0, start1.about1, start1.theMethod, start1.args0, start1.below0, start1.atStart⟩
end Jvm.Pilot.@@N@@
